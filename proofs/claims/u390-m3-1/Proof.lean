import JvmDerived
import JvmDerived.Pilot.@@N@@Statement
import JvmDerived.Pilot.@@N@@Code
set_option linter.unusedVariables false
set_option linter.unusedSimpArgs false
namespace Jvm.Pilot.@@N@@
open Jvm Jvm.ClassFile Sem Op Lib Jvm.Free Jvm.Stand Jvm.LawKit Jvm.RoadKit Bundle Jvm.Pilot.@@N@@.Jvm.D
def own_bi (P : Prop) [Decidable P] : Int32 := if P then 1 else 0
theorem own_bi_t {P : Prop} [Decidable P] (h : P) : own_bi P = 1 := if_pos h
theorem own_bi_f {P : Prop} [Decidable P] (h : ¬ P) : own_bi P = 0 := if_neg h
theorem own_bi_01 (P : Prop) [Decidable P] : own_bi P = 0 ∨ own_bi P = 1 := by by_cases h : P <;> simp [own_bi, h]
theorem own_bi_eq {P Q : Prop} [Decidable P] [Decidable Q] (h : P ↔ Q) : own_bi P = own_bi Q := by by_cases q : P <;> simp [own_bi, q, ← h]
theorem own_bi_iff (P : Prop) [Decidable P] : own_bi P = 1 ↔ P := by by_cases q : P <;> simp [own_bi, q]
theorem own_bi_ne (P : Prop) [Decidable P] : own_bi P = 0 ↔ ¬ P := by by_cases q : P <;> simp [own_bi, q]
theorem own_ofNat {n : Nat} (h : n < 2147483648) : (Int32.ofNat n).toInt = (n : Int) := len_toInt h
theorem own_narZ {z : Int32} (h : z = 0 ∨ z = 1) : narrow .boolean (.int z) = .int z := by rcases h with rfl | rfl <;> rfl
def own_out (E s r : Int64) (a b c : Addr) : Addr := if E = s then a else if s = r then b else c
theorem own_nn {x n : Int32} (h : n = (1 : Int32) + (x &&& (1 : Int32))) : n = 1 ∨ n = 2 := by
  rcases and_one x with q | q
  · left; rw [h, q]; rfl
  · right; rw [h, q]; rfl
theorem pn_1 : plainName "com/example/hasselt/hasselt/sockets/Termination" = true := by first | (simp [plainName, overriddenIn]; done) | decide +kernel
theorem d1_0 : decode prog_123_method_1_code 0 = .ok (.aload_n 0, 1) := by decide +kernel
theorem d1_1 : decode prog_123_method_1_code 1 = .ok (.invokespecial 1, 3) := by decide +kernel
theorem d1_4 : decode prog_123_method_1_code 4 = .ok (.aload_n 0, 1) := by decide +kernel
theorem d1_5 : decode prog_123_method_1_code 5 = .ok (.ldc2_w 7, 3) := by decide +kernel
theorem d1_8 : decode prog_123_method_1_code 8 = .ok (.putfield 9, 3) := by decide +kernel
theorem d1_11 : decode prog_123_method_1_code 11 = .ok (.aload_n 0, 1) := by decide +kernel
theorem d1_12 : decode prog_123_method_1_code 12 = .ok (.iload_n 1, 1) := by decide +kernel
theorem d1_13 : decode prog_123_method_1_code 13 = .ok (.putfield 15, 3) := by decide +kernel
theorem d1_16 : decode prog_123_method_1_code 16 = .ok (.return_, 1) := by decide +kernel
theorem ef_1 (m : MethodId) (a1 : Addr) (p1 : Int32) : entryFrame m #[(.ref a1), (.int p1)] 2 = mkF m 0 #[.val (.ref a1), .val (.int p1)] [] := by first | (simp [entryFrame, mkF, argsToLocals, Value.category]; done) | rfl
def Q1 (Z : State) (a1 : Addr) (p1 : Int32) (h0 : Heap) (n0 : Nat) (v : Option Value) (h : Heap) (L : List Loc) : Prop := v = none ∧ Fr n0 L ∧ Keep h0 h [a1] ∧ Fld Z h a1 "com/example/hasselt/hasselt/sockets/Termination" "earlierReceived" "J" (.long (-1 : Int64)) ∧ Fld Z h a1 "com/example/hasselt/hasselt/sockets/Termination" "nodes" "I" (.int p1) ∧ Fld Z h a1 "com/example/hasselt/hasselt/sockets/Termination" "wave" "I" (.int (0 : Int32)) ∧ Fld Z h a1 "com/example/hasselt/hasselt/sockets/Termination" "reports" "I" (.int (0 : Int32)) ∧ Fld Z h a1 "com/example/hasselt/hasselt/sockets/Termination" "sent" "J" (.long (0 : Int64)) ∧ Fld Z h a1 "com/example/hasselt/hasselt/sockets/Termination" "received" "J" (.long (0 : Int64))
set_option maxRecDepth 65536 in
set_option maxHeartbeats 40000000 in
theorem rm1 (l : Launch) (Z : State) (a0 : Array Value) (hw : ∀ d ∈ tables_1, d.before a0 Z = true) (ws : List Jvm.Cond) (a1 : Addr) (p1 : Int32) (h0 : Heap) (n0 : Nat) (Z0 : n0 ≤ h0.size) (E1 : Exa Z h0 a1 "com/example/hasselt/hasselt/sockets/Termination") (ga1 : n0 ≤ a1) (Fd0 : Fld Z h0 a1 "com/example/hasselt/hasselt/sockets/Termination" "earlierReceived" "J" (.long (0 : Int64))) (Fd1 : Fld Z h0 a1 "com/example/hasselt/hasselt/sockets/Termination" "nodes" "I" (.int (0 : Int32))) (Fd2 : Fld Z h0 a1 "com/example/hasselt/hasselt/sockets/Termination" "wave" "I" (.int (0 : Int32))) (Fd3 : Fld Z h0 a1 "com/example/hasselt/hasselt/sockets/Termination" "reports" "I" (.int (0 : Int32))) (Fd4 : Fld Z h0 a1 "com/example/hasselt/hasselt/sockets/Termination" "sent" "J" (.long (0 : Int64))) (Fd5 : Fld Z h0 a1 "com/example/hasselt/hasselt/sockets/Termination" "received" "J" (.long (0 : Int64))) :
    MetFree l (⟨"com/example/hasselt/hasselt/sockets/Termination", "<init>", "(I)V"⟩ : MethodName) (head1 (Jvm.Cond.code (⟨"com/example/hasselt/hasselt/sockets/Termination", "<init>", "(I)V"⟩ : MethodName) prog_123_method_1_code 2 none :: ws) ({ frames := 1, cells := 0, slots := 0, locals := 12 } : Room)) (fun a U => a = #[(.ref a1), (.int p1)] ∧ Z.Warmed39 U.vm ∧ U.heap = h0) (fun _ _ _ _ _ => True) (fun _ U o U' => ∃ v L, o = .returned v ∧ Q1 Z a1 p1 h0 n0 v U'.heap L ∧ FrameEnd U o U' L ({ frames := 1, cells := 0, slots := 0, locals := 12 } : Room).cells ({ frames := 1, cells := 0, slots := 0, locals := 12 } : Room).slots) := by
  refine MetFree.of_bodySF (plainFor_of_name pn_1) hisR ?_
  intro p e s m args below meth c s₁ Bd hml0 hP hK
  obtain ⟨rfl, hZ, hh⟩ := hP
  have hx := Bd.exec
  have hby := Bd.bytes
  have hml : c.maxLocals = 2 := hml0
  have hown : s.vm.findClass "com/example/hasselt/hasselt/sockets/Termination" = some m.cls := findClass_of_methodNamed Bd.named
  have hnm := (name_of_methodNamed Bd.named Bd.method).1
  have X0 : Stand p l e ({ frames := 1, cells := 0, slots := 0, locals := 12 } : Room) s m #[(.ref a1), (.int p1)] below meth c s₁ [] 0 0 := Stand.of_body Bd
  have e0 : s₁.heap = h0 := by rw [← hh, Bd.state]; rfl
  have N0 := Fr.nil n0
  have pre0 : ∀ t, Steps p.tables e below (s₁.setTop (mkF m 0 #[.val (.ref a1), .val (.int p1)] [])) t → Steps p.tables e below (s₁.setTop (entryFrame m #[(.ref a1), (.int p1)] 2)) t := fun t k => castTop (ef_1 m a1 p1) k
  have pre1 : ∀ t, Steps p.tables e below (s₁.setTop (mkF m 1 #[.val (.ref a1), .val (.int p1)] [(.ref a1)])) t → Steps p.tables e below (s₁.setTop (entryFrame m #[(.ref a1), (.int p1)] 2)) t := by
    intro t k
    refine pre0 t ?_
    refine XS.aloadN X0.here hx rfl (hb hby d1_0) rfl rfl ?_
    show Steps p.tables e below (s₁.setTop (mkF m 1 #[.val (.ref a1), .val (.int p1)] [(.ref a1)])) _
    exact k
  obtain ⟨T2, X2, e2, st2⟩ := initO X0 hx hZ hown (hw _ (List.mem_of_getElem? (i := 6) rfl)) (hw _ (List.mem_of_getElem? (i := 7) rfl)) (hw _ (List.mem_of_getElem? (i := 8) rfl)) e0 (g := (mkF m 1 #[.val (.ref a1), .val (.int p1)] [(.ref a1)])) rfl (by rw [hml]; rfl) rfl (hb hby d1_1) (by decide) (W := 0) (by show 2 * 0 + _ ≤ _; exact Nat.le_of_eq rfl) (by decide)
  have pre3 : ∀ t, Steps p.tables e below (T2.setTop (mkF m 4 #[.val (.ref a1), .val (.int p1)] [])) t → Steps p.tables e below (s₁.setTop (entryFrame m #[(.ref a1), (.int p1)] 2)) t := fun t k => pre1 t (st2 t k)
  have pre5 : ∀ t, Steps p.tables e below (T2.setTop (mkF m 8 #[.val (.ref a1), .val (.int p1)] [(.long (-1 : Int64)), (.ref a1)])) t → Steps p.tables e below (s₁.setTop (entryFrame m #[(.ref a1), (.int p1)] 2)) t := by
    intro t k
    refine pre3 t ?_
    refine XS.aloadN X2.here hx rfl (hb hby d1_4) rfl rfl ?_
    show Steps p.tables e below (T2.setTop (mkF m 5 #[.val (.ref a1), .val (.int p1)] [(.ref a1)])) _
    refine Stand.ldc2J X2 hx hown (mvT hZ (hw _ (List.mem_of_getElem? (i := 9) rfl))) rfl (hb hby d1_5) ?_
    show Steps p.tables e below (T2.setTop (mkF m 8 #[.val (.ref a1), .val (.int p1)] [(.long (-1 : Int64)), (.ref a1)])) _
    exact k
  have K4 : Keep h0 h0 [a1] := (Keep.refl h0 [a1])
  obtain ⟨T6, h6, X6, e6, W6, st6⟩ := putF X2 hx hZ hown (host := "") (Or.inl (hw _ (List.mem_of_getElem? (i := 10) rfl))) Via.refl e2 Fd0 E1 (Or.inl (hw _ (List.mem_of_getElem? (i := 11) rfl))) (hw _ (List.mem_of_getElem? (i := 1) rfl)) (ty := .long) (by decide) rfl rfl (g := (mkF m 8 #[.val (.ref a1), .val (.int p1)] [(.long (-1 : Int64)), (.ref a1)])) rfl rfl (hb hby d1_8)
  have N6 := Fr.snoc X6 N0 ga1
  have pre7 : ∀ t, Steps p.tables e below (T6.setTop (mkF m 11 #[.val (.ref a1), .val (.int p1)] [])) t → Steps p.tables e below (s₁.setTop (entryFrame m #[(.ref a1), (.int p1)] 2)) t := fun t k => pre5 t (st6 t k)
  have F8_0 : Fld Z h6 a1 "com/example/hasselt/hasselt/sockets/Termination" "earlierReceived" "J" (.long (-1 : Int64)) := (Fd0.same W6)
  have F8_1 : Fld Z h6 a1 "com/example/hasselt/hasselt/sockets/Termination" "nodes" "I" (.int (0 : Int32)) := (Fd1.other W6 (Or.inr (slot_ne (Or.inl (hw _ (List.mem_of_getElem? (i := 13) rfl))) (Or.inl (hw _ (List.mem_of_getElem? (i := 11) rfl))) (by decide) (t := .int) (t' := .long) (by decide) (by decide))))
  have F8_2 : Fld Z h6 a1 "com/example/hasselt/hasselt/sockets/Termination" "wave" "I" (.int (0 : Int32)) := (Fd2.other W6 (Or.inr (slot_ne (Or.inl (hw _ (List.mem_of_getElem? (i := 20) rfl))) (Or.inl (hw _ (List.mem_of_getElem? (i := 11) rfl))) (by decide) (t := .int) (t' := .long) (by decide) (by decide))))
  have F8_3 : Fld Z h6 a1 "com/example/hasselt/hasselt/sockets/Termination" "reports" "I" (.int (0 : Int32)) := (Fd3.other W6 (Or.inr (slot_ne (Or.inl (hw _ (List.mem_of_getElem? (i := 22) rfl))) (Or.inl (hw _ (List.mem_of_getElem? (i := 11) rfl))) (by decide) (t := .int) (t' := .long) (by decide) (by decide))))
  have F8_4 : Fld Z h6 a1 "com/example/hasselt/hasselt/sockets/Termination" "sent" "J" (.long (0 : Int64)) := (Fd4.other W6 (Or.inr (slot_ne (Or.inl (hw _ (List.mem_of_getElem? (i := 24) rfl))) (Or.inl (hw _ (List.mem_of_getElem? (i := 11) rfl))) (by decide) (t := .long) (t' := .long) (by decide) (by decide))))
  have F8_5 : Fld Z h6 a1 "com/example/hasselt/hasselt/sockets/Termination" "received" "J" (.long (0 : Int64)) := (Fd5.other W6 (Or.inr (slot_ne (Or.inl (hw _ (List.mem_of_getElem? (i := 26) rfl))) (Or.inl (hw _ (List.mem_of_getElem? (i := 11) rfl))) (by decide) (t := .long) (t' := .long) (by decide) (by decide))))
  have E8_0 : Exa Z h6 a1 "com/example/hasselt/hasselt/sockets/Termination" := (E1.wr W6)
  have K8 : Keep h0 h6 [a1] := (K4.wr W6 (Or.inl (List.mem_of_getElem? (i := 0) rfl)))
  have Z8 : n0 ≤ h6.size := (Nat.le_trans Z0 (Nat.le_of_eq W6.size.symm))
  have pre10 : ∀ t, Steps p.tables e below (T6.setTop (mkF m 13 #[.val (.ref a1), .val (.int p1)] [(.int p1), (.ref a1)])) t → Steps p.tables e below (s₁.setTop (entryFrame m #[(.ref a1), (.int p1)] 2)) t := by
    intro t k
    refine pre7 t ?_
    refine XS.aloadN X6.here hx rfl (hb hby d1_11) rfl rfl ?_
    show Steps p.tables e below (T6.setTop (mkF m 12 #[.val (.ref a1), .val (.int p1)] [(.ref a1)])) _
    refine XS.iloadN X6.here hx rfl (hb hby d1_12) rfl ?_
    show Steps p.tables e below (T6.setTop (mkF m 13 #[.val (.ref a1), .val (.int p1)] [(.int p1), (.ref a1)])) _
    exact k
  obtain ⟨T11, h11, X11, e11, W11, st11⟩ := putF X6 hx hZ hown (host := "") (Or.inl (hw _ (List.mem_of_getElem? (i := 12) rfl))) Via.refl e6 F8_1 E8_0 (Or.inl (hw _ (List.mem_of_getElem? (i := 13) rfl))) (hw _ (List.mem_of_getElem? (i := 1) rfl)) (ty := .int) (by decide) rfl rfl (g := (mkF m 13 #[.val (.ref a1), .val (.int p1)] [(.int p1), (.ref a1)])) rfl rfl (hb hby d1_13)
  have N11 := Fr.snoc X11 N6 ga1
  have pre12 : ∀ t, Steps p.tables e below (T11.setTop (mkF m 16 #[.val (.ref a1), .val (.int p1)] [])) t → Steps p.tables e below (s₁.setTop (entryFrame m #[(.ref a1), (.int p1)] 2)) t := fun t k => pre10 t (st11 t k)
  have F13_0 : Fld Z h11 a1 "com/example/hasselt/hasselt/sockets/Termination" "earlierReceived" "J" (.long (-1 : Int64)) := (F8_0.other W11 (Or.inr (slot_ne (Or.inl (hw _ (List.mem_of_getElem? (i := 11) rfl))) (Or.inl (hw _ (List.mem_of_getElem? (i := 13) rfl))) (by decide) (t := .long) (t' := .int) (by decide) (by decide))))
  have F13_1 : Fld Z h11 a1 "com/example/hasselt/hasselt/sockets/Termination" "nodes" "I" (.int p1) := (F8_1.same W11)
  have F13_2 : Fld Z h11 a1 "com/example/hasselt/hasselt/sockets/Termination" "wave" "I" (.int (0 : Int32)) := (F8_2.other W11 (Or.inr (slot_ne (Or.inl (hw _ (List.mem_of_getElem? (i := 20) rfl))) (Or.inl (hw _ (List.mem_of_getElem? (i := 13) rfl))) (by decide) (t := .int) (t' := .int) (by decide) (by decide))))
  have F13_3 : Fld Z h11 a1 "com/example/hasselt/hasselt/sockets/Termination" "reports" "I" (.int (0 : Int32)) := (F8_3.other W11 (Or.inr (slot_ne (Or.inl (hw _ (List.mem_of_getElem? (i := 22) rfl))) (Or.inl (hw _ (List.mem_of_getElem? (i := 13) rfl))) (by decide) (t := .int) (t' := .int) (by decide) (by decide))))
  have F13_4 : Fld Z h11 a1 "com/example/hasselt/hasselt/sockets/Termination" "sent" "J" (.long (0 : Int64)) := (F8_4.other W11 (Or.inr (slot_ne (Or.inl (hw _ (List.mem_of_getElem? (i := 24) rfl))) (Or.inl (hw _ (List.mem_of_getElem? (i := 13) rfl))) (by decide) (t := .long) (t' := .int) (by decide) (by decide))))
  have F13_5 : Fld Z h11 a1 "com/example/hasselt/hasselt/sockets/Termination" "received" "J" (.long (0 : Int64)) := (F8_5.other W11 (Or.inr (slot_ne (Or.inl (hw _ (List.mem_of_getElem? (i := 26) rfl))) (Or.inl (hw _ (List.mem_of_getElem? (i := 13) rfl))) (by decide) (t := .long) (t' := .int) (by decide) (by decide))))
  have E13_0 : Exa Z h11 a1 "com/example/hasselt/hasselt/sockets/Termination" := (E8_0.wr W11)
  have K13 : Keep h0 h11 [a1] := (K8.wr W11 (Or.inl (List.mem_of_getElem? (i := 0) rfl)))
  have Z13 : n0 ≤ h11.size := (Nat.le_trans Z8 (Nat.le_of_eq W11.size.symm))
  obtain ⟨fs, hr, hrun, hended, hW, hsame⟩ := X11.leave (v := none) (fun _ => rfl)
  refine ⟨_, _, pre12 _ ?_, hrun, hended, _, _, rfl, ?_, ⟨_, rfl⟩, hW, hsame.mono (by decide) (by decide)⟩
  · exact X11.returnOut hx Bd.returns (hb hby d1_16) hr
  · show Q1 Z a1 p1 h0 n0 _ T11.heap _
    rw [e11]
    exact ⟨rfl, N11, K13, F13_0, F13_1, F13_2, F13_3, F13_4, F13_5⟩
theorem pn_3 : plainName "com/example/hasselt/hasselt/sockets/Termination" = true := by first | (simp [plainName, overriddenIn]; done) | decide +kernel
theorem d3_0 : decode prog_123_method_2_code 0 = .ok (.aload_n 0, 1) := by decide +kernel
theorem d3_1 : decode prog_123_method_2_code 1 = .ok (.dup, 1) := by decide +kernel
theorem d3_2 : decode prog_123_method_2_code 2 = .ok (.getfield 19, 3) := by decide +kernel
theorem d3_5 : decode prog_123_method_2_code 5 = .ok (.iconst 1, 1) := by decide +kernel
theorem d3_6 : decode prog_123_method_2_code 6 = .ok (.iadd, 1) := by decide +kernel
theorem d3_7 : decode prog_123_method_2_code 7 = .ok (.putfield 19, 3) := by decide +kernel
theorem d3_10 : decode prog_123_method_2_code 10 = .ok (.aload_n 0, 1) := by decide +kernel
theorem d3_11 : decode prog_123_method_2_code 11 = .ok (.iconst 0, 1) := by decide +kernel
theorem d3_12 : decode prog_123_method_2_code 12 = .ok (.putfield 22, 3) := by decide +kernel
theorem d3_15 : decode prog_123_method_2_code 15 = .ok (.aload_n 0, 1) := by decide +kernel
theorem d3_16 : decode prog_123_method_2_code 16 = .ok (.lconst 0, 1) := by decide +kernel
theorem d3_17 : decode prog_123_method_2_code 17 = .ok (.putfield 25, 3) := by decide +kernel
theorem d3_20 : decode prog_123_method_2_code 20 = .ok (.aload_n 0, 1) := by decide +kernel
theorem d3_21 : decode prog_123_method_2_code 21 = .ok (.lconst 0, 1) := by decide +kernel
theorem d3_22 : decode prog_123_method_2_code 22 = .ok (.putfield 28, 3) := by decide +kernel
theorem d3_25 : decode prog_123_method_2_code 25 = .ok (.aload_n 0, 1) := by decide +kernel
theorem d3_26 : decode prog_123_method_2_code 26 = .ok (.getfield 19, 3) := by decide +kernel
theorem d3_29 : decode prog_123_method_2_code 29 = .ok (.ireturn, 1) := by decide +kernel
theorem ef_3 (m : MethodId) (a1 : Addr) : entryFrame m #[(.ref a1)] 1 = mkF m 0 #[.val (.ref a1)] [] := by first | (simp [entryFrame, mkF, argsToLocals, Value.category]; done) | rfl
def Q3 (Z : State) (a1 : Addr) (q0 : Int64) (q1 : Int32) (q2 : Int32) (q3 : Int32) (q4 : Int64) (q5 : Int64) (h0 : Heap) (n0 : Nat) (v : Option Value) (h : Heap) (L : List Loc) : Prop := v = some (.int (q2 + (1 : Int32))) ∧ Fr n0 L ∧ Keep h0 h [a1] ∧ Fld Z h a1 "com/example/hasselt/hasselt/sockets/Termination" "earlierReceived" "J" (.long q0) ∧ Fld Z h a1 "com/example/hasselt/hasselt/sockets/Termination" "nodes" "I" (.int q1) ∧ Fld Z h a1 "com/example/hasselt/hasselt/sockets/Termination" "wave" "I" (.int (q2 + (1 : Int32))) ∧ Fld Z h a1 "com/example/hasselt/hasselt/sockets/Termination" "reports" "I" (.int (0 : Int32)) ∧ Fld Z h a1 "com/example/hasselt/hasselt/sockets/Termination" "sent" "J" (.long (0 : Int64)) ∧ Fld Z h a1 "com/example/hasselt/hasselt/sockets/Termination" "received" "J" (.long (0 : Int64))
set_option maxRecDepth 65536 in
set_option maxHeartbeats 40000000 in
theorem rm3 (l : Launch) (Z : State) (a0 : Array Value) (hw : ∀ d ∈ tables_1, d.before a0 Z = true) (ws : List Jvm.Cond) (a1 : Addr) (q0 : Int64) (q1 : Int32) (q2 : Int32) (q3 : Int32) (q4 : Int64) (q5 : Int64) (h0 : Heap) (n0 : Nat) (Z0 : n0 ≤ h0.size) (E1 : Exa Z h0 a1 "com/example/hasselt/hasselt/sockets/Termination") (ga1 : n0 ≤ a1) (F0 : Fld Z h0 a1 "com/example/hasselt/hasselt/sockets/Termination" "earlierReceived" "J" (.long q0)) (F1 : Fld Z h0 a1 "com/example/hasselt/hasselt/sockets/Termination" "nodes" "I" (.int q1)) (F2 : Fld Z h0 a1 "com/example/hasselt/hasselt/sockets/Termination" "wave" "I" (.int q2)) (F3 : Fld Z h0 a1 "com/example/hasselt/hasselt/sockets/Termination" "reports" "I" (.int q3)) (F4 : Fld Z h0 a1 "com/example/hasselt/hasselt/sockets/Termination" "sent" "J" (.long q4)) (F5 : Fld Z h0 a1 "com/example/hasselt/hasselt/sockets/Termination" "received" "J" (.long q5)) :
    MetFree l (⟨"com/example/hasselt/hasselt/sockets/Termination", "start", "()I"⟩ : MethodName) (head1 (Jvm.Cond.code (⟨"com/example/hasselt/hasselt/sockets/Termination", "start", "()I"⟩ : MethodName) prog_123_method_2_code 1 (some .int) :: ws) ({ frames := 0, cells := 0, slots := 0, locals := 0 } : Room)) (fun a U => a = #[(.ref a1)] ∧ Z.Warmed39 U.vm ∧ U.heap = h0) (fun _ _ _ _ _ => True) (fun _ U o U' => ∃ v L, o = .returned v ∧ Q3 Z a1 q0 q1 q2 q3 q4 q5 h0 n0 v U'.heap L ∧ FrameEnd U o U' L ({ frames := 0, cells := 0, slots := 0, locals := 0 } : Room).cells ({ frames := 0, cells := 0, slots := 0, locals := 0 } : Room).slots) := by
  refine MetFree.of_bodySF (plainFor_of_name pn_3) hisR ?_
  intro p e s m args below meth c s₁ Bd hml0 hP hK
  obtain ⟨rfl, hZ, hh⟩ := hP
  have hx := Bd.exec
  have hby := Bd.bytes
  have hml : c.maxLocals = 1 := hml0
  have hown : s.vm.findClass "com/example/hasselt/hasselt/sockets/Termination" = some m.cls := findClass_of_methodNamed Bd.named
  have hnm := (name_of_methodNamed Bd.named Bd.method).1
  have X0 : Stand p l e ({ frames := 0, cells := 0, slots := 0, locals := 0 } : Room) s m #[(.ref a1)] below meth c s₁ [] 0 0 := Stand.of_body Bd
  have e0 : s₁.heap = h0 := by rw [← hh, Bd.state]; rfl
  have N0 := Fr.nil n0
  have pre0 : ∀ t, Steps p.tables e below (s₁.setTop (mkF m 0 #[.val (.ref a1)] [])) t → Steps p.tables e below (s₁.setTop (entryFrame m #[(.ref a1)] 1)) t := fun t k => castTop (ef_3 m a1) k
  have pre1 : ∀ t, Steps p.tables e below (s₁.setTop (mkF m 2 #[.val (.ref a1)] [(.ref a1), (.ref a1)])) t → Steps p.tables e below (s₁.setTop (entryFrame m #[(.ref a1)] 1)) t := by
    intro t k
    refine pre0 t ?_
    refine XS.aloadN X0.here hx rfl (hb hby d3_0) rfl rfl ?_
    show Steps p.tables e below (s₁.setTop (mkF m 1 #[.val (.ref a1)] [(.ref a1)])) _
    refine XS.dup X0.here hx rfl (hb hby d3_1) rfl rfl ?_
    show Steps p.tables e below (s₁.setTop (mkF m 2 #[.val (.ref a1)] [(.ref a1), (.ref a1)])) _
    exact k
  obtain ⟨T2, X2, e2, st2⟩ := getF X0 hx hZ hown (host := "") (Or.inl (hw _ (List.mem_of_getElem? (i := 19) rfl))) Via.refl e0 F2 (g := (mkF m 2 #[.val (.ref a1)] [(.ref a1), (.ref a1)])) rfl rfl (hb hby d3_2)
  have pre3 : ∀ t, Steps p.tables e below (T2.setTop (mkF m 5 #[.val (.ref a1)] [(.int q2), (.ref a1)])) t → Steps p.tables e below (s₁.setTop (entryFrame m #[(.ref a1)] 1)) t := fun t k => pre1 t (st2 t k)
  have pre5 : ∀ t, Steps p.tables e below (T2.setTop (mkF m 7 #[.val (.ref a1)] [(.int (q2 + (1 : Int32))), (.ref a1)])) t → Steps p.tables e below (s₁.setTop (entryFrame m #[(.ref a1)] 1)) t := by
    intro t k
    refine pre3 t ?_
    refine XS.iconst X2.here hx rfl (hb hby d3_5) ?_
    show Steps p.tables e below (T2.setTop (mkF m 6 #[.val (.ref a1)] [(.int (1 : Int32)), (.int q2), (.ref a1)])) _
    refine XS.iadd X2.here hx rfl (hb hby d3_6) rfl ?_
    show Steps p.tables e below (T2.setTop (mkF m 7 #[.val (.ref a1)] [(.int (q2 + (1 : Int32))), (.ref a1)])) _
    exact k
  have K4 : Keep h0 h0 [a1] := (Keep.refl h0 [a1])
  obtain ⟨T6, h6, X6, e6, W6, st6⟩ := putF X2 hx hZ hown (host := "") (Or.inl (hw _ (List.mem_of_getElem? (i := 19) rfl))) Via.refl e2 F2 E1 (Or.inl (hw _ (List.mem_of_getElem? (i := 20) rfl))) (hw _ (List.mem_of_getElem? (i := 1) rfl)) (ty := .int) (by decide) rfl rfl (g := (mkF m 7 #[.val (.ref a1)] [(.int (q2 + (1 : Int32))), (.ref a1)])) rfl rfl (hb hby d3_7)
  have N6 := Fr.snoc X6 N0 ga1
  have pre7 : ∀ t, Steps p.tables e below (T6.setTop (mkF m 10 #[.val (.ref a1)] [])) t → Steps p.tables e below (s₁.setTop (entryFrame m #[(.ref a1)] 1)) t := fun t k => pre5 t (st6 t k)
  have F8_0 : Fld Z h6 a1 "com/example/hasselt/hasselt/sockets/Termination" "earlierReceived" "J" (.long q0) := (F0.other W6 (Or.inr (slot_ne (Or.inl (hw _ (List.mem_of_getElem? (i := 11) rfl))) (Or.inl (hw _ (List.mem_of_getElem? (i := 20) rfl))) (by decide) (t := .long) (t' := .int) (by decide) (by decide))))
  have F8_1 : Fld Z h6 a1 "com/example/hasselt/hasselt/sockets/Termination" "nodes" "I" (.int q1) := (F1.other W6 (Or.inr (slot_ne (Or.inl (hw _ (List.mem_of_getElem? (i := 13) rfl))) (Or.inl (hw _ (List.mem_of_getElem? (i := 20) rfl))) (by decide) (t := .int) (t' := .int) (by decide) (by decide))))
  have F8_2 : Fld Z h6 a1 "com/example/hasselt/hasselt/sockets/Termination" "wave" "I" (.int (q2 + (1 : Int32))) := (F2.same W6)
  have F8_3 : Fld Z h6 a1 "com/example/hasselt/hasselt/sockets/Termination" "reports" "I" (.int q3) := (F3.other W6 (Or.inr (slot_ne (Or.inl (hw _ (List.mem_of_getElem? (i := 22) rfl))) (Or.inl (hw _ (List.mem_of_getElem? (i := 20) rfl))) (by decide) (t := .int) (t' := .int) (by decide) (by decide))))
  have F8_4 : Fld Z h6 a1 "com/example/hasselt/hasselt/sockets/Termination" "sent" "J" (.long q4) := (F4.other W6 (Or.inr (slot_ne (Or.inl (hw _ (List.mem_of_getElem? (i := 24) rfl))) (Or.inl (hw _ (List.mem_of_getElem? (i := 20) rfl))) (by decide) (t := .long) (t' := .int) (by decide) (by decide))))
  have F8_5 : Fld Z h6 a1 "com/example/hasselt/hasselt/sockets/Termination" "received" "J" (.long q5) := (F5.other W6 (Or.inr (slot_ne (Or.inl (hw _ (List.mem_of_getElem? (i := 26) rfl))) (Or.inl (hw _ (List.mem_of_getElem? (i := 20) rfl))) (by decide) (t := .long) (t' := .int) (by decide) (by decide))))
  have E8_0 : Exa Z h6 a1 "com/example/hasselt/hasselt/sockets/Termination" := (E1.wr W6)
  have K8 : Keep h0 h6 [a1] := (K4.wr W6 (Or.inl (List.mem_of_getElem? (i := 0) rfl)))
  have Z8 : n0 ≤ h6.size := (Nat.le_trans Z0 (Nat.le_of_eq W6.size.symm))
  have pre10 : ∀ t, Steps p.tables e below (T6.setTop (mkF m 12 #[.val (.ref a1)] [(.int (0 : Int32)), (.ref a1)])) t → Steps p.tables e below (s₁.setTop (entryFrame m #[(.ref a1)] 1)) t := by
    intro t k
    refine pre7 t ?_
    refine XS.aloadN X6.here hx rfl (hb hby d3_10) rfl rfl ?_
    show Steps p.tables e below (T6.setTop (mkF m 11 #[.val (.ref a1)] [(.ref a1)])) _
    refine XS.iconst X6.here hx rfl (hb hby d3_11) ?_
    show Steps p.tables e below (T6.setTop (mkF m 12 #[.val (.ref a1)] [(.int (0 : Int32)), (.ref a1)])) _
    exact k
  obtain ⟨T11, h11, X11, e11, W11, st11⟩ := putF X6 hx hZ hown (host := "") (Or.inl (hw _ (List.mem_of_getElem? (i := 21) rfl))) Via.refl e6 F8_3 E8_0 (Or.inl (hw _ (List.mem_of_getElem? (i := 22) rfl))) (hw _ (List.mem_of_getElem? (i := 1) rfl)) (ty := .int) (by decide) rfl rfl (g := (mkF m 12 #[.val (.ref a1)] [(.int (0 : Int32)), (.ref a1)])) rfl rfl (hb hby d3_12)
  have N11 := Fr.snoc X11 N6 ga1
  have pre12 : ∀ t, Steps p.tables e below (T11.setTop (mkF m 15 #[.val (.ref a1)] [])) t → Steps p.tables e below (s₁.setTop (entryFrame m #[(.ref a1)] 1)) t := fun t k => pre10 t (st11 t k)
  have F13_0 : Fld Z h11 a1 "com/example/hasselt/hasselt/sockets/Termination" "earlierReceived" "J" (.long q0) := (F8_0.other W11 (Or.inr (slot_ne (Or.inl (hw _ (List.mem_of_getElem? (i := 11) rfl))) (Or.inl (hw _ (List.mem_of_getElem? (i := 22) rfl))) (by decide) (t := .long) (t' := .int) (by decide) (by decide))))
  have F13_1 : Fld Z h11 a1 "com/example/hasselt/hasselt/sockets/Termination" "nodes" "I" (.int q1) := (F8_1.other W11 (Or.inr (slot_ne (Or.inl (hw _ (List.mem_of_getElem? (i := 13) rfl))) (Or.inl (hw _ (List.mem_of_getElem? (i := 22) rfl))) (by decide) (t := .int) (t' := .int) (by decide) (by decide))))
  have F13_2 : Fld Z h11 a1 "com/example/hasselt/hasselt/sockets/Termination" "wave" "I" (.int (q2 + (1 : Int32))) := (F8_2.other W11 (Or.inr (slot_ne (Or.inl (hw _ (List.mem_of_getElem? (i := 20) rfl))) (Or.inl (hw _ (List.mem_of_getElem? (i := 22) rfl))) (by decide) (t := .int) (t' := .int) (by decide) (by decide))))
  have F13_3 : Fld Z h11 a1 "com/example/hasselt/hasselt/sockets/Termination" "reports" "I" (.int (0 : Int32)) := (F8_3.same W11)
  have F13_4 : Fld Z h11 a1 "com/example/hasselt/hasselt/sockets/Termination" "sent" "J" (.long q4) := (F8_4.other W11 (Or.inr (slot_ne (Or.inl (hw _ (List.mem_of_getElem? (i := 24) rfl))) (Or.inl (hw _ (List.mem_of_getElem? (i := 22) rfl))) (by decide) (t := .long) (t' := .int) (by decide) (by decide))))
  have F13_5 : Fld Z h11 a1 "com/example/hasselt/hasselt/sockets/Termination" "received" "J" (.long q5) := (F8_5.other W11 (Or.inr (slot_ne (Or.inl (hw _ (List.mem_of_getElem? (i := 26) rfl))) (Or.inl (hw _ (List.mem_of_getElem? (i := 22) rfl))) (by decide) (t := .long) (t' := .int) (by decide) (by decide))))
  have E13_0 : Exa Z h11 a1 "com/example/hasselt/hasselt/sockets/Termination" := (E8_0.wr W11)
  have K13 : Keep h0 h11 [a1] := (K8.wr W11 (Or.inl (List.mem_of_getElem? (i := 0) rfl)))
  have Z13 : n0 ≤ h11.size := (Nat.le_trans Z8 (Nat.le_of_eq W11.size.symm))
  have pre15 : ∀ t, Steps p.tables e below (T11.setTop (mkF m 17 #[.val (.ref a1)] [(.long (0 : Int64)), (.ref a1)])) t → Steps p.tables e below (s₁.setTop (entryFrame m #[(.ref a1)] 1)) t := by
    intro t k
    refine pre12 t ?_
    refine XS.aloadN X11.here hx rfl (hb hby d3_15) rfl rfl ?_
    show Steps p.tables e below (T11.setTop (mkF m 16 #[.val (.ref a1)] [(.ref a1)])) _
    refine XT.lconst X11.here hx rfl (hb hby d3_16) ?_
    show Steps p.tables e below (T11.setTop (mkF m 17 #[.val (.ref a1)] [(.long (0 : Int64)), (.ref a1)])) _
    exact k
  obtain ⟨T16, h16, X16, e16, W16, st16⟩ := putF X11 hx hZ hown (host := "") (Or.inl (hw _ (List.mem_of_getElem? (i := 23) rfl))) Via.refl e11 F13_4 E13_0 (Or.inl (hw _ (List.mem_of_getElem? (i := 24) rfl))) (hw _ (List.mem_of_getElem? (i := 1) rfl)) (ty := .long) (by decide) rfl rfl (g := (mkF m 17 #[.val (.ref a1)] [(.long (0 : Int64)), (.ref a1)])) rfl rfl (hb hby d3_17)
  have N16 := Fr.snoc X16 N11 ga1
  have pre17 : ∀ t, Steps p.tables e below (T16.setTop (mkF m 20 #[.val (.ref a1)] [])) t → Steps p.tables e below (s₁.setTop (entryFrame m #[(.ref a1)] 1)) t := fun t k => pre15 t (st16 t k)
  have F18_0 : Fld Z h16 a1 "com/example/hasselt/hasselt/sockets/Termination" "earlierReceived" "J" (.long q0) := (F13_0.other W16 (Or.inr (slot_ne (Or.inl (hw _ (List.mem_of_getElem? (i := 11) rfl))) (Or.inl (hw _ (List.mem_of_getElem? (i := 24) rfl))) (by decide) (t := .long) (t' := .long) (by decide) (by decide))))
  have F18_1 : Fld Z h16 a1 "com/example/hasselt/hasselt/sockets/Termination" "nodes" "I" (.int q1) := (F13_1.other W16 (Or.inr (slot_ne (Or.inl (hw _ (List.mem_of_getElem? (i := 13) rfl))) (Or.inl (hw _ (List.mem_of_getElem? (i := 24) rfl))) (by decide) (t := .int) (t' := .long) (by decide) (by decide))))
  have F18_2 : Fld Z h16 a1 "com/example/hasselt/hasselt/sockets/Termination" "wave" "I" (.int (q2 + (1 : Int32))) := (F13_2.other W16 (Or.inr (slot_ne (Or.inl (hw _ (List.mem_of_getElem? (i := 20) rfl))) (Or.inl (hw _ (List.mem_of_getElem? (i := 24) rfl))) (by decide) (t := .int) (t' := .long) (by decide) (by decide))))
  have F18_3 : Fld Z h16 a1 "com/example/hasselt/hasselt/sockets/Termination" "reports" "I" (.int (0 : Int32)) := (F13_3.other W16 (Or.inr (slot_ne (Or.inl (hw _ (List.mem_of_getElem? (i := 22) rfl))) (Or.inl (hw _ (List.mem_of_getElem? (i := 24) rfl))) (by decide) (t := .int) (t' := .long) (by decide) (by decide))))
  have F18_4 : Fld Z h16 a1 "com/example/hasselt/hasselt/sockets/Termination" "sent" "J" (.long (0 : Int64)) := (F13_4.same W16)
  have F18_5 : Fld Z h16 a1 "com/example/hasselt/hasselt/sockets/Termination" "received" "J" (.long q5) := (F13_5.other W16 (Or.inr (slot_ne (Or.inl (hw _ (List.mem_of_getElem? (i := 26) rfl))) (Or.inl (hw _ (List.mem_of_getElem? (i := 24) rfl))) (by decide) (t := .long) (t' := .long) (by decide) (by decide))))
  have E18_0 : Exa Z h16 a1 "com/example/hasselt/hasselt/sockets/Termination" := (E13_0.wr W16)
  have K18 : Keep h0 h16 [a1] := (K13.wr W16 (Or.inl (List.mem_of_getElem? (i := 0) rfl)))
  have Z18 : n0 ≤ h16.size := (Nat.le_trans Z13 (Nat.le_of_eq W16.size.symm))
  have pre20 : ∀ t, Steps p.tables e below (T16.setTop (mkF m 22 #[.val (.ref a1)] [(.long (0 : Int64)), (.ref a1)])) t → Steps p.tables e below (s₁.setTop (entryFrame m #[(.ref a1)] 1)) t := by
    intro t k
    refine pre17 t ?_
    refine XS.aloadN X16.here hx rfl (hb hby d3_20) rfl rfl ?_
    show Steps p.tables e below (T16.setTop (mkF m 21 #[.val (.ref a1)] [(.ref a1)])) _
    refine XT.lconst X16.here hx rfl (hb hby d3_21) ?_
    show Steps p.tables e below (T16.setTop (mkF m 22 #[.val (.ref a1)] [(.long (0 : Int64)), (.ref a1)])) _
    exact k
  obtain ⟨T21, h21, X21, e21, W21, st21⟩ := putF X16 hx hZ hown (host := "") (Or.inl (hw _ (List.mem_of_getElem? (i := 25) rfl))) Via.refl e16 F18_5 E18_0 (Or.inl (hw _ (List.mem_of_getElem? (i := 26) rfl))) (hw _ (List.mem_of_getElem? (i := 1) rfl)) (ty := .long) (by decide) rfl rfl (g := (mkF m 22 #[.val (.ref a1)] [(.long (0 : Int64)), (.ref a1)])) rfl rfl (hb hby d3_22)
  have N21 := Fr.snoc X21 N16 ga1
  have pre22 : ∀ t, Steps p.tables e below (T21.setTop (mkF m 25 #[.val (.ref a1)] [])) t → Steps p.tables e below (s₁.setTop (entryFrame m #[(.ref a1)] 1)) t := fun t k => pre20 t (st21 t k)
  have F23_0 : Fld Z h21 a1 "com/example/hasselt/hasselt/sockets/Termination" "earlierReceived" "J" (.long q0) := (F18_0.other W21 (Or.inr (slot_ne (Or.inl (hw _ (List.mem_of_getElem? (i := 11) rfl))) (Or.inl (hw _ (List.mem_of_getElem? (i := 26) rfl))) (by decide) (t := .long) (t' := .long) (by decide) (by decide))))
  have F23_1 : Fld Z h21 a1 "com/example/hasselt/hasselt/sockets/Termination" "nodes" "I" (.int q1) := (F18_1.other W21 (Or.inr (slot_ne (Or.inl (hw _ (List.mem_of_getElem? (i := 13) rfl))) (Or.inl (hw _ (List.mem_of_getElem? (i := 26) rfl))) (by decide) (t := .int) (t' := .long) (by decide) (by decide))))
  have F23_2 : Fld Z h21 a1 "com/example/hasselt/hasselt/sockets/Termination" "wave" "I" (.int (q2 + (1 : Int32))) := (F18_2.other W21 (Or.inr (slot_ne (Or.inl (hw _ (List.mem_of_getElem? (i := 20) rfl))) (Or.inl (hw _ (List.mem_of_getElem? (i := 26) rfl))) (by decide) (t := .int) (t' := .long) (by decide) (by decide))))
  have F23_3 : Fld Z h21 a1 "com/example/hasselt/hasselt/sockets/Termination" "reports" "I" (.int (0 : Int32)) := (F18_3.other W21 (Or.inr (slot_ne (Or.inl (hw _ (List.mem_of_getElem? (i := 22) rfl))) (Or.inl (hw _ (List.mem_of_getElem? (i := 26) rfl))) (by decide) (t := .int) (t' := .long) (by decide) (by decide))))
  have F23_4 : Fld Z h21 a1 "com/example/hasselt/hasselt/sockets/Termination" "sent" "J" (.long (0 : Int64)) := (F18_4.other W21 (Or.inr (slot_ne (Or.inl (hw _ (List.mem_of_getElem? (i := 24) rfl))) (Or.inl (hw _ (List.mem_of_getElem? (i := 26) rfl))) (by decide) (t := .long) (t' := .long) (by decide) (by decide))))
  have F23_5 : Fld Z h21 a1 "com/example/hasselt/hasselt/sockets/Termination" "received" "J" (.long (0 : Int64)) := (F18_5.same W21)
  have E23_0 : Exa Z h21 a1 "com/example/hasselt/hasselt/sockets/Termination" := (E18_0.wr W21)
  have K23 : Keep h0 h21 [a1] := (K18.wr W21 (Or.inl (List.mem_of_getElem? (i := 0) rfl)))
  have Z23 : n0 ≤ h21.size := (Nat.le_trans Z18 (Nat.le_of_eq W21.size.symm))
  have pre24 : ∀ t, Steps p.tables e below (T21.setTop (mkF m 26 #[.val (.ref a1)] [(.ref a1)])) t → Steps p.tables e below (s₁.setTop (entryFrame m #[(.ref a1)] 1)) t := by
    intro t k
    refine pre22 t ?_
    refine XS.aloadN X21.here hx rfl (hb hby d3_25) rfl rfl ?_
    show Steps p.tables e below (T21.setTop (mkF m 26 #[.val (.ref a1)] [(.ref a1)])) _
    exact k
  obtain ⟨T25, X25, e25, st25⟩ := getF X21 hx hZ hown (host := "") (Or.inl (hw _ (List.mem_of_getElem? (i := 19) rfl))) Via.refl e21 F23_2 (g := (mkF m 26 #[.val (.ref a1)] [(.ref a1)])) rfl rfl (hb hby d3_26)
  have pre26 : ∀ t, Steps p.tables e below (T25.setTop (mkF m 29 #[.val (.ref a1)] [(.int (q2 + (1 : Int32)))])) t → Steps p.tables e below (s₁.setTop (entryFrame m #[(.ref a1)] 1)) t := fun t k => pre24 t (st25 t k)
  obtain ⟨fs, hr, hrun, hended, hW, hsame⟩ := X25.leave (v := some (.int (q2 + (1 : Int32)))) (fun h => by rw [Bd.returns] at h; cases h)
  refine ⟨_, _, pre26 _ ?_, hrun, hended, _, _, rfl, ?_, ⟨_, rfl⟩, hW, hsame.mono (by decide) (by decide)⟩
  · exact retOut X25 hx Bd.returns rfl (Or.inl ⟨rfl, by simp, _, rfl⟩) (hb hby d3_29) hr
  · show Q3 Z a1 q0 q1 q2 q3 q4 q5 h0 n0 _ T25.heap _
    rw [e25]
    exact ⟨rfl, N21, K23, F23_0, F23_1, F23_2, F23_3, F23_4, F23_5⟩
theorem pn_4 : plainName "com/example/hasselt/hasselt/sockets/Termination" = true := by first | (simp [plainName, overriddenIn]; done) | decide +kernel
theorem d4_0 : decode prog_123_method_4_code 0 = .ok (.aload_n 0, 1) := by decide +kernel
theorem d4_1 : decode prog_123_method_4_code 1 = .ok (.getfield 19, 3) := by decide +kernel
theorem d4_4 : decode prog_123_method_4_code 4 = .ok (.ireturn, 1) := by decide +kernel
theorem ef_4 (m : MethodId) (a1 : Addr) : entryFrame m #[(.ref a1)] 1 = mkF m 0 #[.val (.ref a1)] [] := by first | (simp [entryFrame, mkF, argsToLocals, Value.category]; done) | rfl
def Q4 (Z : State) (a1 : Addr) (q0 : Int64) (q1 : Int32) (q2 : Int32) (q3 : Int32) (q4 : Int64) (q5 : Int64) (h0 : Heap) (n0 : Nat) (v : Option Value) (h : Heap) (L : List Loc) : Prop := v = some (.int q2) ∧ Fr n0 L ∧ h = h0
set_option maxRecDepth 65536 in
set_option maxHeartbeats 40000000 in
theorem rm4 (l : Launch) (Z : State) (a0 : Array Value) (hw : ∀ d ∈ tables_1, d.before a0 Z = true) (ws : List Jvm.Cond) (a1 : Addr) (q0 : Int64) (q1 : Int32) (q2 : Int32) (q3 : Int32) (q4 : Int64) (q5 : Int64) (h0 : Heap) (n0 : Nat) (Z0 : n0 ≤ h0.size) (F0 : Fld Z h0 a1 "com/example/hasselt/hasselt/sockets/Termination" "earlierReceived" "J" (.long q0)) (F1 : Fld Z h0 a1 "com/example/hasselt/hasselt/sockets/Termination" "nodes" "I" (.int q1)) (F2 : Fld Z h0 a1 "com/example/hasselt/hasselt/sockets/Termination" "wave" "I" (.int q2)) (F3 : Fld Z h0 a1 "com/example/hasselt/hasselt/sockets/Termination" "reports" "I" (.int q3)) (F4 : Fld Z h0 a1 "com/example/hasselt/hasselt/sockets/Termination" "sent" "J" (.long q4)) (F5 : Fld Z h0 a1 "com/example/hasselt/hasselt/sockets/Termination" "received" "J" (.long q5)) :
    MetFree l (⟨"com/example/hasselt/hasselt/sockets/Termination", "wave", "()I"⟩ : MethodName) (head1 (Jvm.Cond.code (⟨"com/example/hasselt/hasselt/sockets/Termination", "wave", "()I"⟩ : MethodName) prog_123_method_4_code 1 (some .int) :: ws) ({ frames := 0, cells := 0, slots := 0, locals := 0 } : Room)) (fun a U => a = #[(.ref a1)] ∧ Z.Warmed39 U.vm ∧ U.heap = h0) (fun _ _ _ _ _ => True) (fun _ U o U' => ∃ v L, o = .returned v ∧ Q4 Z a1 q0 q1 q2 q3 q4 q5 h0 n0 v U'.heap L ∧ FrameEnd U o U' L ({ frames := 0, cells := 0, slots := 0, locals := 0 } : Room).cells ({ frames := 0, cells := 0, slots := 0, locals := 0 } : Room).slots) := by
  refine MetFree.of_bodySF (plainFor_of_name pn_4) hisR ?_
  intro p e s m args below meth c s₁ Bd hml0 hP hK
  obtain ⟨rfl, hZ, hh⟩ := hP
  have hx := Bd.exec
  have hby := Bd.bytes
  have hml : c.maxLocals = 1 := hml0
  have hown : s.vm.findClass "com/example/hasselt/hasselt/sockets/Termination" = some m.cls := findClass_of_methodNamed Bd.named
  have hnm := (name_of_methodNamed Bd.named Bd.method).1
  have X0 : Stand p l e ({ frames := 0, cells := 0, slots := 0, locals := 0 } : Room) s m #[(.ref a1)] below meth c s₁ [] 0 0 := Stand.of_body Bd
  have e0 : s₁.heap = h0 := by rw [← hh, Bd.state]; rfl
  have N0 := Fr.nil n0
  have pre0 : ∀ t, Steps p.tables e below (s₁.setTop (mkF m 0 #[.val (.ref a1)] [])) t → Steps p.tables e below (s₁.setTop (entryFrame m #[(.ref a1)] 1)) t := fun t k => castTop (ef_4 m a1) k
  have pre1 : ∀ t, Steps p.tables e below (s₁.setTop (mkF m 1 #[.val (.ref a1)] [(.ref a1)])) t → Steps p.tables e below (s₁.setTop (entryFrame m #[(.ref a1)] 1)) t := by
    intro t k
    refine pre0 t ?_
    refine XS.aloadN X0.here hx rfl (hb hby d4_0) rfl rfl ?_
    show Steps p.tables e below (s₁.setTop (mkF m 1 #[.val (.ref a1)] [(.ref a1)])) _
    exact k
  obtain ⟨T2, X2, e2, st2⟩ := getF X0 hx hZ hown (host := "") (Or.inl (hw _ (List.mem_of_getElem? (i := 19) rfl))) Via.refl e0 F2 (g := (mkF m 1 #[.val (.ref a1)] [(.ref a1)])) rfl rfl (hb hby d4_1)
  have pre3 : ∀ t, Steps p.tables e below (T2.setTop (mkF m 4 #[.val (.ref a1)] [(.int q2)])) t → Steps p.tables e below (s₁.setTop (entryFrame m #[(.ref a1)] 1)) t := fun t k => pre1 t (st2 t k)
  obtain ⟨fs, hr, hrun, hended, hW, hsame⟩ := X2.leave (v := some (.int q2)) (fun h => by rw [Bd.returns] at h; cases h)
  refine ⟨_, _, pre3 _ ?_, hrun, hended, _, _, rfl, ?_, ⟨_, rfl⟩, hW, hsame.mono (by decide) (by decide)⟩
  · exact retOut X2 hx Bd.returns rfl (Or.inl ⟨rfl, by simp, _, rfl⟩) (hb hby d4_4) hr
  · show Q4 Z a1 q0 q1 q2 q3 q4 q5 h0 n0 _ T2.heap _
    rw [e2]
    exact ⟨rfl, N0, rfl⟩
theorem pn_6 : plainName "com/example/hasselt/hasselt/sockets/TerminationStartPinLaw" = true := by first | (simp [plainName, overriddenIn]; done) | decide +kernel
theorem d6_0 : decode method_2_code 0 = .ok (.lload_n 0, 1) := by decide +kernel
theorem d6_1 : decode method_2_code 1 = .ok (.lload_n 2, 1) := by decide +kernel
theorem d6_2 : decode method_2_code 2 = .ok (.lcmp, 1) := by decide +kernel
theorem d6_3 : decode method_2_code 3 = .ok (.ifCond .ne 7, 3) := by decide +kernel
theorem d6_6 : decode method_2_code 6 = .ok (.getstatic 7, 3) := by decide +kernel
theorem d6_9 : decode method_2_code 9 = .ok (.areturn, 1) := by decide +kernel
theorem d6_10 : decode method_2_code 10 = .ok (.lload_n 2, 1) := by decide +kernel
theorem d6_11 : decode method_2_code 11 = .ok (.lload 4, 2) := by decide +kernel
theorem d6_13 : decode method_2_code 13 = .ok (.lcmp, 1) := by decide +kernel
theorem d6_14 : decode method_2_code 14 = .ok (.ifCond .ne 7, 3) := by decide +kernel
theorem d6_17 : decode method_2_code 17 = .ok (.getstatic 13, 3) := by decide +kernel
theorem d6_20 : decode method_2_code 20 = .ok (.areturn, 1) := by decide +kernel
theorem d6_21 : decode method_2_code 21 = .ok (.getstatic 16, 3) := by decide +kernel
theorem d6_24 : decode method_2_code 24 = .ok (.areturn, 1) := by decide +kernel
theorem ef_6 (m : MethodId) (p1 : Int64) (p2 : Int64) (p3 : Int64) : entryFrame m #[(.long p1), (.long p2), (.long p3)] 6 = mkF m 0 #[.val (.long p1), .second, .val (.long p2), .second, .val (.long p3), .second] [] := by first | (simp [entryFrame, mkF, argsToLocals, Value.category]; done) | rfl
def Q6 (Z : State) (p1 : Int64) (p2 : Int64) (p3 : Int64) (oi : Addr) (ors : Addr) (oq : Addr) (ob : Addr) (h0 : Heap) (n0 : Nat) (v : Option Value) (h : Heap) (L : List Loc) : Prop := v = some (.ref (own_out p1 p2 p3 ors oq ob)) ∧ Fr n0 L ∧ h = h0
set_option maxRecDepth 65536 in
set_option maxHeartbeats 40000000 in
theorem rm6 (l : Launch) (Z : State) (a0 : Array Value) (hw : ∀ d ∈ tables_1, d.before a0 Z = true) (ws : List Jvm.Cond) (p1 : Int64) (p2 : Int64) (p3 : Int64) (oi : Addr) (ors : Addr) (oq : Addr) (ob : Addr) (h0 : Heap) (n0 : Nat) (Z0 : n0 ≤ h0.size) (SINCOMPLETE : Sta Z h0 "com/example/hasselt/hasselt/sockets/Termination$Outcome" "INCOMPLETE" "Lcom/example/hasselt/hasselt/sockets/Termination$Outcome;" (.ref oi)) (SRESTS : Sta Z h0 "com/example/hasselt/hasselt/sockets/Termination$Outcome" "RESTS" "Lcom/example/hasselt/hasselt/sockets/Termination$Outcome;" (.ref ors)) (SQUIET : Sta Z h0 "com/example/hasselt/hasselt/sockets/Termination$Outcome" "QUIET" "Lcom/example/hasselt/hasselt/sockets/Termination$Outcome;" (.ref oq)) (SBUSY : Sta Z h0 "com/example/hasselt/hasselt/sockets/Termination$Outcome" "BUSY" "Lcom/example/hasselt/hasselt/sockets/Termination$Outcome;" (.ref ob)) :
    MetFree l (⟨"com/example/hasselt/hasselt/sockets/TerminationStartPinLaw", "expect", "(JJJ)Lcom/example/hasselt/hasselt/sockets/Termination$Outcome;"⟩ : MethodName) (head1 (Jvm.Cond.code (⟨"com/example/hasselt/hasselt/sockets/TerminationStartPinLaw", "expect", "(JJJ)Lcom/example/hasselt/hasselt/sockets/Termination$Outcome;"⟩ : MethodName) method_2_code 6 (some (.object "com/example/hasselt/hasselt/sockets/Termination$Outcome")) :: ws) ({ frames := 0, cells := 0, slots := 0, locals := 0 } : Room)) (fun a U => a = #[(.long p1), (.long p2), (.long p3)] ∧ Z.Warmed39 U.vm ∧ U.heap = h0) (fun _ _ _ _ _ => True) (fun _ U o U' => ∃ v L, o = .returned v ∧ Q6 Z p1 p2 p3 oi ors oq ob h0 n0 v U'.heap L ∧ FrameEnd U o U' L ({ frames := 0, cells := 0, slots := 0, locals := 0 } : Room).cells ({ frames := 0, cells := 0, slots := 0, locals := 0 } : Room).slots) := by
  refine MetFree.of_bodySF (plainFor_of_name pn_6) hisR ?_
  intro p e s m args below meth c s₁ Bd hml0 hP hK
  obtain ⟨rfl, hZ, hh⟩ := hP
  have hx := Bd.exec
  have hby := Bd.bytes
  have hml : c.maxLocals = 6 := hml0
  have hown : s.vm.findClass "com/example/hasselt/hasselt/sockets/TerminationStartPinLaw" = some m.cls := findClass_of_methodNamed Bd.named
  have hnm := (name_of_methodNamed Bd.named Bd.method).1
  have X0 : Stand p l e ({ frames := 0, cells := 0, slots := 0, locals := 0 } : Room) s m #[(.long p1), (.long p2), (.long p3)] below meth c s₁ [] 0 0 := Stand.of_body Bd
  have e0 : s₁.heap = h0 := by rw [← hh, Bd.state]; rfl
  have N0 := Fr.nil n0
  have pre0 : ∀ t, Steps p.tables e below (s₁.setTop (mkF m 0 #[.val (.long p1), .second, .val (.long p2), .second, .val (.long p3), .second] [])) t → Steps p.tables e below (s₁.setTop (entryFrame m #[(.long p1), (.long p2), (.long p3)] 6)) t := fun t k => castTop (ef_6 m p1 p2 p3) k
  have pre1 : ∀ t, Steps p.tables e below (s₁.setTop (mkF m 3 #[.val (.long p1), .second, .val (.long p2), .second, .val (.long p3), .second] [(.int (XT.cmpL p1 p2))])) t → Steps p.tables e below (s₁.setTop (entryFrame m #[(.long p1), (.long p2), (.long p3)] 6)) t := by
    intro t k
    refine pre0 t ?_
    refine XT.lloadN X0.here hx rfl (hb hby d6_0) rfl ?_
    show Steps p.tables e below (s₁.setTop (mkF m 1 #[.val (.long p1), .second, .val (.long p2), .second, .val (.long p3), .second] [(.long p1)])) _
    refine XT.lloadN X0.here hx rfl (hb hby d6_1) rfl ?_
    show Steps p.tables e below (s₁.setTop (mkF m 2 #[.val (.long p1), .second, .val (.long p2), .second, .val (.long p3), .second] [(.long p2), (.long p1)])) _
    refine XT.lcmp X0.here hx rfl (hb hby d6_2) rfl ?_
    show Steps p.tables e below (s₁.setTop (mkF m 3 #[.val (.long p1), .second, .val (.long p2), .second, .val (.long p3), .second] [(.int (XT.cmpL p1 p2))])) _
    exact k
  by_cases hs1 : p1 = p2
  · skip
    have pre3 : ∀ t, Steps p.tables e below (s₁.setTop (mkF m 6 #[.val (.long p1), .second, .val (.long p2), .second, .val (.long p3), .second] [])) t → Steps p.tables e below (s₁.setTop (entryFrame m #[(.long p1), (.long p2), (.long p3)] 6)) t := by
      intro t k
      refine pre1 t ?_
      refine XS.ifNo X0.here hx rfl (hb hby d6_3) rfl (XT.ll_ne_f hs1) ?_
      show Steps p.tables e below (s₁.setTop (mkF m 6 #[.val (.long p1), .second, .val (.long p2), .second, .val (.long p3), .second] [])) _
      exact k
    obtain ⟨T4, X4, e4, st4⟩ := getS (host := "") X0 hx hZ hown (hw _ (List.mem_of_getElem? (i := 51) rfl)) Via.refl e0 SRESTS (g := (mkF m 6 #[.val (.long p1), .second, .val (.long p2), .second, .val (.long p3), .second] [])) rfl (hb hby d6_6)
    have pre5 : ∀ t, Steps p.tables e below (T4.setTop (mkF m 9 #[.val (.long p1), .second, .val (.long p2), .second, .val (.long p3), .second] [(.ref ors)])) t → Steps p.tables e below (s₁.setTop (entryFrame m #[(.long p1), (.long p2), (.long p3)] 6)) t := fun t k => pre3 t (st4 t k)
    obtain ⟨fs, hr, hrun, hended, hW, hsame⟩ := X4.leave (v := some (.ref ors)) (fun h => by rw [Bd.returns] at h; cases h)
    refine ⟨_, _, pre5 _ ?_, hrun, hended, _, _, rfl, ?_, ⟨_, rfl⟩, hW, hsame.mono (by decide) (by decide)⟩
    · exact retOut X4 hx Bd.returns rfl (Or.inr (Or.inr (Or.inr (Or.inr ⟨rfl, rfl, rfl⟩)))) (hb hby d6_9) hr
    · show Q6 Z p1 p2 p3 oi ors oq ob h0 n0 _ T4.heap _
      rw [e4]
      exact ⟨(by rw [own_out, if_pos hs1]), N0, rfl⟩
  · skip
    have pre7 : ∀ t, Steps p.tables e below (s₁.setTop (mkF m 14 #[.val (.long p1), .second, .val (.long p2), .second, .val (.long p3), .second] [(.int (XT.cmpL p2 p3))])) t → Steps p.tables e below (s₁.setTop (entryFrame m #[(.long p1), (.long p2), (.long p3)] 6)) t := by
      intro t k
      refine pre1 t ?_
      refine XS.ifYes X0.here hx rfl (pc0 := 3) (pc' := 10) rfl (hb hby d6_3) rfl (XT.ll_ne_t hs1) (by decide) (by decide) ?_
      show Steps p.tables e below (s₁.setTop (mkF m 10 #[.val (.long p1), .second, .val (.long p2), .second, .val (.long p3), .second] [])) _
      refine XT.lloadN X0.here hx rfl (hb hby d6_10) rfl ?_
      show Steps p.tables e below (s₁.setTop (mkF m 11 #[.val (.long p1), .second, .val (.long p2), .second, .val (.long p3), .second] [(.long p2)])) _
      refine XT.lload X0.here hx rfl (hb hby d6_11) rfl ?_
      show Steps p.tables e below (s₁.setTop (mkF m 13 #[.val (.long p1), .second, .val (.long p2), .second, .val (.long p3), .second] [(.long p3), (.long p2)])) _
      refine XT.lcmp X0.here hx rfl (hb hby d6_13) rfl ?_
      show Steps p.tables e below (s₁.setTop (mkF m 14 #[.val (.long p1), .second, .val (.long p2), .second, .val (.long p3), .second] [(.int (XT.cmpL p2 p3))])) _
      exact k
    by_cases hs2 : p2 = p3
    · skip
      have pre9 : ∀ t, Steps p.tables e below (s₁.setTop (mkF m 17 #[.val (.long p1), .second, .val (.long p2), .second, .val (.long p3), .second] [])) t → Steps p.tables e below (s₁.setTop (entryFrame m #[(.long p1), (.long p2), (.long p3)] 6)) t := by
        intro t k
        refine pre7 t ?_
        refine XS.ifNo X0.here hx rfl (hb hby d6_14) rfl (XT.ll_ne_f hs2) ?_
        show Steps p.tables e below (s₁.setTop (mkF m 17 #[.val (.long p1), .second, .val (.long p2), .second, .val (.long p3), .second] [])) _
        exact k
      obtain ⟨T10, X10, e10, st10⟩ := getS (host := "") X0 hx hZ hown (hw _ (List.mem_of_getElem? (i := 54) rfl)) Via.refl e0 SQUIET (g := (mkF m 17 #[.val (.long p1), .second, .val (.long p2), .second, .val (.long p3), .second] [])) rfl (hb hby d6_17)
      have pre11 : ∀ t, Steps p.tables e below (T10.setTop (mkF m 20 #[.val (.long p1), .second, .val (.long p2), .second, .val (.long p3), .second] [(.ref oq)])) t → Steps p.tables e below (s₁.setTop (entryFrame m #[(.long p1), (.long p2), (.long p3)] 6)) t := fun t k => pre9 t (st10 t k)
      obtain ⟨fs, hr, hrun, hended, hW, hsame⟩ := X10.leave (v := some (.ref oq)) (fun h => by rw [Bd.returns] at h; cases h)
      refine ⟨_, _, pre11 _ ?_, hrun, hended, _, _, rfl, ?_, ⟨_, rfl⟩, hW, hsame.mono (by decide) (by decide)⟩
      · exact retOut X10 hx Bd.returns rfl (Or.inr (Or.inr (Or.inr (Or.inr ⟨rfl, rfl, rfl⟩)))) (hb hby d6_20) hr
      · show Q6 Z p1 p2 p3 oi ors oq ob h0 n0 _ T10.heap _
        rw [e10]
        exact ⟨(by rw [own_out, if_neg hs1, if_pos hs2]), N0, rfl⟩
    · skip
      have pre14 : ∀ t, Steps p.tables e below (s₁.setTop (mkF m 21 #[.val (.long p1), .second, .val (.long p2), .second, .val (.long p3), .second] [])) t → Steps p.tables e below (s₁.setTop (entryFrame m #[(.long p1), (.long p2), (.long p3)] 6)) t := by
        intro t k
        refine pre7 t ?_
        refine XS.ifYes X0.here hx rfl (pc0 := 14) (pc' := 21) rfl (hb hby d6_14) rfl (XT.ll_ne_t hs2) (by decide) (by decide) ?_
        show Steps p.tables e below (s₁.setTop (mkF m 21 #[.val (.long p1), .second, .val (.long p2), .second, .val (.long p3), .second] [])) _
        exact k
      obtain ⟨T15, X15, e15, st15⟩ := getS (host := "") X0 hx hZ hown (hw _ (List.mem_of_getElem? (i := 45) rfl)) Via.refl e0 SBUSY (g := (mkF m 21 #[.val (.long p1), .second, .val (.long p2), .second, .val (.long p3), .second] [])) rfl (hb hby d6_21)
      have pre16 : ∀ t, Steps p.tables e below (T15.setTop (mkF m 24 #[.val (.long p1), .second, .val (.long p2), .second, .val (.long p3), .second] [(.ref ob)])) t → Steps p.tables e below (s₁.setTop (entryFrame m #[(.long p1), (.long p2), (.long p3)] 6)) t := fun t k => pre14 t (st15 t k)
      obtain ⟨fs, hr, hrun, hended, hW, hsame⟩ := X15.leave (v := some (.ref ob)) (fun h => by rw [Bd.returns] at h; cases h)
      refine ⟨_, _, pre16 _ ?_, hrun, hended, _, _, rfl, ?_, ⟨_, rfl⟩, hW, hsame.mono (by decide) (by decide)⟩
      · exact retOut X15 hx Bd.returns rfl (Or.inr (Or.inr (Or.inr (Or.inr ⟨rfl, rfl, rfl⟩)))) (hb hby d6_24) hr
      · show Q6 Z p1 p2 p3 oi ors oq ob h0 n0 _ T15.heap _
        rw [e15]
        exact ⟨(by rw [own_out, if_neg hs1, if_neg hs2]), N0, rfl⟩
theorem pn_5 : plainName "com/example/hasselt/hasselt/sockets/Termination" = true := by first | (simp [plainName, overriddenIn]; done) | decide +kernel
theorem d5_0 : decode prog_123_method_5_code 0 = .ok (.iload_n 1, 1) := by decide +kernel
theorem d5_1 : decode prog_123_method_5_code 1 = .ok (.aload_n 0, 1) := by decide +kernel
theorem d5_2 : decode prog_123_method_5_code 2 = .ok (.getfield 19, 3) := by decide +kernel
theorem d5_5 : decode prog_123_method_5_code 5 = .ok (.if_icmp .ne 14, 3) := by decide +kernel
theorem d5_8 : decode prog_123_method_5_code 8 = .ok (.aload_n 0, 1) := by decide +kernel
theorem d5_9 : decode prog_123_method_5_code 9 = .ok (.getfield 22, 3) := by decide +kernel
theorem d5_12 : decode prog_123_method_5_code 12 = .ok (.aload_n 0, 1) := by decide +kernel
theorem d5_13 : decode prog_123_method_5_code 13 = .ok (.getfield 15, 3) := by decide +kernel
theorem d5_16 : decode prog_123_method_5_code 16 = .ok (.if_icmp .ne 7, 3) := by decide +kernel
theorem d5_19 : decode prog_123_method_5_code 19 = .ok (.getstatic 31, 3) := by decide +kernel
theorem d5_22 : decode prog_123_method_5_code 22 = .ok (.areturn, 1) := by decide +kernel
theorem d5_23 : decode prog_123_method_5_code 23 = .ok (.aload_n 0, 1) := by decide +kernel
theorem d5_24 : decode prog_123_method_5_code 24 = .ok (.dup, 1) := by decide +kernel
theorem d5_25 : decode prog_123_method_5_code 25 = .ok (.getfield 22, 3) := by decide +kernel
theorem d5_28 : decode prog_123_method_5_code 28 = .ok (.iconst 1, 1) := by decide +kernel
theorem d5_29 : decode prog_123_method_5_code 29 = .ok (.iadd, 1) := by decide +kernel
theorem d5_30 : decode prog_123_method_5_code 30 = .ok (.putfield 22, 3) := by decide +kernel
theorem d5_33 : decode prog_123_method_5_code 33 = .ok (.aload_n 0, 1) := by decide +kernel
theorem d5_34 : decode prog_123_method_5_code 34 = .ok (.dup, 1) := by decide +kernel
theorem d5_35 : decode prog_123_method_5_code 35 = .ok (.getfield 25, 3) := by decide +kernel
theorem d5_38 : decode prog_123_method_5_code 38 = .ok (.lload_n 2, 1) := by decide +kernel
theorem d5_39 : decode prog_123_method_5_code 39 = .ok (.ladd, 1) := by decide +kernel
theorem d5_40 : decode prog_123_method_5_code 40 = .ok (.putfield 25, 3) := by decide +kernel
theorem d5_43 : decode prog_123_method_5_code 43 = .ok (.aload_n 0, 1) := by decide +kernel
theorem d5_44 : decode prog_123_method_5_code 44 = .ok (.dup, 1) := by decide +kernel
theorem d5_45 : decode prog_123_method_5_code 45 = .ok (.getfield 28, 3) := by decide +kernel
theorem d5_48 : decode prog_123_method_5_code 48 = .ok (.lload 4, 2) := by decide +kernel
theorem d5_50 : decode prog_123_method_5_code 50 = .ok (.ladd, 1) := by decide +kernel
theorem d5_51 : decode prog_123_method_5_code 51 = .ok (.putfield 28, 3) := by decide +kernel
theorem d5_54 : decode prog_123_method_5_code 54 = .ok (.aload_n 0, 1) := by decide +kernel
theorem d5_55 : decode prog_123_method_5_code 55 = .ok (.getfield 22, 3) := by decide +kernel
theorem d5_58 : decode prog_123_method_5_code 58 = .ok (.aload_n 0, 1) := by decide +kernel
theorem d5_59 : decode prog_123_method_5_code 59 = .ok (.getfield 15, 3) := by decide +kernel
theorem d5_62 : decode prog_123_method_5_code 62 = .ok (.if_icmp .ge 7, 3) := by decide +kernel
theorem d5_65 : decode prog_123_method_5_code 65 = .ok (.getstatic 31, 3) := by decide +kernel
theorem d5_68 : decode prog_123_method_5_code 68 = .ok (.areturn, 1) := by decide +kernel
theorem d5_69 : decode prog_123_method_5_code 69 = .ok (.aload_n 0, 1) := by decide +kernel
theorem d5_70 : decode prog_123_method_5_code 70 = .ok (.getfield 9, 3) := by decide +kernel
theorem d5_73 : decode prog_123_method_5_code 73 = .ok (.aload_n 0, 1) := by decide +kernel
theorem d5_74 : decode prog_123_method_5_code 74 = .ok (.getfield 25, 3) := by decide +kernel
theorem d5_77 : decode prog_123_method_5_code 77 = .ok (.lcmp, 1) := by decide +kernel
theorem d5_78 : decode prog_123_method_5_code 78 = .ok (.ifCond .ne 11, 3) := by decide +kernel
theorem d5_81 : decode prog_123_method_5_code 81 = .ok (.getstatic 37, 3) := by decide +kernel
theorem d5_84 : decode prog_123_method_5_code 84 = .ok (.astore 6, 2) := by decide +kernel
theorem d5_86 : decode prog_123_method_5_code 86 = .ok (.goto 28, 3) := by decide +kernel
theorem d5_89 : decode prog_123_method_5_code 89 = .ok (.aload_n 0, 1) := by decide +kernel
theorem d5_90 : decode prog_123_method_5_code 90 = .ok (.getfield 25, 3) := by decide +kernel
theorem d5_93 : decode prog_123_method_5_code 93 = .ok (.aload_n 0, 1) := by decide +kernel
theorem d5_94 : decode prog_123_method_5_code 94 = .ok (.getfield 28, 3) := by decide +kernel
theorem d5_97 : decode prog_123_method_5_code 97 = .ok (.lcmp, 1) := by decide +kernel
theorem d5_98 : decode prog_123_method_5_code 98 = .ok (.ifCond .ne 11, 3) := by decide +kernel
theorem d5_101 : decode prog_123_method_5_code 101 = .ok (.getstatic 40, 3) := by decide +kernel
theorem d5_104 : decode prog_123_method_5_code 104 = .ok (.astore 6, 2) := by decide +kernel
theorem d5_106 : decode prog_123_method_5_code 106 = .ok (.goto 8, 3) := by decide +kernel
theorem d5_109 : decode prog_123_method_5_code 109 = .ok (.getstatic 43, 3) := by decide +kernel
theorem d5_112 : decode prog_123_method_5_code 112 = .ok (.astore 6, 2) := by decide +kernel
theorem d5_114 : decode prog_123_method_5_code 114 = .ok (.aload_n 0, 1) := by decide +kernel
theorem d5_115 : decode prog_123_method_5_code 115 = .ok (.aload_n 0, 1) := by decide +kernel
theorem d5_116 : decode prog_123_method_5_code 116 = .ok (.getfield 28, 3) := by decide +kernel
theorem d5_119 : decode prog_123_method_5_code 119 = .ok (.putfield 9, 3) := by decide +kernel
theorem d5_122 : decode prog_123_method_5_code 122 = .ok (.aload 6, 2) := by decide +kernel
theorem d5_124 : decode prog_123_method_5_code 124 = .ok (.areturn, 1) := by decide +kernel
theorem ef_5w (m : MethodId) (a1 : Addr) (p1 : Int32) (p2 : Int64) (p3 : Int64) : entryFrame m #[(.ref a1), (.int p1), (.long p2), (.long p3)] 7 = mkF m 0 #[.val (.ref a1), .val (.int p1), .val (.long p2), .second, .val (.long p3), .second, .unset] [] := by first | (simp [entryFrame, mkF, argsToLocals, Value.category]; done) | rfl
def Q5w (Z : State) (a1 : Addr) (p1 : Int32) (p2 : Int64) (p3 : Int64) (q0 : Int64) (q1 : Int32) (q2 : Int32) (q3 : Int32) (q4 : Int64) (q5 : Int64) (oi : Addr) (ors : Addr) (oq : Addr) (ob : Addr) (h0 : Heap) (n0 : Nat) (v : Option Value) (h : Heap) (L : List Loc) : Prop := v = some (.ref oi) ∧ Fr n0 L ∧ h = h0
set_option maxRecDepth 65536 in
set_option maxHeartbeats 40000000 in
theorem rm5w (l : Launch) (Z : State) (a0 : Array Value) (hw : ∀ d ∈ tables_1, d.before a0 Z = true) (ws : List Jvm.Cond) (a1 : Addr) (p1 : Int32) (p2 : Int64) (p3 : Int64) (q0 : Int64) (q1 : Int32) (q2 : Int32) (q3 : Int32) (q4 : Int64) (q5 : Int64) (oi : Addr) (ors : Addr) (oq : Addr) (ob : Addr) (h0 : Heap) (n0 : Nat) (Z0 : n0 ≤ h0.size) (E1 : Exa Z h0 a1 "com/example/hasselt/hasselt/sockets/Termination") (ga1 : n0 ≤ a1) (F0 : Fld Z h0 a1 "com/example/hasselt/hasselt/sockets/Termination" "earlierReceived" "J" (.long q0)) (F1 : Fld Z h0 a1 "com/example/hasselt/hasselt/sockets/Termination" "nodes" "I" (.int q1)) (F2 : Fld Z h0 a1 "com/example/hasselt/hasselt/sockets/Termination" "wave" "I" (.int q2)) (F3 : Fld Z h0 a1 "com/example/hasselt/hasselt/sockets/Termination" "reports" "I" (.int q3)) (F4 : Fld Z h0 a1 "com/example/hasselt/hasselt/sockets/Termination" "sent" "J" (.long q4)) (F5 : Fld Z h0 a1 "com/example/hasselt/hasselt/sockets/Termination" "received" "J" (.long q5)) (SINCOMPLETE : Sta Z h0 "com/example/hasselt/hasselt/sockets/Termination$Outcome" "INCOMPLETE" "Lcom/example/hasselt/hasselt/sockets/Termination$Outcome;" (.ref oi)) (SRESTS : Sta Z h0 "com/example/hasselt/hasselt/sockets/Termination$Outcome" "RESTS" "Lcom/example/hasselt/hasselt/sockets/Termination$Outcome;" (.ref ors)) (SQUIET : Sta Z h0 "com/example/hasselt/hasselt/sockets/Termination$Outcome" "QUIET" "Lcom/example/hasselt/hasselt/sockets/Termination$Outcome;" (.ref oq)) (SBUSY : Sta Z h0 "com/example/hasselt/hasselt/sockets/Termination$Outcome" "BUSY" "Lcom/example/hasselt/hasselt/sockets/Termination$Outcome;" (.ref ob)) (hw1 : ¬ p1 = q2) :
    MetFree l (⟨"com/example/hasselt/hasselt/sockets/Termination", "report", "(IJJ)Lcom/example/hasselt/hasselt/sockets/Termination$Outcome;"⟩ : MethodName) (head1 (Jvm.Cond.code (⟨"com/example/hasselt/hasselt/sockets/Termination", "report", "(IJJ)Lcom/example/hasselt/hasselt/sockets/Termination$Outcome;"⟩ : MethodName) prog_123_method_5_code 7 (some (.object "com/example/hasselt/hasselt/sockets/Termination$Outcome")) :: ws) ({ frames := 0, cells := 0, slots := 0, locals := 0 } : Room)) (fun a U => a = #[(.ref a1), (.int p1), (.long p2), (.long p3)] ∧ Z.Warmed39 U.vm ∧ U.heap = h0) (fun _ _ _ _ _ => True) (fun _ U o U' => ∃ v L, o = .returned v ∧ Q5w Z a1 p1 p2 p3 q0 q1 q2 q3 q4 q5 oi ors oq ob h0 n0 v U'.heap L ∧ FrameEnd U o U' L ({ frames := 0, cells := 0, slots := 0, locals := 0 } : Room).cells ({ frames := 0, cells := 0, slots := 0, locals := 0 } : Room).slots) := by
  refine MetFree.of_bodySF (plainFor_of_name pn_5) hisR ?_
  intro p e s m args below meth c s₁ Bd hml0 hP hK
  obtain ⟨rfl, hZ, hh⟩ := hP
  have hx := Bd.exec
  have hby := Bd.bytes
  have hml : c.maxLocals = 7 := hml0
  have hown : s.vm.findClass "com/example/hasselt/hasselt/sockets/Termination" = some m.cls := findClass_of_methodNamed Bd.named
  have hnm := (name_of_methodNamed Bd.named Bd.method).1
  have X0 : Stand p l e ({ frames := 0, cells := 0, slots := 0, locals := 0 } : Room) s m #[(.ref a1), (.int p1), (.long p2), (.long p3)] below meth c s₁ [] 0 0 := Stand.of_body Bd
  have e0 : s₁.heap = h0 := by rw [← hh, Bd.state]; rfl
  have N0 := Fr.nil n0
  have pre0 : ∀ t, Steps p.tables e below (s₁.setTop (mkF m 0 #[.val (.ref a1), .val (.int p1), .val (.long p2), .second, .val (.long p3), .second, .unset] [])) t → Steps p.tables e below (s₁.setTop (entryFrame m #[(.ref a1), (.int p1), (.long p2), (.long p3)] 7)) t := fun t k => castTop (ef_5w m a1 p1 p2 p3) k
  have pre1 : ∀ t, Steps p.tables e below (s₁.setTop (mkF m 2 #[.val (.ref a1), .val (.int p1), .val (.long p2), .second, .val (.long p3), .second, .unset] [(.ref a1), (.int p1)])) t → Steps p.tables e below (s₁.setTop (entryFrame m #[(.ref a1), (.int p1), (.long p2), (.long p3)] 7)) t := by
    intro t k
    refine pre0 t ?_
    refine XS.iloadN X0.here hx rfl (hb hby d5_0) rfl ?_
    show Steps p.tables e below (s₁.setTop (mkF m 1 #[.val (.ref a1), .val (.int p1), .val (.long p2), .second, .val (.long p3), .second, .unset] [(.int p1)])) _
    refine XS.aloadN X0.here hx rfl (hb hby d5_1) rfl rfl ?_
    show Steps p.tables e below (s₁.setTop (mkF m 2 #[.val (.ref a1), .val (.int p1), .val (.long p2), .second, .val (.long p3), .second, .unset] [(.ref a1), (.int p1)])) _
    exact k
  obtain ⟨T2, X2, e2, st2⟩ := getF X0 hx hZ hown (host := "") (Or.inl (hw _ (List.mem_of_getElem? (i := 19) rfl))) Via.refl e0 F2 (g := (mkF m 2 #[.val (.ref a1), .val (.int p1), .val (.long p2), .second, .val (.long p3), .second, .unset] [(.ref a1), (.int p1)])) rfl rfl (hb hby d5_2)
  have pre3 : ∀ t, Steps p.tables e below (T2.setTop (mkF m 5 #[.val (.ref a1), .val (.int p1), .val (.long p2), .second, .val (.long p3), .second, .unset] [(.int q2), (.int p1)])) t → Steps p.tables e below (s₁.setTop (entryFrame m #[(.ref a1), (.int p1), (.long p2), (.long p3)] 7)) t := fun t k => pre1 t (st2 t k)
  have pre5 : ∀ t, Steps p.tables e below (T2.setTop (mkF m 19 #[.val (.ref a1), .val (.int p1), .val (.long p2), .second, .val (.long p3), .second, .unset] [])) t → Steps p.tables e below (s₁.setTop (entryFrame m #[(.ref a1), (.int p1), (.long p2), (.long p3)] 7)) t := by
    intro t k
    refine pre3 t ?_
    refine XS.icmpYes X2.here hx rfl (pc0 := 5) (pc' := 19) rfl (hb hby d5_5) rfl (XT.ii_ne_t hw1) (by decide) (by decide) ?_
    show Steps p.tables e below (T2.setTop (mkF m 19 #[.val (.ref a1), .val (.int p1), .val (.long p2), .second, .val (.long p3), .second, .unset] [])) _
    exact k
  have K4 : Keep h0 h0 [a1] := (Keep.refl h0 [a1])
  obtain ⟨T6, X6, e6, st6⟩ := getS (host := "") X2 hx hZ hown (hw _ (List.mem_of_getElem? (i := 46) rfl)) Via.refl e2 SINCOMPLETE (g := (mkF m 19 #[.val (.ref a1), .val (.int p1), .val (.long p2), .second, .val (.long p3), .second, .unset] [])) rfl (hb hby d5_19)
  have pre7 : ∀ t, Steps p.tables e below (T6.setTop (mkF m 22 #[.val (.ref a1), .val (.int p1), .val (.long p2), .second, .val (.long p3), .second, .unset] [(.ref oi)])) t → Steps p.tables e below (s₁.setTop (entryFrame m #[(.ref a1), (.int p1), (.long p2), (.long p3)] 7)) t := fun t k => pre5 t (st6 t k)
  obtain ⟨fs, hr, hrun, hended, hW, hsame⟩ := X6.leave (v := some (.ref oi)) (fun h => by rw [Bd.returns] at h; cases h)
  refine ⟨_, _, pre7 _ ?_, hrun, hended, _, _, rfl, ?_, ⟨_, rfl⟩, hW, hsame.mono (by decide) (by decide)⟩
  · exact retOut X6 hx Bd.returns rfl (Or.inr (Or.inr (Or.inr (Or.inr ⟨rfl, rfl, rfl⟩)))) (hb hby d5_22) hr
  · show Q5w Z a1 p1 p2 p3 q0 q1 q2 q3 q4 q5 oi ors oq ob h0 n0 _ T6.heap _
    rw [e6]
    exact ⟨rfl, N0, rfl⟩
theorem ef_5m (m : MethodId) (a1 : Addr) (p1 : Int32) (p2 : Int64) (p3 : Int64) : entryFrame m #[(.ref a1), (.int p1), (.long p2), (.long p3)] 7 = mkF m 0 #[.val (.ref a1), .val (.int p1), .val (.long p2), .second, .val (.long p3), .second, .unset] [] := by first | (simp [entryFrame, mkF, argsToLocals, Value.category]; done) | rfl
def Q5m (Z : State) (a1 : Addr) (p1 : Int32) (p2 : Int64) (p3 : Int64) (q0 : Int64) (q1 : Int32) (q2 : Int32) (q3 : Int32) (q4 : Int64) (q5 : Int64) (oi : Addr) (ors : Addr) (oq : Addr) (ob : Addr) (h0 : Heap) (n0 : Nat) (v : Option Value) (h : Heap) (L : List Loc) : Prop := v = some (.ref oi) ∧ Fr n0 L ∧ Keep h0 h [a1] ∧ Fld Z h a1 "com/example/hasselt/hasselt/sockets/Termination" "earlierReceived" "J" (.long q0) ∧ Fld Z h a1 "com/example/hasselt/hasselt/sockets/Termination" "nodes" "I" (.int q1) ∧ Fld Z h a1 "com/example/hasselt/hasselt/sockets/Termination" "wave" "I" (.int q2) ∧ Fld Z h a1 "com/example/hasselt/hasselt/sockets/Termination" "reports" "I" (.int (q3 + (1 : Int32))) ∧ Fld Z h a1 "com/example/hasselt/hasselt/sockets/Termination" "sent" "J" (.long (q4 + p2)) ∧ Fld Z h a1 "com/example/hasselt/hasselt/sockets/Termination" "received" "J" (.long (q5 + p3))
set_option maxRecDepth 65536 in
set_option maxHeartbeats 40000000 in
theorem rm5m (l : Launch) (Z : State) (a0 : Array Value) (hw : ∀ d ∈ tables_1, d.before a0 Z = true) (ws : List Jvm.Cond) (a1 : Addr) (p1 : Int32) (p2 : Int64) (p3 : Int64) (q0 : Int64) (q1 : Int32) (q2 : Int32) (q3 : Int32) (q4 : Int64) (q5 : Int64) (oi : Addr) (ors : Addr) (oq : Addr) (ob : Addr) (h0 : Heap) (n0 : Nat) (Z0 : n0 ≤ h0.size) (E1 : Exa Z h0 a1 "com/example/hasselt/hasselt/sockets/Termination") (ga1 : n0 ≤ a1) (F0 : Fld Z h0 a1 "com/example/hasselt/hasselt/sockets/Termination" "earlierReceived" "J" (.long q0)) (F1 : Fld Z h0 a1 "com/example/hasselt/hasselt/sockets/Termination" "nodes" "I" (.int q1)) (F2 : Fld Z h0 a1 "com/example/hasselt/hasselt/sockets/Termination" "wave" "I" (.int q2)) (F3 : Fld Z h0 a1 "com/example/hasselt/hasselt/sockets/Termination" "reports" "I" (.int q3)) (F4 : Fld Z h0 a1 "com/example/hasselt/hasselt/sockets/Termination" "sent" "J" (.long q4)) (F5 : Fld Z h0 a1 "com/example/hasselt/hasselt/sockets/Termination" "received" "J" (.long q5)) (SINCOMPLETE : Sta Z h0 "com/example/hasselt/hasselt/sockets/Termination$Outcome" "INCOMPLETE" "Lcom/example/hasselt/hasselt/sockets/Termination$Outcome;" (.ref oi)) (SRESTS : Sta Z h0 "com/example/hasselt/hasselt/sockets/Termination$Outcome" "RESTS" "Lcom/example/hasselt/hasselt/sockets/Termination$Outcome;" (.ref ors)) (SQUIET : Sta Z h0 "com/example/hasselt/hasselt/sockets/Termination$Outcome" "QUIET" "Lcom/example/hasselt/hasselt/sockets/Termination$Outcome;" (.ref oq)) (SBUSY : Sta Z h0 "com/example/hasselt/hasselt/sockets/Termination$Outcome" "BUSY" "Lcom/example/hasselt/hasselt/sockets/Termination$Outcome;" (.ref ob)) (hw1 : p1 = q2) (hw2 : ¬ q3 = q1) (hw3 : (q3 + (1 : Int32)) < q1) :
    MetFree l (⟨"com/example/hasselt/hasselt/sockets/Termination", "report", "(IJJ)Lcom/example/hasselt/hasselt/sockets/Termination$Outcome;"⟩ : MethodName) (head1 (Jvm.Cond.code (⟨"com/example/hasselt/hasselt/sockets/Termination", "report", "(IJJ)Lcom/example/hasselt/hasselt/sockets/Termination$Outcome;"⟩ : MethodName) prog_123_method_5_code 7 (some (.object "com/example/hasselt/hasselt/sockets/Termination$Outcome")) :: ws) ({ frames := 0, cells := 0, slots := 0, locals := 0 } : Room)) (fun a U => a = #[(.ref a1), (.int p1), (.long p2), (.long p3)] ∧ Z.Warmed39 U.vm ∧ U.heap = h0) (fun _ _ _ _ _ => True) (fun _ U o U' => ∃ v L, o = .returned v ∧ Q5m Z a1 p1 p2 p3 q0 q1 q2 q3 q4 q5 oi ors oq ob h0 n0 v U'.heap L ∧ FrameEnd U o U' L ({ frames := 0, cells := 0, slots := 0, locals := 0 } : Room).cells ({ frames := 0, cells := 0, slots := 0, locals := 0 } : Room).slots) := by
  refine MetFree.of_bodySF (plainFor_of_name pn_5) hisR ?_
  intro p e s m args below meth c s₁ Bd hml0 hP hK
  obtain ⟨rfl, hZ, hh⟩ := hP
  have hx := Bd.exec
  have hby := Bd.bytes
  have hml : c.maxLocals = 7 := hml0
  have hown : s.vm.findClass "com/example/hasselt/hasselt/sockets/Termination" = some m.cls := findClass_of_methodNamed Bd.named
  have hnm := (name_of_methodNamed Bd.named Bd.method).1
  have X0 : Stand p l e ({ frames := 0, cells := 0, slots := 0, locals := 0 } : Room) s m #[(.ref a1), (.int p1), (.long p2), (.long p3)] below meth c s₁ [] 0 0 := Stand.of_body Bd
  have e0 : s₁.heap = h0 := by rw [← hh, Bd.state]; rfl
  have N0 := Fr.nil n0
  have pre0 : ∀ t, Steps p.tables e below (s₁.setTop (mkF m 0 #[.val (.ref a1), .val (.int p1), .val (.long p2), .second, .val (.long p3), .second, .unset] [])) t → Steps p.tables e below (s₁.setTop (entryFrame m #[(.ref a1), (.int p1), (.long p2), (.long p3)] 7)) t := fun t k => castTop (ef_5m m a1 p1 p2 p3) k
  have pre1 : ∀ t, Steps p.tables e below (s₁.setTop (mkF m 2 #[.val (.ref a1), .val (.int p1), .val (.long p2), .second, .val (.long p3), .second, .unset] [(.ref a1), (.int p1)])) t → Steps p.tables e below (s₁.setTop (entryFrame m #[(.ref a1), (.int p1), (.long p2), (.long p3)] 7)) t := by
    intro t k
    refine pre0 t ?_
    refine XS.iloadN X0.here hx rfl (hb hby d5_0) rfl ?_
    show Steps p.tables e below (s₁.setTop (mkF m 1 #[.val (.ref a1), .val (.int p1), .val (.long p2), .second, .val (.long p3), .second, .unset] [(.int p1)])) _
    refine XS.aloadN X0.here hx rfl (hb hby d5_1) rfl rfl ?_
    show Steps p.tables e below (s₁.setTop (mkF m 2 #[.val (.ref a1), .val (.int p1), .val (.long p2), .second, .val (.long p3), .second, .unset] [(.ref a1), (.int p1)])) _
    exact k
  obtain ⟨T2, X2, e2, st2⟩ := getF X0 hx hZ hown (host := "") (Or.inl (hw _ (List.mem_of_getElem? (i := 19) rfl))) Via.refl e0 F2 (g := (mkF m 2 #[.val (.ref a1), .val (.int p1), .val (.long p2), .second, .val (.long p3), .second, .unset] [(.ref a1), (.int p1)])) rfl rfl (hb hby d5_2)
  have pre3 : ∀ t, Steps p.tables e below (T2.setTop (mkF m 5 #[.val (.ref a1), .val (.int p1), .val (.long p2), .second, .val (.long p3), .second, .unset] [(.int q2), (.int p1)])) t → Steps p.tables e below (s₁.setTop (entryFrame m #[(.ref a1), (.int p1), (.long p2), (.long p3)] 7)) t := fun t k => pre1 t (st2 t k)
  have pre4 : ∀ t, Steps p.tables e below (T2.setTop (mkF m 9 #[.val (.ref a1), .val (.int p1), .val (.long p2), .second, .val (.long p3), .second, .unset] [(.ref a1)])) t → Steps p.tables e below (s₁.setTop (entryFrame m #[(.ref a1), (.int p1), (.long p2), (.long p3)] 7)) t := by
    intro t k
    refine pre3 t ?_
    refine XS.icmpNo X2.here hx rfl (hb hby d5_5) rfl (XT.ii_ne_f hw1) ?_
    show Steps p.tables e below (T2.setTop (mkF m 8 #[.val (.ref a1), .val (.int p1), .val (.long p2), .second, .val (.long p3), .second, .unset] [])) _
    refine XS.aloadN X2.here hx rfl (hb hby d5_8) rfl rfl ?_
    show Steps p.tables e below (T2.setTop (mkF m 9 #[.val (.ref a1), .val (.int p1), .val (.long p2), .second, .val (.long p3), .second, .unset] [(.ref a1)])) _
    exact k
  obtain ⟨T5, X5, e5, st5⟩ := getF X2 hx hZ hown (host := "") (Or.inl (hw _ (List.mem_of_getElem? (i := 21) rfl))) Via.refl e2 F3 (g := (mkF m 9 #[.val (.ref a1), .val (.int p1), .val (.long p2), .second, .val (.long p3), .second, .unset] [(.ref a1)])) rfl rfl (hb hby d5_9)
  have pre6 : ∀ t, Steps p.tables e below (T5.setTop (mkF m 12 #[.val (.ref a1), .val (.int p1), .val (.long p2), .second, .val (.long p3), .second, .unset] [(.int q3)])) t → Steps p.tables e below (s₁.setTop (entryFrame m #[(.ref a1), (.int p1), (.long p2), (.long p3)] 7)) t := fun t k => pre4 t (st5 t k)
  have pre7 : ∀ t, Steps p.tables e below (T5.setTop (mkF m 13 #[.val (.ref a1), .val (.int p1), .val (.long p2), .second, .val (.long p3), .second, .unset] [(.ref a1), (.int q3)])) t → Steps p.tables e below (s₁.setTop (entryFrame m #[(.ref a1), (.int p1), (.long p2), (.long p3)] 7)) t := by
    intro t k
    refine pre6 t ?_
    refine XS.aloadN X5.here hx rfl (hb hby d5_12) rfl rfl ?_
    show Steps p.tables e below (T5.setTop (mkF m 13 #[.val (.ref a1), .val (.int p1), .val (.long p2), .second, .val (.long p3), .second, .unset] [(.ref a1), (.int q3)])) _
    exact k
  obtain ⟨T8, X8, e8, st8⟩ := getF X5 hx hZ hown (host := "") (Or.inl (hw _ (List.mem_of_getElem? (i := 12) rfl))) Via.refl e5 F1 (g := (mkF m 13 #[.val (.ref a1), .val (.int p1), .val (.long p2), .second, .val (.long p3), .second, .unset] [(.ref a1), (.int q3)])) rfl rfl (hb hby d5_13)
  have pre9 : ∀ t, Steps p.tables e below (T8.setTop (mkF m 16 #[.val (.ref a1), .val (.int p1), .val (.long p2), .second, .val (.long p3), .second, .unset] [(.int q1), (.int q3)])) t → Steps p.tables e below (s₁.setTop (entryFrame m #[(.ref a1), (.int p1), (.long p2), (.long p3)] 7)) t := fun t k => pre7 t (st8 t k)
  have pre10 : ∀ t, Steps p.tables e below (T8.setTop (mkF m 25 #[.val (.ref a1), .val (.int p1), .val (.long p2), .second, .val (.long p3), .second, .unset] [(.ref a1), (.ref a1)])) t → Steps p.tables e below (s₁.setTop (entryFrame m #[(.ref a1), (.int p1), (.long p2), (.long p3)] 7)) t := by
    intro t k
    refine pre9 t ?_
    refine XS.icmpYes X8.here hx rfl (pc0 := 16) (pc' := 23) rfl (hb hby d5_16) rfl (XT.ii_ne_t hw2) (by decide) (by decide) ?_
    show Steps p.tables e below (T8.setTop (mkF m 23 #[.val (.ref a1), .val (.int p1), .val (.long p2), .second, .val (.long p3), .second, .unset] [])) _
    refine XS.aloadN X8.here hx rfl (hb hby d5_23) rfl rfl ?_
    show Steps p.tables e below (T8.setTop (mkF m 24 #[.val (.ref a1), .val (.int p1), .val (.long p2), .second, .val (.long p3), .second, .unset] [(.ref a1)])) _
    refine XS.dup X8.here hx rfl (hb hby d5_24) rfl rfl ?_
    show Steps p.tables e below (T8.setTop (mkF m 25 #[.val (.ref a1), .val (.int p1), .val (.long p2), .second, .val (.long p3), .second, .unset] [(.ref a1), (.ref a1)])) _
    exact k
  obtain ⟨T11, X11, e11, st11⟩ := getF X8 hx hZ hown (host := "") (Or.inl (hw _ (List.mem_of_getElem? (i := 21) rfl))) Via.refl e8 F3 (g := (mkF m 25 #[.val (.ref a1), .val (.int p1), .val (.long p2), .second, .val (.long p3), .second, .unset] [(.ref a1), (.ref a1)])) rfl rfl (hb hby d5_25)
  have pre12 : ∀ t, Steps p.tables e below (T11.setTop (mkF m 28 #[.val (.ref a1), .val (.int p1), .val (.long p2), .second, .val (.long p3), .second, .unset] [(.int q3), (.ref a1)])) t → Steps p.tables e below (s₁.setTop (entryFrame m #[(.ref a1), (.int p1), (.long p2), (.long p3)] 7)) t := fun t k => pre10 t (st11 t k)
  have pre14 : ∀ t, Steps p.tables e below (T11.setTop (mkF m 30 #[.val (.ref a1), .val (.int p1), .val (.long p2), .second, .val (.long p3), .second, .unset] [(.int (q3 + (1 : Int32))), (.ref a1)])) t → Steps p.tables e below (s₁.setTop (entryFrame m #[(.ref a1), (.int p1), (.long p2), (.long p3)] 7)) t := by
    intro t k
    refine pre12 t ?_
    refine XS.iconst X11.here hx rfl (hb hby d5_28) ?_
    show Steps p.tables e below (T11.setTop (mkF m 29 #[.val (.ref a1), .val (.int p1), .val (.long p2), .second, .val (.long p3), .second, .unset] [(.int (1 : Int32)), (.int q3), (.ref a1)])) _
    refine XS.iadd X11.here hx rfl (hb hby d5_29) rfl ?_
    show Steps p.tables e below (T11.setTop (mkF m 30 #[.val (.ref a1), .val (.int p1), .val (.long p2), .second, .val (.long p3), .second, .unset] [(.int (q3 + (1 : Int32))), (.ref a1)])) _
    exact k
  have K13 : Keep h0 h0 [a1] := (Keep.refl h0 [a1])
  obtain ⟨T15, h15, X15, e15, W15, st15⟩ := putF X11 hx hZ hown (host := "") (Or.inl (hw _ (List.mem_of_getElem? (i := 21) rfl))) Via.refl e11 F3 E1 (Or.inl (hw _ (List.mem_of_getElem? (i := 22) rfl))) (hw _ (List.mem_of_getElem? (i := 1) rfl)) (ty := .int) (by decide) rfl rfl (g := (mkF m 30 #[.val (.ref a1), .val (.int p1), .val (.long p2), .second, .val (.long p3), .second, .unset] [(.int (q3 + (1 : Int32))), (.ref a1)])) rfl rfl (hb hby d5_30)
  have N15 := Fr.snoc X15 N0 ga1
  have pre16 : ∀ t, Steps p.tables e below (T15.setTop (mkF m 33 #[.val (.ref a1), .val (.int p1), .val (.long p2), .second, .val (.long p3), .second, .unset] [])) t → Steps p.tables e below (s₁.setTop (entryFrame m #[(.ref a1), (.int p1), (.long p2), (.long p3)] 7)) t := fun t k => pre14 t (st15 t k)
  have F17_0 : Fld Z h15 a1 "com/example/hasselt/hasselt/sockets/Termination" "earlierReceived" "J" (.long q0) := (F0.other W15 (Or.inr (slot_ne (Or.inl (hw _ (List.mem_of_getElem? (i := 11) rfl))) (Or.inl (hw _ (List.mem_of_getElem? (i := 22) rfl))) (by decide) (t := .long) (t' := .int) (by decide) (by decide))))
  have F17_1 : Fld Z h15 a1 "com/example/hasselt/hasselt/sockets/Termination" "nodes" "I" (.int q1) := (F1.other W15 (Or.inr (slot_ne (Or.inl (hw _ (List.mem_of_getElem? (i := 13) rfl))) (Or.inl (hw _ (List.mem_of_getElem? (i := 22) rfl))) (by decide) (t := .int) (t' := .int) (by decide) (by decide))))
  have F17_2 : Fld Z h15 a1 "com/example/hasselt/hasselt/sockets/Termination" "wave" "I" (.int q2) := (F2.other W15 (Or.inr (slot_ne (Or.inl (hw _ (List.mem_of_getElem? (i := 20) rfl))) (Or.inl (hw _ (List.mem_of_getElem? (i := 22) rfl))) (by decide) (t := .int) (t' := .int) (by decide) (by decide))))
  have F17_3 : Fld Z h15 a1 "com/example/hasselt/hasselt/sockets/Termination" "reports" "I" (.int (q3 + (1 : Int32))) := (F3.same W15)
  have F17_4 : Fld Z h15 a1 "com/example/hasselt/hasselt/sockets/Termination" "sent" "J" (.long q4) := (F4.other W15 (Or.inr (slot_ne (Or.inl (hw _ (List.mem_of_getElem? (i := 24) rfl))) (Or.inl (hw _ (List.mem_of_getElem? (i := 22) rfl))) (by decide) (t := .long) (t' := .int) (by decide) (by decide))))
  have F17_5 : Fld Z h15 a1 "com/example/hasselt/hasselt/sockets/Termination" "received" "J" (.long q5) := (F5.other W15 (Or.inr (slot_ne (Or.inl (hw _ (List.mem_of_getElem? (i := 26) rfl))) (Or.inl (hw _ (List.mem_of_getElem? (i := 22) rfl))) (by decide) (t := .long) (t' := .int) (by decide) (by decide))))
  have E17_0 : Exa Z h15 a1 "com/example/hasselt/hasselt/sockets/Termination" := (E1.wr W15)
  have S17_0 : Sta Z h15 "com/example/hasselt/hasselt/sockets/Termination$Outcome" "INCOMPLETE" "Lcom/example/hasselt/hasselt/sockets/Termination$Outcome;" (.ref oi) := (SINCOMPLETE.wr W15)
  have S17_1 : Sta Z h15 "com/example/hasselt/hasselt/sockets/Termination$Outcome" "RESTS" "Lcom/example/hasselt/hasselt/sockets/Termination$Outcome;" (.ref ors) := (SRESTS.wr W15)
  have S17_2 : Sta Z h15 "com/example/hasselt/hasselt/sockets/Termination$Outcome" "QUIET" "Lcom/example/hasselt/hasselt/sockets/Termination$Outcome;" (.ref oq) := (SQUIET.wr W15)
  have S17_3 : Sta Z h15 "com/example/hasselt/hasselt/sockets/Termination$Outcome" "BUSY" "Lcom/example/hasselt/hasselt/sockets/Termination$Outcome;" (.ref ob) := (SBUSY.wr W15)
  have K17 : Keep h0 h15 [a1] := (K13.wr W15 (Or.inl (List.mem_of_getElem? (i := 0) rfl)))
  have Z17 : n0 ≤ h15.size := (Nat.le_trans Z0 (Nat.le_of_eq W15.size.symm))
  have pre18 : ∀ t, Steps p.tables e below (T15.setTop (mkF m 35 #[.val (.ref a1), .val (.int p1), .val (.long p2), .second, .val (.long p3), .second, .unset] [(.ref a1), (.ref a1)])) t → Steps p.tables e below (s₁.setTop (entryFrame m #[(.ref a1), (.int p1), (.long p2), (.long p3)] 7)) t := by
    intro t k
    refine pre16 t ?_
    refine XS.aloadN X15.here hx rfl (hb hby d5_33) rfl rfl ?_
    show Steps p.tables e below (T15.setTop (mkF m 34 #[.val (.ref a1), .val (.int p1), .val (.long p2), .second, .val (.long p3), .second, .unset] [(.ref a1)])) _
    refine XS.dup X15.here hx rfl (hb hby d5_34) rfl rfl ?_
    show Steps p.tables e below (T15.setTop (mkF m 35 #[.val (.ref a1), .val (.int p1), .val (.long p2), .second, .val (.long p3), .second, .unset] [(.ref a1), (.ref a1)])) _
    exact k
  obtain ⟨T19, X19, e19, st19⟩ := getF X15 hx hZ hown (host := "") (Or.inl (hw _ (List.mem_of_getElem? (i := 23) rfl))) Via.refl e15 F17_4 (g := (mkF m 35 #[.val (.ref a1), .val (.int p1), .val (.long p2), .second, .val (.long p3), .second, .unset] [(.ref a1), (.ref a1)])) rfl rfl (hb hby d5_35)
  have pre20 : ∀ t, Steps p.tables e below (T19.setTop (mkF m 38 #[.val (.ref a1), .val (.int p1), .val (.long p2), .second, .val (.long p3), .second, .unset] [(.long q4), (.ref a1)])) t → Steps p.tables e below (s₁.setTop (entryFrame m #[(.ref a1), (.int p1), (.long p2), (.long p3)] 7)) t := fun t k => pre18 t (st19 t k)
  have pre22 : ∀ t, Steps p.tables e below (T19.setTop (mkF m 40 #[.val (.ref a1), .val (.int p1), .val (.long p2), .second, .val (.long p3), .second, .unset] [(.long (q4 + p2)), (.ref a1)])) t → Steps p.tables e below (s₁.setTop (entryFrame m #[(.ref a1), (.int p1), (.long p2), (.long p3)] 7)) t := by
    intro t k
    refine pre20 t ?_
    refine XT.lloadN X19.here hx rfl (hb hby d5_38) rfl ?_
    show Steps p.tables e below (T19.setTop (mkF m 39 #[.val (.ref a1), .val (.int p1), .val (.long p2), .second, .val (.long p3), .second, .unset] [(.long p2), (.long q4), (.ref a1)])) _
    refine XT.ladd X19.here hx rfl (hb hby d5_39) rfl ?_
    show Steps p.tables e below (T19.setTop (mkF m 40 #[.val (.ref a1), .val (.int p1), .val (.long p2), .second, .val (.long p3), .second, .unset] [(.long (q4 + p2)), (.ref a1)])) _
    exact k
  obtain ⟨T23, h23, X23, e23, W23, st23⟩ := putF X19 hx hZ hown (host := "") (Or.inl (hw _ (List.mem_of_getElem? (i := 23) rfl))) Via.refl e19 F17_4 E17_0 (Or.inl (hw _ (List.mem_of_getElem? (i := 24) rfl))) (hw _ (List.mem_of_getElem? (i := 1) rfl)) (ty := .long) (by decide) rfl rfl (g := (mkF m 40 #[.val (.ref a1), .val (.int p1), .val (.long p2), .second, .val (.long p3), .second, .unset] [(.long (q4 + p2)), (.ref a1)])) rfl rfl (hb hby d5_40)
  have N23 := Fr.snoc X23 N15 ga1
  have pre24 : ∀ t, Steps p.tables e below (T23.setTop (mkF m 43 #[.val (.ref a1), .val (.int p1), .val (.long p2), .second, .val (.long p3), .second, .unset] [])) t → Steps p.tables e below (s₁.setTop (entryFrame m #[(.ref a1), (.int p1), (.long p2), (.long p3)] 7)) t := fun t k => pre22 t (st23 t k)
  have F25_0 : Fld Z h23 a1 "com/example/hasselt/hasselt/sockets/Termination" "earlierReceived" "J" (.long q0) := (F17_0.other W23 (Or.inr (slot_ne (Or.inl (hw _ (List.mem_of_getElem? (i := 11) rfl))) (Or.inl (hw _ (List.mem_of_getElem? (i := 24) rfl))) (by decide) (t := .long) (t' := .long) (by decide) (by decide))))
  have F25_1 : Fld Z h23 a1 "com/example/hasselt/hasselt/sockets/Termination" "nodes" "I" (.int q1) := (F17_1.other W23 (Or.inr (slot_ne (Or.inl (hw _ (List.mem_of_getElem? (i := 13) rfl))) (Or.inl (hw _ (List.mem_of_getElem? (i := 24) rfl))) (by decide) (t := .int) (t' := .long) (by decide) (by decide))))
  have F25_2 : Fld Z h23 a1 "com/example/hasselt/hasselt/sockets/Termination" "wave" "I" (.int q2) := (F17_2.other W23 (Or.inr (slot_ne (Or.inl (hw _ (List.mem_of_getElem? (i := 20) rfl))) (Or.inl (hw _ (List.mem_of_getElem? (i := 24) rfl))) (by decide) (t := .int) (t' := .long) (by decide) (by decide))))
  have F25_3 : Fld Z h23 a1 "com/example/hasselt/hasselt/sockets/Termination" "reports" "I" (.int (q3 + (1 : Int32))) := (F17_3.other W23 (Or.inr (slot_ne (Or.inl (hw _ (List.mem_of_getElem? (i := 22) rfl))) (Or.inl (hw _ (List.mem_of_getElem? (i := 24) rfl))) (by decide) (t := .int) (t' := .long) (by decide) (by decide))))
  have F25_4 : Fld Z h23 a1 "com/example/hasselt/hasselt/sockets/Termination" "sent" "J" (.long (q4 + p2)) := (F17_4.same W23)
  have F25_5 : Fld Z h23 a1 "com/example/hasselt/hasselt/sockets/Termination" "received" "J" (.long q5) := (F17_5.other W23 (Or.inr (slot_ne (Or.inl (hw _ (List.mem_of_getElem? (i := 26) rfl))) (Or.inl (hw _ (List.mem_of_getElem? (i := 24) rfl))) (by decide) (t := .long) (t' := .long) (by decide) (by decide))))
  have E25_0 : Exa Z h23 a1 "com/example/hasselt/hasselt/sockets/Termination" := (E17_0.wr W23)
  have S25_0 : Sta Z h23 "com/example/hasselt/hasselt/sockets/Termination$Outcome" "INCOMPLETE" "Lcom/example/hasselt/hasselt/sockets/Termination$Outcome;" (.ref oi) := (S17_0.wr W23)
  have S25_1 : Sta Z h23 "com/example/hasselt/hasselt/sockets/Termination$Outcome" "RESTS" "Lcom/example/hasselt/hasselt/sockets/Termination$Outcome;" (.ref ors) := (S17_1.wr W23)
  have S25_2 : Sta Z h23 "com/example/hasselt/hasselt/sockets/Termination$Outcome" "QUIET" "Lcom/example/hasselt/hasselt/sockets/Termination$Outcome;" (.ref oq) := (S17_2.wr W23)
  have S25_3 : Sta Z h23 "com/example/hasselt/hasselt/sockets/Termination$Outcome" "BUSY" "Lcom/example/hasselt/hasselt/sockets/Termination$Outcome;" (.ref ob) := (S17_3.wr W23)
  have K25 : Keep h0 h23 [a1] := (K17.wr W23 (Or.inl (List.mem_of_getElem? (i := 0) rfl)))
  have Z25 : n0 ≤ h23.size := (Nat.le_trans Z17 (Nat.le_of_eq W23.size.symm))
  have pre26 : ∀ t, Steps p.tables e below (T23.setTop (mkF m 45 #[.val (.ref a1), .val (.int p1), .val (.long p2), .second, .val (.long p3), .second, .unset] [(.ref a1), (.ref a1)])) t → Steps p.tables e below (s₁.setTop (entryFrame m #[(.ref a1), (.int p1), (.long p2), (.long p3)] 7)) t := by
    intro t k
    refine pre24 t ?_
    refine XS.aloadN X23.here hx rfl (hb hby d5_43) rfl rfl ?_
    show Steps p.tables e below (T23.setTop (mkF m 44 #[.val (.ref a1), .val (.int p1), .val (.long p2), .second, .val (.long p3), .second, .unset] [(.ref a1)])) _
    refine XS.dup X23.here hx rfl (hb hby d5_44) rfl rfl ?_
    show Steps p.tables e below (T23.setTop (mkF m 45 #[.val (.ref a1), .val (.int p1), .val (.long p2), .second, .val (.long p3), .second, .unset] [(.ref a1), (.ref a1)])) _
    exact k
  obtain ⟨T27, X27, e27, st27⟩ := getF X23 hx hZ hown (host := "") (Or.inl (hw _ (List.mem_of_getElem? (i := 25) rfl))) Via.refl e23 F25_5 (g := (mkF m 45 #[.val (.ref a1), .val (.int p1), .val (.long p2), .second, .val (.long p3), .second, .unset] [(.ref a1), (.ref a1)])) rfl rfl (hb hby d5_45)
  have pre28 : ∀ t, Steps p.tables e below (T27.setTop (mkF m 48 #[.val (.ref a1), .val (.int p1), .val (.long p2), .second, .val (.long p3), .second, .unset] [(.long q5), (.ref a1)])) t → Steps p.tables e below (s₁.setTop (entryFrame m #[(.ref a1), (.int p1), (.long p2), (.long p3)] 7)) t := fun t k => pre26 t (st27 t k)
  have pre30 : ∀ t, Steps p.tables e below (T27.setTop (mkF m 51 #[.val (.ref a1), .val (.int p1), .val (.long p2), .second, .val (.long p3), .second, .unset] [(.long (q5 + p3)), (.ref a1)])) t → Steps p.tables e below (s₁.setTop (entryFrame m #[(.ref a1), (.int p1), (.long p2), (.long p3)] 7)) t := by
    intro t k
    refine pre28 t ?_
    refine XT.lload X27.here hx rfl (hb hby d5_48) rfl ?_
    show Steps p.tables e below (T27.setTop (mkF m 50 #[.val (.ref a1), .val (.int p1), .val (.long p2), .second, .val (.long p3), .second, .unset] [(.long p3), (.long q5), (.ref a1)])) _
    refine XT.ladd X27.here hx rfl (hb hby d5_50) rfl ?_
    show Steps p.tables e below (T27.setTop (mkF m 51 #[.val (.ref a1), .val (.int p1), .val (.long p2), .second, .val (.long p3), .second, .unset] [(.long (q5 + p3)), (.ref a1)])) _
    exact k
  obtain ⟨T31, h31, X31, e31, W31, st31⟩ := putF X27 hx hZ hown (host := "") (Or.inl (hw _ (List.mem_of_getElem? (i := 25) rfl))) Via.refl e27 F25_5 E25_0 (Or.inl (hw _ (List.mem_of_getElem? (i := 26) rfl))) (hw _ (List.mem_of_getElem? (i := 1) rfl)) (ty := .long) (by decide) rfl rfl (g := (mkF m 51 #[.val (.ref a1), .val (.int p1), .val (.long p2), .second, .val (.long p3), .second, .unset] [(.long (q5 + p3)), (.ref a1)])) rfl rfl (hb hby d5_51)
  have N31 := Fr.snoc X31 N23 ga1
  have pre32 : ∀ t, Steps p.tables e below (T31.setTop (mkF m 54 #[.val (.ref a1), .val (.int p1), .val (.long p2), .second, .val (.long p3), .second, .unset] [])) t → Steps p.tables e below (s₁.setTop (entryFrame m #[(.ref a1), (.int p1), (.long p2), (.long p3)] 7)) t := fun t k => pre30 t (st31 t k)
  have F33_0 : Fld Z h31 a1 "com/example/hasselt/hasselt/sockets/Termination" "earlierReceived" "J" (.long q0) := (F25_0.other W31 (Or.inr (slot_ne (Or.inl (hw _ (List.mem_of_getElem? (i := 11) rfl))) (Or.inl (hw _ (List.mem_of_getElem? (i := 26) rfl))) (by decide) (t := .long) (t' := .long) (by decide) (by decide))))
  have F33_1 : Fld Z h31 a1 "com/example/hasselt/hasselt/sockets/Termination" "nodes" "I" (.int q1) := (F25_1.other W31 (Or.inr (slot_ne (Or.inl (hw _ (List.mem_of_getElem? (i := 13) rfl))) (Or.inl (hw _ (List.mem_of_getElem? (i := 26) rfl))) (by decide) (t := .int) (t' := .long) (by decide) (by decide))))
  have F33_2 : Fld Z h31 a1 "com/example/hasselt/hasselt/sockets/Termination" "wave" "I" (.int q2) := (F25_2.other W31 (Or.inr (slot_ne (Or.inl (hw _ (List.mem_of_getElem? (i := 20) rfl))) (Or.inl (hw _ (List.mem_of_getElem? (i := 26) rfl))) (by decide) (t := .int) (t' := .long) (by decide) (by decide))))
  have F33_3 : Fld Z h31 a1 "com/example/hasselt/hasselt/sockets/Termination" "reports" "I" (.int (q3 + (1 : Int32))) := (F25_3.other W31 (Or.inr (slot_ne (Or.inl (hw _ (List.mem_of_getElem? (i := 22) rfl))) (Or.inl (hw _ (List.mem_of_getElem? (i := 26) rfl))) (by decide) (t := .int) (t' := .long) (by decide) (by decide))))
  have F33_4 : Fld Z h31 a1 "com/example/hasselt/hasselt/sockets/Termination" "sent" "J" (.long (q4 + p2)) := (F25_4.other W31 (Or.inr (slot_ne (Or.inl (hw _ (List.mem_of_getElem? (i := 24) rfl))) (Or.inl (hw _ (List.mem_of_getElem? (i := 26) rfl))) (by decide) (t := .long) (t' := .long) (by decide) (by decide))))
  have F33_5 : Fld Z h31 a1 "com/example/hasselt/hasselt/sockets/Termination" "received" "J" (.long (q5 + p3)) := (F25_5.same W31)
  have E33_0 : Exa Z h31 a1 "com/example/hasselt/hasselt/sockets/Termination" := (E25_0.wr W31)
  have S33_0 : Sta Z h31 "com/example/hasselt/hasselt/sockets/Termination$Outcome" "INCOMPLETE" "Lcom/example/hasselt/hasselt/sockets/Termination$Outcome;" (.ref oi) := (S25_0.wr W31)
  have S33_1 : Sta Z h31 "com/example/hasselt/hasselt/sockets/Termination$Outcome" "RESTS" "Lcom/example/hasselt/hasselt/sockets/Termination$Outcome;" (.ref ors) := (S25_1.wr W31)
  have S33_2 : Sta Z h31 "com/example/hasselt/hasselt/sockets/Termination$Outcome" "QUIET" "Lcom/example/hasselt/hasselt/sockets/Termination$Outcome;" (.ref oq) := (S25_2.wr W31)
  have S33_3 : Sta Z h31 "com/example/hasselt/hasselt/sockets/Termination$Outcome" "BUSY" "Lcom/example/hasselt/hasselt/sockets/Termination$Outcome;" (.ref ob) := (S25_3.wr W31)
  have K33 : Keep h0 h31 [a1] := (K25.wr W31 (Or.inl (List.mem_of_getElem? (i := 0) rfl)))
  have Z33 : n0 ≤ h31.size := (Nat.le_trans Z25 (Nat.le_of_eq W31.size.symm))
  have pre34 : ∀ t, Steps p.tables e below (T31.setTop (mkF m 55 #[.val (.ref a1), .val (.int p1), .val (.long p2), .second, .val (.long p3), .second, .unset] [(.ref a1)])) t → Steps p.tables e below (s₁.setTop (entryFrame m #[(.ref a1), (.int p1), (.long p2), (.long p3)] 7)) t := by
    intro t k
    refine pre32 t ?_
    refine XS.aloadN X31.here hx rfl (hb hby d5_54) rfl rfl ?_
    show Steps p.tables e below (T31.setTop (mkF m 55 #[.val (.ref a1), .val (.int p1), .val (.long p2), .second, .val (.long p3), .second, .unset] [(.ref a1)])) _
    exact k
  obtain ⟨T35, X35, e35, st35⟩ := getF X31 hx hZ hown (host := "") (Or.inl (hw _ (List.mem_of_getElem? (i := 21) rfl))) Via.refl e31 F33_3 (g := (mkF m 55 #[.val (.ref a1), .val (.int p1), .val (.long p2), .second, .val (.long p3), .second, .unset] [(.ref a1)])) rfl rfl (hb hby d5_55)
  have pre36 : ∀ t, Steps p.tables e below (T35.setTop (mkF m 58 #[.val (.ref a1), .val (.int p1), .val (.long p2), .second, .val (.long p3), .second, .unset] [(.int (q3 + (1 : Int32)))])) t → Steps p.tables e below (s₁.setTop (entryFrame m #[(.ref a1), (.int p1), (.long p2), (.long p3)] 7)) t := fun t k => pre34 t (st35 t k)
  have pre37 : ∀ t, Steps p.tables e below (T35.setTop (mkF m 59 #[.val (.ref a1), .val (.int p1), .val (.long p2), .second, .val (.long p3), .second, .unset] [(.ref a1), (.int (q3 + (1 : Int32)))])) t → Steps p.tables e below (s₁.setTop (entryFrame m #[(.ref a1), (.int p1), (.long p2), (.long p3)] 7)) t := by
    intro t k
    refine pre36 t ?_
    refine XS.aloadN X35.here hx rfl (hb hby d5_58) rfl rfl ?_
    show Steps p.tables e below (T35.setTop (mkF m 59 #[.val (.ref a1), .val (.int p1), .val (.long p2), .second, .val (.long p3), .second, .unset] [(.ref a1), (.int (q3 + (1 : Int32)))])) _
    exact k
  obtain ⟨T38, X38, e38, st38⟩ := getF X35 hx hZ hown (host := "") (Or.inl (hw _ (List.mem_of_getElem? (i := 12) rfl))) Via.refl e35 F33_1 (g := (mkF m 59 #[.val (.ref a1), .val (.int p1), .val (.long p2), .second, .val (.long p3), .second, .unset] [(.ref a1), (.int (q3 + (1 : Int32)))])) rfl rfl (hb hby d5_59)
  have pre39 : ∀ t, Steps p.tables e below (T38.setTop (mkF m 62 #[.val (.ref a1), .val (.int p1), .val (.long p2), .second, .val (.long p3), .second, .unset] [(.int q1), (.int (q3 + (1 : Int32)))])) t → Steps p.tables e below (s₁.setTop (entryFrame m #[(.ref a1), (.int p1), (.long p2), (.long p3)] 7)) t := fun t k => pre37 t (st38 t k)
  have pre41 : ∀ t, Steps p.tables e below (T38.setTop (mkF m 65 #[.val (.ref a1), .val (.int p1), .val (.long p2), .second, .val (.long p3), .second, .unset] [])) t → Steps p.tables e below (s₁.setTop (entryFrame m #[(.ref a1), (.int p1), (.long p2), (.long p3)] 7)) t := by
    intro t k
    refine pre39 t ?_
    refine XS.icmpNo X38.here hx rfl (hb hby d5_62) rfl (XT.ii_ge_f hw3) ?_
    show Steps p.tables e below (T38.setTop (mkF m 65 #[.val (.ref a1), .val (.int p1), .val (.long p2), .second, .val (.long p3), .second, .unset] [])) _
    exact k
  obtain ⟨T42, X42, e42, st42⟩ := getS (host := "") X38 hx hZ hown (hw _ (List.mem_of_getElem? (i := 46) rfl)) Via.refl e38 S33_0 (g := (mkF m 65 #[.val (.ref a1), .val (.int p1), .val (.long p2), .second, .val (.long p3), .second, .unset] [])) rfl (hb hby d5_65)
  have pre43 : ∀ t, Steps p.tables e below (T42.setTop (mkF m 68 #[.val (.ref a1), .val (.int p1), .val (.long p2), .second, .val (.long p3), .second, .unset] [(.ref oi)])) t → Steps p.tables e below (s₁.setTop (entryFrame m #[(.ref a1), (.int p1), (.long p2), (.long p3)] 7)) t := fun t k => pre41 t (st42 t k)
  obtain ⟨fs, hr, hrun, hended, hW, hsame⟩ := X42.leave (v := some (.ref oi)) (fun h => by rw [Bd.returns] at h; cases h)
  refine ⟨_, _, pre43 _ ?_, hrun, hended, _, _, rfl, ?_, ⟨_, rfl⟩, hW, hsame.mono (by decide) (by decide)⟩
  · exact retOut X42 hx Bd.returns rfl (Or.inr (Or.inr (Or.inr (Or.inr ⟨rfl, rfl, rfl⟩)))) (hb hby d5_68) hr
  · show Q5m Z a1 p1 p2 p3 q0 q1 q2 q3 q4 q5 oi ors oq ob h0 n0 _ T42.heap _
    rw [e42]
    exact ⟨rfl, N31, K33, F33_0, F33_1, F33_2, F33_3, F33_4, F33_5⟩
theorem ef_5f (m : MethodId) (a1 : Addr) (p1 : Int32) (p2 : Int64) (p3 : Int64) : entryFrame m #[(.ref a1), (.int p1), (.long p2), (.long p3)] 7 = mkF m 0 #[.val (.ref a1), .val (.int p1), .val (.long p2), .second, .val (.long p3), .second, .unset] [] := by first | (simp [entryFrame, mkF, argsToLocals, Value.category]; done) | rfl
def Q5f (Z : State) (a1 : Addr) (p1 : Int32) (p2 : Int64) (p3 : Int64) (q0 : Int64) (q1 : Int32) (q2 : Int32) (q3 : Int32) (q4 : Int64) (q5 : Int64) (oi : Addr) (ors : Addr) (oq : Addr) (ob : Addr) (h0 : Heap) (n0 : Nat) (v : Option Value) (h : Heap) (L : List Loc) : Prop := v = some (.ref (own_out q0 (q4 + p2) (q5 + p3) ors oq ob)) ∧ Fr n0 L ∧ Keep h0 h [a1] ∧ Fld Z h a1 "com/example/hasselt/hasselt/sockets/Termination" "earlierReceived" "J" (.long (q5 + p3)) ∧ Fld Z h a1 "com/example/hasselt/hasselt/sockets/Termination" "nodes" "I" (.int q1) ∧ Fld Z h a1 "com/example/hasselt/hasselt/sockets/Termination" "wave" "I" (.int q2) ∧ Fld Z h a1 "com/example/hasselt/hasselt/sockets/Termination" "reports" "I" (.int (q3 + (1 : Int32))) ∧ Fld Z h a1 "com/example/hasselt/hasselt/sockets/Termination" "sent" "J" (.long (q4 + p2)) ∧ Fld Z h a1 "com/example/hasselt/hasselt/sockets/Termination" "received" "J" (.long (q5 + p3))
set_option maxRecDepth 65536 in
set_option maxHeartbeats 40000000 in
theorem rm5f (l : Launch) (Z : State) (a0 : Array Value) (hw : ∀ d ∈ tables_1, d.before a0 Z = true) (ws : List Jvm.Cond) (a1 : Addr) (p1 : Int32) (p2 : Int64) (p3 : Int64) (q0 : Int64) (q1 : Int32) (q2 : Int32) (q3 : Int32) (q4 : Int64) (q5 : Int64) (oi : Addr) (ors : Addr) (oq : Addr) (ob : Addr) (h0 : Heap) (n0 : Nat) (Z0 : n0 ≤ h0.size) (E1 : Exa Z h0 a1 "com/example/hasselt/hasselt/sockets/Termination") (ga1 : n0 ≤ a1) (F0 : Fld Z h0 a1 "com/example/hasselt/hasselt/sockets/Termination" "earlierReceived" "J" (.long q0)) (F1 : Fld Z h0 a1 "com/example/hasselt/hasselt/sockets/Termination" "nodes" "I" (.int q1)) (F2 : Fld Z h0 a1 "com/example/hasselt/hasselt/sockets/Termination" "wave" "I" (.int q2)) (F3 : Fld Z h0 a1 "com/example/hasselt/hasselt/sockets/Termination" "reports" "I" (.int q3)) (F4 : Fld Z h0 a1 "com/example/hasselt/hasselt/sockets/Termination" "sent" "J" (.long q4)) (F5 : Fld Z h0 a1 "com/example/hasselt/hasselt/sockets/Termination" "received" "J" (.long q5)) (SINCOMPLETE : Sta Z h0 "com/example/hasselt/hasselt/sockets/Termination$Outcome" "INCOMPLETE" "Lcom/example/hasselt/hasselt/sockets/Termination$Outcome;" (.ref oi)) (SRESTS : Sta Z h0 "com/example/hasselt/hasselt/sockets/Termination$Outcome" "RESTS" "Lcom/example/hasselt/hasselt/sockets/Termination$Outcome;" (.ref ors)) (SQUIET : Sta Z h0 "com/example/hasselt/hasselt/sockets/Termination$Outcome" "QUIET" "Lcom/example/hasselt/hasselt/sockets/Termination$Outcome;" (.ref oq)) (SBUSY : Sta Z h0 "com/example/hasselt/hasselt/sockets/Termination$Outcome" "BUSY" "Lcom/example/hasselt/hasselt/sockets/Termination$Outcome;" (.ref ob)) (hw1 : p1 = q2) (hw2 : ¬ q3 = q1) (hw3 : ¬ (q3 + (1 : Int32)) < q1) :
    MetFree l (⟨"com/example/hasselt/hasselt/sockets/Termination", "report", "(IJJ)Lcom/example/hasselt/hasselt/sockets/Termination$Outcome;"⟩ : MethodName) (head1 (Jvm.Cond.code (⟨"com/example/hasselt/hasselt/sockets/Termination", "report", "(IJJ)Lcom/example/hasselt/hasselt/sockets/Termination$Outcome;"⟩ : MethodName) prog_123_method_5_code 7 (some (.object "com/example/hasselt/hasselt/sockets/Termination$Outcome")) :: ws) ({ frames := 0, cells := 0, slots := 0, locals := 0 } : Room)) (fun a U => a = #[(.ref a1), (.int p1), (.long p2), (.long p3)] ∧ Z.Warmed39 U.vm ∧ U.heap = h0) (fun _ _ _ _ _ => True) (fun _ U o U' => ∃ v L, o = .returned v ∧ Q5f Z a1 p1 p2 p3 q0 q1 q2 q3 q4 q5 oi ors oq ob h0 n0 v U'.heap L ∧ FrameEnd U o U' L ({ frames := 0, cells := 0, slots := 0, locals := 0 } : Room).cells ({ frames := 0, cells := 0, slots := 0, locals := 0 } : Room).slots) := by
  refine MetFree.of_bodySF (plainFor_of_name pn_5) hisR ?_
  intro p e s m args below meth c s₁ Bd hml0 hP hK
  obtain ⟨rfl, hZ, hh⟩ := hP
  have hx := Bd.exec
  have hby := Bd.bytes
  have hml : c.maxLocals = 7 := hml0
  have hown : s.vm.findClass "com/example/hasselt/hasselt/sockets/Termination" = some m.cls := findClass_of_methodNamed Bd.named
  have hnm := (name_of_methodNamed Bd.named Bd.method).1
  have X0 : Stand p l e ({ frames := 0, cells := 0, slots := 0, locals := 0 } : Room) s m #[(.ref a1), (.int p1), (.long p2), (.long p3)] below meth c s₁ [] 0 0 := Stand.of_body Bd
  have e0 : s₁.heap = h0 := by rw [← hh, Bd.state]; rfl
  have N0 := Fr.nil n0
  have pre0 : ∀ t, Steps p.tables e below (s₁.setTop (mkF m 0 #[.val (.ref a1), .val (.int p1), .val (.long p2), .second, .val (.long p3), .second, .unset] [])) t → Steps p.tables e below (s₁.setTop (entryFrame m #[(.ref a1), (.int p1), (.long p2), (.long p3)] 7)) t := fun t k => castTop (ef_5f m a1 p1 p2 p3) k
  have pre1 : ∀ t, Steps p.tables e below (s₁.setTop (mkF m 2 #[.val (.ref a1), .val (.int p1), .val (.long p2), .second, .val (.long p3), .second, .unset] [(.ref a1), (.int p1)])) t → Steps p.tables e below (s₁.setTop (entryFrame m #[(.ref a1), (.int p1), (.long p2), (.long p3)] 7)) t := by
    intro t k
    refine pre0 t ?_
    refine XS.iloadN X0.here hx rfl (hb hby d5_0) rfl ?_
    show Steps p.tables e below (s₁.setTop (mkF m 1 #[.val (.ref a1), .val (.int p1), .val (.long p2), .second, .val (.long p3), .second, .unset] [(.int p1)])) _
    refine XS.aloadN X0.here hx rfl (hb hby d5_1) rfl rfl ?_
    show Steps p.tables e below (s₁.setTop (mkF m 2 #[.val (.ref a1), .val (.int p1), .val (.long p2), .second, .val (.long p3), .second, .unset] [(.ref a1), (.int p1)])) _
    exact k
  obtain ⟨T2, X2, e2, st2⟩ := getF X0 hx hZ hown (host := "") (Or.inl (hw _ (List.mem_of_getElem? (i := 19) rfl))) Via.refl e0 F2 (g := (mkF m 2 #[.val (.ref a1), .val (.int p1), .val (.long p2), .second, .val (.long p3), .second, .unset] [(.ref a1), (.int p1)])) rfl rfl (hb hby d5_2)
  have pre3 : ∀ t, Steps p.tables e below (T2.setTop (mkF m 5 #[.val (.ref a1), .val (.int p1), .val (.long p2), .second, .val (.long p3), .second, .unset] [(.int q2), (.int p1)])) t → Steps p.tables e below (s₁.setTop (entryFrame m #[(.ref a1), (.int p1), (.long p2), (.long p3)] 7)) t := fun t k => pre1 t (st2 t k)
  have pre4 : ∀ t, Steps p.tables e below (T2.setTop (mkF m 9 #[.val (.ref a1), .val (.int p1), .val (.long p2), .second, .val (.long p3), .second, .unset] [(.ref a1)])) t → Steps p.tables e below (s₁.setTop (entryFrame m #[(.ref a1), (.int p1), (.long p2), (.long p3)] 7)) t := by
    intro t k
    refine pre3 t ?_
    refine XS.icmpNo X2.here hx rfl (hb hby d5_5) rfl (XT.ii_ne_f hw1) ?_
    show Steps p.tables e below (T2.setTop (mkF m 8 #[.val (.ref a1), .val (.int p1), .val (.long p2), .second, .val (.long p3), .second, .unset] [])) _
    refine XS.aloadN X2.here hx rfl (hb hby d5_8) rfl rfl ?_
    show Steps p.tables e below (T2.setTop (mkF m 9 #[.val (.ref a1), .val (.int p1), .val (.long p2), .second, .val (.long p3), .second, .unset] [(.ref a1)])) _
    exact k
  obtain ⟨T5, X5, e5, st5⟩ := getF X2 hx hZ hown (host := "") (Or.inl (hw _ (List.mem_of_getElem? (i := 21) rfl))) Via.refl e2 F3 (g := (mkF m 9 #[.val (.ref a1), .val (.int p1), .val (.long p2), .second, .val (.long p3), .second, .unset] [(.ref a1)])) rfl rfl (hb hby d5_9)
  have pre6 : ∀ t, Steps p.tables e below (T5.setTop (mkF m 12 #[.val (.ref a1), .val (.int p1), .val (.long p2), .second, .val (.long p3), .second, .unset] [(.int q3)])) t → Steps p.tables e below (s₁.setTop (entryFrame m #[(.ref a1), (.int p1), (.long p2), (.long p3)] 7)) t := fun t k => pre4 t (st5 t k)
  have pre7 : ∀ t, Steps p.tables e below (T5.setTop (mkF m 13 #[.val (.ref a1), .val (.int p1), .val (.long p2), .second, .val (.long p3), .second, .unset] [(.ref a1), (.int q3)])) t → Steps p.tables e below (s₁.setTop (entryFrame m #[(.ref a1), (.int p1), (.long p2), (.long p3)] 7)) t := by
    intro t k
    refine pre6 t ?_
    refine XS.aloadN X5.here hx rfl (hb hby d5_12) rfl rfl ?_
    show Steps p.tables e below (T5.setTop (mkF m 13 #[.val (.ref a1), .val (.int p1), .val (.long p2), .second, .val (.long p3), .second, .unset] [(.ref a1), (.int q3)])) _
    exact k
  obtain ⟨T8, X8, e8, st8⟩ := getF X5 hx hZ hown (host := "") (Or.inl (hw _ (List.mem_of_getElem? (i := 12) rfl))) Via.refl e5 F1 (g := (mkF m 13 #[.val (.ref a1), .val (.int p1), .val (.long p2), .second, .val (.long p3), .second, .unset] [(.ref a1), (.int q3)])) rfl rfl (hb hby d5_13)
  have pre9 : ∀ t, Steps p.tables e below (T8.setTop (mkF m 16 #[.val (.ref a1), .val (.int p1), .val (.long p2), .second, .val (.long p3), .second, .unset] [(.int q1), (.int q3)])) t → Steps p.tables e below (s₁.setTop (entryFrame m #[(.ref a1), (.int p1), (.long p2), (.long p3)] 7)) t := fun t k => pre7 t (st8 t k)
  have pre10 : ∀ t, Steps p.tables e below (T8.setTop (mkF m 25 #[.val (.ref a1), .val (.int p1), .val (.long p2), .second, .val (.long p3), .second, .unset] [(.ref a1), (.ref a1)])) t → Steps p.tables e below (s₁.setTop (entryFrame m #[(.ref a1), (.int p1), (.long p2), (.long p3)] 7)) t := by
    intro t k
    refine pre9 t ?_
    refine XS.icmpYes X8.here hx rfl (pc0 := 16) (pc' := 23) rfl (hb hby d5_16) rfl (XT.ii_ne_t hw2) (by decide) (by decide) ?_
    show Steps p.tables e below (T8.setTop (mkF m 23 #[.val (.ref a1), .val (.int p1), .val (.long p2), .second, .val (.long p3), .second, .unset] [])) _
    refine XS.aloadN X8.here hx rfl (hb hby d5_23) rfl rfl ?_
    show Steps p.tables e below (T8.setTop (mkF m 24 #[.val (.ref a1), .val (.int p1), .val (.long p2), .second, .val (.long p3), .second, .unset] [(.ref a1)])) _
    refine XS.dup X8.here hx rfl (hb hby d5_24) rfl rfl ?_
    show Steps p.tables e below (T8.setTop (mkF m 25 #[.val (.ref a1), .val (.int p1), .val (.long p2), .second, .val (.long p3), .second, .unset] [(.ref a1), (.ref a1)])) _
    exact k
  obtain ⟨T11, X11, e11, st11⟩ := getF X8 hx hZ hown (host := "") (Or.inl (hw _ (List.mem_of_getElem? (i := 21) rfl))) Via.refl e8 F3 (g := (mkF m 25 #[.val (.ref a1), .val (.int p1), .val (.long p2), .second, .val (.long p3), .second, .unset] [(.ref a1), (.ref a1)])) rfl rfl (hb hby d5_25)
  have pre12 : ∀ t, Steps p.tables e below (T11.setTop (mkF m 28 #[.val (.ref a1), .val (.int p1), .val (.long p2), .second, .val (.long p3), .second, .unset] [(.int q3), (.ref a1)])) t → Steps p.tables e below (s₁.setTop (entryFrame m #[(.ref a1), (.int p1), (.long p2), (.long p3)] 7)) t := fun t k => pre10 t (st11 t k)
  have pre14 : ∀ t, Steps p.tables e below (T11.setTop (mkF m 30 #[.val (.ref a1), .val (.int p1), .val (.long p2), .second, .val (.long p3), .second, .unset] [(.int (q3 + (1 : Int32))), (.ref a1)])) t → Steps p.tables e below (s₁.setTop (entryFrame m #[(.ref a1), (.int p1), (.long p2), (.long p3)] 7)) t := by
    intro t k
    refine pre12 t ?_
    refine XS.iconst X11.here hx rfl (hb hby d5_28) ?_
    show Steps p.tables e below (T11.setTop (mkF m 29 #[.val (.ref a1), .val (.int p1), .val (.long p2), .second, .val (.long p3), .second, .unset] [(.int (1 : Int32)), (.int q3), (.ref a1)])) _
    refine XS.iadd X11.here hx rfl (hb hby d5_29) rfl ?_
    show Steps p.tables e below (T11.setTop (mkF m 30 #[.val (.ref a1), .val (.int p1), .val (.long p2), .second, .val (.long p3), .second, .unset] [(.int (q3 + (1 : Int32))), (.ref a1)])) _
    exact k
  have K13 : Keep h0 h0 [a1] := (Keep.refl h0 [a1])
  obtain ⟨T15, h15, X15, e15, W15, st15⟩ := putF X11 hx hZ hown (host := "") (Or.inl (hw _ (List.mem_of_getElem? (i := 21) rfl))) Via.refl e11 F3 E1 (Or.inl (hw _ (List.mem_of_getElem? (i := 22) rfl))) (hw _ (List.mem_of_getElem? (i := 1) rfl)) (ty := .int) (by decide) rfl rfl (g := (mkF m 30 #[.val (.ref a1), .val (.int p1), .val (.long p2), .second, .val (.long p3), .second, .unset] [(.int (q3 + (1 : Int32))), (.ref a1)])) rfl rfl (hb hby d5_30)
  have N15 := Fr.snoc X15 N0 ga1
  have pre16 : ∀ t, Steps p.tables e below (T15.setTop (mkF m 33 #[.val (.ref a1), .val (.int p1), .val (.long p2), .second, .val (.long p3), .second, .unset] [])) t → Steps p.tables e below (s₁.setTop (entryFrame m #[(.ref a1), (.int p1), (.long p2), (.long p3)] 7)) t := fun t k => pre14 t (st15 t k)
  have F17_0 : Fld Z h15 a1 "com/example/hasselt/hasselt/sockets/Termination" "earlierReceived" "J" (.long q0) := (F0.other W15 (Or.inr (slot_ne (Or.inl (hw _ (List.mem_of_getElem? (i := 11) rfl))) (Or.inl (hw _ (List.mem_of_getElem? (i := 22) rfl))) (by decide) (t := .long) (t' := .int) (by decide) (by decide))))
  have F17_1 : Fld Z h15 a1 "com/example/hasselt/hasselt/sockets/Termination" "nodes" "I" (.int q1) := (F1.other W15 (Or.inr (slot_ne (Or.inl (hw _ (List.mem_of_getElem? (i := 13) rfl))) (Or.inl (hw _ (List.mem_of_getElem? (i := 22) rfl))) (by decide) (t := .int) (t' := .int) (by decide) (by decide))))
  have F17_2 : Fld Z h15 a1 "com/example/hasselt/hasselt/sockets/Termination" "wave" "I" (.int q2) := (F2.other W15 (Or.inr (slot_ne (Or.inl (hw _ (List.mem_of_getElem? (i := 20) rfl))) (Or.inl (hw _ (List.mem_of_getElem? (i := 22) rfl))) (by decide) (t := .int) (t' := .int) (by decide) (by decide))))
  have F17_3 : Fld Z h15 a1 "com/example/hasselt/hasselt/sockets/Termination" "reports" "I" (.int (q3 + (1 : Int32))) := (F3.same W15)
  have F17_4 : Fld Z h15 a1 "com/example/hasselt/hasselt/sockets/Termination" "sent" "J" (.long q4) := (F4.other W15 (Or.inr (slot_ne (Or.inl (hw _ (List.mem_of_getElem? (i := 24) rfl))) (Or.inl (hw _ (List.mem_of_getElem? (i := 22) rfl))) (by decide) (t := .long) (t' := .int) (by decide) (by decide))))
  have F17_5 : Fld Z h15 a1 "com/example/hasselt/hasselt/sockets/Termination" "received" "J" (.long q5) := (F5.other W15 (Or.inr (slot_ne (Or.inl (hw _ (List.mem_of_getElem? (i := 26) rfl))) (Or.inl (hw _ (List.mem_of_getElem? (i := 22) rfl))) (by decide) (t := .long) (t' := .int) (by decide) (by decide))))
  have E17_0 : Exa Z h15 a1 "com/example/hasselt/hasselt/sockets/Termination" := (E1.wr W15)
  have S17_0 : Sta Z h15 "com/example/hasselt/hasselt/sockets/Termination$Outcome" "INCOMPLETE" "Lcom/example/hasselt/hasselt/sockets/Termination$Outcome;" (.ref oi) := (SINCOMPLETE.wr W15)
  have S17_1 : Sta Z h15 "com/example/hasselt/hasselt/sockets/Termination$Outcome" "RESTS" "Lcom/example/hasselt/hasselt/sockets/Termination$Outcome;" (.ref ors) := (SRESTS.wr W15)
  have S17_2 : Sta Z h15 "com/example/hasselt/hasselt/sockets/Termination$Outcome" "QUIET" "Lcom/example/hasselt/hasselt/sockets/Termination$Outcome;" (.ref oq) := (SQUIET.wr W15)
  have S17_3 : Sta Z h15 "com/example/hasselt/hasselt/sockets/Termination$Outcome" "BUSY" "Lcom/example/hasselt/hasselt/sockets/Termination$Outcome;" (.ref ob) := (SBUSY.wr W15)
  have K17 : Keep h0 h15 [a1] := (K13.wr W15 (Or.inl (List.mem_of_getElem? (i := 0) rfl)))
  have Z17 : n0 ≤ h15.size := (Nat.le_trans Z0 (Nat.le_of_eq W15.size.symm))
  have pre18 : ∀ t, Steps p.tables e below (T15.setTop (mkF m 35 #[.val (.ref a1), .val (.int p1), .val (.long p2), .second, .val (.long p3), .second, .unset] [(.ref a1), (.ref a1)])) t → Steps p.tables e below (s₁.setTop (entryFrame m #[(.ref a1), (.int p1), (.long p2), (.long p3)] 7)) t := by
    intro t k
    refine pre16 t ?_
    refine XS.aloadN X15.here hx rfl (hb hby d5_33) rfl rfl ?_
    show Steps p.tables e below (T15.setTop (mkF m 34 #[.val (.ref a1), .val (.int p1), .val (.long p2), .second, .val (.long p3), .second, .unset] [(.ref a1)])) _
    refine XS.dup X15.here hx rfl (hb hby d5_34) rfl rfl ?_
    show Steps p.tables e below (T15.setTop (mkF m 35 #[.val (.ref a1), .val (.int p1), .val (.long p2), .second, .val (.long p3), .second, .unset] [(.ref a1), (.ref a1)])) _
    exact k
  obtain ⟨T19, X19, e19, st19⟩ := getF X15 hx hZ hown (host := "") (Or.inl (hw _ (List.mem_of_getElem? (i := 23) rfl))) Via.refl e15 F17_4 (g := (mkF m 35 #[.val (.ref a1), .val (.int p1), .val (.long p2), .second, .val (.long p3), .second, .unset] [(.ref a1), (.ref a1)])) rfl rfl (hb hby d5_35)
  have pre20 : ∀ t, Steps p.tables e below (T19.setTop (mkF m 38 #[.val (.ref a1), .val (.int p1), .val (.long p2), .second, .val (.long p3), .second, .unset] [(.long q4), (.ref a1)])) t → Steps p.tables e below (s₁.setTop (entryFrame m #[(.ref a1), (.int p1), (.long p2), (.long p3)] 7)) t := fun t k => pre18 t (st19 t k)
  have pre22 : ∀ t, Steps p.tables e below (T19.setTop (mkF m 40 #[.val (.ref a1), .val (.int p1), .val (.long p2), .second, .val (.long p3), .second, .unset] [(.long (q4 + p2)), (.ref a1)])) t → Steps p.tables e below (s₁.setTop (entryFrame m #[(.ref a1), (.int p1), (.long p2), (.long p3)] 7)) t := by
    intro t k
    refine pre20 t ?_
    refine XT.lloadN X19.here hx rfl (hb hby d5_38) rfl ?_
    show Steps p.tables e below (T19.setTop (mkF m 39 #[.val (.ref a1), .val (.int p1), .val (.long p2), .second, .val (.long p3), .second, .unset] [(.long p2), (.long q4), (.ref a1)])) _
    refine XT.ladd X19.here hx rfl (hb hby d5_39) rfl ?_
    show Steps p.tables e below (T19.setTop (mkF m 40 #[.val (.ref a1), .val (.int p1), .val (.long p2), .second, .val (.long p3), .second, .unset] [(.long (q4 + p2)), (.ref a1)])) _
    exact k
  obtain ⟨T23, h23, X23, e23, W23, st23⟩ := putF X19 hx hZ hown (host := "") (Or.inl (hw _ (List.mem_of_getElem? (i := 23) rfl))) Via.refl e19 F17_4 E17_0 (Or.inl (hw _ (List.mem_of_getElem? (i := 24) rfl))) (hw _ (List.mem_of_getElem? (i := 1) rfl)) (ty := .long) (by decide) rfl rfl (g := (mkF m 40 #[.val (.ref a1), .val (.int p1), .val (.long p2), .second, .val (.long p3), .second, .unset] [(.long (q4 + p2)), (.ref a1)])) rfl rfl (hb hby d5_40)
  have N23 := Fr.snoc X23 N15 ga1
  have pre24 : ∀ t, Steps p.tables e below (T23.setTop (mkF m 43 #[.val (.ref a1), .val (.int p1), .val (.long p2), .second, .val (.long p3), .second, .unset] [])) t → Steps p.tables e below (s₁.setTop (entryFrame m #[(.ref a1), (.int p1), (.long p2), (.long p3)] 7)) t := fun t k => pre22 t (st23 t k)
  have F25_0 : Fld Z h23 a1 "com/example/hasselt/hasselt/sockets/Termination" "earlierReceived" "J" (.long q0) := (F17_0.other W23 (Or.inr (slot_ne (Or.inl (hw _ (List.mem_of_getElem? (i := 11) rfl))) (Or.inl (hw _ (List.mem_of_getElem? (i := 24) rfl))) (by decide) (t := .long) (t' := .long) (by decide) (by decide))))
  have F25_1 : Fld Z h23 a1 "com/example/hasselt/hasselt/sockets/Termination" "nodes" "I" (.int q1) := (F17_1.other W23 (Or.inr (slot_ne (Or.inl (hw _ (List.mem_of_getElem? (i := 13) rfl))) (Or.inl (hw _ (List.mem_of_getElem? (i := 24) rfl))) (by decide) (t := .int) (t' := .long) (by decide) (by decide))))
  have F25_2 : Fld Z h23 a1 "com/example/hasselt/hasselt/sockets/Termination" "wave" "I" (.int q2) := (F17_2.other W23 (Or.inr (slot_ne (Or.inl (hw _ (List.mem_of_getElem? (i := 20) rfl))) (Or.inl (hw _ (List.mem_of_getElem? (i := 24) rfl))) (by decide) (t := .int) (t' := .long) (by decide) (by decide))))
  have F25_3 : Fld Z h23 a1 "com/example/hasselt/hasselt/sockets/Termination" "reports" "I" (.int (q3 + (1 : Int32))) := (F17_3.other W23 (Or.inr (slot_ne (Or.inl (hw _ (List.mem_of_getElem? (i := 22) rfl))) (Or.inl (hw _ (List.mem_of_getElem? (i := 24) rfl))) (by decide) (t := .int) (t' := .long) (by decide) (by decide))))
  have F25_4 : Fld Z h23 a1 "com/example/hasselt/hasselt/sockets/Termination" "sent" "J" (.long (q4 + p2)) := (F17_4.same W23)
  have F25_5 : Fld Z h23 a1 "com/example/hasselt/hasselt/sockets/Termination" "received" "J" (.long q5) := (F17_5.other W23 (Or.inr (slot_ne (Or.inl (hw _ (List.mem_of_getElem? (i := 26) rfl))) (Or.inl (hw _ (List.mem_of_getElem? (i := 24) rfl))) (by decide) (t := .long) (t' := .long) (by decide) (by decide))))
  have E25_0 : Exa Z h23 a1 "com/example/hasselt/hasselt/sockets/Termination" := (E17_0.wr W23)
  have S25_0 : Sta Z h23 "com/example/hasselt/hasselt/sockets/Termination$Outcome" "INCOMPLETE" "Lcom/example/hasselt/hasselt/sockets/Termination$Outcome;" (.ref oi) := (S17_0.wr W23)
  have S25_1 : Sta Z h23 "com/example/hasselt/hasselt/sockets/Termination$Outcome" "RESTS" "Lcom/example/hasselt/hasselt/sockets/Termination$Outcome;" (.ref ors) := (S17_1.wr W23)
  have S25_2 : Sta Z h23 "com/example/hasselt/hasselt/sockets/Termination$Outcome" "QUIET" "Lcom/example/hasselt/hasselt/sockets/Termination$Outcome;" (.ref oq) := (S17_2.wr W23)
  have S25_3 : Sta Z h23 "com/example/hasselt/hasselt/sockets/Termination$Outcome" "BUSY" "Lcom/example/hasselt/hasselt/sockets/Termination$Outcome;" (.ref ob) := (S17_3.wr W23)
  have K25 : Keep h0 h23 [a1] := (K17.wr W23 (Or.inl (List.mem_of_getElem? (i := 0) rfl)))
  have Z25 : n0 ≤ h23.size := (Nat.le_trans Z17 (Nat.le_of_eq W23.size.symm))
  have pre26 : ∀ t, Steps p.tables e below (T23.setTop (mkF m 45 #[.val (.ref a1), .val (.int p1), .val (.long p2), .second, .val (.long p3), .second, .unset] [(.ref a1), (.ref a1)])) t → Steps p.tables e below (s₁.setTop (entryFrame m #[(.ref a1), (.int p1), (.long p2), (.long p3)] 7)) t := by
    intro t k
    refine pre24 t ?_
    refine XS.aloadN X23.here hx rfl (hb hby d5_43) rfl rfl ?_
    show Steps p.tables e below (T23.setTop (mkF m 44 #[.val (.ref a1), .val (.int p1), .val (.long p2), .second, .val (.long p3), .second, .unset] [(.ref a1)])) _
    refine XS.dup X23.here hx rfl (hb hby d5_44) rfl rfl ?_
    show Steps p.tables e below (T23.setTop (mkF m 45 #[.val (.ref a1), .val (.int p1), .val (.long p2), .second, .val (.long p3), .second, .unset] [(.ref a1), (.ref a1)])) _
    exact k
  obtain ⟨T27, X27, e27, st27⟩ := getF X23 hx hZ hown (host := "") (Or.inl (hw _ (List.mem_of_getElem? (i := 25) rfl))) Via.refl e23 F25_5 (g := (mkF m 45 #[.val (.ref a1), .val (.int p1), .val (.long p2), .second, .val (.long p3), .second, .unset] [(.ref a1), (.ref a1)])) rfl rfl (hb hby d5_45)
  have pre28 : ∀ t, Steps p.tables e below (T27.setTop (mkF m 48 #[.val (.ref a1), .val (.int p1), .val (.long p2), .second, .val (.long p3), .second, .unset] [(.long q5), (.ref a1)])) t → Steps p.tables e below (s₁.setTop (entryFrame m #[(.ref a1), (.int p1), (.long p2), (.long p3)] 7)) t := fun t k => pre26 t (st27 t k)
  have pre30 : ∀ t, Steps p.tables e below (T27.setTop (mkF m 51 #[.val (.ref a1), .val (.int p1), .val (.long p2), .second, .val (.long p3), .second, .unset] [(.long (q5 + p3)), (.ref a1)])) t → Steps p.tables e below (s₁.setTop (entryFrame m #[(.ref a1), (.int p1), (.long p2), (.long p3)] 7)) t := by
    intro t k
    refine pre28 t ?_
    refine XT.lload X27.here hx rfl (hb hby d5_48) rfl ?_
    show Steps p.tables e below (T27.setTop (mkF m 50 #[.val (.ref a1), .val (.int p1), .val (.long p2), .second, .val (.long p3), .second, .unset] [(.long p3), (.long q5), (.ref a1)])) _
    refine XT.ladd X27.here hx rfl (hb hby d5_50) rfl ?_
    show Steps p.tables e below (T27.setTop (mkF m 51 #[.val (.ref a1), .val (.int p1), .val (.long p2), .second, .val (.long p3), .second, .unset] [(.long (q5 + p3)), (.ref a1)])) _
    exact k
  obtain ⟨T31, h31, X31, e31, W31, st31⟩ := putF X27 hx hZ hown (host := "") (Or.inl (hw _ (List.mem_of_getElem? (i := 25) rfl))) Via.refl e27 F25_5 E25_0 (Or.inl (hw _ (List.mem_of_getElem? (i := 26) rfl))) (hw _ (List.mem_of_getElem? (i := 1) rfl)) (ty := .long) (by decide) rfl rfl (g := (mkF m 51 #[.val (.ref a1), .val (.int p1), .val (.long p2), .second, .val (.long p3), .second, .unset] [(.long (q5 + p3)), (.ref a1)])) rfl rfl (hb hby d5_51)
  have N31 := Fr.snoc X31 N23 ga1
  have pre32 : ∀ t, Steps p.tables e below (T31.setTop (mkF m 54 #[.val (.ref a1), .val (.int p1), .val (.long p2), .second, .val (.long p3), .second, .unset] [])) t → Steps p.tables e below (s₁.setTop (entryFrame m #[(.ref a1), (.int p1), (.long p2), (.long p3)] 7)) t := fun t k => pre30 t (st31 t k)
  have F33_0 : Fld Z h31 a1 "com/example/hasselt/hasselt/sockets/Termination" "earlierReceived" "J" (.long q0) := (F25_0.other W31 (Or.inr (slot_ne (Or.inl (hw _ (List.mem_of_getElem? (i := 11) rfl))) (Or.inl (hw _ (List.mem_of_getElem? (i := 26) rfl))) (by decide) (t := .long) (t' := .long) (by decide) (by decide))))
  have F33_1 : Fld Z h31 a1 "com/example/hasselt/hasselt/sockets/Termination" "nodes" "I" (.int q1) := (F25_1.other W31 (Or.inr (slot_ne (Or.inl (hw _ (List.mem_of_getElem? (i := 13) rfl))) (Or.inl (hw _ (List.mem_of_getElem? (i := 26) rfl))) (by decide) (t := .int) (t' := .long) (by decide) (by decide))))
  have F33_2 : Fld Z h31 a1 "com/example/hasselt/hasselt/sockets/Termination" "wave" "I" (.int q2) := (F25_2.other W31 (Or.inr (slot_ne (Or.inl (hw _ (List.mem_of_getElem? (i := 20) rfl))) (Or.inl (hw _ (List.mem_of_getElem? (i := 26) rfl))) (by decide) (t := .int) (t' := .long) (by decide) (by decide))))
  have F33_3 : Fld Z h31 a1 "com/example/hasselt/hasselt/sockets/Termination" "reports" "I" (.int (q3 + (1 : Int32))) := (F25_3.other W31 (Or.inr (slot_ne (Or.inl (hw _ (List.mem_of_getElem? (i := 22) rfl))) (Or.inl (hw _ (List.mem_of_getElem? (i := 26) rfl))) (by decide) (t := .int) (t' := .long) (by decide) (by decide))))
  have F33_4 : Fld Z h31 a1 "com/example/hasselt/hasselt/sockets/Termination" "sent" "J" (.long (q4 + p2)) := (F25_4.other W31 (Or.inr (slot_ne (Or.inl (hw _ (List.mem_of_getElem? (i := 24) rfl))) (Or.inl (hw _ (List.mem_of_getElem? (i := 26) rfl))) (by decide) (t := .long) (t' := .long) (by decide) (by decide))))
  have F33_5 : Fld Z h31 a1 "com/example/hasselt/hasselt/sockets/Termination" "received" "J" (.long (q5 + p3)) := (F25_5.same W31)
  have E33_0 : Exa Z h31 a1 "com/example/hasselt/hasselt/sockets/Termination" := (E25_0.wr W31)
  have S33_0 : Sta Z h31 "com/example/hasselt/hasselt/sockets/Termination$Outcome" "INCOMPLETE" "Lcom/example/hasselt/hasselt/sockets/Termination$Outcome;" (.ref oi) := (S25_0.wr W31)
  have S33_1 : Sta Z h31 "com/example/hasselt/hasselt/sockets/Termination$Outcome" "RESTS" "Lcom/example/hasselt/hasselt/sockets/Termination$Outcome;" (.ref ors) := (S25_1.wr W31)
  have S33_2 : Sta Z h31 "com/example/hasselt/hasselt/sockets/Termination$Outcome" "QUIET" "Lcom/example/hasselt/hasselt/sockets/Termination$Outcome;" (.ref oq) := (S25_2.wr W31)
  have S33_3 : Sta Z h31 "com/example/hasselt/hasselt/sockets/Termination$Outcome" "BUSY" "Lcom/example/hasselt/hasselt/sockets/Termination$Outcome;" (.ref ob) := (S25_3.wr W31)
  have K33 : Keep h0 h31 [a1] := (K25.wr W31 (Or.inl (List.mem_of_getElem? (i := 0) rfl)))
  have Z33 : n0 ≤ h31.size := (Nat.le_trans Z25 (Nat.le_of_eq W31.size.symm))
  have pre34 : ∀ t, Steps p.tables e below (T31.setTop (mkF m 55 #[.val (.ref a1), .val (.int p1), .val (.long p2), .second, .val (.long p3), .second, .unset] [(.ref a1)])) t → Steps p.tables e below (s₁.setTop (entryFrame m #[(.ref a1), (.int p1), (.long p2), (.long p3)] 7)) t := by
    intro t k
    refine pre32 t ?_
    refine XS.aloadN X31.here hx rfl (hb hby d5_54) rfl rfl ?_
    show Steps p.tables e below (T31.setTop (mkF m 55 #[.val (.ref a1), .val (.int p1), .val (.long p2), .second, .val (.long p3), .second, .unset] [(.ref a1)])) _
    exact k
  obtain ⟨T35, X35, e35, st35⟩ := getF X31 hx hZ hown (host := "") (Or.inl (hw _ (List.mem_of_getElem? (i := 21) rfl))) Via.refl e31 F33_3 (g := (mkF m 55 #[.val (.ref a1), .val (.int p1), .val (.long p2), .second, .val (.long p3), .second, .unset] [(.ref a1)])) rfl rfl (hb hby d5_55)
  have pre36 : ∀ t, Steps p.tables e below (T35.setTop (mkF m 58 #[.val (.ref a1), .val (.int p1), .val (.long p2), .second, .val (.long p3), .second, .unset] [(.int (q3 + (1 : Int32)))])) t → Steps p.tables e below (s₁.setTop (entryFrame m #[(.ref a1), (.int p1), (.long p2), (.long p3)] 7)) t := fun t k => pre34 t (st35 t k)
  have pre37 : ∀ t, Steps p.tables e below (T35.setTop (mkF m 59 #[.val (.ref a1), .val (.int p1), .val (.long p2), .second, .val (.long p3), .second, .unset] [(.ref a1), (.int (q3 + (1 : Int32)))])) t → Steps p.tables e below (s₁.setTop (entryFrame m #[(.ref a1), (.int p1), (.long p2), (.long p3)] 7)) t := by
    intro t k
    refine pre36 t ?_
    refine XS.aloadN X35.here hx rfl (hb hby d5_58) rfl rfl ?_
    show Steps p.tables e below (T35.setTop (mkF m 59 #[.val (.ref a1), .val (.int p1), .val (.long p2), .second, .val (.long p3), .second, .unset] [(.ref a1), (.int (q3 + (1 : Int32)))])) _
    exact k
  obtain ⟨T38, X38, e38, st38⟩ := getF X35 hx hZ hown (host := "") (Or.inl (hw _ (List.mem_of_getElem? (i := 12) rfl))) Via.refl e35 F33_1 (g := (mkF m 59 #[.val (.ref a1), .val (.int p1), .val (.long p2), .second, .val (.long p3), .second, .unset] [(.ref a1), (.int (q3 + (1 : Int32)))])) rfl rfl (hb hby d5_59)
  have pre39 : ∀ t, Steps p.tables e below (T38.setTop (mkF m 62 #[.val (.ref a1), .val (.int p1), .val (.long p2), .second, .val (.long p3), .second, .unset] [(.int q1), (.int (q3 + (1 : Int32)))])) t → Steps p.tables e below (s₁.setTop (entryFrame m #[(.ref a1), (.int p1), (.long p2), (.long p3)] 7)) t := fun t k => pre37 t (st38 t k)
  have pre40 : ∀ t, Steps p.tables e below (T38.setTop (mkF m 70 #[.val (.ref a1), .val (.int p1), .val (.long p2), .second, .val (.long p3), .second, .unset] [(.ref a1)])) t → Steps p.tables e below (s₁.setTop (entryFrame m #[(.ref a1), (.int p1), (.long p2), (.long p3)] 7)) t := by
    intro t k
    refine pre39 t ?_
    refine XS.icmpYes X38.here hx rfl (pc0 := 62) (pc' := 69) rfl (hb hby d5_62) rfl (XT.ii_ge_t hw3) (by decide) (by decide) ?_
    show Steps p.tables e below (T38.setTop (mkF m 69 #[.val (.ref a1), .val (.int p1), .val (.long p2), .second, .val (.long p3), .second, .unset] [])) _
    refine XS.aloadN X38.here hx rfl (hb hby d5_69) rfl rfl ?_
    show Steps p.tables e below (T38.setTop (mkF m 70 #[.val (.ref a1), .val (.int p1), .val (.long p2), .second, .val (.long p3), .second, .unset] [(.ref a1)])) _
    exact k
  obtain ⟨T41, X41, e41, st41⟩ := getF X38 hx hZ hown (host := "") (Or.inl (hw _ (List.mem_of_getElem? (i := 10) rfl))) Via.refl e38 F33_0 (g := (mkF m 70 #[.val (.ref a1), .val (.int p1), .val (.long p2), .second, .val (.long p3), .second, .unset] [(.ref a1)])) rfl rfl (hb hby d5_70)
  have pre42 : ∀ t, Steps p.tables e below (T41.setTop (mkF m 73 #[.val (.ref a1), .val (.int p1), .val (.long p2), .second, .val (.long p3), .second, .unset] [(.long q0)])) t → Steps p.tables e below (s₁.setTop (entryFrame m #[(.ref a1), (.int p1), (.long p2), (.long p3)] 7)) t := fun t k => pre40 t (st41 t k)
  have pre43 : ∀ t, Steps p.tables e below (T41.setTop (mkF m 74 #[.val (.ref a1), .val (.int p1), .val (.long p2), .second, .val (.long p3), .second, .unset] [(.ref a1), (.long q0)])) t → Steps p.tables e below (s₁.setTop (entryFrame m #[(.ref a1), (.int p1), (.long p2), (.long p3)] 7)) t := by
    intro t k
    refine pre42 t ?_
    refine XS.aloadN X41.here hx rfl (hb hby d5_73) rfl rfl ?_
    show Steps p.tables e below (T41.setTop (mkF m 74 #[.val (.ref a1), .val (.int p1), .val (.long p2), .second, .val (.long p3), .second, .unset] [(.ref a1), (.long q0)])) _
    exact k
  obtain ⟨T44, X44, e44, st44⟩ := getF X41 hx hZ hown (host := "") (Or.inl (hw _ (List.mem_of_getElem? (i := 23) rfl))) Via.refl e41 F33_4 (g := (mkF m 74 #[.val (.ref a1), .val (.int p1), .val (.long p2), .second, .val (.long p3), .second, .unset] [(.ref a1), (.long q0)])) rfl rfl (hb hby d5_74)
  have pre45 : ∀ t, Steps p.tables e below (T44.setTop (mkF m 77 #[.val (.ref a1), .val (.int p1), .val (.long p2), .second, .val (.long p3), .second, .unset] [(.long (q4 + p2)), (.long q0)])) t → Steps p.tables e below (s₁.setTop (entryFrame m #[(.ref a1), (.int p1), (.long p2), (.long p3)] 7)) t := fun t k => pre43 t (st44 t k)
  have pre46 : ∀ t, Steps p.tables e below (T44.setTop (mkF m 78 #[.val (.ref a1), .val (.int p1), .val (.long p2), .second, .val (.long p3), .second, .unset] [(.int (XT.cmpL q0 (q4 + p2)))])) t → Steps p.tables e below (s₁.setTop (entryFrame m #[(.ref a1), (.int p1), (.long p2), (.long p3)] 7)) t := by
    intro t k
    refine pre45 t ?_
    refine XT.lcmp X44.here hx rfl (hb hby d5_77) rfl ?_
    show Steps p.tables e below (T44.setTop (mkF m 78 #[.val (.ref a1), .val (.int p1), .val (.long p2), .second, .val (.long p3), .second, .unset] [(.int (XT.cmpL q0 (q4 + p2)))])) _
    exact k
  by_cases hs1 : q0 = (q4 + p2)
  · skip
    have pre48 : ∀ t, Steps p.tables e below (T44.setTop (mkF m 81 #[.val (.ref a1), .val (.int p1), .val (.long p2), .second, .val (.long p3), .second, .unset] [])) t → Steps p.tables e below (s₁.setTop (entryFrame m #[(.ref a1), (.int p1), (.long p2), (.long p3)] 7)) t := by
      intro t k
      refine pre46 t ?_
      refine XS.ifNo X44.here hx rfl (hb hby d5_78) rfl (XT.ll_ne_f hs1) ?_
      show Steps p.tables e below (T44.setTop (mkF m 81 #[.val (.ref a1), .val (.int p1), .val (.long p2), .second, .val (.long p3), .second, .unset] [])) _
      exact k
    obtain ⟨T49, X49, e49, st49⟩ := getS (host := "") X44 hx hZ hown (hw _ (List.mem_of_getElem? (i := 49) rfl)) Via.refl e44 S33_1 (g := (mkF m 81 #[.val (.ref a1), .val (.int p1), .val (.long p2), .second, .val (.long p3), .second, .unset] [])) rfl (hb hby d5_81)
    have pre50 : ∀ t, Steps p.tables e below (T49.setTop (mkF m 84 #[.val (.ref a1), .val (.int p1), .val (.long p2), .second, .val (.long p3), .second, .unset] [(.ref ors)])) t → Steps p.tables e below (s₁.setTop (entryFrame m #[(.ref a1), (.int p1), (.long p2), (.long p3)] 7)) t := fun t k => pre48 t (st49 t k)
    have pre51 : ∀ t, Steps p.tables e below (T49.setTop (mkF m 116 #[.val (.ref a1), .val (.int p1), .val (.long p2), .second, .val (.long p3), .second, .val (.ref ors)] [(.ref a1), (.ref a1)])) t → Steps p.tables e below (s₁.setTop (entryFrame m #[(.ref a1), (.int p1), (.long p2), (.long p3)] 7)) t := by
      intro t k
      refine pre50 t ?_
      refine XS.astore X49.here hx rfl (hb hby d5_84) rfl rfl (l' := #[.val (.ref a1), .val (.int p1), .val (.long p2), .second, .val (.long p3), .second, .val (.ref ors)]) rfl ?_
      show Steps p.tables e below (T49.setTop (mkF m 86 #[.val (.ref a1), .val (.int p1), .val (.long p2), .second, .val (.long p3), .second, .val (.ref ors)] [])) _
      refine XS.goto X49.here hx rfl (pc0 := 86) (pc' := 114) rfl (hb hby d5_86) (by decide) (by decide) ?_
      show Steps p.tables e below (T49.setTop (mkF m 114 #[.val (.ref a1), .val (.int p1), .val (.long p2), .second, .val (.long p3), .second, .val (.ref ors)] [])) _
      refine XS.aloadN X49.here hx rfl (hb hby d5_114) rfl rfl ?_
      show Steps p.tables e below (T49.setTop (mkF m 115 #[.val (.ref a1), .val (.int p1), .val (.long p2), .second, .val (.long p3), .second, .val (.ref ors)] [(.ref a1)])) _
      refine XS.aloadN X49.here hx rfl (hb hby d5_115) rfl rfl ?_
      show Steps p.tables e below (T49.setTop (mkF m 116 #[.val (.ref a1), .val (.int p1), .val (.long p2), .second, .val (.long p3), .second, .val (.ref ors)] [(.ref a1), (.ref a1)])) _
      exact k
    obtain ⟨T52, X52, e52, st52⟩ := getF X49 hx hZ hown (host := "") (Or.inl (hw _ (List.mem_of_getElem? (i := 25) rfl))) Via.refl e49 F33_5 (g := (mkF m 116 #[.val (.ref a1), .val (.int p1), .val (.long p2), .second, .val (.long p3), .second, .val (.ref ors)] [(.ref a1), (.ref a1)])) rfl rfl (hb hby d5_116)
    have pre53 : ∀ t, Steps p.tables e below (T52.setTop (mkF m 119 #[.val (.ref a1), .val (.int p1), .val (.long p2), .second, .val (.long p3), .second, .val (.ref ors)] [(.long (q5 + p3)), (.ref a1)])) t → Steps p.tables e below (s₁.setTop (entryFrame m #[(.ref a1), (.int p1), (.long p2), (.long p3)] 7)) t := fun t k => pre51 t (st52 t k)
    obtain ⟨T55, h55, X55, e55, W55, st55⟩ := putF X52 hx hZ hown (host := "") (Or.inl (hw _ (List.mem_of_getElem? (i := 10) rfl))) Via.refl e52 F33_0 E33_0 (Or.inl (hw _ (List.mem_of_getElem? (i := 11) rfl))) (hw _ (List.mem_of_getElem? (i := 1) rfl)) (ty := .long) (by decide) rfl rfl (g := (mkF m 119 #[.val (.ref a1), .val (.int p1), .val (.long p2), .second, .val (.long p3), .second, .val (.ref ors)] [(.long (q5 + p3)), (.ref a1)])) rfl rfl (hb hby d5_119)
    have N55 := Fr.snoc X55 N31 ga1
    have pre56 : ∀ t, Steps p.tables e below (T55.setTop (mkF m 122 #[.val (.ref a1), .val (.int p1), .val (.long p2), .second, .val (.long p3), .second, .val (.ref ors)] [])) t → Steps p.tables e below (s₁.setTop (entryFrame m #[(.ref a1), (.int p1), (.long p2), (.long p3)] 7)) t := fun t k => pre53 t (st55 t k)
    have F57_0 : Fld Z h55 a1 "com/example/hasselt/hasselt/sockets/Termination" "earlierReceived" "J" (.long (q5 + p3)) := (F33_0.same W55)
    have F57_1 : Fld Z h55 a1 "com/example/hasselt/hasselt/sockets/Termination" "nodes" "I" (.int q1) := (F33_1.other W55 (Or.inr (slot_ne (Or.inl (hw _ (List.mem_of_getElem? (i := 13) rfl))) (Or.inl (hw _ (List.mem_of_getElem? (i := 11) rfl))) (by decide) (t := .int) (t' := .long) (by decide) (by decide))))
    have F57_2 : Fld Z h55 a1 "com/example/hasselt/hasselt/sockets/Termination" "wave" "I" (.int q2) := (F33_2.other W55 (Or.inr (slot_ne (Or.inl (hw _ (List.mem_of_getElem? (i := 20) rfl))) (Or.inl (hw _ (List.mem_of_getElem? (i := 11) rfl))) (by decide) (t := .int) (t' := .long) (by decide) (by decide))))
    have F57_3 : Fld Z h55 a1 "com/example/hasselt/hasselt/sockets/Termination" "reports" "I" (.int (q3 + (1 : Int32))) := (F33_3.other W55 (Or.inr (slot_ne (Or.inl (hw _ (List.mem_of_getElem? (i := 22) rfl))) (Or.inl (hw _ (List.mem_of_getElem? (i := 11) rfl))) (by decide) (t := .int) (t' := .long) (by decide) (by decide))))
    have F57_4 : Fld Z h55 a1 "com/example/hasselt/hasselt/sockets/Termination" "sent" "J" (.long (q4 + p2)) := (F33_4.other W55 (Or.inr (slot_ne (Or.inl (hw _ (List.mem_of_getElem? (i := 24) rfl))) (Or.inl (hw _ (List.mem_of_getElem? (i := 11) rfl))) (by decide) (t := .long) (t' := .long) (by decide) (by decide))))
    have F57_5 : Fld Z h55 a1 "com/example/hasselt/hasselt/sockets/Termination" "received" "J" (.long (q5 + p3)) := (F33_5.other W55 (Or.inr (slot_ne (Or.inl (hw _ (List.mem_of_getElem? (i := 26) rfl))) (Or.inl (hw _ (List.mem_of_getElem? (i := 11) rfl))) (by decide) (t := .long) (t' := .long) (by decide) (by decide))))
    have E57_0 : Exa Z h55 a1 "com/example/hasselt/hasselt/sockets/Termination" := (E33_0.wr W55)
    have S57_0 : Sta Z h55 "com/example/hasselt/hasselt/sockets/Termination$Outcome" "INCOMPLETE" "Lcom/example/hasselt/hasselt/sockets/Termination$Outcome;" (.ref oi) := (S33_0.wr W55)
    have S57_1 : Sta Z h55 "com/example/hasselt/hasselt/sockets/Termination$Outcome" "RESTS" "Lcom/example/hasselt/hasselt/sockets/Termination$Outcome;" (.ref ors) := (S33_1.wr W55)
    have S57_2 : Sta Z h55 "com/example/hasselt/hasselt/sockets/Termination$Outcome" "QUIET" "Lcom/example/hasselt/hasselt/sockets/Termination$Outcome;" (.ref oq) := (S33_2.wr W55)
    have S57_3 : Sta Z h55 "com/example/hasselt/hasselt/sockets/Termination$Outcome" "BUSY" "Lcom/example/hasselt/hasselt/sockets/Termination$Outcome;" (.ref ob) := (S33_3.wr W55)
    have K57 : Keep h0 h55 [a1] := (K33.wr W55 (Or.inl (List.mem_of_getElem? (i := 0) rfl)))
    have Z57 : n0 ≤ h55.size := (Nat.le_trans Z33 (Nat.le_of_eq W55.size.symm))
    have pre58 : ∀ t, Steps p.tables e below (T55.setTop (mkF m 124 #[.val (.ref a1), .val (.int p1), .val (.long p2), .second, .val (.long p3), .second, .val (.ref ors)] [(.ref ors)])) t → Steps p.tables e below (s₁.setTop (entryFrame m #[(.ref a1), (.int p1), (.long p2), (.long p3)] 7)) t := by
      intro t k
      refine pre56 t ?_
      refine XS.aload X55.here hx rfl (hb hby d5_122) rfl rfl ?_
      show Steps p.tables e below (T55.setTop (mkF m 124 #[.val (.ref a1), .val (.int p1), .val (.long p2), .second, .val (.long p3), .second, .val (.ref ors)] [(.ref ors)])) _
      exact k
    obtain ⟨fs, hr, hrun, hended, hW, hsame⟩ := X55.leave (v := some (.ref ors)) (fun h => by rw [Bd.returns] at h; cases h)
    refine ⟨_, _, pre58 _ ?_, hrun, hended, _, _, rfl, ?_, ⟨_, rfl⟩, hW, hsame.mono (by decide) (by decide)⟩
    · exact retOut X55 hx Bd.returns rfl (Or.inr (Or.inr (Or.inr (Or.inr ⟨rfl, rfl, rfl⟩)))) (hb hby d5_124) hr
    · show Q5f Z a1 p1 p2 p3 q0 q1 q2 q3 q4 q5 oi ors oq ob h0 n0 _ T55.heap _
      rw [e55]
      exact ⟨(by rw [own_out, if_pos hs1]), N55, K57, F57_0, F57_1, F57_2, F57_3, F57_4, F57_5⟩
  · skip
    have pre60 : ∀ t, Steps p.tables e below (T44.setTop (mkF m 90 #[.val (.ref a1), .val (.int p1), .val (.long p2), .second, .val (.long p3), .second, .unset] [(.ref a1)])) t → Steps p.tables e below (s₁.setTop (entryFrame m #[(.ref a1), (.int p1), (.long p2), (.long p3)] 7)) t := by
      intro t k
      refine pre46 t ?_
      refine XS.ifYes X44.here hx rfl (pc0 := 78) (pc' := 89) rfl (hb hby d5_78) rfl (XT.ll_ne_t hs1) (by decide) (by decide) ?_
      show Steps p.tables e below (T44.setTop (mkF m 89 #[.val (.ref a1), .val (.int p1), .val (.long p2), .second, .val (.long p3), .second, .unset] [])) _
      refine XS.aloadN X44.here hx rfl (hb hby d5_89) rfl rfl ?_
      show Steps p.tables e below (T44.setTop (mkF m 90 #[.val (.ref a1), .val (.int p1), .val (.long p2), .second, .val (.long p3), .second, .unset] [(.ref a1)])) _
      exact k
    obtain ⟨T61, X61, e61, st61⟩ := getF X44 hx hZ hown (host := "") (Or.inl (hw _ (List.mem_of_getElem? (i := 23) rfl))) Via.refl e44 F33_4 (g := (mkF m 90 #[.val (.ref a1), .val (.int p1), .val (.long p2), .second, .val (.long p3), .second, .unset] [(.ref a1)])) rfl rfl (hb hby d5_90)
    have pre62 : ∀ t, Steps p.tables e below (T61.setTop (mkF m 93 #[.val (.ref a1), .val (.int p1), .val (.long p2), .second, .val (.long p3), .second, .unset] [(.long (q4 + p2))])) t → Steps p.tables e below (s₁.setTop (entryFrame m #[(.ref a1), (.int p1), (.long p2), (.long p3)] 7)) t := fun t k => pre60 t (st61 t k)
    have pre63 : ∀ t, Steps p.tables e below (T61.setTop (mkF m 94 #[.val (.ref a1), .val (.int p1), .val (.long p2), .second, .val (.long p3), .second, .unset] [(.ref a1), (.long (q4 + p2))])) t → Steps p.tables e below (s₁.setTop (entryFrame m #[(.ref a1), (.int p1), (.long p2), (.long p3)] 7)) t := by
      intro t k
      refine pre62 t ?_
      refine XS.aloadN X61.here hx rfl (hb hby d5_93) rfl rfl ?_
      show Steps p.tables e below (T61.setTop (mkF m 94 #[.val (.ref a1), .val (.int p1), .val (.long p2), .second, .val (.long p3), .second, .unset] [(.ref a1), (.long (q4 + p2))])) _
      exact k
    obtain ⟨T64, X64, e64, st64⟩ := getF X61 hx hZ hown (host := "") (Or.inl (hw _ (List.mem_of_getElem? (i := 25) rfl))) Via.refl e61 F33_5 (g := (mkF m 94 #[.val (.ref a1), .val (.int p1), .val (.long p2), .second, .val (.long p3), .second, .unset] [(.ref a1), (.long (q4 + p2))])) rfl rfl (hb hby d5_94)
    have pre65 : ∀ t, Steps p.tables e below (T64.setTop (mkF m 97 #[.val (.ref a1), .val (.int p1), .val (.long p2), .second, .val (.long p3), .second, .unset] [(.long (q5 + p3)), (.long (q4 + p2))])) t → Steps p.tables e below (s₁.setTop (entryFrame m #[(.ref a1), (.int p1), (.long p2), (.long p3)] 7)) t := fun t k => pre63 t (st64 t k)
    have pre66 : ∀ t, Steps p.tables e below (T64.setTop (mkF m 98 #[.val (.ref a1), .val (.int p1), .val (.long p2), .second, .val (.long p3), .second, .unset] [(.int (XT.cmpL (q4 + p2) (q5 + p3)))])) t → Steps p.tables e below (s₁.setTop (entryFrame m #[(.ref a1), (.int p1), (.long p2), (.long p3)] 7)) t := by
      intro t k
      refine pre65 t ?_
      refine XT.lcmp X64.here hx rfl (hb hby d5_97) rfl ?_
      show Steps p.tables e below (T64.setTop (mkF m 98 #[.val (.ref a1), .val (.int p1), .val (.long p2), .second, .val (.long p3), .second, .unset] [(.int (XT.cmpL (q4 + p2) (q5 + p3)))])) _
      exact k
    by_cases hs2 : (q4 + p2) = (q5 + p3)
    · skip
      have pre68 : ∀ t, Steps p.tables e below (T64.setTop (mkF m 101 #[.val (.ref a1), .val (.int p1), .val (.long p2), .second, .val (.long p3), .second, .unset] [])) t → Steps p.tables e below (s₁.setTop (entryFrame m #[(.ref a1), (.int p1), (.long p2), (.long p3)] 7)) t := by
        intro t k
        refine pre66 t ?_
        refine XS.ifNo X64.here hx rfl (hb hby d5_98) rfl (XT.ll_ne_f hs2) ?_
        show Steps p.tables e below (T64.setTop (mkF m 101 #[.val (.ref a1), .val (.int p1), .val (.long p2), .second, .val (.long p3), .second, .unset] [])) _
        exact k
      obtain ⟨T69, X69, e69, st69⟩ := getS (host := "") X64 hx hZ hown (hw _ (List.mem_of_getElem? (i := 52) rfl)) Via.refl e64 S33_2 (g := (mkF m 101 #[.val (.ref a1), .val (.int p1), .val (.long p2), .second, .val (.long p3), .second, .unset] [])) rfl (hb hby d5_101)
      have pre70 : ∀ t, Steps p.tables e below (T69.setTop (mkF m 104 #[.val (.ref a1), .val (.int p1), .val (.long p2), .second, .val (.long p3), .second, .unset] [(.ref oq)])) t → Steps p.tables e below (s₁.setTop (entryFrame m #[(.ref a1), (.int p1), (.long p2), (.long p3)] 7)) t := fun t k => pre68 t (st69 t k)
      have pre71 : ∀ t, Steps p.tables e below (T69.setTop (mkF m 116 #[.val (.ref a1), .val (.int p1), .val (.long p2), .second, .val (.long p3), .second, .val (.ref oq)] [(.ref a1), (.ref a1)])) t → Steps p.tables e below (s₁.setTop (entryFrame m #[(.ref a1), (.int p1), (.long p2), (.long p3)] 7)) t := by
        intro t k
        refine pre70 t ?_
        refine XS.astore X69.here hx rfl (hb hby d5_104) rfl rfl (l' := #[.val (.ref a1), .val (.int p1), .val (.long p2), .second, .val (.long p3), .second, .val (.ref oq)]) rfl ?_
        show Steps p.tables e below (T69.setTop (mkF m 106 #[.val (.ref a1), .val (.int p1), .val (.long p2), .second, .val (.long p3), .second, .val (.ref oq)] [])) _
        refine XS.goto X69.here hx rfl (pc0 := 106) (pc' := 114) rfl (hb hby d5_106) (by decide) (by decide) ?_
        show Steps p.tables e below (T69.setTop (mkF m 114 #[.val (.ref a1), .val (.int p1), .val (.long p2), .second, .val (.long p3), .second, .val (.ref oq)] [])) _
        refine XS.aloadN X69.here hx rfl (hb hby d5_114) rfl rfl ?_
        show Steps p.tables e below (T69.setTop (mkF m 115 #[.val (.ref a1), .val (.int p1), .val (.long p2), .second, .val (.long p3), .second, .val (.ref oq)] [(.ref a1)])) _
        refine XS.aloadN X69.here hx rfl (hb hby d5_115) rfl rfl ?_
        show Steps p.tables e below (T69.setTop (mkF m 116 #[.val (.ref a1), .val (.int p1), .val (.long p2), .second, .val (.long p3), .second, .val (.ref oq)] [(.ref a1), (.ref a1)])) _
        exact k
      obtain ⟨T72, X72, e72, st72⟩ := getF X69 hx hZ hown (host := "") (Or.inl (hw _ (List.mem_of_getElem? (i := 25) rfl))) Via.refl e69 F33_5 (g := (mkF m 116 #[.val (.ref a1), .val (.int p1), .val (.long p2), .second, .val (.long p3), .second, .val (.ref oq)] [(.ref a1), (.ref a1)])) rfl rfl (hb hby d5_116)
      have pre73 : ∀ t, Steps p.tables e below (T72.setTop (mkF m 119 #[.val (.ref a1), .val (.int p1), .val (.long p2), .second, .val (.long p3), .second, .val (.ref oq)] [(.long (q5 + p3)), (.ref a1)])) t → Steps p.tables e below (s₁.setTop (entryFrame m #[(.ref a1), (.int p1), (.long p2), (.long p3)] 7)) t := fun t k => pre71 t (st72 t k)
      obtain ⟨T75, h75, X75, e75, W75, st75⟩ := putF X72 hx hZ hown (host := "") (Or.inl (hw _ (List.mem_of_getElem? (i := 10) rfl))) Via.refl e72 F33_0 E33_0 (Or.inl (hw _ (List.mem_of_getElem? (i := 11) rfl))) (hw _ (List.mem_of_getElem? (i := 1) rfl)) (ty := .long) (by decide) rfl rfl (g := (mkF m 119 #[.val (.ref a1), .val (.int p1), .val (.long p2), .second, .val (.long p3), .second, .val (.ref oq)] [(.long (q5 + p3)), (.ref a1)])) rfl rfl (hb hby d5_119)
      have N75 := Fr.snoc X75 N31 ga1
      have pre76 : ∀ t, Steps p.tables e below (T75.setTop (mkF m 122 #[.val (.ref a1), .val (.int p1), .val (.long p2), .second, .val (.long p3), .second, .val (.ref oq)] [])) t → Steps p.tables e below (s₁.setTop (entryFrame m #[(.ref a1), (.int p1), (.long p2), (.long p3)] 7)) t := fun t k => pre73 t (st75 t k)
      have F77_0 : Fld Z h75 a1 "com/example/hasselt/hasselt/sockets/Termination" "earlierReceived" "J" (.long (q5 + p3)) := (F33_0.same W75)
      have F77_1 : Fld Z h75 a1 "com/example/hasselt/hasselt/sockets/Termination" "nodes" "I" (.int q1) := (F33_1.other W75 (Or.inr (slot_ne (Or.inl (hw _ (List.mem_of_getElem? (i := 13) rfl))) (Or.inl (hw _ (List.mem_of_getElem? (i := 11) rfl))) (by decide) (t := .int) (t' := .long) (by decide) (by decide))))
      have F77_2 : Fld Z h75 a1 "com/example/hasselt/hasselt/sockets/Termination" "wave" "I" (.int q2) := (F33_2.other W75 (Or.inr (slot_ne (Or.inl (hw _ (List.mem_of_getElem? (i := 20) rfl))) (Or.inl (hw _ (List.mem_of_getElem? (i := 11) rfl))) (by decide) (t := .int) (t' := .long) (by decide) (by decide))))
      have F77_3 : Fld Z h75 a1 "com/example/hasselt/hasselt/sockets/Termination" "reports" "I" (.int (q3 + (1 : Int32))) := (F33_3.other W75 (Or.inr (slot_ne (Or.inl (hw _ (List.mem_of_getElem? (i := 22) rfl))) (Or.inl (hw _ (List.mem_of_getElem? (i := 11) rfl))) (by decide) (t := .int) (t' := .long) (by decide) (by decide))))
      have F77_4 : Fld Z h75 a1 "com/example/hasselt/hasselt/sockets/Termination" "sent" "J" (.long (q4 + p2)) := (F33_4.other W75 (Or.inr (slot_ne (Or.inl (hw _ (List.mem_of_getElem? (i := 24) rfl))) (Or.inl (hw _ (List.mem_of_getElem? (i := 11) rfl))) (by decide) (t := .long) (t' := .long) (by decide) (by decide))))
      have F77_5 : Fld Z h75 a1 "com/example/hasselt/hasselt/sockets/Termination" "received" "J" (.long (q5 + p3)) := (F33_5.other W75 (Or.inr (slot_ne (Or.inl (hw _ (List.mem_of_getElem? (i := 26) rfl))) (Or.inl (hw _ (List.mem_of_getElem? (i := 11) rfl))) (by decide) (t := .long) (t' := .long) (by decide) (by decide))))
      have E77_0 : Exa Z h75 a1 "com/example/hasselt/hasselt/sockets/Termination" := (E33_0.wr W75)
      have S77_0 : Sta Z h75 "com/example/hasselt/hasselt/sockets/Termination$Outcome" "INCOMPLETE" "Lcom/example/hasselt/hasselt/sockets/Termination$Outcome;" (.ref oi) := (S33_0.wr W75)
      have S77_1 : Sta Z h75 "com/example/hasselt/hasselt/sockets/Termination$Outcome" "RESTS" "Lcom/example/hasselt/hasselt/sockets/Termination$Outcome;" (.ref ors) := (S33_1.wr W75)
      have S77_2 : Sta Z h75 "com/example/hasselt/hasselt/sockets/Termination$Outcome" "QUIET" "Lcom/example/hasselt/hasselt/sockets/Termination$Outcome;" (.ref oq) := (S33_2.wr W75)
      have S77_3 : Sta Z h75 "com/example/hasselt/hasselt/sockets/Termination$Outcome" "BUSY" "Lcom/example/hasselt/hasselt/sockets/Termination$Outcome;" (.ref ob) := (S33_3.wr W75)
      have K77 : Keep h0 h75 [a1] := (K33.wr W75 (Or.inl (List.mem_of_getElem? (i := 0) rfl)))
      have Z77 : n0 ≤ h75.size := (Nat.le_trans Z33 (Nat.le_of_eq W75.size.symm))
      have pre78 : ∀ t, Steps p.tables e below (T75.setTop (mkF m 124 #[.val (.ref a1), .val (.int p1), .val (.long p2), .second, .val (.long p3), .second, .val (.ref oq)] [(.ref oq)])) t → Steps p.tables e below (s₁.setTop (entryFrame m #[(.ref a1), (.int p1), (.long p2), (.long p3)] 7)) t := by
        intro t k
        refine pre76 t ?_
        refine XS.aload X75.here hx rfl (hb hby d5_122) rfl rfl ?_
        show Steps p.tables e below (T75.setTop (mkF m 124 #[.val (.ref a1), .val (.int p1), .val (.long p2), .second, .val (.long p3), .second, .val (.ref oq)] [(.ref oq)])) _
        exact k
      obtain ⟨fs, hr, hrun, hended, hW, hsame⟩ := X75.leave (v := some (.ref oq)) (fun h => by rw [Bd.returns] at h; cases h)
      refine ⟨_, _, pre78 _ ?_, hrun, hended, _, _, rfl, ?_, ⟨_, rfl⟩, hW, hsame.mono (by decide) (by decide)⟩
      · exact retOut X75 hx Bd.returns rfl (Or.inr (Or.inr (Or.inr (Or.inr ⟨rfl, rfl, rfl⟩)))) (hb hby d5_124) hr
      · show Q5f Z a1 p1 p2 p3 q0 q1 q2 q3 q4 q5 oi ors oq ob h0 n0 _ T75.heap _
        rw [e75]
        exact ⟨(by rw [own_out, if_neg hs1, if_pos hs2]), N75, K77, F77_0, F77_1, F77_2, F77_3, F77_4, F77_5⟩
    · skip
      have pre81 : ∀ t, Steps p.tables e below (T64.setTop (mkF m 109 #[.val (.ref a1), .val (.int p1), .val (.long p2), .second, .val (.long p3), .second, .unset] [])) t → Steps p.tables e below (s₁.setTop (entryFrame m #[(.ref a1), (.int p1), (.long p2), (.long p3)] 7)) t := by
        intro t k
        refine pre66 t ?_
        refine XS.ifYes X64.here hx rfl (pc0 := 98) (pc' := 109) rfl (hb hby d5_98) rfl (XT.ll_ne_t hs2) (by decide) (by decide) ?_
        show Steps p.tables e below (T64.setTop (mkF m 109 #[.val (.ref a1), .val (.int p1), .val (.long p2), .second, .val (.long p3), .second, .unset] [])) _
        exact k
      obtain ⟨T82, X82, e82, st82⟩ := getS (host := "") X64 hx hZ hown (hw _ (List.mem_of_getElem? (i := 37) rfl)) Via.refl e64 S33_3 (g := (mkF m 109 #[.val (.ref a1), .val (.int p1), .val (.long p2), .second, .val (.long p3), .second, .unset] [])) rfl (hb hby d5_109)
      have pre83 : ∀ t, Steps p.tables e below (T82.setTop (mkF m 112 #[.val (.ref a1), .val (.int p1), .val (.long p2), .second, .val (.long p3), .second, .unset] [(.ref ob)])) t → Steps p.tables e below (s₁.setTop (entryFrame m #[(.ref a1), (.int p1), (.long p2), (.long p3)] 7)) t := fun t k => pre81 t (st82 t k)
      have pre84 : ∀ t, Steps p.tables e below (T82.setTop (mkF m 116 #[.val (.ref a1), .val (.int p1), .val (.long p2), .second, .val (.long p3), .second, .val (.ref ob)] [(.ref a1), (.ref a1)])) t → Steps p.tables e below (s₁.setTop (entryFrame m #[(.ref a1), (.int p1), (.long p2), (.long p3)] 7)) t := by
        intro t k
        refine pre83 t ?_
        refine XS.astore X82.here hx rfl (hb hby d5_112) rfl rfl (l' := #[.val (.ref a1), .val (.int p1), .val (.long p2), .second, .val (.long p3), .second, .val (.ref ob)]) rfl ?_
        show Steps p.tables e below (T82.setTop (mkF m 114 #[.val (.ref a1), .val (.int p1), .val (.long p2), .second, .val (.long p3), .second, .val (.ref ob)] [])) _
        refine XS.aloadN X82.here hx rfl (hb hby d5_114) rfl rfl ?_
        show Steps p.tables e below (T82.setTop (mkF m 115 #[.val (.ref a1), .val (.int p1), .val (.long p2), .second, .val (.long p3), .second, .val (.ref ob)] [(.ref a1)])) _
        refine XS.aloadN X82.here hx rfl (hb hby d5_115) rfl rfl ?_
        show Steps p.tables e below (T82.setTop (mkF m 116 #[.val (.ref a1), .val (.int p1), .val (.long p2), .second, .val (.long p3), .second, .val (.ref ob)] [(.ref a1), (.ref a1)])) _
        exact k
      obtain ⟨T85, X85, e85, st85⟩ := getF X82 hx hZ hown (host := "") (Or.inl (hw _ (List.mem_of_getElem? (i := 25) rfl))) Via.refl e82 F33_5 (g := (mkF m 116 #[.val (.ref a1), .val (.int p1), .val (.long p2), .second, .val (.long p3), .second, .val (.ref ob)] [(.ref a1), (.ref a1)])) rfl rfl (hb hby d5_116)
      have pre86 : ∀ t, Steps p.tables e below (T85.setTop (mkF m 119 #[.val (.ref a1), .val (.int p1), .val (.long p2), .second, .val (.long p3), .second, .val (.ref ob)] [(.long (q5 + p3)), (.ref a1)])) t → Steps p.tables e below (s₁.setTop (entryFrame m #[(.ref a1), (.int p1), (.long p2), (.long p3)] 7)) t := fun t k => pre84 t (st85 t k)
      obtain ⟨T88, h88, X88, e88, W88, st88⟩ := putF X85 hx hZ hown (host := "") (Or.inl (hw _ (List.mem_of_getElem? (i := 10) rfl))) Via.refl e85 F33_0 E33_0 (Or.inl (hw _ (List.mem_of_getElem? (i := 11) rfl))) (hw _ (List.mem_of_getElem? (i := 1) rfl)) (ty := .long) (by decide) rfl rfl (g := (mkF m 119 #[.val (.ref a1), .val (.int p1), .val (.long p2), .second, .val (.long p3), .second, .val (.ref ob)] [(.long (q5 + p3)), (.ref a1)])) rfl rfl (hb hby d5_119)
      have N88 := Fr.snoc X88 N31 ga1
      have pre89 : ∀ t, Steps p.tables e below (T88.setTop (mkF m 122 #[.val (.ref a1), .val (.int p1), .val (.long p2), .second, .val (.long p3), .second, .val (.ref ob)] [])) t → Steps p.tables e below (s₁.setTop (entryFrame m #[(.ref a1), (.int p1), (.long p2), (.long p3)] 7)) t := fun t k => pre86 t (st88 t k)
      have F90_0 : Fld Z h88 a1 "com/example/hasselt/hasselt/sockets/Termination" "earlierReceived" "J" (.long (q5 + p3)) := (F33_0.same W88)
      have F90_1 : Fld Z h88 a1 "com/example/hasselt/hasselt/sockets/Termination" "nodes" "I" (.int q1) := (F33_1.other W88 (Or.inr (slot_ne (Or.inl (hw _ (List.mem_of_getElem? (i := 13) rfl))) (Or.inl (hw _ (List.mem_of_getElem? (i := 11) rfl))) (by decide) (t := .int) (t' := .long) (by decide) (by decide))))
      have F90_2 : Fld Z h88 a1 "com/example/hasselt/hasselt/sockets/Termination" "wave" "I" (.int q2) := (F33_2.other W88 (Or.inr (slot_ne (Or.inl (hw _ (List.mem_of_getElem? (i := 20) rfl))) (Or.inl (hw _ (List.mem_of_getElem? (i := 11) rfl))) (by decide) (t := .int) (t' := .long) (by decide) (by decide))))
      have F90_3 : Fld Z h88 a1 "com/example/hasselt/hasselt/sockets/Termination" "reports" "I" (.int (q3 + (1 : Int32))) := (F33_3.other W88 (Or.inr (slot_ne (Or.inl (hw _ (List.mem_of_getElem? (i := 22) rfl))) (Or.inl (hw _ (List.mem_of_getElem? (i := 11) rfl))) (by decide) (t := .int) (t' := .long) (by decide) (by decide))))
      have F90_4 : Fld Z h88 a1 "com/example/hasselt/hasselt/sockets/Termination" "sent" "J" (.long (q4 + p2)) := (F33_4.other W88 (Or.inr (slot_ne (Or.inl (hw _ (List.mem_of_getElem? (i := 24) rfl))) (Or.inl (hw _ (List.mem_of_getElem? (i := 11) rfl))) (by decide) (t := .long) (t' := .long) (by decide) (by decide))))
      have F90_5 : Fld Z h88 a1 "com/example/hasselt/hasselt/sockets/Termination" "received" "J" (.long (q5 + p3)) := (F33_5.other W88 (Or.inr (slot_ne (Or.inl (hw _ (List.mem_of_getElem? (i := 26) rfl))) (Or.inl (hw _ (List.mem_of_getElem? (i := 11) rfl))) (by decide) (t := .long) (t' := .long) (by decide) (by decide))))
      have E90_0 : Exa Z h88 a1 "com/example/hasselt/hasselt/sockets/Termination" := (E33_0.wr W88)
      have S90_0 : Sta Z h88 "com/example/hasselt/hasselt/sockets/Termination$Outcome" "INCOMPLETE" "Lcom/example/hasselt/hasselt/sockets/Termination$Outcome;" (.ref oi) := (S33_0.wr W88)
      have S90_1 : Sta Z h88 "com/example/hasselt/hasselt/sockets/Termination$Outcome" "RESTS" "Lcom/example/hasselt/hasselt/sockets/Termination$Outcome;" (.ref ors) := (S33_1.wr W88)
      have S90_2 : Sta Z h88 "com/example/hasselt/hasselt/sockets/Termination$Outcome" "QUIET" "Lcom/example/hasselt/hasselt/sockets/Termination$Outcome;" (.ref oq) := (S33_2.wr W88)
      have S90_3 : Sta Z h88 "com/example/hasselt/hasselt/sockets/Termination$Outcome" "BUSY" "Lcom/example/hasselt/hasselt/sockets/Termination$Outcome;" (.ref ob) := (S33_3.wr W88)
      have K90 : Keep h0 h88 [a1] := (K33.wr W88 (Or.inl (List.mem_of_getElem? (i := 0) rfl)))
      have Z90 : n0 ≤ h88.size := (Nat.le_trans Z33 (Nat.le_of_eq W88.size.symm))
      have pre91 : ∀ t, Steps p.tables e below (T88.setTop (mkF m 124 #[.val (.ref a1), .val (.int p1), .val (.long p2), .second, .val (.long p3), .second, .val (.ref ob)] [(.ref ob)])) t → Steps p.tables e below (s₁.setTop (entryFrame m #[(.ref a1), (.int p1), (.long p2), (.long p3)] 7)) t := by
        intro t k
        refine pre89 t ?_
        refine XS.aload X88.here hx rfl (hb hby d5_122) rfl rfl ?_
        show Steps p.tables e below (T88.setTop (mkF m 124 #[.val (.ref a1), .val (.int p1), .val (.long p2), .second, .val (.long p3), .second, .val (.ref ob)] [(.ref ob)])) _
        exact k
      obtain ⟨fs, hr, hrun, hended, hW, hsame⟩ := X88.leave (v := some (.ref ob)) (fun h => by rw [Bd.returns] at h; cases h)
      refine ⟨_, _, pre91 _ ?_, hrun, hended, _, _, rfl, ?_, ⟨_, rfl⟩, hW, hsame.mono (by decide) (by decide)⟩
      · exact retOut X88 hx Bd.returns rfl (Or.inr (Or.inr (Or.inr (Or.inr ⟨rfl, rfl, rfl⟩)))) (hb hby d5_124) hr
      · show Q5f Z a1 p1 p2 p3 q0 q1 q2 q3 q4 q5 oi ors oq ob h0 n0 _ T88.heap _
        rw [e88]
        exact ⟨(by rw [own_out, if_neg hs1, if_neg hs2]), N88, K90, F90_0, F90_1, F90_2, F90_3, F90_4, F90_5⟩
theorem pd_ini : parseMethodDescriptor "(I)V" = some ⟨[.int], none⟩ := by decide +kernel
theorem pd_i : parseMethodDescriptor "()I" = some ⟨[], some .int⟩ := by decide +kernel
theorem pd_rep : parseMethodDescriptor "(IJJ)Lcom/example/hasselt/hasselt/sockets/Termination$Outcome;" = some ⟨[.int, .long, .long], some (.object "com/example/hasselt/hasselt/sockets/Termination$Outcome")⟩ := by decide +kernel
theorem pd_exp : parseMethodDescriptor "(JJJ)Lcom/example/hasselt/hasselt/sockets/Termination$Outcome;" = some ⟨[.long, .long, .long], some (.object "com/example/hasselt/hasselt/sockets/Termination$Outcome")⟩ := by decide +kernel
theorem pn_law : plainName "com/example/hasselt/hasselt/sockets/TerminationStartPinLaw" = true := by first | (simp [plainName, overriddenIn]; done) | decide +kernel
theorem ef_law (m : MethodId) (md : Int32) (s1 : Int64) (r1 : Int64) (s2 : Int64) (r2 : Int64) (s3 : Int64) : entryFrame m #[(.int md), (.long s1), (.long r1), (.long s2), (.long r2), (.long s3)] maxLocals = mkF m 0 #[.val (.int md), .val (.long s1), .second, .val (.long r1), .second, .val (.long s2), .second, .val (.long r2), .second, .val (.long s3), .second, .unset, .unset, .unset, .unset, .unset, .unset, .unset, .unset] [] := by first | (simp [entryFrame, mkF, argsToLocals, Value.category, maxLocals]; done) | rfl
def Qlaw (Z : State) (md : Int32) (s1 : Int64) (r1 : Int64) (s2 : Int64) (r2 : Int64) (s3 : Int64) (oi : Addr) (ors : Addr) (oq : Addr) (ob : Addr) (h0 : Heap) (n0 : Nat) (v : Option Value) (h : Heap) (L : List Loc) : Prop := v = some (.int (1 : Int32)) ∧ Fr n0 L
set_option maxRecDepth 65536 in
set_option maxHeartbeats 40000000 in
theorem rmlaw (l : Launch) (Z : State) (a0 : Array Value) (hw : ∀ d ∈ tables_1, d.before a0 Z = true) (ws : List Jvm.Cond) (md : Int32) (s1 : Int64) (r1 : Int64) (s2 : Int64) (r2 : Int64) (s3 : Int64) (oi : Addr) (ors : Addr) (oq : Addr) (ob : Addr) (h0 : Heap) (n0 : Nat) (Z0 : n0 ≤ h0.size) (OL : Old Z n0 h0) (SINCOMPLETE : Sta Z Z.heap "com/example/hasselt/hasselt/sockets/Termination$Outcome" "INCOMPLETE" "Lcom/example/hasselt/hasselt/sockets/Termination$Outcome;" (.ref oi)) (SRESTS : Sta Z Z.heap "com/example/hasselt/hasselt/sockets/Termination$Outcome" "RESTS" "Lcom/example/hasselt/hasselt/sockets/Termination$Outcome;" (.ref ors)) (SQUIET : Sta Z Z.heap "com/example/hasselt/hasselt/sockets/Termination$Outcome" "QUIET" "Lcom/example/hasselt/hasselt/sockets/Termination$Outcome;" (.ref oq)) (SBUSY : Sta Z Z.heap "com/example/hasselt/hasselt/sockets/Termination$Outcome" "BUSY" "Lcom/example/hasselt/hasselt/sockets/Termination$Outcome;" (.ref ob)) :
    MetFree l x (head1 (Jvm.Cond.code x code maxLocals ret :: ws) room_1) (fun a U => a = #[(.int md), (.long s1), (.long r1), (.long s2), (.long r2), (.long s3)] ∧ Z.Warmed39 U.vm ∧ U.heap = h0) (fun _ _ _ _ _ => True) (fun _ U o U' => ∃ v L, o = .returned v ∧ Qlaw Z md s1 r1 s2 r2 s3 oi ors oq ob h0 n0 v U'.heap L ∧ FrameEnd U o U' L room_1.cells room_1.slots) := by
  refine MetFree.of_bodySF (plainFor_of_name pn_law) hisR ?_
  intro p e s m args below meth c s₁ Bd hml0 hP hK
  obtain ⟨rfl, hZ, hh⟩ := hP
  have hx := Bd.exec
  have hby := Bd.bytes
  have hml : c.maxLocals = 19 := hml0
  have hown : s.vm.findClass "com/example/hasselt/hasselt/sockets/TerminationStartPinLaw" = some m.cls := findClass_of_methodNamed Bd.named
  have hnm := (name_of_methodNamed Bd.named Bd.method).1
  have X0 : Stand p l e room_1 s m #[(.int md), (.long s1), (.long r1), (.long s2), (.long r2), (.long s3)] below meth c s₁ [] 0 0 := Stand.of_body Bd
  have e0 : s₁.heap = h0 := by rw [← hh, Bd.state]; rfl
  have N0 := Fr.nil n0
  have pre0 : ∀ t, Steps p.tables e below (s₁.setTop (mkF m 0 #[.val (.int md), .val (.long s1), .second, .val (.long r1), .second, .val (.long s2), .second, .val (.long r2), .second, .val (.long s3), .second, .unset, .unset, .unset, .unset, .unset, .unset, .unset, .unset] [])) t → Steps p.tables e below (s₁.setTop (entryFrame m #[(.int md), (.long s1), (.long r1), (.long s2), (.long r2), (.long s3)] maxLocals)) t := fun t k => castTop (ef_law m md s1 r1 s2 r2 s3) k
  have pre1 : ∀ t, Steps p.tables e below (s₁.setTop (mkF m 7 #[.val (.int md), .val (.long s1), .second, .val (.long r1), .second, .val (.long s2), .second, .val (.long r2), .second, .val (.long s3), .second, .val (.int ((1 : Int32) + (md &&& (1 : Int32)))), .unset, .unset, .unset, .unset, .unset, .unset, .unset] [])) t → Steps p.tables e below (s₁.setTop (entryFrame m #[(.int md), (.long s1), (.long r1), (.long s2), (.long r2), (.long s3)] maxLocals)) t := by
    intro t k
    refine pre0 t ?_
    refine XS.iconst X0.here hx rfl (hb hby at_0) ?_
    show Steps p.tables e below (s₁.setTop (mkF m 1 #[.val (.int md), .val (.long s1), .second, .val (.long r1), .second, .val (.long s2), .second, .val (.long r2), .second, .val (.long s3), .second, .unset, .unset, .unset, .unset, .unset, .unset, .unset, .unset] [(.int (1 : Int32))])) _
    refine XS.iloadN X0.here hx rfl (hb hby at_1) rfl ?_
    show Steps p.tables e below (s₁.setTop (mkF m 2 #[.val (.int md), .val (.long s1), .second, .val (.long r1), .second, .val (.long s2), .second, .val (.long r2), .second, .val (.long s3), .second, .unset, .unset, .unset, .unset, .unset, .unset, .unset, .unset] [(.int md), (.int (1 : Int32))])) _
    refine XS.iconst X0.here hx rfl (hb hby at_2) ?_
    show Steps p.tables e below (s₁.setTop (mkF m 3 #[.val (.int md), .val (.long s1), .second, .val (.long r1), .second, .val (.long s2), .second, .val (.long r2), .second, .val (.long s3), .second, .unset, .unset, .unset, .unset, .unset, .unset, .unset, .unset] [(.int (1 : Int32)), (.int md), (.int (1 : Int32))])) _
    refine XS.iand X0.here hx rfl (hb hby at_3) rfl ?_
    show Steps p.tables e below (s₁.setTop (mkF m 4 #[.val (.int md), .val (.long s1), .second, .val (.long r1), .second, .val (.long s2), .second, .val (.long r2), .second, .val (.long s3), .second, .unset, .unset, .unset, .unset, .unset, .unset, .unset, .unset] [(.int (md &&& (1 : Int32))), (.int (1 : Int32))])) _
    refine XS.iadd X0.here hx rfl (hb hby at_4) rfl ?_
    show Steps p.tables e below (s₁.setTop (mkF m 5 #[.val (.int md), .val (.long s1), .second, .val (.long r1), .second, .val (.long s2), .second, .val (.long r2), .second, .val (.long s3), .second, .unset, .unset, .unset, .unset, .unset, .unset, .unset, .unset] [(.int ((1 : Int32) + (md &&& (1 : Int32))))])) _
    refine XS.istore X0.here hx rfl (hb hby at_5) rfl (l' := #[.val (.int md), .val (.long s1), .second, .val (.long r1), .second, .val (.long s2), .second, .val (.long r2), .second, .val (.long s3), .second, .val (.int ((1 : Int32) + (md &&& (1 : Int32)))), .unset, .unset, .unset, .unset, .unset, .unset, .unset]) rfl ?_
    show Steps p.tables e below (s₁.setTop (mkF m 7 #[.val (.int md), .val (.long s1), .second, .val (.long r1), .second, .val (.long s2), .second, .val (.long r2), .second, .val (.long s3), .second, .val (.int ((1 : Int32) + (md &&& (1 : Int32)))), .unset, .unset, .unset, .unset, .unset, .unset, .unset] [])) _
    exact k
  obtain ⟨nn, hn_nn, pre2⟩ : ∃ nn : Int32, nn = ((1 : Int32) + (md &&& (1 : Int32))) ∧ ∀ t, Steps p.tables e below (s₁.setTop (mkF m 7 #[.val (.int md), .val (.long s1), .second, .val (.long r1), .second, .val (.long s2), .second, .val (.long r2), .second, .val (.long s3), .second, .val (.int nn), .unset, .unset, .unset, .unset, .unset, .unset, .unset] [])) t → Steps p.tables e below (s₁.setTop (entryFrame m #[(.int md), (.long s1), (.long r1), (.long s2), (.long r2), (.long s3)] maxLocals)) t := ⟨_, rfl, pre1⟩
  rcases own_nn hn_nn with hq | hq
  · subst hq
    obtain ⟨T4, h4, X4, e4, E4, A4, D4, -, st4⟩ := newO X0 hx hZ hown (hw _ (List.mem_of_getElem? (i := 0) rfl)) (hw _ (List.mem_of_getElem? (i := 1) rfl)) (hw _ (List.mem_of_getElem? (i := 2) rfl)) e0 (g := (mkF m 7 #[.val (.int md), .val (.long s1), .second, .val (.long r1), .second, .val (.long s2), .second, .val (.long r2), .second, .val (.long s3), .second, .val (.int (1 : Int32)), .unset, .unset, .unset, .unset, .unset, .unset, .unset] [])) rfl (hb hby at_7) (by decide) (by decide)
    obtain ⟨a1, gz4⟩ : ∃ z, z = h0.size := ⟨_, rfl⟩
    rw [← gz4] at A4 D4 st4
    have g_a1 : n0 ≤ a1 := Nat.le_trans Z0 (Nat.le_of_eq gz4.symm)
    have F_earlierReceived_a1 : Fld Z h4 a1 "com/example/hasselt/hasselt/sockets/Termination" "earlierReceived" "J" (.long (0 : Int64)) := D4 (Or.inl (hw _ (List.mem_of_getElem? (i := 11) rfl))) (ty := .long) (by decide)
    have F_nodes_a1 : Fld Z h4 a1 "com/example/hasselt/hasselt/sockets/Termination" "nodes" "I" (.int (0 : Int32)) := D4 (Or.inl (hw _ (List.mem_of_getElem? (i := 13) rfl))) (ty := .int) (by decide)
    have F_wave_a1 : Fld Z h4 a1 "com/example/hasselt/hasselt/sockets/Termination" "wave" "I" (.int (0 : Int32)) := D4 (Or.inl (hw _ (List.mem_of_getElem? (i := 20) rfl))) (ty := .int) (by decide)
    have F_reports_a1 : Fld Z h4 a1 "com/example/hasselt/hasselt/sockets/Termination" "reports" "I" (.int (0 : Int32)) := D4 (Or.inl (hw _ (List.mem_of_getElem? (i := 22) rfl))) (ty := .int) (by decide)
    have F_sent_a1 : Fld Z h4 a1 "com/example/hasselt/hasselt/sockets/Termination" "sent" "J" (.long (0 : Int64)) := D4 (Or.inl (hw _ (List.mem_of_getElem? (i := 24) rfl))) (ty := .long) (by decide)
    have F_received_a1 : Fld Z h4 a1 "com/example/hasselt/hasselt/sockets/Termination" "received" "J" (.long (0 : Int64)) := D4 (Or.inl (hw _ (List.mem_of_getElem? (i := 26) rfl))) (ty := .long) (by decide)
    have pre5 : ∀ t, Steps p.tables e below (T4.setTop (mkF m 10 #[.val (.int md), .val (.long s1), .second, .val (.long r1), .second, .val (.long s2), .second, .val (.long r2), .second, .val (.long s3), .second, .val (.int (1 : Int32)), .unset, .unset, .unset, .unset, .unset, .unset, .unset] [(.ref a1)])) t → Steps p.tables e below (s₁.setTop (entryFrame m #[(.int md), (.long s1), (.long r1), (.long s2), (.long r2), (.long s3)] maxLocals)) t := fun t k => pre2 t (st4 t k)
    have Z6 : n0 ≤ h4.size := (Nat.le_trans Z0 E4.1)
    have O6 : Old Z n0 h4 := (OL.ext E4)
    have pre8 : ∀ t, Steps p.tables e below (T4.setTop (mkF m 13 #[.val (.int md), .val (.long s1), .second, .val (.long r1), .second, .val (.long s2), .second, .val (.long r2), .second, .val (.long s3), .second, .val (.int (1 : Int32)), .unset, .unset, .unset, .unset, .unset, .unset, .unset] [(.int (1 : Int32)), (.ref a1), (.ref a1)])) t → Steps p.tables e below (s₁.setTop (entryFrame m #[(.int md), (.long s1), (.long r1), (.long s2), (.long r2), (.long s3)] maxLocals)) t := by
      intro t k
      refine pre5 t ?_
      refine XS.dup X4.here hx rfl (hb hby at_10) rfl rfl ?_
      show Steps p.tables e below (T4.setTop (mkF m 11 #[.val (.int md), .val (.long s1), .second, .val (.long r1), .second, .val (.long s2), .second, .val (.long r2), .second, .val (.long s3), .second, .val (.int (1 : Int32)), .unset, .unset, .unset, .unset, .unset, .unset, .unset] [(.ref a1), (.ref a1)])) _
      refine XS.iload X4.here hx rfl (hb hby at_11) rfl ?_
      show Steps p.tables e below (T4.setTop (mkF m 13 #[.val (.int md), .val (.long s1), .second, .val (.long r1), .second, .val (.long s2), .second, .val (.long r2), .second, .val (.long s3), .second, .val (.int (1 : Int32)), .unset, .unset, .unset, .unset, .unset, .unset, .unset] [(.int (1 : Int32)), (.ref a1), (.ref a1)])) _
      exact k
    obtain ⟨_, _, ⟨T10, L10, k10, n10⟩, -, X10, ⟨Lc10, hQ10, l10, y10, z10⟩, st10⟩ := X4.specialBack hx (y := (⟨"com/example/hasselt/hasselt/sockets/Termination", "<init>", "(I)V"⟩ : MethodName)) rfl hown (mvT hZ (hw _ (List.mem_of_getElem? (i := 3) rfl))) (mvT hZ (hw _ (List.mem_of_getElem? (i := 4) rfl))) (mvT hZ (hw _ (List.mem_of_getElem? (i := 5) rfl))) (by decide) (backOf (W := 1) (rm1 l Z a0 hw [] a1 (1 : Int32) h4 n0 Z6 A4 g_a1  F_earlierReceived_a1 F_nodes_a1 F_wave_a1 F_reports_a1 F_sent_a1 F_received_a1) hZ (hw _ (List.mem_of_getElem? (i := 5) rfl)) (hw _ (List.mem_of_getElem? (i := 2) rfl)) (by decide) (by decide)) (g := (mkF m 13 #[.val (.int md), .val (.long s1), .second, .val (.long r1), .second, .val (.long s2), .second, .val (.long r2), .second, .val (.long s3), .second, .val (.int (1 : Int32)), .unset, .unset, .unset, .unset, .unset, .unset, .unset] [(.int (1 : Int32)), (.ref a1), (.ref a1)])) rfl (by rw [hml]; rfl) (Steps.refl _) (a := a1) (argsL := [(.int (1 : Int32))]) (rest := [(.ref a1)]) (lenOf pd_ini rfl) rfl (by show 2 * 0 + _ ≤ _; exact Nat.le_of_eq rfl) (hb hby at_13) (fun _ _ => ⟨rfl, e4, (by decide : 1 + 0 ≤ _), (by decide : 6 + 0 ≤ _)⟩)
    dsimp only [Pt.U, Pt.locs, Pt.cells, Pt.slots] at X10 l10 y10 z10 st10 hQ10
    subst l10 y10 z10
    obtain ⟨rfl, Nq10, Kq10, Fx0_10, Fx1_10, Fx2_10, Fx3_10, Fx4_10, Fx5_10⟩ := hQ10
    have N10 := Fr.app N0 Nq10
    have pre11 : ∀ t, Steps p.tables e below (T10.setTop (mkF m 16 #[.val (.int md), .val (.long s1), .second, .val (.long r1), .second, .val (.long s2), .second, .val (.long r2), .second, .val (.long s3), .second, .val (.int (1 : Int32)), .unset, .unset, .unset, .unset, .unset, .unset, .unset] [(.ref a1)])) t → Steps p.tables e below (s₁.setTop (entryFrame m #[(.int md), (.long s1), (.long r1), (.long s2), (.long r2), (.long s3)] maxLocals)) t := fun t k => pre8 t (st10.trans k)
    obtain ⟨h10, e10⟩ : ∃ z, T10.heap = z := ⟨_, rfl⟩
    rw [e10] at Kq10 Fx0_10 Fx1_10 Fx2_10 Fx3_10 Fx4_10 Fx5_10
    have E12_0 : Exa Z h10 a1 "com/example/hasselt/hasselt/sockets/Termination" := (A4.keep Kq10)
    have Z12 : n0 ≤ h10.size := (Nat.le_trans Z6 Kq10.1)
    have O12 : Old Z n0 h10 := (O6.keep Kq10 (allS (P := fun x => n0 ≤ x) g_a1 all0))
    have pre14 : ∀ t, Steps p.tables e below (T10.setTop (mkF m 20 #[.val (.int md), .val (.long s1), .second, .val (.long r1), .second, .val (.long s2), .second, .val (.long r2), .second, .val (.long s3), .second, .val (.int (1 : Int32)), .val (.ref a1), .unset, .unset, .unset, .unset, .unset, .unset] [(.ref a1)])) t → Steps p.tables e below (s₁.setTop (entryFrame m #[(.int md), (.long s1), (.long r1), (.long s2), (.long r2), (.long s3)] maxLocals)) t := by
      intro t k
      refine pre11 t ?_
      refine XS.astore X10.here hx rfl (hb hby at_16) rfl rfl (l' := #[.val (.int md), .val (.long s1), .second, .val (.long r1), .second, .val (.long s2), .second, .val (.long r2), .second, .val (.long s3), .second, .val (.int (1 : Int32)), .val (.ref a1), .unset, .unset, .unset, .unset, .unset, .unset]) rfl ?_
      show Steps p.tables e below (T10.setTop (mkF m 18 #[.val (.int md), .val (.long s1), .second, .val (.long r1), .second, .val (.long s2), .second, .val (.long r2), .second, .val (.long s3), .second, .val (.int (1 : Int32)), .val (.ref a1), .unset, .unset, .unset, .unset, .unset, .unset] [])) _
      refine XS.aload X10.here hx rfl (hb hby at_18) rfl rfl ?_
      show Steps p.tables e below (T10.setTop (mkF m 20 #[.val (.int md), .val (.long s1), .second, .val (.long r1), .second, .val (.long s2), .second, .val (.long r2), .second, .val (.long s3), .second, .val (.int (1 : Int32)), .val (.ref a1), .unset, .unset, .unset, .unset, .unset, .unset] [(.ref a1)])) _
      exact k
    obtain ⟨cq16, kq16, q16a, q16b, q16c⟩ := isOf hZ e10 E12_0
    obtain ⟨_, _, ⟨T16, L16, k16, n16⟩, -, X16, ⟨Lc16, hQ16, l16, y16, z16⟩, st16⟩ := X10.virtualBack hx (y := (⟨"com/example/hasselt/hasselt/sockets/Termination", "start", "()I"⟩ : MethodName)) (z := (⟨"com/example/hasselt/hasselt/sockets/Termination", "start", "()I"⟩ : MethodName)) hown (mvT hZ (hw _ (List.mem_of_getElem? (i := 14) rfl))) (mvT hZ (hw _ (List.mem_of_getElem? (i := 15) rfl))) (notFace_of_selects (args := #[]) (mvT hZ (hw _ (List.mem_of_getElem? (i := 17) rfl)))) (mvT hZ (hw _ (List.mem_of_getElem? (i := 17) rfl))) (mvT hZ (hw _ (List.mem_of_getElem? (i := 16) rfl))) (by decide) (backOf (W := 0) (rm3 l Z a0 hw [] a1 (-1 : Int64) (1 : Int32) (0 : Int32) (0 : Int32) (0 : Int64) (0 : Int64) h10 n0 Z12 E12_0 g_a1 Fx0_10 Fx1_10 Fx2_10 Fx3_10 Fx4_10 Fx5_10) hZ (hw _ (List.mem_of_getElem? (i := 18) rfl)) (hw _ (List.mem_of_getElem? (i := 2) rfl)) (by decide) (by decide)) q16a q16c (g := (mkF m 20 #[.val (.int md), .val (.long s1), .second, .val (.long r1), .second, .val (.long s2), .second, .val (.long r2), .second, .val (.long s3), .second, .val (.int (1 : Int32)), .val (.ref a1), .unset, .unset, .unset, .unset, .unset, .unset] [(.ref a1)])) rfl (by rw [hml]; rfl) (Steps.refl _) (argsL := []) (rest := []) (lenOf pd_i rfl) rfl (by show 2 * 0 + _ ≤ _; exact Nat.le_of_eq rfl) (hb hby at_20) (fun _ _ => ⟨rfl, e10, (by decide : 1 + 0 ≤ _), (by decide : 6 + 0 ≤ _)⟩)
    dsimp only [Pt.U, Pt.locs, Pt.cells, Pt.slots] at X16 l16 y16 z16 st16 hQ16
    subst l16 y16 z16
    obtain ⟨rfl, Nq16, Kq16, Fx0_16, Fx1_16, Fx2_16, Fx3_16, Fx4_16, Fx5_16⟩ := hQ16
    have N16 := Fr.app N10 Nq16
    have pre17 : ∀ t, Steps p.tables e below (T16.setTop (mkF m 23 #[.val (.int md), .val (.long s1), .second, .val (.long r1), .second, .val (.long s2), .second, .val (.long r2), .second, .val (.long s3), .second, .val (.int (1 : Int32)), .val (.ref a1), .unset, .unset, .unset, .unset, .unset, .unset] [(.int ((0 : Int32) + (1 : Int32)))])) t → Steps p.tables e below (s₁.setTop (entryFrame m #[(.int md), (.long s1), (.long r1), (.long s2), (.long r2), (.long s3)] maxLocals)) t := fun t k => pre14 t (st16.trans k)
    obtain ⟨h16, e16⟩ : ∃ z, T16.heap = z := ⟨_, rfl⟩
    rw [e16] at Kq16 Fx0_16 Fx1_16 Fx2_16 Fx3_16 Fx4_16 Fx5_16
    have E18_0 : Exa Z h16 a1 "com/example/hasselt/hasselt/sockets/Termination" := (E12_0.keep Kq16)
    have Z18 : n0 ≤ h16.size := (Nat.le_trans Z12 Kq16.1)
    have O18 : Old Z n0 h16 := (O12.keep Kq16 (allS (P := fun x => n0 ≤ x) g_a1 all0))
    have pre20 : ∀ t, Steps p.tables e below (T16.setTop (mkF m 33 #[.val (.int md), .val (.long s1), .second, .val (.long r1), .second, .val (.long s2), .second, .val (.long r2), .second, .val (.long s3), .second, .val (.int (1 : Int32)), .val (.ref a1), .val (.int ((0 : Int32) + (1 : Int32))), .unset, .unset, .unset, .unset, .unset] [(.ref a1)])) t → Steps p.tables e below (s₁.setTop (entryFrame m #[(.int md), (.long s1), (.long r1), (.long s2), (.long r2), (.long s3)] maxLocals)) t := by
      intro t k
      refine pre17 t ?_
      refine XS.istore X16.here hx rfl (hb hby at_23) rfl (l' := #[.val (.int md), .val (.long s1), .second, .val (.long r1), .second, .val (.long s2), .second, .val (.long r2), .second, .val (.long s3), .second, .val (.int (1 : Int32)), .val (.ref a1), .val (.int ((0 : Int32) + (1 : Int32))), .unset, .unset, .unset, .unset, .unset]) rfl ?_
      show Steps p.tables e below (T16.setTop (mkF m 25 #[.val (.int md), .val (.long s1), .second, .val (.long r1), .second, .val (.long s2), .second, .val (.long r2), .second, .val (.long s3), .second, .val (.int (1 : Int32)), .val (.ref a1), .val (.int ((0 : Int32) + (1 : Int32))), .unset, .unset, .unset, .unset, .unset] [])) _
      refine XS.iload X16.here hx rfl (hb hby at_25) rfl ?_
      show Steps p.tables e below (T16.setTop (mkF m 27 #[.val (.int md), .val (.long s1), .second, .val (.long r1), .second, .val (.long s2), .second, .val (.long r2), .second, .val (.long s3), .second, .val (.int (1 : Int32)), .val (.ref a1), .val (.int ((0 : Int32) + (1 : Int32))), .unset, .unset, .unset, .unset, .unset] [(.int ((0 : Int32) + (1 : Int32)))])) _
      refine XS.iconst X16.here hx rfl (hb hby at_27) ?_
      show Steps p.tables e below (T16.setTop (mkF m 28 #[.val (.int md), .val (.long s1), .second, .val (.long r1), .second, .val (.long s2), .second, .val (.long r2), .second, .val (.long s3), .second, .val (.int (1 : Int32)), .val (.ref a1), .val (.int ((0 : Int32) + (1 : Int32))), .unset, .unset, .unset, .unset, .unset] [(.int (1 : Int32)), (.int ((0 : Int32) + (1 : Int32)))])) _
      refine XS.icmpNo X16.here hx rfl (hb hby at_28) rfl (XT.ii_ne_f (by decide)) ?_
      show Steps p.tables e below (T16.setTop (mkF m 31 #[.val (.int md), .val (.long s1), .second, .val (.long r1), .second, .val (.long s2), .second, .val (.long r2), .second, .val (.long s3), .second, .val (.int (1 : Int32)), .val (.ref a1), .val (.int ((0 : Int32) + (1 : Int32))), .unset, .unset, .unset, .unset, .unset] [])) _
      refine XS.aload X16.here hx rfl (hb hby at_31) rfl rfl ?_
      show Steps p.tables e below (T16.setTop (mkF m 33 #[.val (.int md), .val (.long s1), .second, .val (.long r1), .second, .val (.long s2), .second, .val (.long r2), .second, .val (.long s3), .second, .val (.int (1 : Int32)), .val (.ref a1), .val (.int ((0 : Int32) + (1 : Int32))), .unset, .unset, .unset, .unset, .unset] [(.ref a1)])) _
      exact k
    obtain ⟨cq22, kq22, q22a, q22b, q22c⟩ := isOf hZ e16 E18_0
    obtain ⟨_, _, ⟨T22, L22, k22, n22⟩, -, X22, ⟨Lc22, hQ22, l22, y22, z22⟩, st22⟩ := X16.virtualBack hx (y := (⟨"com/example/hasselt/hasselt/sockets/Termination", "wave", "()I"⟩ : MethodName)) (z := (⟨"com/example/hasselt/hasselt/sockets/Termination", "wave", "()I"⟩ : MethodName)) hown (mvT hZ (hw _ (List.mem_of_getElem? (i := 27) rfl))) (mvT hZ (hw _ (List.mem_of_getElem? (i := 28) rfl))) (notFace_of_selects (args := #[]) (mvT hZ (hw _ (List.mem_of_getElem? (i := 30) rfl)))) (mvT hZ (hw _ (List.mem_of_getElem? (i := 30) rfl))) (mvT hZ (hw _ (List.mem_of_getElem? (i := 29) rfl))) (by decide) (backOf (W := 0) (rm4 l Z a0 hw [] a1 (-1 : Int64) (1 : Int32) ((0 : Int32) + (1 : Int32)) (0 : Int32) (0 : Int64) (0 : Int64) h16 n0 Z18 Fx0_16 Fx1_16 Fx2_16 Fx3_16 Fx4_16 Fx5_16) hZ (hw _ (List.mem_of_getElem? (i := 31) rfl)) (hw _ (List.mem_of_getElem? (i := 2) rfl)) (by decide) (by decide)) q22a q22c (g := (mkF m 33 #[.val (.int md), .val (.long s1), .second, .val (.long r1), .second, .val (.long s2), .second, .val (.long r2), .second, .val (.long s3), .second, .val (.int (1 : Int32)), .val (.ref a1), .val (.int ((0 : Int32) + (1 : Int32))), .unset, .unset, .unset, .unset, .unset] [(.ref a1)])) rfl (by rw [hml]; rfl) (Steps.refl _) (argsL := []) (rest := []) (lenOf pd_i rfl) rfl (by show 2 * 0 + _ ≤ _; exact Nat.le_of_eq rfl) (hb hby at_33) (fun _ _ => ⟨rfl, e16, (by decide : 1 + 0 ≤ _), (by decide : 6 + 0 ≤ _)⟩)
    dsimp only [Pt.U, Pt.locs, Pt.cells, Pt.slots] at X22 l22 y22 z22 st22 hQ22
    subst l22 y22 z22
    obtain ⟨rfl, Nq22, heq22⟩ := hQ22
    have N22 := Fr.app N16 Nq22
    have pre23 : ∀ t, Steps p.tables e below (T22.setTop (mkF m 36 #[.val (.int md), .val (.long s1), .second, .val (.long r1), .second, .val (.long s2), .second, .val (.long r2), .second, .val (.long s3), .second, .val (.int (1 : Int32)), .val (.ref a1), .val (.int ((0 : Int32) + (1 : Int32))), .unset, .unset, .unset, .unset, .unset] [(.int ((0 : Int32) + (1 : Int32)))])) t → Steps p.tables e below (s₁.setTop (entryFrame m #[(.int md), (.long s1), (.long r1), (.long s2), (.long r2), (.long s3)] maxLocals)) t := fun t k => pre20 t (st22.trans k)
    have pre25 : ∀ t, Steps p.tables e below (T22.setTop (mkF m 52 #[.val (.int md), .val (.long s1), .second, .val (.long r1), .second, .val (.long s2), .second, .val (.long r2), .second, .val (.long s3), .second, .val (.int (1 : Int32)), .val (.ref a1), .val (.int ((0 : Int32) + (1 : Int32))), .val (.int (1 : Int32)), .unset, .unset, .unset, .unset] [(.long r1), (.long s1), (.int (1 : Int32)), (.ref a1)])) t → Steps p.tables e below (s₁.setTop (entryFrame m #[(.int md), (.long s1), (.long r1), (.long s2), (.long r2), (.long s3)] maxLocals)) t := by
      intro t k
      refine pre23 t ?_
      refine XS.iconst X22.here hx rfl (hb hby at_36) ?_
      show Steps p.tables e below (T22.setTop (mkF m 37 #[.val (.int md), .val (.long s1), .second, .val (.long r1), .second, .val (.long s2), .second, .val (.long r2), .second, .val (.long s3), .second, .val (.int (1 : Int32)), .val (.ref a1), .val (.int ((0 : Int32) + (1 : Int32))), .unset, .unset, .unset, .unset, .unset] [(.int (1 : Int32)), (.int ((0 : Int32) + (1 : Int32)))])) _
      refine XS.icmpNo X22.here hx rfl (hb hby at_37) rfl (XT.ii_ne_f (by decide)) ?_
      show Steps p.tables e below (T22.setTop (mkF m 40 #[.val (.int md), .val (.long s1), .second, .val (.long r1), .second, .val (.long s2), .second, .val (.long r2), .second, .val (.long s3), .second, .val (.int (1 : Int32)), .val (.ref a1), .val (.int ((0 : Int32) + (1 : Int32))), .unset, .unset, .unset, .unset, .unset] [])) _
      refine XS.iconst X22.here hx rfl (hb hby at_40) ?_
      show Steps p.tables e below (T22.setTop (mkF m 41 #[.val (.int md), .val (.long s1), .second, .val (.long r1), .second, .val (.long s2), .second, .val (.long r2), .second, .val (.long s3), .second, .val (.int (1 : Int32)), .val (.ref a1), .val (.int ((0 : Int32) + (1 : Int32))), .unset, .unset, .unset, .unset, .unset] [(.int (1 : Int32))])) _
      refine XS.goto X22.here hx rfl (pc0 := 41) (pc' := 45) rfl (hb hby at_41) (by decide) (by decide) ?_
      show Steps p.tables e below (T22.setTop (mkF m 45 #[.val (.int md), .val (.long s1), .second, .val (.long r1), .second, .val (.long s2), .second, .val (.long r2), .second, .val (.long s3), .second, .val (.int (1 : Int32)), .val (.ref a1), .val (.int ((0 : Int32) + (1 : Int32))), .unset, .unset, .unset, .unset, .unset] [(.int (1 : Int32))])) _
      refine XS.istore X22.here hx rfl (hb hby at_45) rfl (l' := #[.val (.int md), .val (.long s1), .second, .val (.long r1), .second, .val (.long s2), .second, .val (.long r2), .second, .val (.long s3), .second, .val (.int (1 : Int32)), .val (.ref a1), .val (.int ((0 : Int32) + (1 : Int32))), .val (.int (1 : Int32)), .unset, .unset, .unset, .unset]) rfl ?_
      show Steps p.tables e below (T22.setTop (mkF m 47 #[.val (.int md), .val (.long s1), .second, .val (.long r1), .second, .val (.long s2), .second, .val (.long r2), .second, .val (.long s3), .second, .val (.int (1 : Int32)), .val (.ref a1), .val (.int ((0 : Int32) + (1 : Int32))), .val (.int (1 : Int32)), .unset, .unset, .unset, .unset] [])) _
      refine XS.aload X22.here hx rfl (hb hby at_47) rfl rfl ?_
      show Steps p.tables e below (T22.setTop (mkF m 49 #[.val (.int md), .val (.long s1), .second, .val (.long r1), .second, .val (.long s2), .second, .val (.long r2), .second, .val (.long s3), .second, .val (.int (1 : Int32)), .val (.ref a1), .val (.int ((0 : Int32) + (1 : Int32))), .val (.int (1 : Int32)), .unset, .unset, .unset, .unset] [(.ref a1)])) _
      refine XS.iconst X22.here hx rfl (hb hby at_49) ?_
      show Steps p.tables e below (T22.setTop (mkF m 50 #[.val (.int md), .val (.long s1), .second, .val (.long r1), .second, .val (.long s2), .second, .val (.long r2), .second, .val (.long s3), .second, .val (.int (1 : Int32)), .val (.ref a1), .val (.int ((0 : Int32) + (1 : Int32))), .val (.int (1 : Int32)), .unset, .unset, .unset, .unset] [(.int (1 : Int32)), (.ref a1)])) _
      refine XT.lloadN X22.here hx rfl (hb hby at_50) rfl ?_
      show Steps p.tables e below (T22.setTop (mkF m 51 #[.val (.int md), .val (.long s1), .second, .val (.long r1), .second, .val (.long s2), .second, .val (.long r2), .second, .val (.long s3), .second, .val (.int (1 : Int32)), .val (.ref a1), .val (.int ((0 : Int32) + (1 : Int32))), .val (.int (1 : Int32)), .unset, .unset, .unset, .unset] [(.long s1), (.int (1 : Int32)), (.ref a1)])) _
      refine XT.lloadN X22.here hx rfl (hb hby at_51) rfl ?_
      show Steps p.tables e below (T22.setTop (mkF m 52 #[.val (.int md), .val (.long s1), .second, .val (.long r1), .second, .val (.long s2), .second, .val (.long r2), .second, .val (.long s3), .second, .val (.int (1 : Int32)), .val (.ref a1), .val (.int ((0 : Int32) + (1 : Int32))), .val (.int (1 : Int32)), .unset, .unset, .unset, .unset] [(.long r1), (.long s1), (.int (1 : Int32)), (.ref a1)])) _
      exact k
    obtain ⟨cq27, kq27, q27a, q27b, q27c⟩ := isOf hZ heq22 E18_0
    obtain ⟨_, _, ⟨T27, L27, k27, n27⟩, -, X27, ⟨Lc27, hQ27, l27, y27, z27⟩, st27⟩ := X22.virtualBack hx (y := (⟨"com/example/hasselt/hasselt/sockets/Termination", "report", "(IJJ)Lcom/example/hasselt/hasselt/sockets/Termination$Outcome;"⟩ : MethodName)) (z := (⟨"com/example/hasselt/hasselt/sockets/Termination", "report", "(IJJ)Lcom/example/hasselt/hasselt/sockets/Termination$Outcome;"⟩ : MethodName)) hown (mvT hZ (hw _ (List.mem_of_getElem? (i := 32) rfl))) (mvT hZ (hw _ (List.mem_of_getElem? (i := 33) rfl))) (notFace_of_selects (args := #[]) (mvT hZ (hw _ (List.mem_of_getElem? (i := 35) rfl)))) (mvT hZ (hw _ (List.mem_of_getElem? (i := 35) rfl))) (mvT hZ (hw _ (List.mem_of_getElem? (i := 34) rfl))) (by decide) (backOf (W := 0) (rm5f l Z a0 hw [] a1 (1 : Int32) s1 r1 (-1 : Int64) (1 : Int32) ((0 : Int32) + (1 : Int32)) (0 : Int32) (0 : Int64) (0 : Int64) oi ors oq ob h16 n0 Z18 E18_0 g_a1 Fx0_16 Fx1_16 Fx2_16 Fx3_16 Fx4_16 Fx5_16 (SINCOMPLETE.ext O18.2) (SRESTS.ext O18.2) (SQUIET.ext O18.2) (SBUSY.ext O18.2) (by decide) (by decide) (by decide)) hZ (hw _ (List.mem_of_getElem? (i := 36) rfl)) (hw _ (List.mem_of_getElem? (i := 2) rfl)) (by decide) (by decide)) q27a q27c (g := (mkF m 52 #[.val (.int md), .val (.long s1), .second, .val (.long r1), .second, .val (.long s2), .second, .val (.long r2), .second, .val (.long s3), .second, .val (.int (1 : Int32)), .val (.ref a1), .val (.int ((0 : Int32) + (1 : Int32))), .val (.int (1 : Int32)), .unset, .unset, .unset, .unset] [(.long r1), (.long s1), (.int (1 : Int32)), (.ref a1)])) rfl (by rw [hml]; rfl) (Steps.refl _) (argsL := [(.int (1 : Int32)), (.long s1), (.long r1)]) (rest := []) (lenOf pd_rep rfl) rfl (by show 2 * 0 + _ ≤ _; exact Nat.le_of_eq rfl) (hb hby at_52) (fun _ _ => ⟨rfl, heq22, (by decide : 1 + 0 ≤ _), (by decide : 6 + 0 ≤ _)⟩)
    dsimp only [Pt.U, Pt.locs, Pt.cells, Pt.slots] at X27 l27 y27 z27 st27 hQ27
    subst l27 y27 z27
    obtain ⟨rfl, Nq27, Kq27, Fx0_27, Fx1_27, Fx2_27, Fx3_27, Fx4_27, Fx5_27⟩ := hQ27
    have N27 := Fr.app N22 Nq27
    have pre28 : ∀ t, Steps p.tables e below (T27.setTop (mkF m 55 #[.val (.int md), .val (.long s1), .second, .val (.long r1), .second, .val (.long s2), .second, .val (.long r2), .second, .val (.long s3), .second, .val (.int (1 : Int32)), .val (.ref a1), .val (.int ((0 : Int32) + (1 : Int32))), .val (.int (1 : Int32)), .unset, .unset, .unset, .unset] [(.ref (own_out (-1 : Int64) ((0 : Int64) + s1) ((0 : Int64) + r1) ors oq ob))])) t → Steps p.tables e below (s₁.setTop (entryFrame m #[(.int md), (.long s1), (.long r1), (.long s2), (.long r2), (.long s3)] maxLocals)) t := fun t k => pre25 t (st27.trans k)
    obtain ⟨h27, e27⟩ : ∃ z, T27.heap = z := ⟨_, rfl⟩
    rw [e27] at Kq27 Fx0_27 Fx1_27 Fx2_27 Fx3_27 Fx4_27 Fx5_27
    have E29_0 : Exa Z h27 a1 "com/example/hasselt/hasselt/sockets/Termination" := (E18_0.keep Kq27)
    have Z29 : n0 ≤ h27.size := (Nat.le_trans Z18 Kq27.1)
    have O29 : Old Z n0 h27 := (O18.keep Kq27 (allS (P := fun x => n0 ≤ x) g_a1 all0))
    have pre31 : ∀ t, Steps p.tables e below (T27.setTop (mkF m 75 #[.val (.int md), .val (.long s1), .second, .val (.long r1), .second, .val (.long s2), .second, .val (.long r2), .second, .val (.long s3), .second, .val (.int (1 : Int32)), .val (.ref a1), .val (.int ((0 : Int32) + (1 : Int32))), .val (.int (1 : Int32)), .val (.ref (own_out (-1 : Int64) ((0 : Int64) + s1) ((0 : Int64) + r1) ors oq ob)), .unset, .unset, .unset] [(.long r1), (.long s1), (.long (-1 : Int64)), (.ref (own_out (-1 : Int64) ((0 : Int64) + s1) ((0 : Int64) + r1) ors oq ob))])) t → Steps p.tables e below (s₁.setTop (entryFrame m #[(.int md), (.long s1), (.long r1), (.long s2), (.long r2), (.long s3)] maxLocals)) t := by
      intro t k
      refine pre28 t ?_
      refine XS.astore X27.here hx rfl (hb hby at_55) rfl rfl (l' := #[.val (.int md), .val (.long s1), .second, .val (.long r1), .second, .val (.long s2), .second, .val (.long r2), .second, .val (.long s3), .second, .val (.int (1 : Int32)), .val (.ref a1), .val (.int ((0 : Int32) + (1 : Int32))), .val (.int (1 : Int32)), .val (.ref (own_out (-1 : Int64) ((0 : Int64) + s1) ((0 : Int64) + r1) ors oq ob)), .unset, .unset, .unset]) rfl ?_
      show Steps p.tables e below (T27.setTop (mkF m 57 #[.val (.int md), .val (.long s1), .second, .val (.long r1), .second, .val (.long s2), .second, .val (.long r2), .second, .val (.long s3), .second, .val (.int (1 : Int32)), .val (.ref a1), .val (.int ((0 : Int32) + (1 : Int32))), .val (.int (1 : Int32)), .val (.ref (own_out (-1 : Int64) ((0 : Int64) + s1) ((0 : Int64) + r1) ors oq ob)), .unset, .unset, .unset] [])) _
      refine XS.iload X27.here hx rfl (hb hby at_57) rfl ?_
      show Steps p.tables e below (T27.setTop (mkF m 59 #[.val (.int md), .val (.long s1), .second, .val (.long r1), .second, .val (.long s2), .second, .val (.long r2), .second, .val (.long s3), .second, .val (.int (1 : Int32)), .val (.ref a1), .val (.int ((0 : Int32) + (1 : Int32))), .val (.int (1 : Int32)), .val (.ref (own_out (-1 : Int64) ((0 : Int64) + s1) ((0 : Int64) + r1) ors oq ob)), .unset, .unset, .unset] [(.int (1 : Int32))])) _
      refine XS.iconst X27.here hx rfl (hb hby at_59) ?_
      show Steps p.tables e below (T27.setTop (mkF m 60 #[.val (.int md), .val (.long s1), .second, .val (.long r1), .second, .val (.long s2), .second, .val (.long r2), .second, .val (.long s3), .second, .val (.int (1 : Int32)), .val (.ref a1), .val (.int ((0 : Int32) + (1 : Int32))), .val (.int (1 : Int32)), .val (.ref (own_out (-1 : Int64) ((0 : Int64) + s1) ((0 : Int64) + r1) ors oq ob)), .unset, .unset, .unset] [(.int (1 : Int32)), (.int (1 : Int32))])) _
      refine XS.icmpNo X27.here hx rfl (hb hby at_60) rfl (XT.ii_ne_f (by decide)) ?_
      show Steps p.tables e below (T27.setTop (mkF m 63 #[.val (.int md), .val (.long s1), .second, .val (.long r1), .second, .val (.long s2), .second, .val (.long r2), .second, .val (.long s3), .second, .val (.int (1 : Int32)), .val (.ref a1), .val (.int ((0 : Int32) + (1 : Int32))), .val (.int (1 : Int32)), .val (.ref (own_out (-1 : Int64) ((0 : Int64) + s1) ((0 : Int64) + r1) ors oq ob)), .unset, .unset, .unset] [])) _
      refine XS.iload X27.here hx rfl (hb hby at_63) rfl ?_
      show Steps p.tables e below (T27.setTop (mkF m 65 #[.val (.int md), .val (.long s1), .second, .val (.long r1), .second, .val (.long s2), .second, .val (.long r2), .second, .val (.long s3), .second, .val (.int (1 : Int32)), .val (.ref a1), .val (.int ((0 : Int32) + (1 : Int32))), .val (.int (1 : Int32)), .val (.ref (own_out (-1 : Int64) ((0 : Int64) + s1) ((0 : Int64) + r1) ors oq ob)), .unset, .unset, .unset] [(.int (1 : Int32))])) _
      refine XS.ifNo X27.here hx rfl (hb hby at_65) rfl (XT.i0_eq_f (by decide)) ?_
      show Steps p.tables e below (T27.setTop (mkF m 68 #[.val (.int md), .val (.long s1), .second, .val (.long r1), .second, .val (.long s2), .second, .val (.long r2), .second, .val (.long s3), .second, .val (.int (1 : Int32)), .val (.ref a1), .val (.int ((0 : Int32) + (1 : Int32))), .val (.int (1 : Int32)), .val (.ref (own_out (-1 : Int64) ((0 : Int64) + s1) ((0 : Int64) + r1) ors oq ob)), .unset, .unset, .unset] [])) _
      refine XS.aload X27.here hx rfl (hb hby at_68) rfl rfl ?_
      show Steps p.tables e below (T27.setTop (mkF m 70 #[.val (.int md), .val (.long s1), .second, .val (.long r1), .second, .val (.long s2), .second, .val (.long r2), .second, .val (.long s3), .second, .val (.int (1 : Int32)), .val (.ref a1), .val (.int ((0 : Int32) + (1 : Int32))), .val (.int (1 : Int32)), .val (.ref (own_out (-1 : Int64) ((0 : Int64) + s1) ((0 : Int64) + r1) ors oq ob)), .unset, .unset, .unset] [(.ref (own_out (-1 : Int64) ((0 : Int64) + s1) ((0 : Int64) + r1) ors oq ob))])) _
      refine Stand.ldc2J X27 hx hown (mvT hZ (hw _ (List.mem_of_getElem? (i := 40) rfl))) rfl (hb hby at_70) ?_
      show Steps p.tables e below (T27.setTop (mkF m 73 #[.val (.int md), .val (.long s1), .second, .val (.long r1), .second, .val (.long s2), .second, .val (.long r2), .second, .val (.long s3), .second, .val (.int (1 : Int32)), .val (.ref a1), .val (.int ((0 : Int32) + (1 : Int32))), .val (.int (1 : Int32)), .val (.ref (own_out (-1 : Int64) ((0 : Int64) + s1) ((0 : Int64) + r1) ors oq ob)), .unset, .unset, .unset] [(.long (-1 : Int64)), (.ref (own_out (-1 : Int64) ((0 : Int64) + s1) ((0 : Int64) + r1) ors oq ob))])) _
      refine XT.lloadN X27.here hx rfl (hb hby at_73) rfl ?_
      show Steps p.tables e below (T27.setTop (mkF m 74 #[.val (.int md), .val (.long s1), .second, .val (.long r1), .second, .val (.long s2), .second, .val (.long r2), .second, .val (.long s3), .second, .val (.int (1 : Int32)), .val (.ref a1), .val (.int ((0 : Int32) + (1 : Int32))), .val (.int (1 : Int32)), .val (.ref (own_out (-1 : Int64) ((0 : Int64) + s1) ((0 : Int64) + r1) ors oq ob)), .unset, .unset, .unset] [(.long s1), (.long (-1 : Int64)), (.ref (own_out (-1 : Int64) ((0 : Int64) + s1) ((0 : Int64) + r1) ors oq ob))])) _
      refine XT.lloadN X27.here hx rfl (hb hby at_74) rfl ?_
      show Steps p.tables e below (T27.setTop (mkF m 75 #[.val (.int md), .val (.long s1), .second, .val (.long r1), .second, .val (.long s2), .second, .val (.long r2), .second, .val (.long s3), .second, .val (.int (1 : Int32)), .val (.ref a1), .val (.int ((0 : Int32) + (1 : Int32))), .val (.int (1 : Int32)), .val (.ref (own_out (-1 : Int64) ((0 : Int64) + s1) ((0 : Int64) + r1) ors oq ob)), .unset, .unset, .unset] [(.long r1), (.long s1), (.long (-1 : Int64)), (.ref (own_out (-1 : Int64) ((0 : Int64) + s1) ((0 : Int64) + r1) ors oq ob))])) _
      exact k
    obtain ⟨_, _, ⟨T33, L33, k33, n33⟩, -, X33, ⟨Lc33, hQ33, l33, y33, z33⟩, st33⟩ := Jvm.LawKit.callS X27 hx (y := (⟨"com/example/hasselt/hasselt/sockets/TerminationStartPinLaw", "expect", "(JJJ)Lcom/example/hasselt/hasselt/sockets/Termination$Outcome;"⟩ : MethodName)) hown (mvT hZ (hw _ (List.mem_of_getElem? (i := 41) rfl))) (mvT hZ (hw _ (List.mem_of_getElem? (i := 42) rfl))) (mvT hZ (hw _ (List.mem_of_getElem? (i := 43) rfl))) (mvT hZ (hw _ (List.mem_of_getElem? (i := 44) rfl))) (by decide) (backOf (W := 1) (rm6 l Z a0 hw [] (-1 : Int64) s1 r1 oi ors oq ob h27 n0 Z29 (SINCOMPLETE.ext O29.2) (SRESTS.ext O29.2) (SQUIET.ext O29.2) (SBUSY.ext O29.2)) hZ (hw _ (List.mem_of_getElem? (i := 44) rfl)) (hw _ (List.mem_of_getElem? (i := 43) rfl)) (by decide) (by decide)) (g := (mkF m 75 #[.val (.int md), .val (.long s1), .second, .val (.long r1), .second, .val (.long s2), .second, .val (.long r2), .second, .val (.long s3), .second, .val (.int (1 : Int32)), .val (.ref a1), .val (.int ((0 : Int32) + (1 : Int32))), .val (.int (1 : Int32)), .val (.ref (own_out (-1 : Int64) ((0 : Int64) + s1) ((0 : Int64) + r1) ors oq ob)), .unset, .unset, .unset] [(.long r1), (.long s1), (.long (-1 : Int64)), (.ref (own_out (-1 : Int64) ((0 : Int64) + s1) ((0 : Int64) + r1) ors oq ob))])) rfl (by rw [hml]; rfl) (argsL := [(.long (-1 : Int64)), (.long s1), (.long r1)]) (rest := [(.ref (own_out (-1 : Int64) ((0 : Int64) + s1) ((0 : Int64) + r1) ors oq ob))]) (lenOf pd_exp rfl) rfl (by show 2 * 0 + _ ≤ _; exact Nat.le_of_eq rfl) (hb hby at_75) (fun _ _ => ⟨rfl, e27, (by decide : 1 + 0 ≤ _), (by decide : 6 + 0 ≤ _)⟩)
    dsimp only [Pt.U, Pt.locs, Pt.cells, Pt.slots] at X33 l33 y33 z33 st33 hQ33
    subst l33 y33 z33
    obtain ⟨rfl, Nq33, heq33⟩ := hQ33
    have N33 := Fr.app N27 Nq33
    have pre34 : ∀ t, Steps p.tables e below (T33.setTop (mkF m 78 #[.val (.int md), .val (.long s1), .second, .val (.long r1), .second, .val (.long s2), .second, .val (.long r2), .second, .val (.long s3), .second, .val (.int (1 : Int32)), .val (.ref a1), .val (.int ((0 : Int32) + (1 : Int32))), .val (.int (1 : Int32)), .val (.ref (own_out (-1 : Int64) ((0 : Int64) + s1) ((0 : Int64) + r1) ors oq ob)), .unset, .unset, .unset] [(.ref (own_out (-1 : Int64) s1 r1 ors oq ob)), (.ref (own_out (-1 : Int64) ((0 : Int64) + s1) ((0 : Int64) + r1) ors oq ob))])) t → Steps p.tables e below (s₁.setTop (entryFrame m #[(.int md), (.long s1), (.long r1), (.long s2), (.long r2), (.long s3)] maxLocals)) t := fun t k => pre31 t (st33 t k)
    have pre36 : ∀ t, Steps p.tables e below (T33.setTop (mkF m 113 #[.val (.int md), .val (.long s1), .second, .val (.long r1), .second, .val (.long s2), .second, .val (.long r2), .second, .val (.long s3), .second, .val (.int (1 : Int32)), .val (.ref a1), .val (.int ((0 : Int32) + (1 : Int32))), .val (.int (1 : Int32)), .val (.ref (own_out (-1 : Int64) ((0 : Int64) + s1) ((0 : Int64) + r1) ors oq ob)), .unset, .unset, .unset] [(.ref a1)])) t → Steps p.tables e below (s₁.setTop (entryFrame m #[(.int md), (.long s1), (.long r1), (.long s2), (.long r2), (.long s3)] maxLocals)) t := by
      intro t k
      refine pre34 t ?_
      refine XT.acmpNo X33.here hx rfl (hb hby at_78) rfl rfl rfl (XT.aa_ne_f (by simp only [Int64.zero_add])) ?_
      show Steps p.tables e below (T33.setTop (mkF m 81 #[.val (.int md), .val (.long s1), .second, .val (.long r1), .second, .val (.long s2), .second, .val (.long r2), .second, .val (.long s3), .second, .val (.int (1 : Int32)), .val (.ref a1), .val (.int ((0 : Int32) + (1 : Int32))), .val (.int (1 : Int32)), .val (.ref (own_out (-1 : Int64) ((0 : Int64) + s1) ((0 : Int64) + r1) ors oq ob)), .unset, .unset, .unset] [])) _
      refine XS.iconst X33.here hx rfl (hb hby at_81) ?_
      show Steps p.tables e below (T33.setTop (mkF m 82 #[.val (.int md), .val (.long s1), .second, .val (.long r1), .second, .val (.long s2), .second, .val (.long r2), .second, .val (.long s3), .second, .val (.int (1 : Int32)), .val (.ref a1), .val (.int ((0 : Int32) + (1 : Int32))), .val (.int (1 : Int32)), .val (.ref (own_out (-1 : Int64) ((0 : Int64) + s1) ((0 : Int64) + r1) ors oq ob)), .unset, .unset, .unset] [(.int (1 : Int32))])) _
      refine XS.goto X33.here hx rfl (pc0 := 82) (pc' := 86) rfl (hb hby at_82) (by decide) (by decide) ?_
      show Steps p.tables e below (T33.setTop (mkF m 86 #[.val (.int md), .val (.long s1), .second, .val (.long r1), .second, .val (.long s2), .second, .val (.long r2), .second, .val (.long s3), .second, .val (.int (1 : Int32)), .val (.ref a1), .val (.int ((0 : Int32) + (1 : Int32))), .val (.int (1 : Int32)), .val (.ref (own_out (-1 : Int64) ((0 : Int64) + s1) ((0 : Int64) + r1) ors oq ob)), .unset, .unset, .unset] [(.int (1 : Int32))])) _
      refine XS.istore X33.here hx rfl (hb hby at_86) rfl (l' := #[.val (.int md), .val (.long s1), .second, .val (.long r1), .second, .val (.long s2), .second, .val (.long r2), .second, .val (.long s3), .second, .val (.int (1 : Int32)), .val (.ref a1), .val (.int ((0 : Int32) + (1 : Int32))), .val (.int (1 : Int32)), .val (.ref (own_out (-1 : Int64) ((0 : Int64) + s1) ((0 : Int64) + r1) ors oq ob)), .unset, .unset, .unset]) rfl ?_
      show Steps p.tables e below (T33.setTop (mkF m 88 #[.val (.int md), .val (.long s1), .second, .val (.long r1), .second, .val (.long s2), .second, .val (.long r2), .second, .val (.long s3), .second, .val (.int (1 : Int32)), .val (.ref a1), .val (.int ((0 : Int32) + (1 : Int32))), .val (.int (1 : Int32)), .val (.ref (own_out (-1 : Int64) ((0 : Int64) + s1) ((0 : Int64) + r1) ors oq ob)), .unset, .unset, .unset] [])) _
      refine XS.goto X33.here hx rfl (pc0 := 88) (pc' := 111) rfl (hb hby at_88) (by decide) (by decide) ?_
      show Steps p.tables e below (T33.setTop (mkF m 111 #[.val (.int md), .val (.long s1), .second, .val (.long r1), .second, .val (.long s2), .second, .val (.long r2), .second, .val (.long s3), .second, .val (.int (1 : Int32)), .val (.ref a1), .val (.int ((0 : Int32) + (1 : Int32))), .val (.int (1 : Int32)), .val (.ref (own_out (-1 : Int64) ((0 : Int64) + s1) ((0 : Int64) + r1) ors oq ob)), .unset, .unset, .unset] [])) _
      refine XS.aload X33.here hx rfl (hb hby at_111) rfl rfl ?_
      show Steps p.tables e below (T33.setTop (mkF m 113 #[.val (.int md), .val (.long s1), .second, .val (.long r1), .second, .val (.long s2), .second, .val (.long r2), .second, .val (.long s3), .second, .val (.int (1 : Int32)), .val (.ref a1), .val (.int ((0 : Int32) + (1 : Int32))), .val (.int (1 : Int32)), .val (.ref (own_out (-1 : Int64) ((0 : Int64) + s1) ((0 : Int64) + r1) ors oq ob)), .unset, .unset, .unset] [(.ref a1)])) _
      exact k
    obtain ⟨cq38, kq38, q38a, q38b, q38c⟩ := isOf hZ heq33 E29_0
    obtain ⟨_, _, ⟨T38, L38, k38, n38⟩, -, X38, ⟨Lc38, hQ38, l38, y38, z38⟩, st38⟩ := X33.virtualBack hx (y := (⟨"com/example/hasselt/hasselt/sockets/Termination", "start", "()I"⟩ : MethodName)) (z := (⟨"com/example/hasselt/hasselt/sockets/Termination", "start", "()I"⟩ : MethodName)) hown (mvT hZ (hw _ (List.mem_of_getElem? (i := 14) rfl))) (mvT hZ (hw _ (List.mem_of_getElem? (i := 15) rfl))) (notFace_of_selects (args := #[]) (mvT hZ (hw _ (List.mem_of_getElem? (i := 17) rfl)))) (mvT hZ (hw _ (List.mem_of_getElem? (i := 17) rfl))) (mvT hZ (hw _ (List.mem_of_getElem? (i := 16) rfl))) (by decide) (backOf (W := 0) (rm3 l Z a0 hw [] a1 ((0 : Int64) + r1) (1 : Int32) ((0 : Int32) + (1 : Int32)) ((0 : Int32) + (1 : Int32)) ((0 : Int64) + s1) ((0 : Int64) + r1) h27 n0 Z29 E29_0 g_a1 Fx0_27 Fx1_27 Fx2_27 Fx3_27 Fx4_27 Fx5_27) hZ (hw _ (List.mem_of_getElem? (i := 18) rfl)) (hw _ (List.mem_of_getElem? (i := 2) rfl)) (by decide) (by decide)) q38a q38c (g := (mkF m 113 #[.val (.int md), .val (.long s1), .second, .val (.long r1), .second, .val (.long s2), .second, .val (.long r2), .second, .val (.long s3), .second, .val (.int (1 : Int32)), .val (.ref a1), .val (.int ((0 : Int32) + (1 : Int32))), .val (.int (1 : Int32)), .val (.ref (own_out (-1 : Int64) ((0 : Int64) + s1) ((0 : Int64) + r1) ors oq ob)), .unset, .unset, .unset] [(.ref a1)])) rfl (by rw [hml]; rfl) (Steps.refl _) (argsL := []) (rest := []) (lenOf pd_i rfl) rfl (by show 2 * 0 + _ ≤ _; exact Nat.le_of_eq rfl) (hb hby at_113) (fun _ _ => ⟨rfl, heq33, (by decide : 1 + 0 ≤ _), (by decide : 6 + 0 ≤ _)⟩)
    dsimp only [Pt.U, Pt.locs, Pt.cells, Pt.slots] at X38 l38 y38 z38 st38 hQ38
    subst l38 y38 z38
    obtain ⟨rfl, Nq38, Kq38, Fx0_38, Fx1_38, Fx2_38, Fx3_38, Fx4_38, Fx5_38⟩ := hQ38
    have N38 := Fr.app N33 Nq38
    have pre39 : ∀ t, Steps p.tables e below (T38.setTop (mkF m 116 #[.val (.int md), .val (.long s1), .second, .val (.long r1), .second, .val (.long s2), .second, .val (.long r2), .second, .val (.long s3), .second, .val (.int (1 : Int32)), .val (.ref a1), .val (.int ((0 : Int32) + (1 : Int32))), .val (.int (1 : Int32)), .val (.ref (own_out (-1 : Int64) ((0 : Int64) + s1) ((0 : Int64) + r1) ors oq ob)), .unset, .unset, .unset] [(.int (((0 : Int32) + (1 : Int32)) + (1 : Int32)))])) t → Steps p.tables e below (s₁.setTop (entryFrame m #[(.int md), (.long s1), (.long r1), (.long s2), (.long r2), (.long s3)] maxLocals)) t := fun t k => pre36 t (st38.trans k)
    obtain ⟨h38, e38⟩ : ∃ z, T38.heap = z := ⟨_, rfl⟩
    rw [e38] at Kq38 Fx0_38 Fx1_38 Fx2_38 Fx3_38 Fx4_38 Fx5_38
    have E40_0 : Exa Z h38 a1 "com/example/hasselt/hasselt/sockets/Termination" := (E29_0.keep Kq38)
    have Z40 : n0 ≤ h38.size := (Nat.le_trans Z29 Kq38.1)
    have O40 : Old Z n0 h38 := (O29.keep Kq38 (allS (P := fun x => n0 ≤ x) g_a1 all0))
    have pre42 : ∀ t, Steps p.tables e below (T38.setTop (mkF m 131 #[.val (.int md), .val (.long s1), .second, .val (.long r1), .second, .val (.long s2), .second, .val (.long r2), .second, .val (.long s3), .second, .val (.int (1 : Int32)), .val (.ref a1), .val (.int ((0 : Int32) + (1 : Int32))), .val (.int (1 : Int32)), .val (.ref (own_out (-1 : Int64) ((0 : Int64) + s1) ((0 : Int64) + r1) ors oq ob)), .val (.int (((0 : Int32) + (1 : Int32)) + (1 : Int32))), .unset, .unset] [(.ref a1)])) t → Steps p.tables e below (s₁.setTop (entryFrame m #[(.int md), (.long s1), (.long r1), (.long s2), (.long r2), (.long s3)] maxLocals)) t := by
      intro t k
      refine pre39 t ?_
      refine XS.istore X38.here hx rfl (hb hby at_116) rfl (l' := #[.val (.int md), .val (.long s1), .second, .val (.long r1), .second, .val (.long s2), .second, .val (.long r2), .second, .val (.long s3), .second, .val (.int (1 : Int32)), .val (.ref a1), .val (.int ((0 : Int32) + (1 : Int32))), .val (.int (1 : Int32)), .val (.ref (own_out (-1 : Int64) ((0 : Int64) + s1) ((0 : Int64) + r1) ors oq ob)), .val (.int (((0 : Int32) + (1 : Int32)) + (1 : Int32))), .unset, .unset]) rfl ?_
      show Steps p.tables e below (T38.setTop (mkF m 118 #[.val (.int md), .val (.long s1), .second, .val (.long r1), .second, .val (.long s2), .second, .val (.long r2), .second, .val (.long s3), .second, .val (.int (1 : Int32)), .val (.ref a1), .val (.int ((0 : Int32) + (1 : Int32))), .val (.int (1 : Int32)), .val (.ref (own_out (-1 : Int64) ((0 : Int64) + s1) ((0 : Int64) + r1) ors oq ob)), .val (.int (((0 : Int32) + (1 : Int32)) + (1 : Int32))), .unset, .unset] [])) _
      refine XS.iload X38.here hx rfl (hb hby at_118) rfl ?_
      show Steps p.tables e below (T38.setTop (mkF m 120 #[.val (.int md), .val (.long s1), .second, .val (.long r1), .second, .val (.long s2), .second, .val (.long r2), .second, .val (.long s3), .second, .val (.int (1 : Int32)), .val (.ref a1), .val (.int ((0 : Int32) + (1 : Int32))), .val (.int (1 : Int32)), .val (.ref (own_out (-1 : Int64) ((0 : Int64) + s1) ((0 : Int64) + r1) ors oq ob)), .val (.int (((0 : Int32) + (1 : Int32)) + (1 : Int32))), .unset, .unset] [(.int (1 : Int32))])) _
      refine XS.ifNo X38.here hx rfl (hb hby at_120) rfl (XT.i0_eq_f (by decide)) ?_
      show Steps p.tables e below (T38.setTop (mkF m 123 #[.val (.int md), .val (.long s1), .second, .val (.long r1), .second, .val (.long s2), .second, .val (.long r2), .second, .val (.long s3), .second, .val (.int (1 : Int32)), .val (.ref a1), .val (.int ((0 : Int32) + (1 : Int32))), .val (.int (1 : Int32)), .val (.ref (own_out (-1 : Int64) ((0 : Int64) + s1) ((0 : Int64) + r1) ors oq ob)), .val (.int (((0 : Int32) + (1 : Int32)) + (1 : Int32))), .unset, .unset] [])) _
      refine XS.iload X38.here hx rfl (hb hby at_123) rfl ?_
      show Steps p.tables e below (T38.setTop (mkF m 125 #[.val (.int md), .val (.long s1), .second, .val (.long r1), .second, .val (.long s2), .second, .val (.long r2), .second, .val (.long s3), .second, .val (.int (1 : Int32)), .val (.ref a1), .val (.int ((0 : Int32) + (1 : Int32))), .val (.int (1 : Int32)), .val (.ref (own_out (-1 : Int64) ((0 : Int64) + s1) ((0 : Int64) + r1) ors oq ob)), .val (.int (((0 : Int32) + (1 : Int32)) + (1 : Int32))), .unset, .unset] [(.int (((0 : Int32) + (1 : Int32)) + (1 : Int32)))])) _
      refine XS.iconst X38.here hx rfl (hb hby at_125) ?_
      show Steps p.tables e below (T38.setTop (mkF m 126 #[.val (.int md), .val (.long s1), .second, .val (.long r1), .second, .val (.long s2), .second, .val (.long r2), .second, .val (.long s3), .second, .val (.int (1 : Int32)), .val (.ref a1), .val (.int ((0 : Int32) + (1 : Int32))), .val (.int (1 : Int32)), .val (.ref (own_out (-1 : Int64) ((0 : Int64) + s1) ((0 : Int64) + r1) ors oq ob)), .val (.int (((0 : Int32) + (1 : Int32)) + (1 : Int32))), .unset, .unset] [(.int (2 : Int32)), (.int (((0 : Int32) + (1 : Int32)) + (1 : Int32)))])) _
      refine XS.icmpNo X38.here hx rfl (hb hby at_126) rfl (XT.ii_ne_f (by decide)) ?_
      show Steps p.tables e below (T38.setTop (mkF m 129 #[.val (.int md), .val (.long s1), .second, .val (.long r1), .second, .val (.long s2), .second, .val (.long r2), .second, .val (.long s3), .second, .val (.int (1 : Int32)), .val (.ref a1), .val (.int ((0 : Int32) + (1 : Int32))), .val (.int (1 : Int32)), .val (.ref (own_out (-1 : Int64) ((0 : Int64) + s1) ((0 : Int64) + r1) ors oq ob)), .val (.int (((0 : Int32) + (1 : Int32)) + (1 : Int32))), .unset, .unset] [])) _
      refine XS.aload X38.here hx rfl (hb hby at_129) rfl rfl ?_
      show Steps p.tables e below (T38.setTop (mkF m 131 #[.val (.int md), .val (.long s1), .second, .val (.long r1), .second, .val (.long s2), .second, .val (.long r2), .second, .val (.long s3), .second, .val (.int (1 : Int32)), .val (.ref a1), .val (.int ((0 : Int32) + (1 : Int32))), .val (.int (1 : Int32)), .val (.ref (own_out (-1 : Int64) ((0 : Int64) + s1) ((0 : Int64) + r1) ors oq ob)), .val (.int (((0 : Int32) + (1 : Int32)) + (1 : Int32))), .unset, .unset] [(.ref a1)])) _
      exact k
    obtain ⟨cq44, kq44, q44a, q44b, q44c⟩ := isOf hZ e38 E40_0
    obtain ⟨_, _, ⟨T44, L44, k44, n44⟩, -, X44, ⟨Lc44, hQ44, l44, y44, z44⟩, st44⟩ := X38.virtualBack hx (y := (⟨"com/example/hasselt/hasselt/sockets/Termination", "wave", "()I"⟩ : MethodName)) (z := (⟨"com/example/hasselt/hasselt/sockets/Termination", "wave", "()I"⟩ : MethodName)) hown (mvT hZ (hw _ (List.mem_of_getElem? (i := 27) rfl))) (mvT hZ (hw _ (List.mem_of_getElem? (i := 28) rfl))) (notFace_of_selects (args := #[]) (mvT hZ (hw _ (List.mem_of_getElem? (i := 30) rfl)))) (mvT hZ (hw _ (List.mem_of_getElem? (i := 30) rfl))) (mvT hZ (hw _ (List.mem_of_getElem? (i := 29) rfl))) (by decide) (backOf (W := 0) (rm4 l Z a0 hw [] a1 ((0 : Int64) + r1) (1 : Int32) (((0 : Int32) + (1 : Int32)) + (1 : Int32)) (0 : Int32) (0 : Int64) (0 : Int64) h38 n0 Z40 Fx0_38 Fx1_38 Fx2_38 Fx3_38 Fx4_38 Fx5_38) hZ (hw _ (List.mem_of_getElem? (i := 31) rfl)) (hw _ (List.mem_of_getElem? (i := 2) rfl)) (by decide) (by decide)) q44a q44c (g := (mkF m 131 #[.val (.int md), .val (.long s1), .second, .val (.long r1), .second, .val (.long s2), .second, .val (.long r2), .second, .val (.long s3), .second, .val (.int (1 : Int32)), .val (.ref a1), .val (.int ((0 : Int32) + (1 : Int32))), .val (.int (1 : Int32)), .val (.ref (own_out (-1 : Int64) ((0 : Int64) + s1) ((0 : Int64) + r1) ors oq ob)), .val (.int (((0 : Int32) + (1 : Int32)) + (1 : Int32))), .unset, .unset] [(.ref a1)])) rfl (by rw [hml]; rfl) (Steps.refl _) (argsL := []) (rest := []) (lenOf pd_i rfl) rfl (by show 2 * 0 + _ ≤ _; exact Nat.le_of_eq rfl) (hb hby at_131) (fun _ _ => ⟨rfl, e38, (by decide : 1 + 0 ≤ _), (by decide : 6 + 0 ≤ _)⟩)
    dsimp only [Pt.U, Pt.locs, Pt.cells, Pt.slots] at X44 l44 y44 z44 st44 hQ44
    subst l44 y44 z44
    obtain ⟨rfl, Nq44, heq44⟩ := hQ44
    have N44 := Fr.app N38 Nq44
    have pre45 : ∀ t, Steps p.tables e below (T44.setTop (mkF m 134 #[.val (.int md), .val (.long s1), .second, .val (.long r1), .second, .val (.long s2), .second, .val (.long r2), .second, .val (.long s3), .second, .val (.int (1 : Int32)), .val (.ref a1), .val (.int ((0 : Int32) + (1 : Int32))), .val (.int (1 : Int32)), .val (.ref (own_out (-1 : Int64) ((0 : Int64) + s1) ((0 : Int64) + r1) ors oq ob)), .val (.int (((0 : Int32) + (1 : Int32)) + (1 : Int32))), .unset, .unset] [(.int (((0 : Int32) + (1 : Int32)) + (1 : Int32)))])) t → Steps p.tables e below (s₁.setTop (entryFrame m #[(.int md), (.long s1), (.long r1), (.long s2), (.long r2), (.long s3)] maxLocals)) t := fun t k => pre42 t (st44.trans k)
    have pre47 : ∀ t, Steps p.tables e below (T44.setTop (mkF m 157 #[.val (.int md), .val (.long s1), .second, .val (.long r1), .second, .val (.long s2), .second, .val (.long r2), .second, .val (.long s3), .second, .val (.int (1 : Int32)), .val (.ref a1), .val (.int ((0 : Int32) + (1 : Int32))), .val (.int (1 : Int32)), .val (.ref (own_out (-1 : Int64) ((0 : Int64) + s1) ((0 : Int64) + r1) ors oq ob)), .val (.int (((0 : Int32) + (1 : Int32)) + (1 : Int32))), .unset, .unset] [(.long r2), (.long s3), (.int (1 : Int32)), (.ref a1)])) t → Steps p.tables e below (s₁.setTop (entryFrame m #[(.int md), (.long s1), (.long r1), (.long s2), (.long r2), (.long s3)] maxLocals)) t := by
      intro t k
      refine pre45 t ?_
      refine XS.iconst X44.here hx rfl (hb hby at_134) ?_
      show Steps p.tables e below (T44.setTop (mkF m 135 #[.val (.int md), .val (.long s1), .second, .val (.long r1), .second, .val (.long s2), .second, .val (.long r2), .second, .val (.long s3), .second, .val (.int (1 : Int32)), .val (.ref a1), .val (.int ((0 : Int32) + (1 : Int32))), .val (.int (1 : Int32)), .val (.ref (own_out (-1 : Int64) ((0 : Int64) + s1) ((0 : Int64) + r1) ors oq ob)), .val (.int (((0 : Int32) + (1 : Int32)) + (1 : Int32))), .unset, .unset] [(.int (2 : Int32)), (.int (((0 : Int32) + (1 : Int32)) + (1 : Int32)))])) _
      refine XS.icmpNo X44.here hx rfl (hb hby at_135) rfl (XT.ii_ne_f (by decide)) ?_
      show Steps p.tables e below (T44.setTop (mkF m 138 #[.val (.int md), .val (.long s1), .second, .val (.long r1), .second, .val (.long s2), .second, .val (.long r2), .second, .val (.long s3), .second, .val (.int (1 : Int32)), .val (.ref a1), .val (.int ((0 : Int32) + (1 : Int32))), .val (.int (1 : Int32)), .val (.ref (own_out (-1 : Int64) ((0 : Int64) + s1) ((0 : Int64) + r1) ors oq ob)), .val (.int (((0 : Int32) + (1 : Int32)) + (1 : Int32))), .unset, .unset] [])) _
      refine XS.iconst X44.here hx rfl (hb hby at_138) ?_
      show Steps p.tables e below (T44.setTop (mkF m 139 #[.val (.int md), .val (.long s1), .second, .val (.long r1), .second, .val (.long s2), .second, .val (.long r2), .second, .val (.long s3), .second, .val (.int (1 : Int32)), .val (.ref a1), .val (.int ((0 : Int32) + (1 : Int32))), .val (.int (1 : Int32)), .val (.ref (own_out (-1 : Int64) ((0 : Int64) + s1) ((0 : Int64) + r1) ors oq ob)), .val (.int (((0 : Int32) + (1 : Int32)) + (1 : Int32))), .unset, .unset] [(.int (1 : Int32))])) _
      refine XS.goto X44.here hx rfl (pc0 := 139) (pc' := 143) rfl (hb hby at_139) (by decide) (by decide) ?_
      show Steps p.tables e below (T44.setTop (mkF m 143 #[.val (.int md), .val (.long s1), .second, .val (.long r1), .second, .val (.long s2), .second, .val (.long r2), .second, .val (.long s3), .second, .val (.int (1 : Int32)), .val (.ref a1), .val (.int ((0 : Int32) + (1 : Int32))), .val (.int (1 : Int32)), .val (.ref (own_out (-1 : Int64) ((0 : Int64) + s1) ((0 : Int64) + r1) ors oq ob)), .val (.int (((0 : Int32) + (1 : Int32)) + (1 : Int32))), .unset, .unset] [(.int (1 : Int32))])) _
      refine XS.istore X44.here hx rfl (hb hby at_143) rfl (l' := #[.val (.int md), .val (.long s1), .second, .val (.long r1), .second, .val (.long s2), .second, .val (.long r2), .second, .val (.long s3), .second, .val (.int (1 : Int32)), .val (.ref a1), .val (.int ((0 : Int32) + (1 : Int32))), .val (.int (1 : Int32)), .val (.ref (own_out (-1 : Int64) ((0 : Int64) + s1) ((0 : Int64) + r1) ors oq ob)), .val (.int (((0 : Int32) + (1 : Int32)) + (1 : Int32))), .unset, .unset]) rfl ?_
      show Steps p.tables e below (T44.setTop (mkF m 145 #[.val (.int md), .val (.long s1), .second, .val (.long r1), .second, .val (.long s2), .second, .val (.long r2), .second, .val (.long s3), .second, .val (.int (1 : Int32)), .val (.ref a1), .val (.int ((0 : Int32) + (1 : Int32))), .val (.int (1 : Int32)), .val (.ref (own_out (-1 : Int64) ((0 : Int64) + s1) ((0 : Int64) + r1) ors oq ob)), .val (.int (((0 : Int32) + (1 : Int32)) + (1 : Int32))), .unset, .unset] [])) _
      refine XS.iload X44.here hx rfl (hb hby at_145) rfl ?_
      show Steps p.tables e below (T44.setTop (mkF m 147 #[.val (.int md), .val (.long s1), .second, .val (.long r1), .second, .val (.long s2), .second, .val (.long r2), .second, .val (.long s3), .second, .val (.int (1 : Int32)), .val (.ref a1), .val (.int ((0 : Int32) + (1 : Int32))), .val (.int (1 : Int32)), .val (.ref (own_out (-1 : Int64) ((0 : Int64) + s1) ((0 : Int64) + r1) ors oq ob)), .val (.int (((0 : Int32) + (1 : Int32)) + (1 : Int32))), .unset, .unset] [(.int (1 : Int32))])) _
      refine XS.ifNo X44.here hx rfl (hb hby at_147) rfl (XT.i0_eq_f (by decide)) ?_
      show Steps p.tables e below (T44.setTop (mkF m 150 #[.val (.int md), .val (.long s1), .second, .val (.long r1), .second, .val (.long s2), .second, .val (.long r2), .second, .val (.long s3), .second, .val (.int (1 : Int32)), .val (.ref a1), .val (.int ((0 : Int32) + (1 : Int32))), .val (.int (1 : Int32)), .val (.ref (own_out (-1 : Int64) ((0 : Int64) + s1) ((0 : Int64) + r1) ors oq ob)), .val (.int (((0 : Int32) + (1 : Int32)) + (1 : Int32))), .unset, .unset] [])) _
      refine XS.aload X44.here hx rfl (hb hby at_150) rfl rfl ?_
      show Steps p.tables e below (T44.setTop (mkF m 152 #[.val (.int md), .val (.long s1), .second, .val (.long r1), .second, .val (.long s2), .second, .val (.long r2), .second, .val (.long s3), .second, .val (.int (1 : Int32)), .val (.ref a1), .val (.int ((0 : Int32) + (1 : Int32))), .val (.int (1 : Int32)), .val (.ref (own_out (-1 : Int64) ((0 : Int64) + s1) ((0 : Int64) + r1) ors oq ob)), .val (.int (((0 : Int32) + (1 : Int32)) + (1 : Int32))), .unset, .unset] [(.ref a1)])) _
      refine XS.iconst X44.here hx rfl (hb hby at_152) ?_
      show Steps p.tables e below (T44.setTop (mkF m 153 #[.val (.int md), .val (.long s1), .second, .val (.long r1), .second, .val (.long s2), .second, .val (.long r2), .second, .val (.long s3), .second, .val (.int (1 : Int32)), .val (.ref a1), .val (.int ((0 : Int32) + (1 : Int32))), .val (.int (1 : Int32)), .val (.ref (own_out (-1 : Int64) ((0 : Int64) + s1) ((0 : Int64) + r1) ors oq ob)), .val (.int (((0 : Int32) + (1 : Int32)) + (1 : Int32))), .unset, .unset] [(.int (1 : Int32)), (.ref a1)])) _
      refine XT.lload X44.here hx rfl (hb hby at_153) rfl ?_
      show Steps p.tables e below (T44.setTop (mkF m 155 #[.val (.int md), .val (.long s1), .second, .val (.long r1), .second, .val (.long s2), .second, .val (.long r2), .second, .val (.long s3), .second, .val (.int (1 : Int32)), .val (.ref a1), .val (.int ((0 : Int32) + (1 : Int32))), .val (.int (1 : Int32)), .val (.ref (own_out (-1 : Int64) ((0 : Int64) + s1) ((0 : Int64) + r1) ors oq ob)), .val (.int (((0 : Int32) + (1 : Int32)) + (1 : Int32))), .unset, .unset] [(.long s3), (.int (1 : Int32)), (.ref a1)])) _
      refine XT.lload X44.here hx rfl (hb hby at_155) rfl ?_
      show Steps p.tables e below (T44.setTop (mkF m 157 #[.val (.int md), .val (.long s1), .second, .val (.long r1), .second, .val (.long s2), .second, .val (.long r2), .second, .val (.long s3), .second, .val (.int (1 : Int32)), .val (.ref a1), .val (.int ((0 : Int32) + (1 : Int32))), .val (.int (1 : Int32)), .val (.ref (own_out (-1 : Int64) ((0 : Int64) + s1) ((0 : Int64) + r1) ors oq ob)), .val (.int (((0 : Int32) + (1 : Int32)) + (1 : Int32))), .unset, .unset] [(.long r2), (.long s3), (.int (1 : Int32)), (.ref a1)])) _
      exact k
    obtain ⟨cq49, kq49, q49a, q49b, q49c⟩ := isOf hZ heq44 E40_0
    obtain ⟨_, _, ⟨T49, L49, k49, n49⟩, -, X49, ⟨Lc49, hQ49, l49, y49, z49⟩, st49⟩ := X44.virtualBack hx (y := (⟨"com/example/hasselt/hasselt/sockets/Termination", "report", "(IJJ)Lcom/example/hasselt/hasselt/sockets/Termination$Outcome;"⟩ : MethodName)) (z := (⟨"com/example/hasselt/hasselt/sockets/Termination", "report", "(IJJ)Lcom/example/hasselt/hasselt/sockets/Termination$Outcome;"⟩ : MethodName)) hown (mvT hZ (hw _ (List.mem_of_getElem? (i := 32) rfl))) (mvT hZ (hw _ (List.mem_of_getElem? (i := 33) rfl))) (notFace_of_selects (args := #[]) (mvT hZ (hw _ (List.mem_of_getElem? (i := 35) rfl)))) (mvT hZ (hw _ (List.mem_of_getElem? (i := 35) rfl))) (mvT hZ (hw _ (List.mem_of_getElem? (i := 34) rfl))) (by decide) (backOf (W := 0) (rm5w l Z a0 hw [] a1 (1 : Int32) s3 r2 ((0 : Int64) + r1) (1 : Int32) (((0 : Int32) + (1 : Int32)) + (1 : Int32)) (0 : Int32) (0 : Int64) (0 : Int64) oi ors oq ob h38 n0 Z40 E40_0 g_a1 Fx0_38 Fx1_38 Fx2_38 Fx3_38 Fx4_38 Fx5_38 (SINCOMPLETE.ext O40.2) (SRESTS.ext O40.2) (SQUIET.ext O40.2) (SBUSY.ext O40.2) (by decide)) hZ (hw _ (List.mem_of_getElem? (i := 36) rfl)) (hw _ (List.mem_of_getElem? (i := 2) rfl)) (by decide) (by decide)) q49a q49c (g := (mkF m 157 #[.val (.int md), .val (.long s1), .second, .val (.long r1), .second, .val (.long s2), .second, .val (.long r2), .second, .val (.long s3), .second, .val (.int (1 : Int32)), .val (.ref a1), .val (.int ((0 : Int32) + (1 : Int32))), .val (.int (1 : Int32)), .val (.ref (own_out (-1 : Int64) ((0 : Int64) + s1) ((0 : Int64) + r1) ors oq ob)), .val (.int (((0 : Int32) + (1 : Int32)) + (1 : Int32))), .unset, .unset] [(.long r2), (.long s3), (.int (1 : Int32)), (.ref a1)])) rfl (by rw [hml]; rfl) (Steps.refl _) (argsL := [(.int (1 : Int32)), (.long s3), (.long r2)]) (rest := []) (lenOf pd_rep rfl) rfl (by show 2 * 0 + _ ≤ _; exact Nat.le_of_eq rfl) (hb hby at_157) (fun _ _ => ⟨rfl, heq44, (by decide : 1 + 0 ≤ _), (by decide : 6 + 0 ≤ _)⟩)
    dsimp only [Pt.U, Pt.locs, Pt.cells, Pt.slots] at X49 l49 y49 z49 st49 hQ49
    subst l49 y49 z49
    obtain ⟨rfl, Nq49, heq49⟩ := hQ49
    have N49 := Fr.app N44 Nq49
    have pre50 : ∀ t, Steps p.tables e below (T49.setTop (mkF m 160 #[.val (.int md), .val (.long s1), .second, .val (.long r1), .second, .val (.long s2), .second, .val (.long r2), .second, .val (.long s3), .second, .val (.int (1 : Int32)), .val (.ref a1), .val (.int ((0 : Int32) + (1 : Int32))), .val (.int (1 : Int32)), .val (.ref (own_out (-1 : Int64) ((0 : Int64) + s1) ((0 : Int64) + r1) ors oq ob)), .val (.int (((0 : Int32) + (1 : Int32)) + (1 : Int32))), .unset, .unset] [(.ref oi)])) t → Steps p.tables e below (s₁.setTop (entryFrame m #[(.int md), (.long s1), (.long r1), (.long s2), (.long r2), (.long s3)] maxLocals)) t := fun t k => pre47 t (st49.trans k)
    obtain ⟨T52, X52, e52, st52⟩ := getS (host := "") X49 hx hZ hown (hw _ (List.mem_of_getElem? (i := 48) rfl)) Via.refl heq49 (SINCOMPLETE.ext O40.2) (g := (mkF m 160 #[.val (.int md), .val (.long s1), .second, .val (.long r1), .second, .val (.long s2), .second, .val (.long r2), .second, .val (.long s3), .second, .val (.int (1 : Int32)), .val (.ref a1), .val (.int ((0 : Int32) + (1 : Int32))), .val (.int (1 : Int32)), .val (.ref (own_out (-1 : Int64) ((0 : Int64) + s1) ((0 : Int64) + r1) ors oq ob)), .val (.int (((0 : Int32) + (1 : Int32)) + (1 : Int32))), .unset, .unset] [(.ref oi)])) rfl (hb hby at_160)
    have pre53 : ∀ t, Steps p.tables e below (T52.setTop (mkF m 163 #[.val (.int md), .val (.long s1), .second, .val (.long r1), .second, .val (.long s2), .second, .val (.long r2), .second, .val (.long s3), .second, .val (.int (1 : Int32)), .val (.ref a1), .val (.int ((0 : Int32) + (1 : Int32))), .val (.int (1 : Int32)), .val (.ref (own_out (-1 : Int64) ((0 : Int64) + s1) ((0 : Int64) + r1) ors oq ob)), .val (.int (((0 : Int32) + (1 : Int32)) + (1 : Int32))), .unset, .unset] [(.ref oi), (.ref oi)])) t → Steps p.tables e below (s₁.setTop (entryFrame m #[(.int md), (.long s1), (.long r1), (.long s2), (.long r2), (.long s3)] maxLocals)) t := fun t k => pre50 t (st52 t k)
    have pre55 : ∀ t, Steps p.tables e below (T52.setTop (mkF m 180 #[.val (.int md), .val (.long s1), .second, .val (.long r1), .second, .val (.long s2), .second, .val (.long r2), .second, .val (.long s3), .second, .val (.int (1 : Int32)), .val (.ref a1), .val (.int ((0 : Int32) + (1 : Int32))), .val (.int (1 : Int32)), .val (.ref (own_out (-1 : Int64) ((0 : Int64) + s1) ((0 : Int64) + r1) ors oq ob)), .val (.int (((0 : Int32) + (1 : Int32)) + (1 : Int32))), .unset, .unset] [(.long r2), (.long s2), (.int (2 : Int32)), (.ref a1)])) t → Steps p.tables e below (s₁.setTop (entryFrame m #[(.int md), (.long s1), (.long r1), (.long s2), (.long r2), (.long s3)] maxLocals)) t := by
      intro t k
      refine pre53 t ?_
      refine XT.acmpNo X52.here hx rfl (hb hby at_163) rfl rfl rfl (XT.aa_ne_f rfl) ?_
      show Steps p.tables e below (T52.setTop (mkF m 166 #[.val (.int md), .val (.long s1), .second, .val (.long r1), .second, .val (.long s2), .second, .val (.long r2), .second, .val (.long s3), .second, .val (.int (1 : Int32)), .val (.ref a1), .val (.int ((0 : Int32) + (1 : Int32))), .val (.int (1 : Int32)), .val (.ref (own_out (-1 : Int64) ((0 : Int64) + s1) ((0 : Int64) + r1) ors oq ob)), .val (.int (((0 : Int32) + (1 : Int32)) + (1 : Int32))), .unset, .unset] [])) _
      refine XS.iconst X52.here hx rfl (hb hby at_166) ?_
      show Steps p.tables e below (T52.setTop (mkF m 167 #[.val (.int md), .val (.long s1), .second, .val (.long r1), .second, .val (.long s2), .second, .val (.long r2), .second, .val (.long s3), .second, .val (.int (1 : Int32)), .val (.ref a1), .val (.int ((0 : Int32) + (1 : Int32))), .val (.int (1 : Int32)), .val (.ref (own_out (-1 : Int64) ((0 : Int64) + s1) ((0 : Int64) + r1) ors oq ob)), .val (.int (((0 : Int32) + (1 : Int32)) + (1 : Int32))), .unset, .unset] [(.int (1 : Int32))])) _
      refine XS.goto X52.here hx rfl (pc0 := 167) (pc' := 171) rfl (hb hby at_167) (by decide) (by decide) ?_
      show Steps p.tables e below (T52.setTop (mkF m 171 #[.val (.int md), .val (.long s1), .second, .val (.long r1), .second, .val (.long s2), .second, .val (.long r2), .second, .val (.long s3), .second, .val (.int (1 : Int32)), .val (.ref a1), .val (.int ((0 : Int32) + (1 : Int32))), .val (.int (1 : Int32)), .val (.ref (own_out (-1 : Int64) ((0 : Int64) + s1) ((0 : Int64) + r1) ors oq ob)), .val (.int (((0 : Int32) + (1 : Int32)) + (1 : Int32))), .unset, .unset] [(.int (1 : Int32))])) _
      refine XS.istore X52.here hx rfl (hb hby at_171) rfl (l' := #[.val (.int md), .val (.long s1), .second, .val (.long r1), .second, .val (.long s2), .second, .val (.long r2), .second, .val (.long s3), .second, .val (.int (1 : Int32)), .val (.ref a1), .val (.int ((0 : Int32) + (1 : Int32))), .val (.int (1 : Int32)), .val (.ref (own_out (-1 : Int64) ((0 : Int64) + s1) ((0 : Int64) + r1) ors oq ob)), .val (.int (((0 : Int32) + (1 : Int32)) + (1 : Int32))), .unset, .unset]) rfl ?_
      show Steps p.tables e below (T52.setTop (mkF m 173 #[.val (.int md), .val (.long s1), .second, .val (.long r1), .second, .val (.long s2), .second, .val (.long r2), .second, .val (.long s3), .second, .val (.int (1 : Int32)), .val (.ref a1), .val (.int ((0 : Int32) + (1 : Int32))), .val (.int (1 : Int32)), .val (.ref (own_out (-1 : Int64) ((0 : Int64) + s1) ((0 : Int64) + r1) ors oq ob)), .val (.int (((0 : Int32) + (1 : Int32)) + (1 : Int32))), .unset, .unset] [])) _
      refine XS.aload X52.here hx rfl (hb hby at_173) rfl rfl ?_
      show Steps p.tables e below (T52.setTop (mkF m 175 #[.val (.int md), .val (.long s1), .second, .val (.long r1), .second, .val (.long s2), .second, .val (.long r2), .second, .val (.long s3), .second, .val (.int (1 : Int32)), .val (.ref a1), .val (.int ((0 : Int32) + (1 : Int32))), .val (.int (1 : Int32)), .val (.ref (own_out (-1 : Int64) ((0 : Int64) + s1) ((0 : Int64) + r1) ors oq ob)), .val (.int (((0 : Int32) + (1 : Int32)) + (1 : Int32))), .unset, .unset] [(.ref a1)])) _
      refine XS.iconst X52.here hx rfl (hb hby at_175) ?_
      show Steps p.tables e below (T52.setTop (mkF m 176 #[.val (.int md), .val (.long s1), .second, .val (.long r1), .second, .val (.long s2), .second, .val (.long r2), .second, .val (.long s3), .second, .val (.int (1 : Int32)), .val (.ref a1), .val (.int ((0 : Int32) + (1 : Int32))), .val (.int (1 : Int32)), .val (.ref (own_out (-1 : Int64) ((0 : Int64) + s1) ((0 : Int64) + r1) ors oq ob)), .val (.int (((0 : Int32) + (1 : Int32)) + (1 : Int32))), .unset, .unset] [(.int (2 : Int32)), (.ref a1)])) _
      refine XT.lload X52.here hx rfl (hb hby at_176) rfl ?_
      show Steps p.tables e below (T52.setTop (mkF m 178 #[.val (.int md), .val (.long s1), .second, .val (.long r1), .second, .val (.long s2), .second, .val (.long r2), .second, .val (.long s3), .second, .val (.int (1 : Int32)), .val (.ref a1), .val (.int ((0 : Int32) + (1 : Int32))), .val (.int (1 : Int32)), .val (.ref (own_out (-1 : Int64) ((0 : Int64) + s1) ((0 : Int64) + r1) ors oq ob)), .val (.int (((0 : Int32) + (1 : Int32)) + (1 : Int32))), .unset, .unset] [(.long s2), (.int (2 : Int32)), (.ref a1)])) _
      refine XT.lload X52.here hx rfl (hb hby at_178) rfl ?_
      show Steps p.tables e below (T52.setTop (mkF m 180 #[.val (.int md), .val (.long s1), .second, .val (.long r1), .second, .val (.long s2), .second, .val (.long r2), .second, .val (.long s3), .second, .val (.int (1 : Int32)), .val (.ref a1), .val (.int ((0 : Int32) + (1 : Int32))), .val (.int (1 : Int32)), .val (.ref (own_out (-1 : Int64) ((0 : Int64) + s1) ((0 : Int64) + r1) ors oq ob)), .val (.int (((0 : Int32) + (1 : Int32)) + (1 : Int32))), .unset, .unset] [(.long r2), (.long s2), (.int (2 : Int32)), (.ref a1)])) _
      exact k
    obtain ⟨cq57, kq57, q57a, q57b, q57c⟩ := isOf hZ e52 E40_0
    obtain ⟨_, _, ⟨T57, L57, k57, n57⟩, -, X57, ⟨Lc57, hQ57, l57, y57, z57⟩, st57⟩ := X52.virtualBack hx (y := (⟨"com/example/hasselt/hasselt/sockets/Termination", "report", "(IJJ)Lcom/example/hasselt/hasselt/sockets/Termination$Outcome;"⟩ : MethodName)) (z := (⟨"com/example/hasselt/hasselt/sockets/Termination", "report", "(IJJ)Lcom/example/hasselt/hasselt/sockets/Termination$Outcome;"⟩ : MethodName)) hown (mvT hZ (hw _ (List.mem_of_getElem? (i := 32) rfl))) (mvT hZ (hw _ (List.mem_of_getElem? (i := 33) rfl))) (notFace_of_selects (args := #[]) (mvT hZ (hw _ (List.mem_of_getElem? (i := 35) rfl)))) (mvT hZ (hw _ (List.mem_of_getElem? (i := 35) rfl))) (mvT hZ (hw _ (List.mem_of_getElem? (i := 34) rfl))) (by decide) (backOf (W := 0) (rm5f l Z a0 hw [] a1 (2 : Int32) s2 r2 ((0 : Int64) + r1) (1 : Int32) (((0 : Int32) + (1 : Int32)) + (1 : Int32)) (0 : Int32) (0 : Int64) (0 : Int64) oi ors oq ob h38 n0 Z40 E40_0 g_a1 Fx0_38 Fx1_38 Fx2_38 Fx3_38 Fx4_38 Fx5_38 (SINCOMPLETE.ext O40.2) (SRESTS.ext O40.2) (SQUIET.ext O40.2) (SBUSY.ext O40.2) (by decide) (by decide) (by decide)) hZ (hw _ (List.mem_of_getElem? (i := 36) rfl)) (hw _ (List.mem_of_getElem? (i := 2) rfl)) (by decide) (by decide)) q57a q57c (g := (mkF m 180 #[.val (.int md), .val (.long s1), .second, .val (.long r1), .second, .val (.long s2), .second, .val (.long r2), .second, .val (.long s3), .second, .val (.int (1 : Int32)), .val (.ref a1), .val (.int ((0 : Int32) + (1 : Int32))), .val (.int (1 : Int32)), .val (.ref (own_out (-1 : Int64) ((0 : Int64) + s1) ((0 : Int64) + r1) ors oq ob)), .val (.int (((0 : Int32) + (1 : Int32)) + (1 : Int32))), .unset, .unset] [(.long r2), (.long s2), (.int (2 : Int32)), (.ref a1)])) rfl (by rw [hml]; rfl) (Steps.refl _) (argsL := [(.int (2 : Int32)), (.long s2), (.long r2)]) (rest := []) (lenOf pd_rep rfl) rfl (by show 2 * 0 + _ ≤ _; exact Nat.le_of_eq rfl) (hb hby at_180) (fun _ _ => ⟨rfl, e52, (by decide : 1 + 0 ≤ _), (by decide : 6 + 0 ≤ _)⟩)
    dsimp only [Pt.U, Pt.locs, Pt.cells, Pt.slots] at X57 l57 y57 z57 st57 hQ57
    subst l57 y57 z57
    obtain ⟨rfl, Nq57, Kq57, Fx0_57, Fx1_57, Fx2_57, Fx3_57, Fx4_57, Fx5_57⟩ := hQ57
    have N57 := Fr.app N49 Nq57
    have pre58 : ∀ t, Steps p.tables e below (T57.setTop (mkF m 183 #[.val (.int md), .val (.long s1), .second, .val (.long r1), .second, .val (.long s2), .second, .val (.long r2), .second, .val (.long s3), .second, .val (.int (1 : Int32)), .val (.ref a1), .val (.int ((0 : Int32) + (1 : Int32))), .val (.int (1 : Int32)), .val (.ref (own_out (-1 : Int64) ((0 : Int64) + s1) ((0 : Int64) + r1) ors oq ob)), .val (.int (((0 : Int32) + (1 : Int32)) + (1 : Int32))), .unset, .unset] [(.ref (own_out ((0 : Int64) + r1) ((0 : Int64) + s2) ((0 : Int64) + r2) ors oq ob))])) t → Steps p.tables e below (s₁.setTop (entryFrame m #[(.int md), (.long s1), (.long r1), (.long s2), (.long r2), (.long s3)] maxLocals)) t := fun t k => pre55 t (st57.trans k)
    obtain ⟨h57, e57⟩ : ∃ z, T57.heap = z := ⟨_, rfl⟩
    rw [e57] at Kq57 Fx0_57 Fx1_57 Fx2_57 Fx3_57 Fx4_57 Fx5_57
    have E59_0 : Exa Z h57 a1 "com/example/hasselt/hasselt/sockets/Termination" := (E40_0.keep Kq57)
    have Z59 : n0 ≤ h57.size := (Nat.le_trans Z40 Kq57.1)
    have O59 : Old Z n0 h57 := (O40.keep Kq57 (allS (P := fun x => n0 ≤ x) g_a1 all0))
    have pre61 : ∀ t, Steps p.tables e below (T57.setTop (mkF m 203 #[.val (.int md), .val (.long s1), .second, .val (.long r1), .second, .val (.long s2), .second, .val (.long r2), .second, .val (.long s3), .second, .val (.int (1 : Int32)), .val (.ref a1), .val (.int ((0 : Int32) + (1 : Int32))), .val (.int (1 : Int32)), .val (.ref (own_out (-1 : Int64) ((0 : Int64) + s1) ((0 : Int64) + r1) ors oq ob)), .val (.int (((0 : Int32) + (1 : Int32)) + (1 : Int32))), .val (.ref (own_out ((0 : Int64) + r1) ((0 : Int64) + s2) ((0 : Int64) + r2) ors oq ob)), .unset] [(.long r2), (.long s2), (.long r1), (.ref (own_out ((0 : Int64) + r1) ((0 : Int64) + s2) ((0 : Int64) + r2) ors oq ob))])) t → Steps p.tables e below (s₁.setTop (entryFrame m #[(.int md), (.long s1), (.long r1), (.long s2), (.long r2), (.long s3)] maxLocals)) t := by
      intro t k
      refine pre58 t ?_
      refine XS.astore X57.here hx rfl (hb hby at_183) rfl rfl (l' := #[.val (.int md), .val (.long s1), .second, .val (.long r1), .second, .val (.long s2), .second, .val (.long r2), .second, .val (.long s3), .second, .val (.int (1 : Int32)), .val (.ref a1), .val (.int ((0 : Int32) + (1 : Int32))), .val (.int (1 : Int32)), .val (.ref (own_out (-1 : Int64) ((0 : Int64) + s1) ((0 : Int64) + r1) ors oq ob)), .val (.int (((0 : Int32) + (1 : Int32)) + (1 : Int32))), .val (.ref (own_out ((0 : Int64) + r1) ((0 : Int64) + s2) ((0 : Int64) + r2) ors oq ob)), .unset]) rfl ?_
      show Steps p.tables e below (T57.setTop (mkF m 185 #[.val (.int md), .val (.long s1), .second, .val (.long r1), .second, .val (.long s2), .second, .val (.long r2), .second, .val (.long s3), .second, .val (.int (1 : Int32)), .val (.ref a1), .val (.int ((0 : Int32) + (1 : Int32))), .val (.int (1 : Int32)), .val (.ref (own_out (-1 : Int64) ((0 : Int64) + s1) ((0 : Int64) + r1) ors oq ob)), .val (.int (((0 : Int32) + (1 : Int32)) + (1 : Int32))), .val (.ref (own_out ((0 : Int64) + r1) ((0 : Int64) + s2) ((0 : Int64) + r2) ors oq ob)), .unset] [])) _
      refine XS.iload X57.here hx rfl (hb hby at_185) rfl ?_
      show Steps p.tables e below (T57.setTop (mkF m 187 #[.val (.int md), .val (.long s1), .second, .val (.long r1), .second, .val (.long s2), .second, .val (.long r2), .second, .val (.long s3), .second, .val (.int (1 : Int32)), .val (.ref a1), .val (.int ((0 : Int32) + (1 : Int32))), .val (.int (1 : Int32)), .val (.ref (own_out (-1 : Int64) ((0 : Int64) + s1) ((0 : Int64) + r1) ors oq ob)), .val (.int (((0 : Int32) + (1 : Int32)) + (1 : Int32))), .val (.ref (own_out ((0 : Int64) + r1) ((0 : Int64) + s2) ((0 : Int64) + r2) ors oq ob)), .unset] [(.int (1 : Int32))])) _
      refine XS.iconst X57.here hx rfl (hb hby at_187) ?_
      show Steps p.tables e below (T57.setTop (mkF m 188 #[.val (.int md), .val (.long s1), .second, .val (.long r1), .second, .val (.long s2), .second, .val (.long r2), .second, .val (.long s3), .second, .val (.int (1 : Int32)), .val (.ref a1), .val (.int ((0 : Int32) + (1 : Int32))), .val (.int (1 : Int32)), .val (.ref (own_out (-1 : Int64) ((0 : Int64) + s1) ((0 : Int64) + r1) ors oq ob)), .val (.int (((0 : Int32) + (1 : Int32)) + (1 : Int32))), .val (.ref (own_out ((0 : Int64) + r1) ((0 : Int64) + s2) ((0 : Int64) + r2) ors oq ob)), .unset] [(.int (1 : Int32)), (.int (1 : Int32))])) _
      refine XS.icmpNo X57.here hx rfl (hb hby at_188) rfl (XT.ii_ne_f (by decide)) ?_
      show Steps p.tables e below (T57.setTop (mkF m 191 #[.val (.int md), .val (.long s1), .second, .val (.long r1), .second, .val (.long s2), .second, .val (.long r2), .second, .val (.long s3), .second, .val (.int (1 : Int32)), .val (.ref a1), .val (.int ((0 : Int32) + (1 : Int32))), .val (.int (1 : Int32)), .val (.ref (own_out (-1 : Int64) ((0 : Int64) + s1) ((0 : Int64) + r1) ors oq ob)), .val (.int (((0 : Int32) + (1 : Int32)) + (1 : Int32))), .val (.ref (own_out ((0 : Int64) + r1) ((0 : Int64) + s2) ((0 : Int64) + r2) ors oq ob)), .unset] [])) _
      refine XS.iload X57.here hx rfl (hb hby at_191) rfl ?_
      show Steps p.tables e below (T57.setTop (mkF m 193 #[.val (.int md), .val (.long s1), .second, .val (.long r1), .second, .val (.long s2), .second, .val (.long r2), .second, .val (.long s3), .second, .val (.int (1 : Int32)), .val (.ref a1), .val (.int ((0 : Int32) + (1 : Int32))), .val (.int (1 : Int32)), .val (.ref (own_out (-1 : Int64) ((0 : Int64) + s1) ((0 : Int64) + r1) ors oq ob)), .val (.int (((0 : Int32) + (1 : Int32)) + (1 : Int32))), .val (.ref (own_out ((0 : Int64) + r1) ((0 : Int64) + s2) ((0 : Int64) + r2) ors oq ob)), .unset] [(.int (1 : Int32))])) _
      refine XS.ifNo X57.here hx rfl (hb hby at_193) rfl (XT.i0_eq_f (by decide)) ?_
      show Steps p.tables e below (T57.setTop (mkF m 196 #[.val (.int md), .val (.long s1), .second, .val (.long r1), .second, .val (.long s2), .second, .val (.long r2), .second, .val (.long s3), .second, .val (.int (1 : Int32)), .val (.ref a1), .val (.int ((0 : Int32) + (1 : Int32))), .val (.int (1 : Int32)), .val (.ref (own_out (-1 : Int64) ((0 : Int64) + s1) ((0 : Int64) + r1) ors oq ob)), .val (.int (((0 : Int32) + (1 : Int32)) + (1 : Int32))), .val (.ref (own_out ((0 : Int64) + r1) ((0 : Int64) + s2) ((0 : Int64) + r2) ors oq ob)), .unset] [])) _
      refine XS.aload X57.here hx rfl (hb hby at_196) rfl rfl ?_
      show Steps p.tables e below (T57.setTop (mkF m 198 #[.val (.int md), .val (.long s1), .second, .val (.long r1), .second, .val (.long s2), .second, .val (.long r2), .second, .val (.long s3), .second, .val (.int (1 : Int32)), .val (.ref a1), .val (.int ((0 : Int32) + (1 : Int32))), .val (.int (1 : Int32)), .val (.ref (own_out (-1 : Int64) ((0 : Int64) + s1) ((0 : Int64) + r1) ors oq ob)), .val (.int (((0 : Int32) + (1 : Int32)) + (1 : Int32))), .val (.ref (own_out ((0 : Int64) + r1) ((0 : Int64) + s2) ((0 : Int64) + r2) ors oq ob)), .unset] [(.ref (own_out ((0 : Int64) + r1) ((0 : Int64) + s2) ((0 : Int64) + r2) ors oq ob))])) _
      refine XT.lloadN X57.here hx rfl (hb hby at_198) rfl ?_
      show Steps p.tables e below (T57.setTop (mkF m 199 #[.val (.int md), .val (.long s1), .second, .val (.long r1), .second, .val (.long s2), .second, .val (.long r2), .second, .val (.long s3), .second, .val (.int (1 : Int32)), .val (.ref a1), .val (.int ((0 : Int32) + (1 : Int32))), .val (.int (1 : Int32)), .val (.ref (own_out (-1 : Int64) ((0 : Int64) + s1) ((0 : Int64) + r1) ors oq ob)), .val (.int (((0 : Int32) + (1 : Int32)) + (1 : Int32))), .val (.ref (own_out ((0 : Int64) + r1) ((0 : Int64) + s2) ((0 : Int64) + r2) ors oq ob)), .unset] [(.long r1), (.ref (own_out ((0 : Int64) + r1) ((0 : Int64) + s2) ((0 : Int64) + r2) ors oq ob))])) _
      refine XT.lload X57.here hx rfl (hb hby at_199) rfl ?_
      show Steps p.tables e below (T57.setTop (mkF m 201 #[.val (.int md), .val (.long s1), .second, .val (.long r1), .second, .val (.long s2), .second, .val (.long r2), .second, .val (.long s3), .second, .val (.int (1 : Int32)), .val (.ref a1), .val (.int ((0 : Int32) + (1 : Int32))), .val (.int (1 : Int32)), .val (.ref (own_out (-1 : Int64) ((0 : Int64) + s1) ((0 : Int64) + r1) ors oq ob)), .val (.int (((0 : Int32) + (1 : Int32)) + (1 : Int32))), .val (.ref (own_out ((0 : Int64) + r1) ((0 : Int64) + s2) ((0 : Int64) + r2) ors oq ob)), .unset] [(.long s2), (.long r1), (.ref (own_out ((0 : Int64) + r1) ((0 : Int64) + s2) ((0 : Int64) + r2) ors oq ob))])) _
      refine XT.lload X57.here hx rfl (hb hby at_201) rfl ?_
      show Steps p.tables e below (T57.setTop (mkF m 203 #[.val (.int md), .val (.long s1), .second, .val (.long r1), .second, .val (.long s2), .second, .val (.long r2), .second, .val (.long s3), .second, .val (.int (1 : Int32)), .val (.ref a1), .val (.int ((0 : Int32) + (1 : Int32))), .val (.int (1 : Int32)), .val (.ref (own_out (-1 : Int64) ((0 : Int64) + s1) ((0 : Int64) + r1) ors oq ob)), .val (.int (((0 : Int32) + (1 : Int32)) + (1 : Int32))), .val (.ref (own_out ((0 : Int64) + r1) ((0 : Int64) + s2) ((0 : Int64) + r2) ors oq ob)), .unset] [(.long r2), (.long s2), (.long r1), (.ref (own_out ((0 : Int64) + r1) ((0 : Int64) + s2) ((0 : Int64) + r2) ors oq ob))])) _
      exact k
    obtain ⟨_, _, ⟨T63, L63, k63, n63⟩, -, X63, ⟨Lc63, hQ63, l63, y63, z63⟩, st63⟩ := Jvm.LawKit.callS X57 hx (y := (⟨"com/example/hasselt/hasselt/sockets/TerminationStartPinLaw", "expect", "(JJJ)Lcom/example/hasselt/hasselt/sockets/Termination$Outcome;"⟩ : MethodName)) hown (mvT hZ (hw _ (List.mem_of_getElem? (i := 41) rfl))) (mvT hZ (hw _ (List.mem_of_getElem? (i := 42) rfl))) (mvT hZ (hw _ (List.mem_of_getElem? (i := 43) rfl))) (mvT hZ (hw _ (List.mem_of_getElem? (i := 44) rfl))) (by decide) (backOf (W := 1) (rm6 l Z a0 hw [] r1 s2 r2 oi ors oq ob h57 n0 Z59 (SINCOMPLETE.ext O59.2) (SRESTS.ext O59.2) (SQUIET.ext O59.2) (SBUSY.ext O59.2)) hZ (hw _ (List.mem_of_getElem? (i := 44) rfl)) (hw _ (List.mem_of_getElem? (i := 43) rfl)) (by decide) (by decide)) (g := (mkF m 203 #[.val (.int md), .val (.long s1), .second, .val (.long r1), .second, .val (.long s2), .second, .val (.long r2), .second, .val (.long s3), .second, .val (.int (1 : Int32)), .val (.ref a1), .val (.int ((0 : Int32) + (1 : Int32))), .val (.int (1 : Int32)), .val (.ref (own_out (-1 : Int64) ((0 : Int64) + s1) ((0 : Int64) + r1) ors oq ob)), .val (.int (((0 : Int32) + (1 : Int32)) + (1 : Int32))), .val (.ref (own_out ((0 : Int64) + r1) ((0 : Int64) + s2) ((0 : Int64) + r2) ors oq ob)), .unset] [(.long r2), (.long s2), (.long r1), (.ref (own_out ((0 : Int64) + r1) ((0 : Int64) + s2) ((0 : Int64) + r2) ors oq ob))])) rfl (by rw [hml]; rfl) (argsL := [(.long r1), (.long s2), (.long r2)]) (rest := [(.ref (own_out ((0 : Int64) + r1) ((0 : Int64) + s2) ((0 : Int64) + r2) ors oq ob))]) (lenOf pd_exp rfl) rfl (by show 2 * 0 + _ ≤ _; exact Nat.le_of_eq rfl) (hb hby at_203) (fun _ _ => ⟨rfl, e57, (by decide : 1 + 0 ≤ _), (by decide : 6 + 0 ≤ _)⟩)
    dsimp only [Pt.U, Pt.locs, Pt.cells, Pt.slots] at X63 l63 y63 z63 st63 hQ63
    subst l63 y63 z63
    obtain ⟨rfl, Nq63, heq63⟩ := hQ63
    have N63 := Fr.app N57 Nq63
    have pre64 : ∀ t, Steps p.tables e below (T63.setTop (mkF m 206 #[.val (.int md), .val (.long s1), .second, .val (.long r1), .second, .val (.long s2), .second, .val (.long r2), .second, .val (.long s3), .second, .val (.int (1 : Int32)), .val (.ref a1), .val (.int ((0 : Int32) + (1 : Int32))), .val (.int (1 : Int32)), .val (.ref (own_out (-1 : Int64) ((0 : Int64) + s1) ((0 : Int64) + r1) ors oq ob)), .val (.int (((0 : Int32) + (1 : Int32)) + (1 : Int32))), .val (.ref (own_out ((0 : Int64) + r1) ((0 : Int64) + s2) ((0 : Int64) + r2) ors oq ob)), .unset] [(.ref (own_out r1 s2 r2 ors oq ob)), (.ref (own_out ((0 : Int64) + r1) ((0 : Int64) + s2) ((0 : Int64) + r2) ors oq ob))])) t → Steps p.tables e below (s₁.setTop (entryFrame m #[(.int md), (.long s1), (.long r1), (.long s2), (.long r2), (.long s3)] maxLocals)) t := fun t k => pre61 t (st63 t k)
    have pre65 : ∀ t, Steps p.tables e below (T63.setTop (mkF m 284 #[.val (.int md), .val (.long s1), .second, .val (.long r1), .second, .val (.long s2), .second, .val (.long r2), .second, .val (.long s3), .second, .val (.int (1 : Int32)), .val (.ref a1), .val (.int ((0 : Int32) + (1 : Int32))), .val (.int (1 : Int32)), .val (.ref (own_out (-1 : Int64) ((0 : Int64) + s1) ((0 : Int64) + r1) ors oq ob)), .val (.int (((0 : Int32) + (1 : Int32)) + (1 : Int32))), .val (.ref (own_out ((0 : Int64) + r1) ((0 : Int64) + s2) ((0 : Int64) + r2) ors oq ob)), .unset] [(.int (1 : Int32))])) t → Steps p.tables e below (s₁.setTop (entryFrame m #[(.int md), (.long s1), (.long r1), (.long s2), (.long r2), (.long s3)] maxLocals)) t := by
      intro t k
      refine pre64 t ?_
      refine XT.acmpNo X63.here hx rfl (hb hby at_206) rfl rfl rfl (XT.aa_ne_f (by simp only [Int64.zero_add])) ?_
      show Steps p.tables e below (T63.setTop (mkF m 209 #[.val (.int md), .val (.long s1), .second, .val (.long r1), .second, .val (.long s2), .second, .val (.long r2), .second, .val (.long s3), .second, .val (.int (1 : Int32)), .val (.ref a1), .val (.int ((0 : Int32) + (1 : Int32))), .val (.int (1 : Int32)), .val (.ref (own_out (-1 : Int64) ((0 : Int64) + s1) ((0 : Int64) + r1) ors oq ob)), .val (.int (((0 : Int32) + (1 : Int32)) + (1 : Int32))), .val (.ref (own_out ((0 : Int64) + r1) ((0 : Int64) + s2) ((0 : Int64) + r2) ors oq ob)), .unset] [])) _
      refine XS.iconst X63.here hx rfl (hb hby at_209) ?_
      show Steps p.tables e below (T63.setTop (mkF m 210 #[.val (.int md), .val (.long s1), .second, .val (.long r1), .second, .val (.long s2), .second, .val (.long r2), .second, .val (.long s3), .second, .val (.int (1 : Int32)), .val (.ref a1), .val (.int ((0 : Int32) + (1 : Int32))), .val (.int (1 : Int32)), .val (.ref (own_out (-1 : Int64) ((0 : Int64) + s1) ((0 : Int64) + r1) ors oq ob)), .val (.int (((0 : Int32) + (1 : Int32)) + (1 : Int32))), .val (.ref (own_out ((0 : Int64) + r1) ((0 : Int64) + s2) ((0 : Int64) + r2) ors oq ob)), .unset] [(.int (1 : Int32))])) _
      refine XS.goto X63.here hx rfl (pc0 := 210) (pc' := 214) rfl (hb hby at_210) (by decide) (by decide) ?_
      show Steps p.tables e below (T63.setTop (mkF m 214 #[.val (.int md), .val (.long s1), .second, .val (.long r1), .second, .val (.long s2), .second, .val (.long r2), .second, .val (.long s3), .second, .val (.int (1 : Int32)), .val (.ref a1), .val (.int ((0 : Int32) + (1 : Int32))), .val (.int (1 : Int32)), .val (.ref (own_out (-1 : Int64) ((0 : Int64) + s1) ((0 : Int64) + r1) ors oq ob)), .val (.int (((0 : Int32) + (1 : Int32)) + (1 : Int32))), .val (.ref (own_out ((0 : Int64) + r1) ((0 : Int64) + s2) ((0 : Int64) + r2) ors oq ob)), .unset] [(.int (1 : Int32))])) _
      refine XS.istore X63.here hx rfl (hb hby at_214) rfl (l' := #[.val (.int md), .val (.long s1), .second, .val (.long r1), .second, .val (.long s2), .second, .val (.long r2), .second, .val (.long s3), .second, .val (.int (1 : Int32)), .val (.ref a1), .val (.int ((0 : Int32) + (1 : Int32))), .val (.int (1 : Int32)), .val (.ref (own_out (-1 : Int64) ((0 : Int64) + s1) ((0 : Int64) + r1) ors oq ob)), .val (.int (((0 : Int32) + (1 : Int32)) + (1 : Int32))), .val (.ref (own_out ((0 : Int64) + r1) ((0 : Int64) + s2) ((0 : Int64) + r2) ors oq ob)), .unset]) rfl ?_
      show Steps p.tables e below (T63.setTop (mkF m 216 #[.val (.int md), .val (.long s1), .second, .val (.long r1), .second, .val (.long s2), .second, .val (.long r2), .second, .val (.long s3), .second, .val (.int (1 : Int32)), .val (.ref a1), .val (.int ((0 : Int32) + (1 : Int32))), .val (.int (1 : Int32)), .val (.ref (own_out (-1 : Int64) ((0 : Int64) + s1) ((0 : Int64) + r1) ors oq ob)), .val (.int (((0 : Int32) + (1 : Int32)) + (1 : Int32))), .val (.ref (own_out ((0 : Int64) + r1) ((0 : Int64) + s2) ((0 : Int64) + r2) ors oq ob)), .unset] [])) _
      refine XS.goto X63.here hx rfl (pc0 := 216) (pc' := 282) rfl (hb hby at_216) (by decide) (by decide) ?_
      show Steps p.tables e below (T63.setTop (mkF m 282 #[.val (.int md), .val (.long s1), .second, .val (.long r1), .second, .val (.long s2), .second, .val (.long r2), .second, .val (.long s3), .second, .val (.int (1 : Int32)), .val (.ref a1), .val (.int ((0 : Int32) + (1 : Int32))), .val (.int (1 : Int32)), .val (.ref (own_out (-1 : Int64) ((0 : Int64) + s1) ((0 : Int64) + r1) ors oq ob)), .val (.int (((0 : Int32) + (1 : Int32)) + (1 : Int32))), .val (.ref (own_out ((0 : Int64) + r1) ((0 : Int64) + s2) ((0 : Int64) + r2) ors oq ob)), .unset] [])) _
      refine XS.iload X63.here hx rfl (hb hby at_282) rfl ?_
      show Steps p.tables e below (T63.setTop (mkF m 284 #[.val (.int md), .val (.long s1), .second, .val (.long r1), .second, .val (.long s2), .second, .val (.long r2), .second, .val (.long s3), .second, .val (.int (1 : Int32)), .val (.ref a1), .val (.int ((0 : Int32) + (1 : Int32))), .val (.int (1 : Int32)), .val (.ref (own_out (-1 : Int64) ((0 : Int64) + s1) ((0 : Int64) + r1) ors oq ob)), .val (.int (((0 : Int32) + (1 : Int32)) + (1 : Int32))), .val (.ref (own_out ((0 : Int64) + r1) ((0 : Int64) + s2) ((0 : Int64) + r2) ors oq ob)), .unset] [(.int (1 : Int32))])) _
      exact k
    obtain ⟨fs, hr, hrun, hended, hW, hsame⟩ := X63.leave (v := some (.int (1 : Int32))) (fun h => by rw [Bd.returns] at h; cases h)
    refine ⟨_, _, pre65 _ ?_, hrun, hended, _, _, rfl, ?_, ⟨_, rfl⟩, hW, hsame.mono (by decide) (by decide)⟩
    · exact retOut X63 hx Bd.returns rfl (Or.inl ⟨rfl, by simp, _, rfl⟩) (hb hby at_284) hr
    · show Qlaw Z md s1 r1 s2 r2 s3 oi ors oq ob h0 n0 _ T63.heap _
      rw [heq63]
      exact ⟨rfl, N63⟩
  · subst hq
    obtain ⟨T68, h68, X68, e68, E68, A68, D68, -, st68⟩ := newO X0 hx hZ hown (hw _ (List.mem_of_getElem? (i := 0) rfl)) (hw _ (List.mem_of_getElem? (i := 1) rfl)) (hw _ (List.mem_of_getElem? (i := 2) rfl)) e0 (g := (mkF m 7 #[.val (.int md), .val (.long s1), .second, .val (.long r1), .second, .val (.long s2), .second, .val (.long r2), .second, .val (.long s3), .second, .val (.int (2 : Int32)), .unset, .unset, .unset, .unset, .unset, .unset, .unset] [])) rfl (hb hby at_7) (by decide) (by decide)
    obtain ⟨a1, gz68⟩ : ∃ z, z = h0.size := ⟨_, rfl⟩
    rw [← gz68] at A68 D68 st68
    have g_a1 : n0 ≤ a1 := Nat.le_trans Z0 (Nat.le_of_eq gz68.symm)
    have F_earlierReceived_a1 : Fld Z h68 a1 "com/example/hasselt/hasselt/sockets/Termination" "earlierReceived" "J" (.long (0 : Int64)) := D68 (Or.inl (hw _ (List.mem_of_getElem? (i := 11) rfl))) (ty := .long) (by decide)
    have F_nodes_a1 : Fld Z h68 a1 "com/example/hasselt/hasselt/sockets/Termination" "nodes" "I" (.int (0 : Int32)) := D68 (Or.inl (hw _ (List.mem_of_getElem? (i := 13) rfl))) (ty := .int) (by decide)
    have F_wave_a1 : Fld Z h68 a1 "com/example/hasselt/hasselt/sockets/Termination" "wave" "I" (.int (0 : Int32)) := D68 (Or.inl (hw _ (List.mem_of_getElem? (i := 20) rfl))) (ty := .int) (by decide)
    have F_reports_a1 : Fld Z h68 a1 "com/example/hasselt/hasselt/sockets/Termination" "reports" "I" (.int (0 : Int32)) := D68 (Or.inl (hw _ (List.mem_of_getElem? (i := 22) rfl))) (ty := .int) (by decide)
    have F_sent_a1 : Fld Z h68 a1 "com/example/hasselt/hasselt/sockets/Termination" "sent" "J" (.long (0 : Int64)) := D68 (Or.inl (hw _ (List.mem_of_getElem? (i := 24) rfl))) (ty := .long) (by decide)
    have F_received_a1 : Fld Z h68 a1 "com/example/hasselt/hasselt/sockets/Termination" "received" "J" (.long (0 : Int64)) := D68 (Or.inl (hw _ (List.mem_of_getElem? (i := 26) rfl))) (ty := .long) (by decide)
    have pre69 : ∀ t, Steps p.tables e below (T68.setTop (mkF m 10 #[.val (.int md), .val (.long s1), .second, .val (.long r1), .second, .val (.long s2), .second, .val (.long r2), .second, .val (.long s3), .second, .val (.int (2 : Int32)), .unset, .unset, .unset, .unset, .unset, .unset, .unset] [(.ref a1)])) t → Steps p.tables e below (s₁.setTop (entryFrame m #[(.int md), (.long s1), (.long r1), (.long s2), (.long r2), (.long s3)] maxLocals)) t := fun t k => pre2 t (st68 t k)
    have Z70 : n0 ≤ h68.size := (Nat.le_trans Z0 E68.1)
    have O70 : Old Z n0 h68 := (OL.ext E68)
    have pre72 : ∀ t, Steps p.tables e below (T68.setTop (mkF m 13 #[.val (.int md), .val (.long s1), .second, .val (.long r1), .second, .val (.long s2), .second, .val (.long r2), .second, .val (.long s3), .second, .val (.int (2 : Int32)), .unset, .unset, .unset, .unset, .unset, .unset, .unset] [(.int (2 : Int32)), (.ref a1), (.ref a1)])) t → Steps p.tables e below (s₁.setTop (entryFrame m #[(.int md), (.long s1), (.long r1), (.long s2), (.long r2), (.long s3)] maxLocals)) t := by
      intro t k
      refine pre69 t ?_
      refine XS.dup X68.here hx rfl (hb hby at_10) rfl rfl ?_
      show Steps p.tables e below (T68.setTop (mkF m 11 #[.val (.int md), .val (.long s1), .second, .val (.long r1), .second, .val (.long s2), .second, .val (.long r2), .second, .val (.long s3), .second, .val (.int (2 : Int32)), .unset, .unset, .unset, .unset, .unset, .unset, .unset] [(.ref a1), (.ref a1)])) _
      refine XS.iload X68.here hx rfl (hb hby at_11) rfl ?_
      show Steps p.tables e below (T68.setTop (mkF m 13 #[.val (.int md), .val (.long s1), .second, .val (.long r1), .second, .val (.long s2), .second, .val (.long r2), .second, .val (.long s3), .second, .val (.int (2 : Int32)), .unset, .unset, .unset, .unset, .unset, .unset, .unset] [(.int (2 : Int32)), (.ref a1), (.ref a1)])) _
      exact k
    obtain ⟨_, _, ⟨T74, L74, k74, n74⟩, -, X74, ⟨Lc74, hQ74, l74, y74, z74⟩, st74⟩ := X68.specialBack hx (y := (⟨"com/example/hasselt/hasselt/sockets/Termination", "<init>", "(I)V"⟩ : MethodName)) rfl hown (mvT hZ (hw _ (List.mem_of_getElem? (i := 3) rfl))) (mvT hZ (hw _ (List.mem_of_getElem? (i := 4) rfl))) (mvT hZ (hw _ (List.mem_of_getElem? (i := 5) rfl))) (by decide) (backOf (W := 1) (rm1 l Z a0 hw [] a1 (2 : Int32) h68 n0 Z70 A68 g_a1  F_earlierReceived_a1 F_nodes_a1 F_wave_a1 F_reports_a1 F_sent_a1 F_received_a1) hZ (hw _ (List.mem_of_getElem? (i := 5) rfl)) (hw _ (List.mem_of_getElem? (i := 2) rfl)) (by decide) (by decide)) (g := (mkF m 13 #[.val (.int md), .val (.long s1), .second, .val (.long r1), .second, .val (.long s2), .second, .val (.long r2), .second, .val (.long s3), .second, .val (.int (2 : Int32)), .unset, .unset, .unset, .unset, .unset, .unset, .unset] [(.int (2 : Int32)), (.ref a1), (.ref a1)])) rfl (by rw [hml]; rfl) (Steps.refl _) (a := a1) (argsL := [(.int (2 : Int32))]) (rest := [(.ref a1)]) (lenOf pd_ini rfl) rfl (by show 2 * 0 + _ ≤ _; exact Nat.le_of_eq rfl) (hb hby at_13) (fun _ _ => ⟨rfl, e68, (by decide : 1 + 0 ≤ _), (by decide : 6 + 0 ≤ _)⟩)
    dsimp only [Pt.U, Pt.locs, Pt.cells, Pt.slots] at X74 l74 y74 z74 st74 hQ74
    subst l74 y74 z74
    obtain ⟨rfl, Nq74, Kq74, Fx0_74, Fx1_74, Fx2_74, Fx3_74, Fx4_74, Fx5_74⟩ := hQ74
    have N74 := Fr.app N0 Nq74
    have pre75 : ∀ t, Steps p.tables e below (T74.setTop (mkF m 16 #[.val (.int md), .val (.long s1), .second, .val (.long r1), .second, .val (.long s2), .second, .val (.long r2), .second, .val (.long s3), .second, .val (.int (2 : Int32)), .unset, .unset, .unset, .unset, .unset, .unset, .unset] [(.ref a1)])) t → Steps p.tables e below (s₁.setTop (entryFrame m #[(.int md), (.long s1), (.long r1), (.long s2), (.long r2), (.long s3)] maxLocals)) t := fun t k => pre72 t (st74.trans k)
    obtain ⟨h74, e74⟩ : ∃ z, T74.heap = z := ⟨_, rfl⟩
    rw [e74] at Kq74 Fx0_74 Fx1_74 Fx2_74 Fx3_74 Fx4_74 Fx5_74
    have E76_0 : Exa Z h74 a1 "com/example/hasselt/hasselt/sockets/Termination" := (A68.keep Kq74)
    have Z76 : n0 ≤ h74.size := (Nat.le_trans Z70 Kq74.1)
    have O76 : Old Z n0 h74 := (O70.keep Kq74 (allS (P := fun x => n0 ≤ x) g_a1 all0))
    have pre78 : ∀ t, Steps p.tables e below (T74.setTop (mkF m 20 #[.val (.int md), .val (.long s1), .second, .val (.long r1), .second, .val (.long s2), .second, .val (.long r2), .second, .val (.long s3), .second, .val (.int (2 : Int32)), .val (.ref a1), .unset, .unset, .unset, .unset, .unset, .unset] [(.ref a1)])) t → Steps p.tables e below (s₁.setTop (entryFrame m #[(.int md), (.long s1), (.long r1), (.long s2), (.long r2), (.long s3)] maxLocals)) t := by
      intro t k
      refine pre75 t ?_
      refine XS.astore X74.here hx rfl (hb hby at_16) rfl rfl (l' := #[.val (.int md), .val (.long s1), .second, .val (.long r1), .second, .val (.long s2), .second, .val (.long r2), .second, .val (.long s3), .second, .val (.int (2 : Int32)), .val (.ref a1), .unset, .unset, .unset, .unset, .unset, .unset]) rfl ?_
      show Steps p.tables e below (T74.setTop (mkF m 18 #[.val (.int md), .val (.long s1), .second, .val (.long r1), .second, .val (.long s2), .second, .val (.long r2), .second, .val (.long s3), .second, .val (.int (2 : Int32)), .val (.ref a1), .unset, .unset, .unset, .unset, .unset, .unset] [])) _
      refine XS.aload X74.here hx rfl (hb hby at_18) rfl rfl ?_
      show Steps p.tables e below (T74.setTop (mkF m 20 #[.val (.int md), .val (.long s1), .second, .val (.long r1), .second, .val (.long s2), .second, .val (.long r2), .second, .val (.long s3), .second, .val (.int (2 : Int32)), .val (.ref a1), .unset, .unset, .unset, .unset, .unset, .unset] [(.ref a1)])) _
      exact k
    obtain ⟨cq80, kq80, q80a, q80b, q80c⟩ := isOf hZ e74 E76_0
    obtain ⟨_, _, ⟨T80, L80, k80, n80⟩, -, X80, ⟨Lc80, hQ80, l80, y80, z80⟩, st80⟩ := X74.virtualBack hx (y := (⟨"com/example/hasselt/hasselt/sockets/Termination", "start", "()I"⟩ : MethodName)) (z := (⟨"com/example/hasselt/hasselt/sockets/Termination", "start", "()I"⟩ : MethodName)) hown (mvT hZ (hw _ (List.mem_of_getElem? (i := 14) rfl))) (mvT hZ (hw _ (List.mem_of_getElem? (i := 15) rfl))) (notFace_of_selects (args := #[]) (mvT hZ (hw _ (List.mem_of_getElem? (i := 17) rfl)))) (mvT hZ (hw _ (List.mem_of_getElem? (i := 17) rfl))) (mvT hZ (hw _ (List.mem_of_getElem? (i := 16) rfl))) (by decide) (backOf (W := 0) (rm3 l Z a0 hw [] a1 (-1 : Int64) (2 : Int32) (0 : Int32) (0 : Int32) (0 : Int64) (0 : Int64) h74 n0 Z76 E76_0 g_a1 Fx0_74 Fx1_74 Fx2_74 Fx3_74 Fx4_74 Fx5_74) hZ (hw _ (List.mem_of_getElem? (i := 18) rfl)) (hw _ (List.mem_of_getElem? (i := 2) rfl)) (by decide) (by decide)) q80a q80c (g := (mkF m 20 #[.val (.int md), .val (.long s1), .second, .val (.long r1), .second, .val (.long s2), .second, .val (.long r2), .second, .val (.long s3), .second, .val (.int (2 : Int32)), .val (.ref a1), .unset, .unset, .unset, .unset, .unset, .unset] [(.ref a1)])) rfl (by rw [hml]; rfl) (Steps.refl _) (argsL := []) (rest := []) (lenOf pd_i rfl) rfl (by show 2 * 0 + _ ≤ _; exact Nat.le_of_eq rfl) (hb hby at_20) (fun _ _ => ⟨rfl, e74, (by decide : 1 + 0 ≤ _), (by decide : 6 + 0 ≤ _)⟩)
    dsimp only [Pt.U, Pt.locs, Pt.cells, Pt.slots] at X80 l80 y80 z80 st80 hQ80
    subst l80 y80 z80
    obtain ⟨rfl, Nq80, Kq80, Fx0_80, Fx1_80, Fx2_80, Fx3_80, Fx4_80, Fx5_80⟩ := hQ80
    have N80 := Fr.app N74 Nq80
    have pre81 : ∀ t, Steps p.tables e below (T80.setTop (mkF m 23 #[.val (.int md), .val (.long s1), .second, .val (.long r1), .second, .val (.long s2), .second, .val (.long r2), .second, .val (.long s3), .second, .val (.int (2 : Int32)), .val (.ref a1), .unset, .unset, .unset, .unset, .unset, .unset] [(.int ((0 : Int32) + (1 : Int32)))])) t → Steps p.tables e below (s₁.setTop (entryFrame m #[(.int md), (.long s1), (.long r1), (.long s2), (.long r2), (.long s3)] maxLocals)) t := fun t k => pre78 t (st80.trans k)
    obtain ⟨h80, e80⟩ : ∃ z, T80.heap = z := ⟨_, rfl⟩
    rw [e80] at Kq80 Fx0_80 Fx1_80 Fx2_80 Fx3_80 Fx4_80 Fx5_80
    have E82_0 : Exa Z h80 a1 "com/example/hasselt/hasselt/sockets/Termination" := (E76_0.keep Kq80)
    have Z82 : n0 ≤ h80.size := (Nat.le_trans Z76 Kq80.1)
    have O82 : Old Z n0 h80 := (O76.keep Kq80 (allS (P := fun x => n0 ≤ x) g_a1 all0))
    have pre84 : ∀ t, Steps p.tables e below (T80.setTop (mkF m 33 #[.val (.int md), .val (.long s1), .second, .val (.long r1), .second, .val (.long s2), .second, .val (.long r2), .second, .val (.long s3), .second, .val (.int (2 : Int32)), .val (.ref a1), .val (.int ((0 : Int32) + (1 : Int32))), .unset, .unset, .unset, .unset, .unset] [(.ref a1)])) t → Steps p.tables e below (s₁.setTop (entryFrame m #[(.int md), (.long s1), (.long r1), (.long s2), (.long r2), (.long s3)] maxLocals)) t := by
      intro t k
      refine pre81 t ?_
      refine XS.istore X80.here hx rfl (hb hby at_23) rfl (l' := #[.val (.int md), .val (.long s1), .second, .val (.long r1), .second, .val (.long s2), .second, .val (.long r2), .second, .val (.long s3), .second, .val (.int (2 : Int32)), .val (.ref a1), .val (.int ((0 : Int32) + (1 : Int32))), .unset, .unset, .unset, .unset, .unset]) rfl ?_
      show Steps p.tables e below (T80.setTop (mkF m 25 #[.val (.int md), .val (.long s1), .second, .val (.long r1), .second, .val (.long s2), .second, .val (.long r2), .second, .val (.long s3), .second, .val (.int (2 : Int32)), .val (.ref a1), .val (.int ((0 : Int32) + (1 : Int32))), .unset, .unset, .unset, .unset, .unset] [])) _
      refine XS.iload X80.here hx rfl (hb hby at_25) rfl ?_
      show Steps p.tables e below (T80.setTop (mkF m 27 #[.val (.int md), .val (.long s1), .second, .val (.long r1), .second, .val (.long s2), .second, .val (.long r2), .second, .val (.long s3), .second, .val (.int (2 : Int32)), .val (.ref a1), .val (.int ((0 : Int32) + (1 : Int32))), .unset, .unset, .unset, .unset, .unset] [(.int ((0 : Int32) + (1 : Int32)))])) _
      refine XS.iconst X80.here hx rfl (hb hby at_27) ?_
      show Steps p.tables e below (T80.setTop (mkF m 28 #[.val (.int md), .val (.long s1), .second, .val (.long r1), .second, .val (.long s2), .second, .val (.long r2), .second, .val (.long s3), .second, .val (.int (2 : Int32)), .val (.ref a1), .val (.int ((0 : Int32) + (1 : Int32))), .unset, .unset, .unset, .unset, .unset] [(.int (1 : Int32)), (.int ((0 : Int32) + (1 : Int32)))])) _
      refine XS.icmpNo X80.here hx rfl (hb hby at_28) rfl (XT.ii_ne_f (by decide)) ?_
      show Steps p.tables e below (T80.setTop (mkF m 31 #[.val (.int md), .val (.long s1), .second, .val (.long r1), .second, .val (.long s2), .second, .val (.long r2), .second, .val (.long s3), .second, .val (.int (2 : Int32)), .val (.ref a1), .val (.int ((0 : Int32) + (1 : Int32))), .unset, .unset, .unset, .unset, .unset] [])) _
      refine XS.aload X80.here hx rfl (hb hby at_31) rfl rfl ?_
      show Steps p.tables e below (T80.setTop (mkF m 33 #[.val (.int md), .val (.long s1), .second, .val (.long r1), .second, .val (.long s2), .second, .val (.long r2), .second, .val (.long s3), .second, .val (.int (2 : Int32)), .val (.ref a1), .val (.int ((0 : Int32) + (1 : Int32))), .unset, .unset, .unset, .unset, .unset] [(.ref a1)])) _
      exact k
    obtain ⟨cq86, kq86, q86a, q86b, q86c⟩ := isOf hZ e80 E82_0
    obtain ⟨_, _, ⟨T86, L86, k86, n86⟩, -, X86, ⟨Lc86, hQ86, l86, y86, z86⟩, st86⟩ := X80.virtualBack hx (y := (⟨"com/example/hasselt/hasselt/sockets/Termination", "wave", "()I"⟩ : MethodName)) (z := (⟨"com/example/hasselt/hasselt/sockets/Termination", "wave", "()I"⟩ : MethodName)) hown (mvT hZ (hw _ (List.mem_of_getElem? (i := 27) rfl))) (mvT hZ (hw _ (List.mem_of_getElem? (i := 28) rfl))) (notFace_of_selects (args := #[]) (mvT hZ (hw _ (List.mem_of_getElem? (i := 30) rfl)))) (mvT hZ (hw _ (List.mem_of_getElem? (i := 30) rfl))) (mvT hZ (hw _ (List.mem_of_getElem? (i := 29) rfl))) (by decide) (backOf (W := 0) (rm4 l Z a0 hw [] a1 (-1 : Int64) (2 : Int32) ((0 : Int32) + (1 : Int32)) (0 : Int32) (0 : Int64) (0 : Int64) h80 n0 Z82 Fx0_80 Fx1_80 Fx2_80 Fx3_80 Fx4_80 Fx5_80) hZ (hw _ (List.mem_of_getElem? (i := 31) rfl)) (hw _ (List.mem_of_getElem? (i := 2) rfl)) (by decide) (by decide)) q86a q86c (g := (mkF m 33 #[.val (.int md), .val (.long s1), .second, .val (.long r1), .second, .val (.long s2), .second, .val (.long r2), .second, .val (.long s3), .second, .val (.int (2 : Int32)), .val (.ref a1), .val (.int ((0 : Int32) + (1 : Int32))), .unset, .unset, .unset, .unset, .unset] [(.ref a1)])) rfl (by rw [hml]; rfl) (Steps.refl _) (argsL := []) (rest := []) (lenOf pd_i rfl) rfl (by show 2 * 0 + _ ≤ _; exact Nat.le_of_eq rfl) (hb hby at_33) (fun _ _ => ⟨rfl, e80, (by decide : 1 + 0 ≤ _), (by decide : 6 + 0 ≤ _)⟩)
    dsimp only [Pt.U, Pt.locs, Pt.cells, Pt.slots] at X86 l86 y86 z86 st86 hQ86
    subst l86 y86 z86
    obtain ⟨rfl, Nq86, heq86⟩ := hQ86
    have N86 := Fr.app N80 Nq86
    have pre87 : ∀ t, Steps p.tables e below (T86.setTop (mkF m 36 #[.val (.int md), .val (.long s1), .second, .val (.long r1), .second, .val (.long s2), .second, .val (.long r2), .second, .val (.long s3), .second, .val (.int (2 : Int32)), .val (.ref a1), .val (.int ((0 : Int32) + (1 : Int32))), .unset, .unset, .unset, .unset, .unset] [(.int ((0 : Int32) + (1 : Int32)))])) t → Steps p.tables e below (s₁.setTop (entryFrame m #[(.int md), (.long s1), (.long r1), (.long s2), (.long r2), (.long s3)] maxLocals)) t := fun t k => pre84 t (st86.trans k)
    have pre89 : ∀ t, Steps p.tables e below (T86.setTop (mkF m 52 #[.val (.int md), .val (.long s1), .second, .val (.long r1), .second, .val (.long s2), .second, .val (.long r2), .second, .val (.long s3), .second, .val (.int (2 : Int32)), .val (.ref a1), .val (.int ((0 : Int32) + (1 : Int32))), .val (.int (1 : Int32)), .unset, .unset, .unset, .unset] [(.long r1), (.long s1), (.int (1 : Int32)), (.ref a1)])) t → Steps p.tables e below (s₁.setTop (entryFrame m #[(.int md), (.long s1), (.long r1), (.long s2), (.long r2), (.long s3)] maxLocals)) t := by
      intro t k
      refine pre87 t ?_
      refine XS.iconst X86.here hx rfl (hb hby at_36) ?_
      show Steps p.tables e below (T86.setTop (mkF m 37 #[.val (.int md), .val (.long s1), .second, .val (.long r1), .second, .val (.long s2), .second, .val (.long r2), .second, .val (.long s3), .second, .val (.int (2 : Int32)), .val (.ref a1), .val (.int ((0 : Int32) + (1 : Int32))), .unset, .unset, .unset, .unset, .unset] [(.int (1 : Int32)), (.int ((0 : Int32) + (1 : Int32)))])) _
      refine XS.icmpNo X86.here hx rfl (hb hby at_37) rfl (XT.ii_ne_f (by decide)) ?_
      show Steps p.tables e below (T86.setTop (mkF m 40 #[.val (.int md), .val (.long s1), .second, .val (.long r1), .second, .val (.long s2), .second, .val (.long r2), .second, .val (.long s3), .second, .val (.int (2 : Int32)), .val (.ref a1), .val (.int ((0 : Int32) + (1 : Int32))), .unset, .unset, .unset, .unset, .unset] [])) _
      refine XS.iconst X86.here hx rfl (hb hby at_40) ?_
      show Steps p.tables e below (T86.setTop (mkF m 41 #[.val (.int md), .val (.long s1), .second, .val (.long r1), .second, .val (.long s2), .second, .val (.long r2), .second, .val (.long s3), .second, .val (.int (2 : Int32)), .val (.ref a1), .val (.int ((0 : Int32) + (1 : Int32))), .unset, .unset, .unset, .unset, .unset] [(.int (1 : Int32))])) _
      refine XS.goto X86.here hx rfl (pc0 := 41) (pc' := 45) rfl (hb hby at_41) (by decide) (by decide) ?_
      show Steps p.tables e below (T86.setTop (mkF m 45 #[.val (.int md), .val (.long s1), .second, .val (.long r1), .second, .val (.long s2), .second, .val (.long r2), .second, .val (.long s3), .second, .val (.int (2 : Int32)), .val (.ref a1), .val (.int ((0 : Int32) + (1 : Int32))), .unset, .unset, .unset, .unset, .unset] [(.int (1 : Int32))])) _
      refine XS.istore X86.here hx rfl (hb hby at_45) rfl (l' := #[.val (.int md), .val (.long s1), .second, .val (.long r1), .second, .val (.long s2), .second, .val (.long r2), .second, .val (.long s3), .second, .val (.int (2 : Int32)), .val (.ref a1), .val (.int ((0 : Int32) + (1 : Int32))), .val (.int (1 : Int32)), .unset, .unset, .unset, .unset]) rfl ?_
      show Steps p.tables e below (T86.setTop (mkF m 47 #[.val (.int md), .val (.long s1), .second, .val (.long r1), .second, .val (.long s2), .second, .val (.long r2), .second, .val (.long s3), .second, .val (.int (2 : Int32)), .val (.ref a1), .val (.int ((0 : Int32) + (1 : Int32))), .val (.int (1 : Int32)), .unset, .unset, .unset, .unset] [])) _
      refine XS.aload X86.here hx rfl (hb hby at_47) rfl rfl ?_
      show Steps p.tables e below (T86.setTop (mkF m 49 #[.val (.int md), .val (.long s1), .second, .val (.long r1), .second, .val (.long s2), .second, .val (.long r2), .second, .val (.long s3), .second, .val (.int (2 : Int32)), .val (.ref a1), .val (.int ((0 : Int32) + (1 : Int32))), .val (.int (1 : Int32)), .unset, .unset, .unset, .unset] [(.ref a1)])) _
      refine XS.iconst X86.here hx rfl (hb hby at_49) ?_
      show Steps p.tables e below (T86.setTop (mkF m 50 #[.val (.int md), .val (.long s1), .second, .val (.long r1), .second, .val (.long s2), .second, .val (.long r2), .second, .val (.long s3), .second, .val (.int (2 : Int32)), .val (.ref a1), .val (.int ((0 : Int32) + (1 : Int32))), .val (.int (1 : Int32)), .unset, .unset, .unset, .unset] [(.int (1 : Int32)), (.ref a1)])) _
      refine XT.lloadN X86.here hx rfl (hb hby at_50) rfl ?_
      show Steps p.tables e below (T86.setTop (mkF m 51 #[.val (.int md), .val (.long s1), .second, .val (.long r1), .second, .val (.long s2), .second, .val (.long r2), .second, .val (.long s3), .second, .val (.int (2 : Int32)), .val (.ref a1), .val (.int ((0 : Int32) + (1 : Int32))), .val (.int (1 : Int32)), .unset, .unset, .unset, .unset] [(.long s1), (.int (1 : Int32)), (.ref a1)])) _
      refine XT.lloadN X86.here hx rfl (hb hby at_51) rfl ?_
      show Steps p.tables e below (T86.setTop (mkF m 52 #[.val (.int md), .val (.long s1), .second, .val (.long r1), .second, .val (.long s2), .second, .val (.long r2), .second, .val (.long s3), .second, .val (.int (2 : Int32)), .val (.ref a1), .val (.int ((0 : Int32) + (1 : Int32))), .val (.int (1 : Int32)), .unset, .unset, .unset, .unset] [(.long r1), (.long s1), (.int (1 : Int32)), (.ref a1)])) _
      exact k
    obtain ⟨cq91, kq91, q91a, q91b, q91c⟩ := isOf hZ heq86 E82_0
    obtain ⟨_, _, ⟨T91, L91, k91, n91⟩, -, X91, ⟨Lc91, hQ91, l91, y91, z91⟩, st91⟩ := X86.virtualBack hx (y := (⟨"com/example/hasselt/hasselt/sockets/Termination", "report", "(IJJ)Lcom/example/hasselt/hasselt/sockets/Termination$Outcome;"⟩ : MethodName)) (z := (⟨"com/example/hasselt/hasselt/sockets/Termination", "report", "(IJJ)Lcom/example/hasselt/hasselt/sockets/Termination$Outcome;"⟩ : MethodName)) hown (mvT hZ (hw _ (List.mem_of_getElem? (i := 32) rfl))) (mvT hZ (hw _ (List.mem_of_getElem? (i := 33) rfl))) (notFace_of_selects (args := #[]) (mvT hZ (hw _ (List.mem_of_getElem? (i := 35) rfl)))) (mvT hZ (hw _ (List.mem_of_getElem? (i := 35) rfl))) (mvT hZ (hw _ (List.mem_of_getElem? (i := 34) rfl))) (by decide) (backOf (W := 0) (rm5m l Z a0 hw [] a1 (1 : Int32) s1 r1 (-1 : Int64) (2 : Int32) ((0 : Int32) + (1 : Int32)) (0 : Int32) (0 : Int64) (0 : Int64) oi ors oq ob h80 n0 Z82 E82_0 g_a1 Fx0_80 Fx1_80 Fx2_80 Fx3_80 Fx4_80 Fx5_80 (SINCOMPLETE.ext O82.2) (SRESTS.ext O82.2) (SQUIET.ext O82.2) (SBUSY.ext O82.2) (by decide) (by decide) (by decide)) hZ (hw _ (List.mem_of_getElem? (i := 36) rfl)) (hw _ (List.mem_of_getElem? (i := 2) rfl)) (by decide) (by decide)) q91a q91c (g := (mkF m 52 #[.val (.int md), .val (.long s1), .second, .val (.long r1), .second, .val (.long s2), .second, .val (.long r2), .second, .val (.long s3), .second, .val (.int (2 : Int32)), .val (.ref a1), .val (.int ((0 : Int32) + (1 : Int32))), .val (.int (1 : Int32)), .unset, .unset, .unset, .unset] [(.long r1), (.long s1), (.int (1 : Int32)), (.ref a1)])) rfl (by rw [hml]; rfl) (Steps.refl _) (argsL := [(.int (1 : Int32)), (.long s1), (.long r1)]) (rest := []) (lenOf pd_rep rfl) rfl (by show 2 * 0 + _ ≤ _; exact Nat.le_of_eq rfl) (hb hby at_52) (fun _ _ => ⟨rfl, heq86, (by decide : 1 + 0 ≤ _), (by decide : 6 + 0 ≤ _)⟩)
    dsimp only [Pt.U, Pt.locs, Pt.cells, Pt.slots] at X91 l91 y91 z91 st91 hQ91
    subst l91 y91 z91
    obtain ⟨rfl, Nq91, Kq91, Fx0_91, Fx1_91, Fx2_91, Fx3_91, Fx4_91, Fx5_91⟩ := hQ91
    have N91 := Fr.app N86 Nq91
    have pre92 : ∀ t, Steps p.tables e below (T91.setTop (mkF m 55 #[.val (.int md), .val (.long s1), .second, .val (.long r1), .second, .val (.long s2), .second, .val (.long r2), .second, .val (.long s3), .second, .val (.int (2 : Int32)), .val (.ref a1), .val (.int ((0 : Int32) + (1 : Int32))), .val (.int (1 : Int32)), .unset, .unset, .unset, .unset] [(.ref oi)])) t → Steps p.tables e below (s₁.setTop (entryFrame m #[(.int md), (.long s1), (.long r1), (.long s2), (.long r2), (.long s3)] maxLocals)) t := fun t k => pre89 t (st91.trans k)
    obtain ⟨h91, e91⟩ : ∃ z, T91.heap = z := ⟨_, rfl⟩
    rw [e91] at Kq91 Fx0_91 Fx1_91 Fx2_91 Fx3_91 Fx4_91 Fx5_91
    have E93_0 : Exa Z h91 a1 "com/example/hasselt/hasselt/sockets/Termination" := (E82_0.keep Kq91)
    have Z93 : n0 ≤ h91.size := (Nat.le_trans Z82 Kq91.1)
    have O93 : Old Z n0 h91 := (O82.keep Kq91 (allS (P := fun x => n0 ≤ x) g_a1 all0))
    have pre95 : ∀ t, Steps p.tables e below (T91.setTop (mkF m 98 #[.val (.int md), .val (.long s1), .second, .val (.long r1), .second, .val (.long s2), .second, .val (.long r2), .second, .val (.long s3), .second, .val (.int (2 : Int32)), .val (.ref a1), .val (.int ((0 : Int32) + (1 : Int32))), .val (.int (1 : Int32)), .val (.ref oi), .unset, .unset, .unset] [(.ref oi)])) t → Steps p.tables e below (s₁.setTop (entryFrame m #[(.int md), (.long s1), (.long r1), (.long s2), (.long r2), (.long s3)] maxLocals)) t := by
      intro t k
      refine pre92 t ?_
      refine XS.astore X91.here hx rfl (hb hby at_55) rfl rfl (l' := #[.val (.int md), .val (.long s1), .second, .val (.long r1), .second, .val (.long s2), .second, .val (.long r2), .second, .val (.long s3), .second, .val (.int (2 : Int32)), .val (.ref a1), .val (.int ((0 : Int32) + (1 : Int32))), .val (.int (1 : Int32)), .val (.ref oi), .unset, .unset, .unset]) rfl ?_
      show Steps p.tables e below (T91.setTop (mkF m 57 #[.val (.int md), .val (.long s1), .second, .val (.long r1), .second, .val (.long s2), .second, .val (.long r2), .second, .val (.long s3), .second, .val (.int (2 : Int32)), .val (.ref a1), .val (.int ((0 : Int32) + (1 : Int32))), .val (.int (1 : Int32)), .val (.ref oi), .unset, .unset, .unset] [])) _
      refine XS.iload X91.here hx rfl (hb hby at_57) rfl ?_
      show Steps p.tables e below (T91.setTop (mkF m 59 #[.val (.int md), .val (.long s1), .second, .val (.long r1), .second, .val (.long s2), .second, .val (.long r2), .second, .val (.long s3), .second, .val (.int (2 : Int32)), .val (.ref a1), .val (.int ((0 : Int32) + (1 : Int32))), .val (.int (1 : Int32)), .val (.ref oi), .unset, .unset, .unset] [(.int (2 : Int32))])) _
      refine XS.iconst X91.here hx rfl (hb hby at_59) ?_
      show Steps p.tables e below (T91.setTop (mkF m 60 #[.val (.int md), .val (.long s1), .second, .val (.long r1), .second, .val (.long s2), .second, .val (.long r2), .second, .val (.long s3), .second, .val (.int (2 : Int32)), .val (.ref a1), .val (.int ((0 : Int32) + (1 : Int32))), .val (.int (1 : Int32)), .val (.ref oi), .unset, .unset, .unset] [(.int (1 : Int32)), (.int (2 : Int32))])) _
      refine XS.icmpYes X91.here hx rfl (pc0 := 60) (pc' := 91) rfl (hb hby at_60) rfl (XT.ii_ne_t (by decide)) (by decide) (by decide) ?_
      show Steps p.tables e below (T91.setTop (mkF m 91 #[.val (.int md), .val (.long s1), .second, .val (.long r1), .second, .val (.long s2), .second, .val (.long r2), .second, .val (.long s3), .second, .val (.int (2 : Int32)), .val (.ref a1), .val (.int ((0 : Int32) + (1 : Int32))), .val (.int (1 : Int32)), .val (.ref oi), .unset, .unset, .unset] [])) _
      refine XS.iload X91.here hx rfl (hb hby at_91) rfl ?_
      show Steps p.tables e below (T91.setTop (mkF m 93 #[.val (.int md), .val (.long s1), .second, .val (.long r1), .second, .val (.long s2), .second, .val (.long r2), .second, .val (.long s3), .second, .val (.int (2 : Int32)), .val (.ref a1), .val (.int ((0 : Int32) + (1 : Int32))), .val (.int (1 : Int32)), .val (.ref oi), .unset, .unset, .unset] [(.int (1 : Int32))])) _
      refine XS.ifNo X91.here hx rfl (hb hby at_93) rfl (XT.i0_eq_f (by decide)) ?_
      show Steps p.tables e below (T91.setTop (mkF m 96 #[.val (.int md), .val (.long s1), .second, .val (.long r1), .second, .val (.long s2), .second, .val (.long r2), .second, .val (.long s3), .second, .val (.int (2 : Int32)), .val (.ref a1), .val (.int ((0 : Int32) + (1 : Int32))), .val (.int (1 : Int32)), .val (.ref oi), .unset, .unset, .unset] [])) _
      refine XS.aload X91.here hx rfl (hb hby at_96) rfl rfl ?_
      show Steps p.tables e below (T91.setTop (mkF m 98 #[.val (.int md), .val (.long s1), .second, .val (.long r1), .second, .val (.long s2), .second, .val (.long r2), .second, .val (.long s3), .second, .val (.int (2 : Int32)), .val (.ref a1), .val (.int ((0 : Int32) + (1 : Int32))), .val (.int (1 : Int32)), .val (.ref oi), .unset, .unset, .unset] [(.ref oi)])) _
      exact k
    obtain ⟨T96, X96, e96, st96⟩ := getS (host := "") X91 hx hZ hown (hw _ (List.mem_of_getElem? (i := 48) rfl)) Via.refl e91 (SINCOMPLETE.ext O93.2) (g := (mkF m 98 #[.val (.int md), .val (.long s1), .second, .val (.long r1), .second, .val (.long s2), .second, .val (.long r2), .second, .val (.long s3), .second, .val (.int (2 : Int32)), .val (.ref a1), .val (.int ((0 : Int32) + (1 : Int32))), .val (.int (1 : Int32)), .val (.ref oi), .unset, .unset, .unset] [(.ref oi)])) rfl (hb hby at_98)
    have pre97 : ∀ t, Steps p.tables e below (T96.setTop (mkF m 101 #[.val (.int md), .val (.long s1), .second, .val (.long r1), .second, .val (.long s2), .second, .val (.long r2), .second, .val (.long s3), .second, .val (.int (2 : Int32)), .val (.ref a1), .val (.int ((0 : Int32) + (1 : Int32))), .val (.int (1 : Int32)), .val (.ref oi), .unset, .unset, .unset] [(.ref oi), (.ref oi)])) t → Steps p.tables e below (s₁.setTop (entryFrame m #[(.int md), (.long s1), (.long r1), (.long s2), (.long r2), (.long s3)] maxLocals)) t := fun t k => pre95 t (st96 t k)
    have pre99 : ∀ t, Steps p.tables e below (T96.setTop (mkF m 113 #[.val (.int md), .val (.long s1), .second, .val (.long r1), .second, .val (.long s2), .second, .val (.long r2), .second, .val (.long s3), .second, .val (.int (2 : Int32)), .val (.ref a1), .val (.int ((0 : Int32) + (1 : Int32))), .val (.int (1 : Int32)), .val (.ref oi), .unset, .unset, .unset] [(.ref a1)])) t → Steps p.tables e below (s₁.setTop (entryFrame m #[(.int md), (.long s1), (.long r1), (.long s2), (.long r2), (.long s3)] maxLocals)) t := by
      intro t k
      refine pre97 t ?_
      refine XT.acmpNo X96.here hx rfl (hb hby at_101) rfl rfl rfl (XT.aa_ne_f rfl) ?_
      show Steps p.tables e below (T96.setTop (mkF m 104 #[.val (.int md), .val (.long s1), .second, .val (.long r1), .second, .val (.long s2), .second, .val (.long r2), .second, .val (.long s3), .second, .val (.int (2 : Int32)), .val (.ref a1), .val (.int ((0 : Int32) + (1 : Int32))), .val (.int (1 : Int32)), .val (.ref oi), .unset, .unset, .unset] [])) _
      refine XS.iconst X96.here hx rfl (hb hby at_104) ?_
      show Steps p.tables e below (T96.setTop (mkF m 105 #[.val (.int md), .val (.long s1), .second, .val (.long r1), .second, .val (.long s2), .second, .val (.long r2), .second, .val (.long s3), .second, .val (.int (2 : Int32)), .val (.ref a1), .val (.int ((0 : Int32) + (1 : Int32))), .val (.int (1 : Int32)), .val (.ref oi), .unset, .unset, .unset] [(.int (1 : Int32))])) _
      refine XS.goto X96.here hx rfl (pc0 := 105) (pc' := 109) rfl (hb hby at_105) (by decide) (by decide) ?_
      show Steps p.tables e below (T96.setTop (mkF m 109 #[.val (.int md), .val (.long s1), .second, .val (.long r1), .second, .val (.long s2), .second, .val (.long r2), .second, .val (.long s3), .second, .val (.int (2 : Int32)), .val (.ref a1), .val (.int ((0 : Int32) + (1 : Int32))), .val (.int (1 : Int32)), .val (.ref oi), .unset, .unset, .unset] [(.int (1 : Int32))])) _
      refine XS.istore X96.here hx rfl (hb hby at_109) rfl (l' := #[.val (.int md), .val (.long s1), .second, .val (.long r1), .second, .val (.long s2), .second, .val (.long r2), .second, .val (.long s3), .second, .val (.int (2 : Int32)), .val (.ref a1), .val (.int ((0 : Int32) + (1 : Int32))), .val (.int (1 : Int32)), .val (.ref oi), .unset, .unset, .unset]) rfl ?_
      show Steps p.tables e below (T96.setTop (mkF m 111 #[.val (.int md), .val (.long s1), .second, .val (.long r1), .second, .val (.long s2), .second, .val (.long r2), .second, .val (.long s3), .second, .val (.int (2 : Int32)), .val (.ref a1), .val (.int ((0 : Int32) + (1 : Int32))), .val (.int (1 : Int32)), .val (.ref oi), .unset, .unset, .unset] [])) _
      refine XS.aload X96.here hx rfl (hb hby at_111) rfl rfl ?_
      show Steps p.tables e below (T96.setTop (mkF m 113 #[.val (.int md), .val (.long s1), .second, .val (.long r1), .second, .val (.long s2), .second, .val (.long r2), .second, .val (.long s3), .second, .val (.int (2 : Int32)), .val (.ref a1), .val (.int ((0 : Int32) + (1 : Int32))), .val (.int (1 : Int32)), .val (.ref oi), .unset, .unset, .unset] [(.ref a1)])) _
      exact k
    obtain ⟨cq101, kq101, q101a, q101b, q101c⟩ := isOf hZ e96 E93_0
    obtain ⟨_, _, ⟨T101, L101, k101, n101⟩, -, X101, ⟨Lc101, hQ101, l101, y101, z101⟩, st101⟩ := X96.virtualBack hx (y := (⟨"com/example/hasselt/hasselt/sockets/Termination", "start", "()I"⟩ : MethodName)) (z := (⟨"com/example/hasselt/hasselt/sockets/Termination", "start", "()I"⟩ : MethodName)) hown (mvT hZ (hw _ (List.mem_of_getElem? (i := 14) rfl))) (mvT hZ (hw _ (List.mem_of_getElem? (i := 15) rfl))) (notFace_of_selects (args := #[]) (mvT hZ (hw _ (List.mem_of_getElem? (i := 17) rfl)))) (mvT hZ (hw _ (List.mem_of_getElem? (i := 17) rfl))) (mvT hZ (hw _ (List.mem_of_getElem? (i := 16) rfl))) (by decide) (backOf (W := 0) (rm3 l Z a0 hw [] a1 (-1 : Int64) (2 : Int32) ((0 : Int32) + (1 : Int32)) ((0 : Int32) + (1 : Int32)) ((0 : Int64) + s1) ((0 : Int64) + r1) h91 n0 Z93 E93_0 g_a1 Fx0_91 Fx1_91 Fx2_91 Fx3_91 Fx4_91 Fx5_91) hZ (hw _ (List.mem_of_getElem? (i := 18) rfl)) (hw _ (List.mem_of_getElem? (i := 2) rfl)) (by decide) (by decide)) q101a q101c (g := (mkF m 113 #[.val (.int md), .val (.long s1), .second, .val (.long r1), .second, .val (.long s2), .second, .val (.long r2), .second, .val (.long s3), .second, .val (.int (2 : Int32)), .val (.ref a1), .val (.int ((0 : Int32) + (1 : Int32))), .val (.int (1 : Int32)), .val (.ref oi), .unset, .unset, .unset] [(.ref a1)])) rfl (by rw [hml]; rfl) (Steps.refl _) (argsL := []) (rest := []) (lenOf pd_i rfl) rfl (by show 2 * 0 + _ ≤ _; exact Nat.le_of_eq rfl) (hb hby at_113) (fun _ _ => ⟨rfl, e96, (by decide : 1 + 0 ≤ _), (by decide : 6 + 0 ≤ _)⟩)
    dsimp only [Pt.U, Pt.locs, Pt.cells, Pt.slots] at X101 l101 y101 z101 st101 hQ101
    subst l101 y101 z101
    obtain ⟨rfl, Nq101, Kq101, Fx0_101, Fx1_101, Fx2_101, Fx3_101, Fx4_101, Fx5_101⟩ := hQ101
    have N101 := Fr.app N91 Nq101
    have pre102 : ∀ t, Steps p.tables e below (T101.setTop (mkF m 116 #[.val (.int md), .val (.long s1), .second, .val (.long r1), .second, .val (.long s2), .second, .val (.long r2), .second, .val (.long s3), .second, .val (.int (2 : Int32)), .val (.ref a1), .val (.int ((0 : Int32) + (1 : Int32))), .val (.int (1 : Int32)), .val (.ref oi), .unset, .unset, .unset] [(.int (((0 : Int32) + (1 : Int32)) + (1 : Int32)))])) t → Steps p.tables e below (s₁.setTop (entryFrame m #[(.int md), (.long s1), (.long r1), (.long s2), (.long r2), (.long s3)] maxLocals)) t := fun t k => pre99 t (st101.trans k)
    obtain ⟨h101, e101⟩ : ∃ z, T101.heap = z := ⟨_, rfl⟩
    rw [e101] at Kq101 Fx0_101 Fx1_101 Fx2_101 Fx3_101 Fx4_101 Fx5_101
    have E103_0 : Exa Z h101 a1 "com/example/hasselt/hasselt/sockets/Termination" := (E93_0.keep Kq101)
    have Z103 : n0 ≤ h101.size := (Nat.le_trans Z93 Kq101.1)
    have O103 : Old Z n0 h101 := (O93.keep Kq101 (allS (P := fun x => n0 ≤ x) g_a1 all0))
    have pre105 : ∀ t, Steps p.tables e below (T101.setTop (mkF m 131 #[.val (.int md), .val (.long s1), .second, .val (.long r1), .second, .val (.long s2), .second, .val (.long r2), .second, .val (.long s3), .second, .val (.int (2 : Int32)), .val (.ref a1), .val (.int ((0 : Int32) + (1 : Int32))), .val (.int (1 : Int32)), .val (.ref oi), .val (.int (((0 : Int32) + (1 : Int32)) + (1 : Int32))), .unset, .unset] [(.ref a1)])) t → Steps p.tables e below (s₁.setTop (entryFrame m #[(.int md), (.long s1), (.long r1), (.long s2), (.long r2), (.long s3)] maxLocals)) t := by
      intro t k
      refine pre102 t ?_
      refine XS.istore X101.here hx rfl (hb hby at_116) rfl (l' := #[.val (.int md), .val (.long s1), .second, .val (.long r1), .second, .val (.long s2), .second, .val (.long r2), .second, .val (.long s3), .second, .val (.int (2 : Int32)), .val (.ref a1), .val (.int ((0 : Int32) + (1 : Int32))), .val (.int (1 : Int32)), .val (.ref oi), .val (.int (((0 : Int32) + (1 : Int32)) + (1 : Int32))), .unset, .unset]) rfl ?_
      show Steps p.tables e below (T101.setTop (mkF m 118 #[.val (.int md), .val (.long s1), .second, .val (.long r1), .second, .val (.long s2), .second, .val (.long r2), .second, .val (.long s3), .second, .val (.int (2 : Int32)), .val (.ref a1), .val (.int ((0 : Int32) + (1 : Int32))), .val (.int (1 : Int32)), .val (.ref oi), .val (.int (((0 : Int32) + (1 : Int32)) + (1 : Int32))), .unset, .unset] [])) _
      refine XS.iload X101.here hx rfl (hb hby at_118) rfl ?_
      show Steps p.tables e below (T101.setTop (mkF m 120 #[.val (.int md), .val (.long s1), .second, .val (.long r1), .second, .val (.long s2), .second, .val (.long r2), .second, .val (.long s3), .second, .val (.int (2 : Int32)), .val (.ref a1), .val (.int ((0 : Int32) + (1 : Int32))), .val (.int (1 : Int32)), .val (.ref oi), .val (.int (((0 : Int32) + (1 : Int32)) + (1 : Int32))), .unset, .unset] [(.int (1 : Int32))])) _
      refine XS.ifNo X101.here hx rfl (hb hby at_120) rfl (XT.i0_eq_f (by decide)) ?_
      show Steps p.tables e below (T101.setTop (mkF m 123 #[.val (.int md), .val (.long s1), .second, .val (.long r1), .second, .val (.long s2), .second, .val (.long r2), .second, .val (.long s3), .second, .val (.int (2 : Int32)), .val (.ref a1), .val (.int ((0 : Int32) + (1 : Int32))), .val (.int (1 : Int32)), .val (.ref oi), .val (.int (((0 : Int32) + (1 : Int32)) + (1 : Int32))), .unset, .unset] [])) _
      refine XS.iload X101.here hx rfl (hb hby at_123) rfl ?_
      show Steps p.tables e below (T101.setTop (mkF m 125 #[.val (.int md), .val (.long s1), .second, .val (.long r1), .second, .val (.long s2), .second, .val (.long r2), .second, .val (.long s3), .second, .val (.int (2 : Int32)), .val (.ref a1), .val (.int ((0 : Int32) + (1 : Int32))), .val (.int (1 : Int32)), .val (.ref oi), .val (.int (((0 : Int32) + (1 : Int32)) + (1 : Int32))), .unset, .unset] [(.int (((0 : Int32) + (1 : Int32)) + (1 : Int32)))])) _
      refine XS.iconst X101.here hx rfl (hb hby at_125) ?_
      show Steps p.tables e below (T101.setTop (mkF m 126 #[.val (.int md), .val (.long s1), .second, .val (.long r1), .second, .val (.long s2), .second, .val (.long r2), .second, .val (.long s3), .second, .val (.int (2 : Int32)), .val (.ref a1), .val (.int ((0 : Int32) + (1 : Int32))), .val (.int (1 : Int32)), .val (.ref oi), .val (.int (((0 : Int32) + (1 : Int32)) + (1 : Int32))), .unset, .unset] [(.int (2 : Int32)), (.int (((0 : Int32) + (1 : Int32)) + (1 : Int32)))])) _
      refine XS.icmpNo X101.here hx rfl (hb hby at_126) rfl (XT.ii_ne_f (by decide)) ?_
      show Steps p.tables e below (T101.setTop (mkF m 129 #[.val (.int md), .val (.long s1), .second, .val (.long r1), .second, .val (.long s2), .second, .val (.long r2), .second, .val (.long s3), .second, .val (.int (2 : Int32)), .val (.ref a1), .val (.int ((0 : Int32) + (1 : Int32))), .val (.int (1 : Int32)), .val (.ref oi), .val (.int (((0 : Int32) + (1 : Int32)) + (1 : Int32))), .unset, .unset] [])) _
      refine XS.aload X101.here hx rfl (hb hby at_129) rfl rfl ?_
      show Steps p.tables e below (T101.setTop (mkF m 131 #[.val (.int md), .val (.long s1), .second, .val (.long r1), .second, .val (.long s2), .second, .val (.long r2), .second, .val (.long s3), .second, .val (.int (2 : Int32)), .val (.ref a1), .val (.int ((0 : Int32) + (1 : Int32))), .val (.int (1 : Int32)), .val (.ref oi), .val (.int (((0 : Int32) + (1 : Int32)) + (1 : Int32))), .unset, .unset] [(.ref a1)])) _
      exact k
    obtain ⟨cq107, kq107, q107a, q107b, q107c⟩ := isOf hZ e101 E103_0
    obtain ⟨_, _, ⟨T107, L107, k107, n107⟩, -, X107, ⟨Lc107, hQ107, l107, y107, z107⟩, st107⟩ := X101.virtualBack hx (y := (⟨"com/example/hasselt/hasselt/sockets/Termination", "wave", "()I"⟩ : MethodName)) (z := (⟨"com/example/hasselt/hasselt/sockets/Termination", "wave", "()I"⟩ : MethodName)) hown (mvT hZ (hw _ (List.mem_of_getElem? (i := 27) rfl))) (mvT hZ (hw _ (List.mem_of_getElem? (i := 28) rfl))) (notFace_of_selects (args := #[]) (mvT hZ (hw _ (List.mem_of_getElem? (i := 30) rfl)))) (mvT hZ (hw _ (List.mem_of_getElem? (i := 30) rfl))) (mvT hZ (hw _ (List.mem_of_getElem? (i := 29) rfl))) (by decide) (backOf (W := 0) (rm4 l Z a0 hw [] a1 (-1 : Int64) (2 : Int32) (((0 : Int32) + (1 : Int32)) + (1 : Int32)) (0 : Int32) (0 : Int64) (0 : Int64) h101 n0 Z103 Fx0_101 Fx1_101 Fx2_101 Fx3_101 Fx4_101 Fx5_101) hZ (hw _ (List.mem_of_getElem? (i := 31) rfl)) (hw _ (List.mem_of_getElem? (i := 2) rfl)) (by decide) (by decide)) q107a q107c (g := (mkF m 131 #[.val (.int md), .val (.long s1), .second, .val (.long r1), .second, .val (.long s2), .second, .val (.long r2), .second, .val (.long s3), .second, .val (.int (2 : Int32)), .val (.ref a1), .val (.int ((0 : Int32) + (1 : Int32))), .val (.int (1 : Int32)), .val (.ref oi), .val (.int (((0 : Int32) + (1 : Int32)) + (1 : Int32))), .unset, .unset] [(.ref a1)])) rfl (by rw [hml]; rfl) (Steps.refl _) (argsL := []) (rest := []) (lenOf pd_i rfl) rfl (by show 2 * 0 + _ ≤ _; exact Nat.le_of_eq rfl) (hb hby at_131) (fun _ _ => ⟨rfl, e101, (by decide : 1 + 0 ≤ _), (by decide : 6 + 0 ≤ _)⟩)
    dsimp only [Pt.U, Pt.locs, Pt.cells, Pt.slots] at X107 l107 y107 z107 st107 hQ107
    subst l107 y107 z107
    obtain ⟨rfl, Nq107, heq107⟩ := hQ107
    have N107 := Fr.app N101 Nq107
    have pre108 : ∀ t, Steps p.tables e below (T107.setTop (mkF m 134 #[.val (.int md), .val (.long s1), .second, .val (.long r1), .second, .val (.long s2), .second, .val (.long r2), .second, .val (.long s3), .second, .val (.int (2 : Int32)), .val (.ref a1), .val (.int ((0 : Int32) + (1 : Int32))), .val (.int (1 : Int32)), .val (.ref oi), .val (.int (((0 : Int32) + (1 : Int32)) + (1 : Int32))), .unset, .unset] [(.int (((0 : Int32) + (1 : Int32)) + (1 : Int32)))])) t → Steps p.tables e below (s₁.setTop (entryFrame m #[(.int md), (.long s1), (.long r1), (.long s2), (.long r2), (.long s3)] maxLocals)) t := fun t k => pre105 t (st107.trans k)
    have pre110 : ∀ t, Steps p.tables e below (T107.setTop (mkF m 157 #[.val (.int md), .val (.long s1), .second, .val (.long r1), .second, .val (.long s2), .second, .val (.long r2), .second, .val (.long s3), .second, .val (.int (2 : Int32)), .val (.ref a1), .val (.int ((0 : Int32) + (1 : Int32))), .val (.int (1 : Int32)), .val (.ref oi), .val (.int (((0 : Int32) + (1 : Int32)) + (1 : Int32))), .unset, .unset] [(.long r2), (.long s3), (.int (1 : Int32)), (.ref a1)])) t → Steps p.tables e below (s₁.setTop (entryFrame m #[(.int md), (.long s1), (.long r1), (.long s2), (.long r2), (.long s3)] maxLocals)) t := by
      intro t k
      refine pre108 t ?_
      refine XS.iconst X107.here hx rfl (hb hby at_134) ?_
      show Steps p.tables e below (T107.setTop (mkF m 135 #[.val (.int md), .val (.long s1), .second, .val (.long r1), .second, .val (.long s2), .second, .val (.long r2), .second, .val (.long s3), .second, .val (.int (2 : Int32)), .val (.ref a1), .val (.int ((0 : Int32) + (1 : Int32))), .val (.int (1 : Int32)), .val (.ref oi), .val (.int (((0 : Int32) + (1 : Int32)) + (1 : Int32))), .unset, .unset] [(.int (2 : Int32)), (.int (((0 : Int32) + (1 : Int32)) + (1 : Int32)))])) _
      refine XS.icmpNo X107.here hx rfl (hb hby at_135) rfl (XT.ii_ne_f (by decide)) ?_
      show Steps p.tables e below (T107.setTop (mkF m 138 #[.val (.int md), .val (.long s1), .second, .val (.long r1), .second, .val (.long s2), .second, .val (.long r2), .second, .val (.long s3), .second, .val (.int (2 : Int32)), .val (.ref a1), .val (.int ((0 : Int32) + (1 : Int32))), .val (.int (1 : Int32)), .val (.ref oi), .val (.int (((0 : Int32) + (1 : Int32)) + (1 : Int32))), .unset, .unset] [])) _
      refine XS.iconst X107.here hx rfl (hb hby at_138) ?_
      show Steps p.tables e below (T107.setTop (mkF m 139 #[.val (.int md), .val (.long s1), .second, .val (.long r1), .second, .val (.long s2), .second, .val (.long r2), .second, .val (.long s3), .second, .val (.int (2 : Int32)), .val (.ref a1), .val (.int ((0 : Int32) + (1 : Int32))), .val (.int (1 : Int32)), .val (.ref oi), .val (.int (((0 : Int32) + (1 : Int32)) + (1 : Int32))), .unset, .unset] [(.int (1 : Int32))])) _
      refine XS.goto X107.here hx rfl (pc0 := 139) (pc' := 143) rfl (hb hby at_139) (by decide) (by decide) ?_
      show Steps p.tables e below (T107.setTop (mkF m 143 #[.val (.int md), .val (.long s1), .second, .val (.long r1), .second, .val (.long s2), .second, .val (.long r2), .second, .val (.long s3), .second, .val (.int (2 : Int32)), .val (.ref a1), .val (.int ((0 : Int32) + (1 : Int32))), .val (.int (1 : Int32)), .val (.ref oi), .val (.int (((0 : Int32) + (1 : Int32)) + (1 : Int32))), .unset, .unset] [(.int (1 : Int32))])) _
      refine XS.istore X107.here hx rfl (hb hby at_143) rfl (l' := #[.val (.int md), .val (.long s1), .second, .val (.long r1), .second, .val (.long s2), .second, .val (.long r2), .second, .val (.long s3), .second, .val (.int (2 : Int32)), .val (.ref a1), .val (.int ((0 : Int32) + (1 : Int32))), .val (.int (1 : Int32)), .val (.ref oi), .val (.int (((0 : Int32) + (1 : Int32)) + (1 : Int32))), .unset, .unset]) rfl ?_
      show Steps p.tables e below (T107.setTop (mkF m 145 #[.val (.int md), .val (.long s1), .second, .val (.long r1), .second, .val (.long s2), .second, .val (.long r2), .second, .val (.long s3), .second, .val (.int (2 : Int32)), .val (.ref a1), .val (.int ((0 : Int32) + (1 : Int32))), .val (.int (1 : Int32)), .val (.ref oi), .val (.int (((0 : Int32) + (1 : Int32)) + (1 : Int32))), .unset, .unset] [])) _
      refine XS.iload X107.here hx rfl (hb hby at_145) rfl ?_
      show Steps p.tables e below (T107.setTop (mkF m 147 #[.val (.int md), .val (.long s1), .second, .val (.long r1), .second, .val (.long s2), .second, .val (.long r2), .second, .val (.long s3), .second, .val (.int (2 : Int32)), .val (.ref a1), .val (.int ((0 : Int32) + (1 : Int32))), .val (.int (1 : Int32)), .val (.ref oi), .val (.int (((0 : Int32) + (1 : Int32)) + (1 : Int32))), .unset, .unset] [(.int (1 : Int32))])) _
      refine XS.ifNo X107.here hx rfl (hb hby at_147) rfl (XT.i0_eq_f (by decide)) ?_
      show Steps p.tables e below (T107.setTop (mkF m 150 #[.val (.int md), .val (.long s1), .second, .val (.long r1), .second, .val (.long s2), .second, .val (.long r2), .second, .val (.long s3), .second, .val (.int (2 : Int32)), .val (.ref a1), .val (.int ((0 : Int32) + (1 : Int32))), .val (.int (1 : Int32)), .val (.ref oi), .val (.int (((0 : Int32) + (1 : Int32)) + (1 : Int32))), .unset, .unset] [])) _
      refine XS.aload X107.here hx rfl (hb hby at_150) rfl rfl ?_
      show Steps p.tables e below (T107.setTop (mkF m 152 #[.val (.int md), .val (.long s1), .second, .val (.long r1), .second, .val (.long s2), .second, .val (.long r2), .second, .val (.long s3), .second, .val (.int (2 : Int32)), .val (.ref a1), .val (.int ((0 : Int32) + (1 : Int32))), .val (.int (1 : Int32)), .val (.ref oi), .val (.int (((0 : Int32) + (1 : Int32)) + (1 : Int32))), .unset, .unset] [(.ref a1)])) _
      refine XS.iconst X107.here hx rfl (hb hby at_152) ?_
      show Steps p.tables e below (T107.setTop (mkF m 153 #[.val (.int md), .val (.long s1), .second, .val (.long r1), .second, .val (.long s2), .second, .val (.long r2), .second, .val (.long s3), .second, .val (.int (2 : Int32)), .val (.ref a1), .val (.int ((0 : Int32) + (1 : Int32))), .val (.int (1 : Int32)), .val (.ref oi), .val (.int (((0 : Int32) + (1 : Int32)) + (1 : Int32))), .unset, .unset] [(.int (1 : Int32)), (.ref a1)])) _
      refine XT.lload X107.here hx rfl (hb hby at_153) rfl ?_
      show Steps p.tables e below (T107.setTop (mkF m 155 #[.val (.int md), .val (.long s1), .second, .val (.long r1), .second, .val (.long s2), .second, .val (.long r2), .second, .val (.long s3), .second, .val (.int (2 : Int32)), .val (.ref a1), .val (.int ((0 : Int32) + (1 : Int32))), .val (.int (1 : Int32)), .val (.ref oi), .val (.int (((0 : Int32) + (1 : Int32)) + (1 : Int32))), .unset, .unset] [(.long s3), (.int (1 : Int32)), (.ref a1)])) _
      refine XT.lload X107.here hx rfl (hb hby at_155) rfl ?_
      show Steps p.tables e below (T107.setTop (mkF m 157 #[.val (.int md), .val (.long s1), .second, .val (.long r1), .second, .val (.long s2), .second, .val (.long r2), .second, .val (.long s3), .second, .val (.int (2 : Int32)), .val (.ref a1), .val (.int ((0 : Int32) + (1 : Int32))), .val (.int (1 : Int32)), .val (.ref oi), .val (.int (((0 : Int32) + (1 : Int32)) + (1 : Int32))), .unset, .unset] [(.long r2), (.long s3), (.int (1 : Int32)), (.ref a1)])) _
      exact k
    obtain ⟨cq112, kq112, q112a, q112b, q112c⟩ := isOf hZ heq107 E103_0
    obtain ⟨_, _, ⟨T112, L112, k112, n112⟩, -, X112, ⟨Lc112, hQ112, l112, y112, z112⟩, st112⟩ := X107.virtualBack hx (y := (⟨"com/example/hasselt/hasselt/sockets/Termination", "report", "(IJJ)Lcom/example/hasselt/hasselt/sockets/Termination$Outcome;"⟩ : MethodName)) (z := (⟨"com/example/hasselt/hasselt/sockets/Termination", "report", "(IJJ)Lcom/example/hasselt/hasselt/sockets/Termination$Outcome;"⟩ : MethodName)) hown (mvT hZ (hw _ (List.mem_of_getElem? (i := 32) rfl))) (mvT hZ (hw _ (List.mem_of_getElem? (i := 33) rfl))) (notFace_of_selects (args := #[]) (mvT hZ (hw _ (List.mem_of_getElem? (i := 35) rfl)))) (mvT hZ (hw _ (List.mem_of_getElem? (i := 35) rfl))) (mvT hZ (hw _ (List.mem_of_getElem? (i := 34) rfl))) (by decide) (backOf (W := 0) (rm5w l Z a0 hw [] a1 (1 : Int32) s3 r2 (-1 : Int64) (2 : Int32) (((0 : Int32) + (1 : Int32)) + (1 : Int32)) (0 : Int32) (0 : Int64) (0 : Int64) oi ors oq ob h101 n0 Z103 E103_0 g_a1 Fx0_101 Fx1_101 Fx2_101 Fx3_101 Fx4_101 Fx5_101 (SINCOMPLETE.ext O103.2) (SRESTS.ext O103.2) (SQUIET.ext O103.2) (SBUSY.ext O103.2) (by decide)) hZ (hw _ (List.mem_of_getElem? (i := 36) rfl)) (hw _ (List.mem_of_getElem? (i := 2) rfl)) (by decide) (by decide)) q112a q112c (g := (mkF m 157 #[.val (.int md), .val (.long s1), .second, .val (.long r1), .second, .val (.long s2), .second, .val (.long r2), .second, .val (.long s3), .second, .val (.int (2 : Int32)), .val (.ref a1), .val (.int ((0 : Int32) + (1 : Int32))), .val (.int (1 : Int32)), .val (.ref oi), .val (.int (((0 : Int32) + (1 : Int32)) + (1 : Int32))), .unset, .unset] [(.long r2), (.long s3), (.int (1 : Int32)), (.ref a1)])) rfl (by rw [hml]; rfl) (Steps.refl _) (argsL := [(.int (1 : Int32)), (.long s3), (.long r2)]) (rest := []) (lenOf pd_rep rfl) rfl (by show 2 * 0 + _ ≤ _; exact Nat.le_of_eq rfl) (hb hby at_157) (fun _ _ => ⟨rfl, heq107, (by decide : 1 + 0 ≤ _), (by decide : 6 + 0 ≤ _)⟩)
    dsimp only [Pt.U, Pt.locs, Pt.cells, Pt.slots] at X112 l112 y112 z112 st112 hQ112
    subst l112 y112 z112
    obtain ⟨rfl, Nq112, heq112⟩ := hQ112
    have N112 := Fr.app N107 Nq112
    have pre113 : ∀ t, Steps p.tables e below (T112.setTop (mkF m 160 #[.val (.int md), .val (.long s1), .second, .val (.long r1), .second, .val (.long s2), .second, .val (.long r2), .second, .val (.long s3), .second, .val (.int (2 : Int32)), .val (.ref a1), .val (.int ((0 : Int32) + (1 : Int32))), .val (.int (1 : Int32)), .val (.ref oi), .val (.int (((0 : Int32) + (1 : Int32)) + (1 : Int32))), .unset, .unset] [(.ref oi)])) t → Steps p.tables e below (s₁.setTop (entryFrame m #[(.int md), (.long s1), (.long r1), (.long s2), (.long r2), (.long s3)] maxLocals)) t := fun t k => pre110 t (st112.trans k)
    obtain ⟨T115, X115, e115, st115⟩ := getS (host := "") X112 hx hZ hown (hw _ (List.mem_of_getElem? (i := 48) rfl)) Via.refl heq112 (SINCOMPLETE.ext O103.2) (g := (mkF m 160 #[.val (.int md), .val (.long s1), .second, .val (.long r1), .second, .val (.long s2), .second, .val (.long r2), .second, .val (.long s3), .second, .val (.int (2 : Int32)), .val (.ref a1), .val (.int ((0 : Int32) + (1 : Int32))), .val (.int (1 : Int32)), .val (.ref oi), .val (.int (((0 : Int32) + (1 : Int32)) + (1 : Int32))), .unset, .unset] [(.ref oi)])) rfl (hb hby at_160)
    have pre116 : ∀ t, Steps p.tables e below (T115.setTop (mkF m 163 #[.val (.int md), .val (.long s1), .second, .val (.long r1), .second, .val (.long s2), .second, .val (.long r2), .second, .val (.long s3), .second, .val (.int (2 : Int32)), .val (.ref a1), .val (.int ((0 : Int32) + (1 : Int32))), .val (.int (1 : Int32)), .val (.ref oi), .val (.int (((0 : Int32) + (1 : Int32)) + (1 : Int32))), .unset, .unset] [(.ref oi), (.ref oi)])) t → Steps p.tables e below (s₁.setTop (entryFrame m #[(.int md), (.long s1), (.long r1), (.long s2), (.long r2), (.long s3)] maxLocals)) t := fun t k => pre113 t (st115 t k)
    have pre118 : ∀ t, Steps p.tables e below (T115.setTop (mkF m 180 #[.val (.int md), .val (.long s1), .second, .val (.long r1), .second, .val (.long s2), .second, .val (.long r2), .second, .val (.long s3), .second, .val (.int (2 : Int32)), .val (.ref a1), .val (.int ((0 : Int32) + (1 : Int32))), .val (.int (1 : Int32)), .val (.ref oi), .val (.int (((0 : Int32) + (1 : Int32)) + (1 : Int32))), .unset, .unset] [(.long r2), (.long s2), (.int (2 : Int32)), (.ref a1)])) t → Steps p.tables e below (s₁.setTop (entryFrame m #[(.int md), (.long s1), (.long r1), (.long s2), (.long r2), (.long s3)] maxLocals)) t := by
      intro t k
      refine pre116 t ?_
      refine XT.acmpNo X115.here hx rfl (hb hby at_163) rfl rfl rfl (XT.aa_ne_f rfl) ?_
      show Steps p.tables e below (T115.setTop (mkF m 166 #[.val (.int md), .val (.long s1), .second, .val (.long r1), .second, .val (.long s2), .second, .val (.long r2), .second, .val (.long s3), .second, .val (.int (2 : Int32)), .val (.ref a1), .val (.int ((0 : Int32) + (1 : Int32))), .val (.int (1 : Int32)), .val (.ref oi), .val (.int (((0 : Int32) + (1 : Int32)) + (1 : Int32))), .unset, .unset] [])) _
      refine XS.iconst X115.here hx rfl (hb hby at_166) ?_
      show Steps p.tables e below (T115.setTop (mkF m 167 #[.val (.int md), .val (.long s1), .second, .val (.long r1), .second, .val (.long s2), .second, .val (.long r2), .second, .val (.long s3), .second, .val (.int (2 : Int32)), .val (.ref a1), .val (.int ((0 : Int32) + (1 : Int32))), .val (.int (1 : Int32)), .val (.ref oi), .val (.int (((0 : Int32) + (1 : Int32)) + (1 : Int32))), .unset, .unset] [(.int (1 : Int32))])) _
      refine XS.goto X115.here hx rfl (pc0 := 167) (pc' := 171) rfl (hb hby at_167) (by decide) (by decide) ?_
      show Steps p.tables e below (T115.setTop (mkF m 171 #[.val (.int md), .val (.long s1), .second, .val (.long r1), .second, .val (.long s2), .second, .val (.long r2), .second, .val (.long s3), .second, .val (.int (2 : Int32)), .val (.ref a1), .val (.int ((0 : Int32) + (1 : Int32))), .val (.int (1 : Int32)), .val (.ref oi), .val (.int (((0 : Int32) + (1 : Int32)) + (1 : Int32))), .unset, .unset] [(.int (1 : Int32))])) _
      refine XS.istore X115.here hx rfl (hb hby at_171) rfl (l' := #[.val (.int md), .val (.long s1), .second, .val (.long r1), .second, .val (.long s2), .second, .val (.long r2), .second, .val (.long s3), .second, .val (.int (2 : Int32)), .val (.ref a1), .val (.int ((0 : Int32) + (1 : Int32))), .val (.int (1 : Int32)), .val (.ref oi), .val (.int (((0 : Int32) + (1 : Int32)) + (1 : Int32))), .unset, .unset]) rfl ?_
      show Steps p.tables e below (T115.setTop (mkF m 173 #[.val (.int md), .val (.long s1), .second, .val (.long r1), .second, .val (.long s2), .second, .val (.long r2), .second, .val (.long s3), .second, .val (.int (2 : Int32)), .val (.ref a1), .val (.int ((0 : Int32) + (1 : Int32))), .val (.int (1 : Int32)), .val (.ref oi), .val (.int (((0 : Int32) + (1 : Int32)) + (1 : Int32))), .unset, .unset] [])) _
      refine XS.aload X115.here hx rfl (hb hby at_173) rfl rfl ?_
      show Steps p.tables e below (T115.setTop (mkF m 175 #[.val (.int md), .val (.long s1), .second, .val (.long r1), .second, .val (.long s2), .second, .val (.long r2), .second, .val (.long s3), .second, .val (.int (2 : Int32)), .val (.ref a1), .val (.int ((0 : Int32) + (1 : Int32))), .val (.int (1 : Int32)), .val (.ref oi), .val (.int (((0 : Int32) + (1 : Int32)) + (1 : Int32))), .unset, .unset] [(.ref a1)])) _
      refine XS.iconst X115.here hx rfl (hb hby at_175) ?_
      show Steps p.tables e below (T115.setTop (mkF m 176 #[.val (.int md), .val (.long s1), .second, .val (.long r1), .second, .val (.long s2), .second, .val (.long r2), .second, .val (.long s3), .second, .val (.int (2 : Int32)), .val (.ref a1), .val (.int ((0 : Int32) + (1 : Int32))), .val (.int (1 : Int32)), .val (.ref oi), .val (.int (((0 : Int32) + (1 : Int32)) + (1 : Int32))), .unset, .unset] [(.int (2 : Int32)), (.ref a1)])) _
      refine XT.lload X115.here hx rfl (hb hby at_176) rfl ?_
      show Steps p.tables e below (T115.setTop (mkF m 178 #[.val (.int md), .val (.long s1), .second, .val (.long r1), .second, .val (.long s2), .second, .val (.long r2), .second, .val (.long s3), .second, .val (.int (2 : Int32)), .val (.ref a1), .val (.int ((0 : Int32) + (1 : Int32))), .val (.int (1 : Int32)), .val (.ref oi), .val (.int (((0 : Int32) + (1 : Int32)) + (1 : Int32))), .unset, .unset] [(.long s2), (.int (2 : Int32)), (.ref a1)])) _
      refine XT.lload X115.here hx rfl (hb hby at_178) rfl ?_
      show Steps p.tables e below (T115.setTop (mkF m 180 #[.val (.int md), .val (.long s1), .second, .val (.long r1), .second, .val (.long s2), .second, .val (.long r2), .second, .val (.long s3), .second, .val (.int (2 : Int32)), .val (.ref a1), .val (.int ((0 : Int32) + (1 : Int32))), .val (.int (1 : Int32)), .val (.ref oi), .val (.int (((0 : Int32) + (1 : Int32)) + (1 : Int32))), .unset, .unset] [(.long r2), (.long s2), (.int (2 : Int32)), (.ref a1)])) _
      exact k
    obtain ⟨cq120, kq120, q120a, q120b, q120c⟩ := isOf hZ e115 E103_0
    obtain ⟨_, _, ⟨T120, L120, k120, n120⟩, -, X120, ⟨Lc120, hQ120, l120, y120, z120⟩, st120⟩ := X115.virtualBack hx (y := (⟨"com/example/hasselt/hasselt/sockets/Termination", "report", "(IJJ)Lcom/example/hasselt/hasselt/sockets/Termination$Outcome;"⟩ : MethodName)) (z := (⟨"com/example/hasselt/hasselt/sockets/Termination", "report", "(IJJ)Lcom/example/hasselt/hasselt/sockets/Termination$Outcome;"⟩ : MethodName)) hown (mvT hZ (hw _ (List.mem_of_getElem? (i := 32) rfl))) (mvT hZ (hw _ (List.mem_of_getElem? (i := 33) rfl))) (notFace_of_selects (args := #[]) (mvT hZ (hw _ (List.mem_of_getElem? (i := 35) rfl)))) (mvT hZ (hw _ (List.mem_of_getElem? (i := 35) rfl))) (mvT hZ (hw _ (List.mem_of_getElem? (i := 34) rfl))) (by decide) (backOf (W := 0) (rm5m l Z a0 hw [] a1 (2 : Int32) s2 r2 (-1 : Int64) (2 : Int32) (((0 : Int32) + (1 : Int32)) + (1 : Int32)) (0 : Int32) (0 : Int64) (0 : Int64) oi ors oq ob h101 n0 Z103 E103_0 g_a1 Fx0_101 Fx1_101 Fx2_101 Fx3_101 Fx4_101 Fx5_101 (SINCOMPLETE.ext O103.2) (SRESTS.ext O103.2) (SQUIET.ext O103.2) (SBUSY.ext O103.2) (by decide) (by decide) (by decide)) hZ (hw _ (List.mem_of_getElem? (i := 36) rfl)) (hw _ (List.mem_of_getElem? (i := 2) rfl)) (by decide) (by decide)) q120a q120c (g := (mkF m 180 #[.val (.int md), .val (.long s1), .second, .val (.long r1), .second, .val (.long s2), .second, .val (.long r2), .second, .val (.long s3), .second, .val (.int (2 : Int32)), .val (.ref a1), .val (.int ((0 : Int32) + (1 : Int32))), .val (.int (1 : Int32)), .val (.ref oi), .val (.int (((0 : Int32) + (1 : Int32)) + (1 : Int32))), .unset, .unset] [(.long r2), (.long s2), (.int (2 : Int32)), (.ref a1)])) rfl (by rw [hml]; rfl) (Steps.refl _) (argsL := [(.int (2 : Int32)), (.long s2), (.long r2)]) (rest := []) (lenOf pd_rep rfl) rfl (by show 2 * 0 + _ ≤ _; exact Nat.le_of_eq rfl) (hb hby at_180) (fun _ _ => ⟨rfl, e115, (by decide : 1 + 0 ≤ _), (by decide : 6 + 0 ≤ _)⟩)
    dsimp only [Pt.U, Pt.locs, Pt.cells, Pt.slots] at X120 l120 y120 z120 st120 hQ120
    subst l120 y120 z120
    obtain ⟨rfl, Nq120, Kq120, Fx0_120, Fx1_120, Fx2_120, Fx3_120, Fx4_120, Fx5_120⟩ := hQ120
    have N120 := Fr.app N112 Nq120
    have pre121 : ∀ t, Steps p.tables e below (T120.setTop (mkF m 183 #[.val (.int md), .val (.long s1), .second, .val (.long r1), .second, .val (.long s2), .second, .val (.long r2), .second, .val (.long s3), .second, .val (.int (2 : Int32)), .val (.ref a1), .val (.int ((0 : Int32) + (1 : Int32))), .val (.int (1 : Int32)), .val (.ref oi), .val (.int (((0 : Int32) + (1 : Int32)) + (1 : Int32))), .unset, .unset] [(.ref oi)])) t → Steps p.tables e below (s₁.setTop (entryFrame m #[(.int md), (.long s1), (.long r1), (.long s2), (.long r2), (.long s3)] maxLocals)) t := fun t k => pre118 t (st120.trans k)
    obtain ⟨h120, e120⟩ : ∃ z, T120.heap = z := ⟨_, rfl⟩
    rw [e120] at Kq120 Fx0_120 Fx1_120 Fx2_120 Fx3_120 Fx4_120 Fx5_120
    have E122_0 : Exa Z h120 a1 "com/example/hasselt/hasselt/sockets/Termination" := (E103_0.keep Kq120)
    have Z122 : n0 ≤ h120.size := (Nat.le_trans Z103 Kq120.1)
    have O122 : Old Z n0 h120 := (O103.keep Kq120 (allS (P := fun x => n0 ≤ x) g_a1 all0))
    have pre124 : ∀ t, Steps p.tables e below (T120.setTop (mkF m 226 #[.val (.int md), .val (.long s1), .second, .val (.long r1), .second, .val (.long s2), .second, .val (.long r2), .second, .val (.long s3), .second, .val (.int (2 : Int32)), .val (.ref a1), .val (.int ((0 : Int32) + (1 : Int32))), .val (.int (1 : Int32)), .val (.ref oi), .val (.int (((0 : Int32) + (1 : Int32)) + (1 : Int32))), .val (.ref oi), .unset] [(.ref oi)])) t → Steps p.tables e below (s₁.setTop (entryFrame m #[(.int md), (.long s1), (.long r1), (.long s2), (.long r2), (.long s3)] maxLocals)) t := by
      intro t k
      refine pre121 t ?_
      refine XS.astore X120.here hx rfl (hb hby at_183) rfl rfl (l' := #[.val (.int md), .val (.long s1), .second, .val (.long r1), .second, .val (.long s2), .second, .val (.long r2), .second, .val (.long s3), .second, .val (.int (2 : Int32)), .val (.ref a1), .val (.int ((0 : Int32) + (1 : Int32))), .val (.int (1 : Int32)), .val (.ref oi), .val (.int (((0 : Int32) + (1 : Int32)) + (1 : Int32))), .val (.ref oi), .unset]) rfl ?_
      show Steps p.tables e below (T120.setTop (mkF m 185 #[.val (.int md), .val (.long s1), .second, .val (.long r1), .second, .val (.long s2), .second, .val (.long r2), .second, .val (.long s3), .second, .val (.int (2 : Int32)), .val (.ref a1), .val (.int ((0 : Int32) + (1 : Int32))), .val (.int (1 : Int32)), .val (.ref oi), .val (.int (((0 : Int32) + (1 : Int32)) + (1 : Int32))), .val (.ref oi), .unset] [])) _
      refine XS.iload X120.here hx rfl (hb hby at_185) rfl ?_
      show Steps p.tables e below (T120.setTop (mkF m 187 #[.val (.int md), .val (.long s1), .second, .val (.long r1), .second, .val (.long s2), .second, .val (.long r2), .second, .val (.long s3), .second, .val (.int (2 : Int32)), .val (.ref a1), .val (.int ((0 : Int32) + (1 : Int32))), .val (.int (1 : Int32)), .val (.ref oi), .val (.int (((0 : Int32) + (1 : Int32)) + (1 : Int32))), .val (.ref oi), .unset] [(.int (2 : Int32))])) _
      refine XS.iconst X120.here hx rfl (hb hby at_187) ?_
      show Steps p.tables e below (T120.setTop (mkF m 188 #[.val (.int md), .val (.long s1), .second, .val (.long r1), .second, .val (.long s2), .second, .val (.long r2), .second, .val (.long s3), .second, .val (.int (2 : Int32)), .val (.ref a1), .val (.int ((0 : Int32) + (1 : Int32))), .val (.int (1 : Int32)), .val (.ref oi), .val (.int (((0 : Int32) + (1 : Int32)) + (1 : Int32))), .val (.ref oi), .unset] [(.int (1 : Int32)), (.int (2 : Int32))])) _
      refine XS.icmpYes X120.here hx rfl (pc0 := 188) (pc' := 219) rfl (hb hby at_188) rfl (XT.ii_ne_t (by decide)) (by decide) (by decide) ?_
      show Steps p.tables e below (T120.setTop (mkF m 219 #[.val (.int md), .val (.long s1), .second, .val (.long r1), .second, .val (.long s2), .second, .val (.long r2), .second, .val (.long s3), .second, .val (.int (2 : Int32)), .val (.ref a1), .val (.int ((0 : Int32) + (1 : Int32))), .val (.int (1 : Int32)), .val (.ref oi), .val (.int (((0 : Int32) + (1 : Int32)) + (1 : Int32))), .val (.ref oi), .unset] [])) _
      refine XS.iload X120.here hx rfl (hb hby at_219) rfl ?_
      show Steps p.tables e below (T120.setTop (mkF m 221 #[.val (.int md), .val (.long s1), .second, .val (.long r1), .second, .val (.long s2), .second, .val (.long r2), .second, .val (.long s3), .second, .val (.int (2 : Int32)), .val (.ref a1), .val (.int ((0 : Int32) + (1 : Int32))), .val (.int (1 : Int32)), .val (.ref oi), .val (.int (((0 : Int32) + (1 : Int32)) + (1 : Int32))), .val (.ref oi), .unset] [(.int (1 : Int32))])) _
      refine XS.ifNo X120.here hx rfl (hb hby at_221) rfl (XT.i0_eq_f (by decide)) ?_
      show Steps p.tables e below (T120.setTop (mkF m 224 #[.val (.int md), .val (.long s1), .second, .val (.long r1), .second, .val (.long s2), .second, .val (.long r2), .second, .val (.long s3), .second, .val (.int (2 : Int32)), .val (.ref a1), .val (.int ((0 : Int32) + (1 : Int32))), .val (.int (1 : Int32)), .val (.ref oi), .val (.int (((0 : Int32) + (1 : Int32)) + (1 : Int32))), .val (.ref oi), .unset] [])) _
      refine XS.aload X120.here hx rfl (hb hby at_224) rfl rfl ?_
      show Steps p.tables e below (T120.setTop (mkF m 226 #[.val (.int md), .val (.long s1), .second, .val (.long r1), .second, .val (.long s2), .second, .val (.long r2), .second, .val (.long s3), .second, .val (.int (2 : Int32)), .val (.ref a1), .val (.int ((0 : Int32) + (1 : Int32))), .val (.int (1 : Int32)), .val (.ref oi), .val (.int (((0 : Int32) + (1 : Int32)) + (1 : Int32))), .val (.ref oi), .unset] [(.ref oi)])) _
      exact k
    obtain ⟨T125, X125, e125, st125⟩ := getS (host := "") X120 hx hZ hown (hw _ (List.mem_of_getElem? (i := 48) rfl)) Via.refl e120 (SINCOMPLETE.ext O122.2) (g := (mkF m 226 #[.val (.int md), .val (.long s1), .second, .val (.long r1), .second, .val (.long s2), .second, .val (.long r2), .second, .val (.long s3), .second, .val (.int (2 : Int32)), .val (.ref a1), .val (.int ((0 : Int32) + (1 : Int32))), .val (.int (1 : Int32)), .val (.ref oi), .val (.int (((0 : Int32) + (1 : Int32)) + (1 : Int32))), .val (.ref oi), .unset] [(.ref oi)])) rfl (hb hby at_226)
    have pre126 : ∀ t, Steps p.tables e below (T125.setTop (mkF m 229 #[.val (.int md), .val (.long s1), .second, .val (.long r1), .second, .val (.long s2), .second, .val (.long r2), .second, .val (.long s3), .second, .val (.int (2 : Int32)), .val (.ref a1), .val (.int ((0 : Int32) + (1 : Int32))), .val (.int (1 : Int32)), .val (.ref oi), .val (.int (((0 : Int32) + (1 : Int32)) + (1 : Int32))), .val (.ref oi), .unset] [(.ref oi), (.ref oi)])) t → Steps p.tables e below (s₁.setTop (entryFrame m #[(.int md), (.long s1), (.long r1), (.long s2), (.long r2), (.long s3)] maxLocals)) t := fun t k => pre124 t (st125 t k)
    have pre128 : ∀ t, Steps p.tables e below (T125.setTop (mkF m 245 #[.val (.int md), .val (.long s1), .second, .val (.long r1), .second, .val (.long s2), .second, .val (.long r2), .second, .val (.long s3), .second, .val (.int (2 : Int32)), .val (.ref a1), .val (.int ((0 : Int32) + (1 : Int32))), .val (.int (1 : Int32)), .val (.ref oi), .val (.int (((0 : Int32) + (1 : Int32)) + (1 : Int32))), .val (.ref oi), .unset] [(.long r1), (.long s3), (.int (2 : Int32)), (.ref a1)])) t → Steps p.tables e below (s₁.setTop (entryFrame m #[(.int md), (.long s1), (.long r1), (.long s2), (.long r2), (.long s3)] maxLocals)) t := by
      intro t k
      refine pre126 t ?_
      refine XT.acmpNo X125.here hx rfl (hb hby at_229) rfl rfl rfl (XT.aa_ne_f rfl) ?_
      show Steps p.tables e below (T125.setTop (mkF m 232 #[.val (.int md), .val (.long s1), .second, .val (.long r1), .second, .val (.long s2), .second, .val (.long r2), .second, .val (.long s3), .second, .val (.int (2 : Int32)), .val (.ref a1), .val (.int ((0 : Int32) + (1 : Int32))), .val (.int (1 : Int32)), .val (.ref oi), .val (.int (((0 : Int32) + (1 : Int32)) + (1 : Int32))), .val (.ref oi), .unset] [])) _
      refine XS.iconst X125.here hx rfl (hb hby at_232) ?_
      show Steps p.tables e below (T125.setTop (mkF m 233 #[.val (.int md), .val (.long s1), .second, .val (.long r1), .second, .val (.long s2), .second, .val (.long r2), .second, .val (.long s3), .second, .val (.int (2 : Int32)), .val (.ref a1), .val (.int ((0 : Int32) + (1 : Int32))), .val (.int (1 : Int32)), .val (.ref oi), .val (.int (((0 : Int32) + (1 : Int32)) + (1 : Int32))), .val (.ref oi), .unset] [(.int (1 : Int32))])) _
      refine XS.goto X125.here hx rfl (pc0 := 233) (pc' := 237) rfl (hb hby at_233) (by decide) (by decide) ?_
      show Steps p.tables e below (T125.setTop (mkF m 237 #[.val (.int md), .val (.long s1), .second, .val (.long r1), .second, .val (.long s2), .second, .val (.long r2), .second, .val (.long s3), .second, .val (.int (2 : Int32)), .val (.ref a1), .val (.int ((0 : Int32) + (1 : Int32))), .val (.int (1 : Int32)), .val (.ref oi), .val (.int (((0 : Int32) + (1 : Int32)) + (1 : Int32))), .val (.ref oi), .unset] [(.int (1 : Int32))])) _
      refine XS.istore X125.here hx rfl (hb hby at_237) rfl (l' := #[.val (.int md), .val (.long s1), .second, .val (.long r1), .second, .val (.long s2), .second, .val (.long r2), .second, .val (.long s3), .second, .val (.int (2 : Int32)), .val (.ref a1), .val (.int ((0 : Int32) + (1 : Int32))), .val (.int (1 : Int32)), .val (.ref oi), .val (.int (((0 : Int32) + (1 : Int32)) + (1 : Int32))), .val (.ref oi), .unset]) rfl ?_
      show Steps p.tables e below (T125.setTop (mkF m 239 #[.val (.int md), .val (.long s1), .second, .val (.long r1), .second, .val (.long s2), .second, .val (.long r2), .second, .val (.long s3), .second, .val (.int (2 : Int32)), .val (.ref a1), .val (.int ((0 : Int32) + (1 : Int32))), .val (.int (1 : Int32)), .val (.ref oi), .val (.int (((0 : Int32) + (1 : Int32)) + (1 : Int32))), .val (.ref oi), .unset] [])) _
      refine XS.aload X125.here hx rfl (hb hby at_239) rfl rfl ?_
      show Steps p.tables e below (T125.setTop (mkF m 241 #[.val (.int md), .val (.long s1), .second, .val (.long r1), .second, .val (.long s2), .second, .val (.long r2), .second, .val (.long s3), .second, .val (.int (2 : Int32)), .val (.ref a1), .val (.int ((0 : Int32) + (1 : Int32))), .val (.int (1 : Int32)), .val (.ref oi), .val (.int (((0 : Int32) + (1 : Int32)) + (1 : Int32))), .val (.ref oi), .unset] [(.ref a1)])) _
      refine XS.iconst X125.here hx rfl (hb hby at_241) ?_
      show Steps p.tables e below (T125.setTop (mkF m 242 #[.val (.int md), .val (.long s1), .second, .val (.long r1), .second, .val (.long s2), .second, .val (.long r2), .second, .val (.long s3), .second, .val (.int (2 : Int32)), .val (.ref a1), .val (.int ((0 : Int32) + (1 : Int32))), .val (.int (1 : Int32)), .val (.ref oi), .val (.int (((0 : Int32) + (1 : Int32)) + (1 : Int32))), .val (.ref oi), .unset] [(.int (2 : Int32)), (.ref a1)])) _
      refine XT.lload X125.here hx rfl (hb hby at_242) rfl ?_
      show Steps p.tables e below (T125.setTop (mkF m 244 #[.val (.int md), .val (.long s1), .second, .val (.long r1), .second, .val (.long s2), .second, .val (.long r2), .second, .val (.long s3), .second, .val (.int (2 : Int32)), .val (.ref a1), .val (.int ((0 : Int32) + (1 : Int32))), .val (.int (1 : Int32)), .val (.ref oi), .val (.int (((0 : Int32) + (1 : Int32)) + (1 : Int32))), .val (.ref oi), .unset] [(.long s3), (.int (2 : Int32)), (.ref a1)])) _
      refine XT.lloadN X125.here hx rfl (hb hby at_244) rfl ?_
      show Steps p.tables e below (T125.setTop (mkF m 245 #[.val (.int md), .val (.long s1), .second, .val (.long r1), .second, .val (.long s2), .second, .val (.long r2), .second, .val (.long s3), .second, .val (.int (2 : Int32)), .val (.ref a1), .val (.int ((0 : Int32) + (1 : Int32))), .val (.int (1 : Int32)), .val (.ref oi), .val (.int (((0 : Int32) + (1 : Int32)) + (1 : Int32))), .val (.ref oi), .unset] [(.long r1), (.long s3), (.int (2 : Int32)), (.ref a1)])) _
      exact k
    obtain ⟨cq130, kq130, q130a, q130b, q130c⟩ := isOf hZ e125 E122_0
    obtain ⟨_, _, ⟨T130, L130, k130, n130⟩, -, X130, ⟨Lc130, hQ130, l130, y130, z130⟩, st130⟩ := X125.virtualBack hx (y := (⟨"com/example/hasselt/hasselt/sockets/Termination", "report", "(IJJ)Lcom/example/hasselt/hasselt/sockets/Termination$Outcome;"⟩ : MethodName)) (z := (⟨"com/example/hasselt/hasselt/sockets/Termination", "report", "(IJJ)Lcom/example/hasselt/hasselt/sockets/Termination$Outcome;"⟩ : MethodName)) hown (mvT hZ (hw _ (List.mem_of_getElem? (i := 32) rfl))) (mvT hZ (hw _ (List.mem_of_getElem? (i := 33) rfl))) (notFace_of_selects (args := #[]) (mvT hZ (hw _ (List.mem_of_getElem? (i := 35) rfl)))) (mvT hZ (hw _ (List.mem_of_getElem? (i := 35) rfl))) (mvT hZ (hw _ (List.mem_of_getElem? (i := 34) rfl))) (by decide) (backOf (W := 0) (rm5f l Z a0 hw [] a1 (2 : Int32) s3 r1 (-1 : Int64) (2 : Int32) (((0 : Int32) + (1 : Int32)) + (1 : Int32)) ((0 : Int32) + (1 : Int32)) ((0 : Int64) + s2) ((0 : Int64) + r2) oi ors oq ob h120 n0 Z122 E122_0 g_a1 Fx0_120 Fx1_120 Fx2_120 Fx3_120 Fx4_120 Fx5_120 (SINCOMPLETE.ext O122.2) (SRESTS.ext O122.2) (SQUIET.ext O122.2) (SBUSY.ext O122.2) (by decide) (by decide) (by decide)) hZ (hw _ (List.mem_of_getElem? (i := 36) rfl)) (hw _ (List.mem_of_getElem? (i := 2) rfl)) (by decide) (by decide)) q130a q130c (g := (mkF m 245 #[.val (.int md), .val (.long s1), .second, .val (.long r1), .second, .val (.long s2), .second, .val (.long r2), .second, .val (.long s3), .second, .val (.int (2 : Int32)), .val (.ref a1), .val (.int ((0 : Int32) + (1 : Int32))), .val (.int (1 : Int32)), .val (.ref oi), .val (.int (((0 : Int32) + (1 : Int32)) + (1 : Int32))), .val (.ref oi), .unset] [(.long r1), (.long s3), (.int (2 : Int32)), (.ref a1)])) rfl (by rw [hml]; rfl) (Steps.refl _) (argsL := [(.int (2 : Int32)), (.long s3), (.long r1)]) (rest := []) (lenOf pd_rep rfl) rfl (by show 2 * 0 + _ ≤ _; exact Nat.le_of_eq rfl) (hb hby at_245) (fun _ _ => ⟨rfl, e125, (by decide : 1 + 0 ≤ _), (by decide : 6 + 0 ≤ _)⟩)
    dsimp only [Pt.U, Pt.locs, Pt.cells, Pt.slots] at X130 l130 y130 z130 st130 hQ130
    subst l130 y130 z130
    obtain ⟨rfl, Nq130, Kq130, Fx0_130, Fx1_130, Fx2_130, Fx3_130, Fx4_130, Fx5_130⟩ := hQ130
    have N130 := Fr.app N120 Nq130
    have pre131 : ∀ t, Steps p.tables e below (T130.setTop (mkF m 248 #[.val (.int md), .val (.long s1), .second, .val (.long r1), .second, .val (.long s2), .second, .val (.long r2), .second, .val (.long s3), .second, .val (.int (2 : Int32)), .val (.ref a1), .val (.int ((0 : Int32) + (1 : Int32))), .val (.int (1 : Int32)), .val (.ref oi), .val (.int (((0 : Int32) + (1 : Int32)) + (1 : Int32))), .val (.ref oi), .unset] [(.ref (own_out (-1 : Int64) (((0 : Int64) + s2) + s3) (((0 : Int64) + r2) + r1) ors oq ob))])) t → Steps p.tables e below (s₁.setTop (entryFrame m #[(.int md), (.long s1), (.long r1), (.long s2), (.long r2), (.long s3)] maxLocals)) t := fun t k => pre128 t (st130.trans k)
    obtain ⟨h130, e130⟩ : ∃ z, T130.heap = z := ⟨_, rfl⟩
    rw [e130] at Kq130 Fx0_130 Fx1_130 Fx2_130 Fx3_130 Fx4_130 Fx5_130
    have E132_0 : Exa Z h130 a1 "com/example/hasselt/hasselt/sockets/Termination" := (E122_0.keep Kq130)
    have Z132 : n0 ≤ h130.size := (Nat.le_trans Z122 Kq130.1)
    have O132 : Old Z n0 h130 := (O122.keep Kq130 (allS (P := fun x => n0 ≤ x) g_a1 all0))
    have pre134 : ∀ t, Steps p.tables e below (T130.setTop (mkF m 269 #[.val (.int md), .val (.long s1), .second, .val (.long r1), .second, .val (.long s2), .second, .val (.long r2), .second, .val (.long s3), .second, .val (.int (2 : Int32)), .val (.ref a1), .val (.int ((0 : Int32) + (1 : Int32))), .val (.int (1 : Int32)), .val (.ref oi), .val (.int (((0 : Int32) + (1 : Int32)) + (1 : Int32))), .val (.ref oi), .val (.ref (own_out (-1 : Int64) (((0 : Int64) + s2) + s3) (((0 : Int64) + r2) + r1) ors oq ob))] [(.long (r2 + r1)), (.long (s2 + s3)), (.long (-1 : Int64)), (.ref (own_out (-1 : Int64) (((0 : Int64) + s2) + s3) (((0 : Int64) + r2) + r1) ors oq ob))])) t → Steps p.tables e below (s₁.setTop (entryFrame m #[(.int md), (.long s1), (.long r1), (.long s2), (.long r2), (.long s3)] maxLocals)) t := by
      intro t k
      refine pre131 t ?_
      refine XS.astore X130.here hx rfl (hb hby at_248) rfl rfl (l' := #[.val (.int md), .val (.long s1), .second, .val (.long r1), .second, .val (.long s2), .second, .val (.long r2), .second, .val (.long s3), .second, .val (.int (2 : Int32)), .val (.ref a1), .val (.int ((0 : Int32) + (1 : Int32))), .val (.int (1 : Int32)), .val (.ref oi), .val (.int (((0 : Int32) + (1 : Int32)) + (1 : Int32))), .val (.ref oi), .val (.ref (own_out (-1 : Int64) (((0 : Int64) + s2) + s3) (((0 : Int64) + r2) + r1) ors oq ob))]) rfl ?_
      show Steps p.tables e below (T130.setTop (mkF m 250 #[.val (.int md), .val (.long s1), .second, .val (.long r1), .second, .val (.long s2), .second, .val (.long r2), .second, .val (.long s3), .second, .val (.int (2 : Int32)), .val (.ref a1), .val (.int ((0 : Int32) + (1 : Int32))), .val (.int (1 : Int32)), .val (.ref oi), .val (.int (((0 : Int32) + (1 : Int32)) + (1 : Int32))), .val (.ref oi), .val (.ref (own_out (-1 : Int64) (((0 : Int64) + s2) + s3) (((0 : Int64) + r2) + r1) ors oq ob))] [])) _
      refine XS.iload X130.here hx rfl (hb hby at_250) rfl ?_
      show Steps p.tables e below (T130.setTop (mkF m 252 #[.val (.int md), .val (.long s1), .second, .val (.long r1), .second, .val (.long s2), .second, .val (.long r2), .second, .val (.long s3), .second, .val (.int (2 : Int32)), .val (.ref a1), .val (.int ((0 : Int32) + (1 : Int32))), .val (.int (1 : Int32)), .val (.ref oi), .val (.int (((0 : Int32) + (1 : Int32)) + (1 : Int32))), .val (.ref oi), .val (.ref (own_out (-1 : Int64) (((0 : Int64) + s2) + s3) (((0 : Int64) + r2) + r1) ors oq ob))] [(.int (1 : Int32))])) _
      refine XS.ifNo X130.here hx rfl (hb hby at_252) rfl (XT.i0_eq_f (by decide)) ?_
      show Steps p.tables e below (T130.setTop (mkF m 255 #[.val (.int md), .val (.long s1), .second, .val (.long r1), .second, .val (.long s2), .second, .val (.long r2), .second, .val (.long s3), .second, .val (.int (2 : Int32)), .val (.ref a1), .val (.int ((0 : Int32) + (1 : Int32))), .val (.int (1 : Int32)), .val (.ref oi), .val (.int (((0 : Int32) + (1 : Int32)) + (1 : Int32))), .val (.ref oi), .val (.ref (own_out (-1 : Int64) (((0 : Int64) + s2) + s3) (((0 : Int64) + r2) + r1) ors oq ob))] [])) _
      refine XS.aload X130.here hx rfl (hb hby at_255) rfl rfl ?_
      show Steps p.tables e below (T130.setTop (mkF m 257 #[.val (.int md), .val (.long s1), .second, .val (.long r1), .second, .val (.long s2), .second, .val (.long r2), .second, .val (.long s3), .second, .val (.int (2 : Int32)), .val (.ref a1), .val (.int ((0 : Int32) + (1 : Int32))), .val (.int (1 : Int32)), .val (.ref oi), .val (.int (((0 : Int32) + (1 : Int32)) + (1 : Int32))), .val (.ref oi), .val (.ref (own_out (-1 : Int64) (((0 : Int64) + s2) + s3) (((0 : Int64) + r2) + r1) ors oq ob))] [(.ref (own_out (-1 : Int64) (((0 : Int64) + s2) + s3) (((0 : Int64) + r2) + r1) ors oq ob))])) _
      refine Stand.ldc2J X130 hx hown (mvT hZ (hw _ (List.mem_of_getElem? (i := 40) rfl))) rfl (hb hby at_257) ?_
      show Steps p.tables e below (T130.setTop (mkF m 260 #[.val (.int md), .val (.long s1), .second, .val (.long r1), .second, .val (.long s2), .second, .val (.long r2), .second, .val (.long s3), .second, .val (.int (2 : Int32)), .val (.ref a1), .val (.int ((0 : Int32) + (1 : Int32))), .val (.int (1 : Int32)), .val (.ref oi), .val (.int (((0 : Int32) + (1 : Int32)) + (1 : Int32))), .val (.ref oi), .val (.ref (own_out (-1 : Int64) (((0 : Int64) + s2) + s3) (((0 : Int64) + r2) + r1) ors oq ob))] [(.long (-1 : Int64)), (.ref (own_out (-1 : Int64) (((0 : Int64) + s2) + s3) (((0 : Int64) + r2) + r1) ors oq ob))])) _
      refine XT.lload X130.here hx rfl (hb hby at_260) rfl ?_
      show Steps p.tables e below (T130.setTop (mkF m 262 #[.val (.int md), .val (.long s1), .second, .val (.long r1), .second, .val (.long s2), .second, .val (.long r2), .second, .val (.long s3), .second, .val (.int (2 : Int32)), .val (.ref a1), .val (.int ((0 : Int32) + (1 : Int32))), .val (.int (1 : Int32)), .val (.ref oi), .val (.int (((0 : Int32) + (1 : Int32)) + (1 : Int32))), .val (.ref oi), .val (.ref (own_out (-1 : Int64) (((0 : Int64) + s2) + s3) (((0 : Int64) + r2) + r1) ors oq ob))] [(.long s2), (.long (-1 : Int64)), (.ref (own_out (-1 : Int64) (((0 : Int64) + s2) + s3) (((0 : Int64) + r2) + r1) ors oq ob))])) _
      refine XT.lload X130.here hx rfl (hb hby at_262) rfl ?_
      show Steps p.tables e below (T130.setTop (mkF m 264 #[.val (.int md), .val (.long s1), .second, .val (.long r1), .second, .val (.long s2), .second, .val (.long r2), .second, .val (.long s3), .second, .val (.int (2 : Int32)), .val (.ref a1), .val (.int ((0 : Int32) + (1 : Int32))), .val (.int (1 : Int32)), .val (.ref oi), .val (.int (((0 : Int32) + (1 : Int32)) + (1 : Int32))), .val (.ref oi), .val (.ref (own_out (-1 : Int64) (((0 : Int64) + s2) + s3) (((0 : Int64) + r2) + r1) ors oq ob))] [(.long s3), (.long s2), (.long (-1 : Int64)), (.ref (own_out (-1 : Int64) (((0 : Int64) + s2) + s3) (((0 : Int64) + r2) + r1) ors oq ob))])) _
      refine XT.ladd X130.here hx rfl (hb hby at_264) rfl ?_
      show Steps p.tables e below (T130.setTop (mkF m 265 #[.val (.int md), .val (.long s1), .second, .val (.long r1), .second, .val (.long s2), .second, .val (.long r2), .second, .val (.long s3), .second, .val (.int (2 : Int32)), .val (.ref a1), .val (.int ((0 : Int32) + (1 : Int32))), .val (.int (1 : Int32)), .val (.ref oi), .val (.int (((0 : Int32) + (1 : Int32)) + (1 : Int32))), .val (.ref oi), .val (.ref (own_out (-1 : Int64) (((0 : Int64) + s2) + s3) (((0 : Int64) + r2) + r1) ors oq ob))] [(.long (s2 + s3)), (.long (-1 : Int64)), (.ref (own_out (-1 : Int64) (((0 : Int64) + s2) + s3) (((0 : Int64) + r2) + r1) ors oq ob))])) _
      refine XT.lload X130.here hx rfl (hb hby at_265) rfl ?_
      show Steps p.tables e below (T130.setTop (mkF m 267 #[.val (.int md), .val (.long s1), .second, .val (.long r1), .second, .val (.long s2), .second, .val (.long r2), .second, .val (.long s3), .second, .val (.int (2 : Int32)), .val (.ref a1), .val (.int ((0 : Int32) + (1 : Int32))), .val (.int (1 : Int32)), .val (.ref oi), .val (.int (((0 : Int32) + (1 : Int32)) + (1 : Int32))), .val (.ref oi), .val (.ref (own_out (-1 : Int64) (((0 : Int64) + s2) + s3) (((0 : Int64) + r2) + r1) ors oq ob))] [(.long r2), (.long (s2 + s3)), (.long (-1 : Int64)), (.ref (own_out (-1 : Int64) (((0 : Int64) + s2) + s3) (((0 : Int64) + r2) + r1) ors oq ob))])) _
      refine XT.lloadN X130.here hx rfl (hb hby at_267) rfl ?_
      show Steps p.tables e below (T130.setTop (mkF m 268 #[.val (.int md), .val (.long s1), .second, .val (.long r1), .second, .val (.long s2), .second, .val (.long r2), .second, .val (.long s3), .second, .val (.int (2 : Int32)), .val (.ref a1), .val (.int ((0 : Int32) + (1 : Int32))), .val (.int (1 : Int32)), .val (.ref oi), .val (.int (((0 : Int32) + (1 : Int32)) + (1 : Int32))), .val (.ref oi), .val (.ref (own_out (-1 : Int64) (((0 : Int64) + s2) + s3) (((0 : Int64) + r2) + r1) ors oq ob))] [(.long r1), (.long r2), (.long (s2 + s3)), (.long (-1 : Int64)), (.ref (own_out (-1 : Int64) (((0 : Int64) + s2) + s3) (((0 : Int64) + r2) + r1) ors oq ob))])) _
      refine XT.ladd X130.here hx rfl (hb hby at_268) rfl ?_
      show Steps p.tables e below (T130.setTop (mkF m 269 #[.val (.int md), .val (.long s1), .second, .val (.long r1), .second, .val (.long s2), .second, .val (.long r2), .second, .val (.long s3), .second, .val (.int (2 : Int32)), .val (.ref a1), .val (.int ((0 : Int32) + (1 : Int32))), .val (.int (1 : Int32)), .val (.ref oi), .val (.int (((0 : Int32) + (1 : Int32)) + (1 : Int32))), .val (.ref oi), .val (.ref (own_out (-1 : Int64) (((0 : Int64) + s2) + s3) (((0 : Int64) + r2) + r1) ors oq ob))] [(.long (r2 + r1)), (.long (s2 + s3)), (.long (-1 : Int64)), (.ref (own_out (-1 : Int64) (((0 : Int64) + s2) + s3) (((0 : Int64) + r2) + r1) ors oq ob))])) _
      exact k
    obtain ⟨_, _, ⟨T136, L136, k136, n136⟩, -, X136, ⟨Lc136, hQ136, l136, y136, z136⟩, st136⟩ := Jvm.LawKit.callS X130 hx (y := (⟨"com/example/hasselt/hasselt/sockets/TerminationStartPinLaw", "expect", "(JJJ)Lcom/example/hasselt/hasselt/sockets/Termination$Outcome;"⟩ : MethodName)) hown (mvT hZ (hw _ (List.mem_of_getElem? (i := 41) rfl))) (mvT hZ (hw _ (List.mem_of_getElem? (i := 42) rfl))) (mvT hZ (hw _ (List.mem_of_getElem? (i := 43) rfl))) (mvT hZ (hw _ (List.mem_of_getElem? (i := 44) rfl))) (by decide) (backOf (W := 1) (rm6 l Z a0 hw [] (-1 : Int64) (s2 + s3) (r2 + r1) oi ors oq ob h130 n0 Z132 (SINCOMPLETE.ext O132.2) (SRESTS.ext O132.2) (SQUIET.ext O132.2) (SBUSY.ext O132.2)) hZ (hw _ (List.mem_of_getElem? (i := 44) rfl)) (hw _ (List.mem_of_getElem? (i := 43) rfl)) (by decide) (by decide)) (g := (mkF m 269 #[.val (.int md), .val (.long s1), .second, .val (.long r1), .second, .val (.long s2), .second, .val (.long r2), .second, .val (.long s3), .second, .val (.int (2 : Int32)), .val (.ref a1), .val (.int ((0 : Int32) + (1 : Int32))), .val (.int (1 : Int32)), .val (.ref oi), .val (.int (((0 : Int32) + (1 : Int32)) + (1 : Int32))), .val (.ref oi), .val (.ref (own_out (-1 : Int64) (((0 : Int64) + s2) + s3) (((0 : Int64) + r2) + r1) ors oq ob))] [(.long (r2 + r1)), (.long (s2 + s3)), (.long (-1 : Int64)), (.ref (own_out (-1 : Int64) (((0 : Int64) + s2) + s3) (((0 : Int64) + r2) + r1) ors oq ob))])) rfl (by rw [hml]; rfl) (argsL := [(.long (-1 : Int64)), (.long (s2 + s3)), (.long (r2 + r1))]) (rest := [(.ref (own_out (-1 : Int64) (((0 : Int64) + s2) + s3) (((0 : Int64) + r2) + r1) ors oq ob))]) (lenOf pd_exp rfl) rfl (by show 2 * 0 + _ ≤ _; exact Nat.le_of_eq rfl) (hb hby at_269) (fun _ _ => ⟨rfl, e130, (by decide : 1 + 0 ≤ _), (by decide : 6 + 0 ≤ _)⟩)
    dsimp only [Pt.U, Pt.locs, Pt.cells, Pt.slots] at X136 l136 y136 z136 st136 hQ136
    subst l136 y136 z136
    obtain ⟨rfl, Nq136, heq136⟩ := hQ136
    have N136 := Fr.app N130 Nq136
    have pre137 : ∀ t, Steps p.tables e below (T136.setTop (mkF m 272 #[.val (.int md), .val (.long s1), .second, .val (.long r1), .second, .val (.long s2), .second, .val (.long r2), .second, .val (.long s3), .second, .val (.int (2 : Int32)), .val (.ref a1), .val (.int ((0 : Int32) + (1 : Int32))), .val (.int (1 : Int32)), .val (.ref oi), .val (.int (((0 : Int32) + (1 : Int32)) + (1 : Int32))), .val (.ref oi), .val (.ref (own_out (-1 : Int64) (((0 : Int64) + s2) + s3) (((0 : Int64) + r2) + r1) ors oq ob))] [(.ref (own_out (-1 : Int64) (s2 + s3) (r2 + r1) ors oq ob)), (.ref (own_out (-1 : Int64) (((0 : Int64) + s2) + s3) (((0 : Int64) + r2) + r1) ors oq ob))])) t → Steps p.tables e below (s₁.setTop (entryFrame m #[(.int md), (.long s1), (.long r1), (.long s2), (.long r2), (.long s3)] maxLocals)) t := fun t k => pre134 t (st136 t k)
    have pre138 : ∀ t, Steps p.tables e below (T136.setTop (mkF m 284 #[.val (.int md), .val (.long s1), .second, .val (.long r1), .second, .val (.long s2), .second, .val (.long r2), .second, .val (.long s3), .second, .val (.int (2 : Int32)), .val (.ref a1), .val (.int ((0 : Int32) + (1 : Int32))), .val (.int (1 : Int32)), .val (.ref oi), .val (.int (((0 : Int32) + (1 : Int32)) + (1 : Int32))), .val (.ref oi), .val (.ref (own_out (-1 : Int64) (((0 : Int64) + s2) + s3) (((0 : Int64) + r2) + r1) ors oq ob))] [(.int (1 : Int32))])) t → Steps p.tables e below (s₁.setTop (entryFrame m #[(.int md), (.long s1), (.long r1), (.long s2), (.long r2), (.long s3)] maxLocals)) t := by
      intro t k
      refine pre137 t ?_
      refine XT.acmpNo X136.here hx rfl (hb hby at_272) rfl rfl rfl (XT.aa_ne_f (by simp only [Int64.zero_add])) ?_
      show Steps p.tables e below (T136.setTop (mkF m 275 #[.val (.int md), .val (.long s1), .second, .val (.long r1), .second, .val (.long s2), .second, .val (.long r2), .second, .val (.long s3), .second, .val (.int (2 : Int32)), .val (.ref a1), .val (.int ((0 : Int32) + (1 : Int32))), .val (.int (1 : Int32)), .val (.ref oi), .val (.int (((0 : Int32) + (1 : Int32)) + (1 : Int32))), .val (.ref oi), .val (.ref (own_out (-1 : Int64) (((0 : Int64) + s2) + s3) (((0 : Int64) + r2) + r1) ors oq ob))] [])) _
      refine XS.iconst X136.here hx rfl (hb hby at_275) ?_
      show Steps p.tables e below (T136.setTop (mkF m 276 #[.val (.int md), .val (.long s1), .second, .val (.long r1), .second, .val (.long s2), .second, .val (.long r2), .second, .val (.long s3), .second, .val (.int (2 : Int32)), .val (.ref a1), .val (.int ((0 : Int32) + (1 : Int32))), .val (.int (1 : Int32)), .val (.ref oi), .val (.int (((0 : Int32) + (1 : Int32)) + (1 : Int32))), .val (.ref oi), .val (.ref (own_out (-1 : Int64) (((0 : Int64) + s2) + s3) (((0 : Int64) + r2) + r1) ors oq ob))] [(.int (1 : Int32))])) _
      refine XS.goto X136.here hx rfl (pc0 := 276) (pc' := 280) rfl (hb hby at_276) (by decide) (by decide) ?_
      show Steps p.tables e below (T136.setTop (mkF m 280 #[.val (.int md), .val (.long s1), .second, .val (.long r1), .second, .val (.long s2), .second, .val (.long r2), .second, .val (.long s3), .second, .val (.int (2 : Int32)), .val (.ref a1), .val (.int ((0 : Int32) + (1 : Int32))), .val (.int (1 : Int32)), .val (.ref oi), .val (.int (((0 : Int32) + (1 : Int32)) + (1 : Int32))), .val (.ref oi), .val (.ref (own_out (-1 : Int64) (((0 : Int64) + s2) + s3) (((0 : Int64) + r2) + r1) ors oq ob))] [(.int (1 : Int32))])) _
      refine XS.istore X136.here hx rfl (hb hby at_280) rfl (l' := #[.val (.int md), .val (.long s1), .second, .val (.long r1), .second, .val (.long s2), .second, .val (.long r2), .second, .val (.long s3), .second, .val (.int (2 : Int32)), .val (.ref a1), .val (.int ((0 : Int32) + (1 : Int32))), .val (.int (1 : Int32)), .val (.ref oi), .val (.int (((0 : Int32) + (1 : Int32)) + (1 : Int32))), .val (.ref oi), .val (.ref (own_out (-1 : Int64) (((0 : Int64) + s2) + s3) (((0 : Int64) + r2) + r1) ors oq ob))]) rfl ?_
      show Steps p.tables e below (T136.setTop (mkF m 282 #[.val (.int md), .val (.long s1), .second, .val (.long r1), .second, .val (.long s2), .second, .val (.long r2), .second, .val (.long s3), .second, .val (.int (2 : Int32)), .val (.ref a1), .val (.int ((0 : Int32) + (1 : Int32))), .val (.int (1 : Int32)), .val (.ref oi), .val (.int (((0 : Int32) + (1 : Int32)) + (1 : Int32))), .val (.ref oi), .val (.ref (own_out (-1 : Int64) (((0 : Int64) + s2) + s3) (((0 : Int64) + r2) + r1) ors oq ob))] [])) _
      refine XS.iload X136.here hx rfl (hb hby at_282) rfl ?_
      show Steps p.tables e below (T136.setTop (mkF m 284 #[.val (.int md), .val (.long s1), .second, .val (.long r1), .second, .val (.long s2), .second, .val (.long r2), .second, .val (.long s3), .second, .val (.int (2 : Int32)), .val (.ref a1), .val (.int ((0 : Int32) + (1 : Int32))), .val (.int (1 : Int32)), .val (.ref oi), .val (.int (((0 : Int32) + (1 : Int32)) + (1 : Int32))), .val (.ref oi), .val (.ref (own_out (-1 : Int64) (((0 : Int64) + s2) + s3) (((0 : Int64) + r2) + r1) ors oq ob))] [(.int (1 : Int32))])) _
      exact k
    obtain ⟨fs, hr, hrun, hended, hW, hsame⟩ := X136.leave (v := some (.int (1 : Int32))) (fun h => by rw [Bd.returns] at h; cases h)
    refine ⟨_, _, pre138 _ ?_, hrun, hended, _, _, rfl, ?_, ⟨_, rfl⟩, hW, hsame.mono (by decide) (by decide)⟩
    · exact retOut X136 hx Bd.returns rfl (Or.inl ⟨rfl, by simp, _, rfl⟩) (hb hby at_284) hr
    · show Qlaw Z md s1 r1 s2 r2 s3 oi ors oq ob h0 n0 _ T136.heap _
      rw [heq136]
      exact ⟨rfl, N136⟩
set_option maxRecDepth 65536 in
set_option maxHeartbeats 40000000 in
theorem comes_1 {Post : Tables → Env → Array Value → State → Outcome → State → Prop} (hpost : ∀ tb e args s v u, (limb_1_1.after args s (.returned v) u = true ∧ limb_1_2.after args s (.returned v) u = true ∧ True) → FrameEnd s (.returned v) u (Jvm.fieldLocs frame_1_writes args s ++ Jvm.arrayLocs frame_1_arrays args s ++ Jvm.staticLocs frame_1_statics s) 16 128 → Post tb e args s (.returned v) u) :
    ArmFor flags0 classFile x code maxLocals ret World_1 tables_1 room_1 Calls_1 rest_1 Pre_1 Post := by
  intro l hfl _ _ p e ha hc hk s m args below hf hA hF happ hP
  obtain ⟨hcalls, hrest, hpre⟩ := hP
  obtain ⟨-, -, -, hnamed, -, -, -, hat⟩ := (Spec.applies_iff hf).mp happ
  obtain ⟨hg, hn⟩ := and_e (Cond.before_iff.mp (show (Jvm.Cond.and given_1 narrow_1).before args s = true from hpre))
  obtain ⟨gc, g0⟩ := and_e hg
  obtain ⟨w0, w1, w2, w3, w4, w5, rfl⟩ : ∃ w0 w1 w2 w3 w4 w5 : Value, args = #[w0, w1, w2, w3, w4, w5] := by
    have hs : args.size = 6 := by simpa [Cond.value, given_1] using gc
    obtain ⟨L⟩ := args
    match L, hs with
    | [w0, w1, w2, w3, w4, w5], _ => exact ⟨w0, w1, w2, w3, w4, w5, rfl⟩
  have hw := fun d (hd : d ∈ tables_1) => atoms_spec (ws := Jvm.Cond.code x code maxLocals ret :: tables_1) hat d (List.mem_cons_of_mem _ hd)
  have hfit : Fit s := fun {y c} hc i hi => by
    obtain ⟨ha, rfl⟩ := Array.getElem?_eq_some_iff.mp hc
    have q := List.all_eq_true.mp ((Array.all_eq_true_iff_forall_mem.mp hF) _ (Array.getElem_mem ha)) i (List.mem_range.mpr hi)
    simpa [Array.getElem?_eq_getElem hi] using q
  obtain ⟨ga0, gb0⟩ := and_e g0
  obtain ⟨i0, ei0⟩ := is_v ga0
  obtain rfl : w0 = (.int i0) := Option.some.inj ei0
  obtain ⟨ga1, gb1⟩ := and_e gb0
  obtain ⟨i1, ei1⟩ := isL_v ga1
  obtain rfl : w1 = (.long i1) := Option.some.inj ei1
  obtain ⟨ga2, gb2⟩ := and_e gb1
  obtain ⟨i2, ei2⟩ := isL_v ga2
  obtain rfl : w2 = (.long i2) := Option.some.inj ei2
  obtain ⟨ga3, gb3⟩ := and_e gb2
  obtain ⟨i3, ei3⟩ := isL_v ga3
  obtain rfl : w3 = (.long i3) := Option.some.inj ei3
  obtain ⟨ga4, gb4⟩ := and_e gb3
  obtain ⟨i4, ei4⟩ := isL_v ga4
  obtain rfl : w4 = (.long i4) := Option.some.inj ei4
  obtain ⟨i5, ei5⟩ := isL_v gb4
  obtain rfl : w5 = (.long i5) := Option.some.inj ei5
  obtain ⟨x1, y1⟩ := and_e hn
  obtain ⟨x2, y2⟩ := and_e y1
  obtain ⟨x3, x4⟩ := and_e y2
  obtain ⟨ob, ev0⟩ := exa_v x1
  have SBUSY : Sta s s.heap "com/example/hasselt/hasselt/sockets/Termination$Outcome" "BUSY" "Lcom/example/hasselt/hasselt/sockets/Termination$Outcome;" (.ref ob) := Sta.start ev0 (Or.inr ⟨(hw _ (List.mem_of_getElem? (i := 38) rfl)), (hw _ (List.mem_of_getElem? (i := 39) rfl))⟩)
  obtain ⟨oi, ev1⟩ := exa_v x2
  have SINCOMPLETE : Sta s s.heap "com/example/hasselt/hasselt/sockets/Termination$Outcome" "INCOMPLETE" "Lcom/example/hasselt/hasselt/sockets/Termination$Outcome;" (.ref oi) := Sta.start ev1 (Or.inr ⟨(hw _ (List.mem_of_getElem? (i := 38) rfl)), (hw _ (List.mem_of_getElem? (i := 47) rfl))⟩)
  obtain ⟨ors, ev2⟩ := exa_v x3
  have SRESTS : Sta s s.heap "com/example/hasselt/hasselt/sockets/Termination$Outcome" "RESTS" "Lcom/example/hasselt/hasselt/sockets/Termination$Outcome;" (.ref ors) := Sta.start ev2 (Or.inr ⟨(hw _ (List.mem_of_getElem? (i := 38) rfl)), (hw _ (List.mem_of_getElem? (i := 50) rfl))⟩)
  obtain ⟨oq, ev3⟩ := exa_v x4
  have SQUIET : Sta s s.heap "com/example/hasselt/hasselt/sockets/Termination$Outcome" "QUIET" "Lcom/example/hasselt/hasselt/sockets/Termination$Outcome;" (.ref oq) := Sta.start ev3 (Or.inr ⟨(hw _ (List.mem_of_getElem? (i := 38) rfl)), (hw _ (List.mem_of_getElem? (i := 53) rfl))⟩)
  obtain ⟨n, o, h1, h2, h3, _, L, rfl, ⟨rfl, N⟩, hq⟩ := rmlaw l s _ hw tables_1 i0 i1 i2 i3 i4 i5 oi ors oq ob s.heap s.heap.size (Nat.le_refl _) (Old.start s) SINCOMPLETE SRESTS SQUIET SBUSY p e ha hc hk s m _ below hf ((Spec.applies_iff_loose hf).mp happ).1 ⟨rfl, State.Warmed39.refl s, rfl⟩ trivial
  refine ⟨n, _, h1, h2, h3, hpost _ _ _ _ _ _ ⟨Cond.after_iff.mpr rfl, Cond.after_iff.mpr (eq_i res_at (Term.int_eval (1)) rfl), trivial⟩ ⟨hq.1, hq.2.1, (hq.2.2.sift fun y hy => Or.inr (N y hy)).mono (by decide) (by decide)⟩⟩
theorem main_1_1 : Claimed_1_1 := comes_1 fun _ _ _ _ _ _ h hF => ⟨h.1, hF⟩
theorem main_1_2 : Claimed_1_2 := comes_1 fun _ _ _ _ _ _ h hF => ⟨h.2.1, hF⟩
end Jvm.Pilot.@@N@@
namespace Jvm.Pilot.@@N@@
open Jvm Jvm.ClassFile Sem Op Lib Jvm.Free Jvm.Stand Jvm.Pilot.@@N@@.Jvm.D
/-! MADE BY PROGRAM (witnessworld.py) out of the Statement's table words and the real class files: 13 classes; the members and pool entries that the words name. The judged class is class 1, her method 2. -/
namespace start1
open Jvm.ClassFile
def u (s : String) : CpInfo := .utf8 (stringToUtf16 s)
/-- a pool by its gaps: so many unusable entries, then the entry; so many at the end -/
def gap : Nat → List CpInfo → List CpInfo
  | 0, r => r
  | n + 1, r => .unusable :: gap n r
def poolList (es : List (Nat × CpInfo)) (last : Nat) : List CpInfo := es.foldr (fun e r => gap e.1 (e.2 :: r)) (gap last [])
def pool (es : List (Nat × CpInfo)) (last : Nat) : Array CpInfo := ⟨poolList es last⟩
def fileOf (pool : Array CpInfo) (this : Nat) (attrs : Array Attribute := #[]) (ms : Array MethodInfo := #[]) (fl : Nat := 33) (sup : Nat := 0) (ifs : Array Nat := #[]) (fds : Array FieldInfo := #[]) : ClassFile where
  minorVersion := 0
  majorVersion := 65
  constantPool := pool
  accessFlags := fl
  thisClass := this
  superClass := sup
  interfaces := ifs
  fields := fds
  methods := ms
  attributes := attrs
def plain (name : String) (sup : Option ClassId) : Class where
  name := name
  kind := .ordinary
  loader := none
  accessFlags := 33
  super := sup
  interfaces := #[]
  cf := none
  fields := #[]
  methods := #[]
  instanceTypes := #[]
  staticTypes := #[]
  resolved := #[]
  callSites := []
  init := .initialized
  statics := none
  mirror := none

def pool0 : Array CpInfo := pool [(5, u "<init>"), (0, u "()V"), (1, .class_ 10), (1, u "java/lang/Object")] 113

def k0c0 : Code := { maxStack := 0, maxLocals := 1, code := object_method_1_code, exceptionTable := #[], attributes := #[] }
def k0m0 : Method := { name := "<init>", desc := "()V", sig := { parameters := [], returnType := none }, accessFlags := 1, code := some k0c0 }
/-- java/lang/Object -/
def k0 : Class := { plain "java/lang/Object" none with
  accessFlags := 33
  interfaces := #[]
  cf := some (fileOf pool0 8 #[] #[{ accessFlags := 1, nameIndex := 5, descriptorIndex := 6, attributes := #[] }] 33 0 #[] #[])
  fields := #[]
  methods := #[k0m0]
  instanceTypes := #[]
  staticTypes := #[]
  resolved := Array.replicate 124 none
  statics := none }

def pool1 : Array CpInfo := pool [(2, .class_ 4), (1, u "java/lang/Object"), (0, u "<init>"), (0, u "()V"), (0, .fieldref 8 9), (0, .class_ 10), (0, .nameAndType 11 12), (0, u "com/example/hasselt/hasselt/sockets/Termination$Outcome"), (0, u "RESTS"), (0, u "Lcom/example/hasselt/hasselt/sockets/Termination$Outcome;"), (0, .fieldref 8 14), (0, .nameAndType 15 12), (0, u "QUIET"), (0, .fieldref 8 17), (0, .nameAndType 18 12), (0, u "BUSY"), (0, .class_ 20), (0, u "com/example/hasselt/hasselt/sockets/Termination"), (0, .methodref 19 22), (0, .nameAndType 5 23), (0, u "(I)V"), (0, .methodref 19 25), (0, .nameAndType 26 27), (0, u "start"), (0, u "()I"), (0, .methodref 19 29), (0, .nameAndType 30 27), (0, u "wave"), (0, .methodref 19 32), (0, .nameAndType 33 34), (0, u "report"), (0, u "(IJJ)Lcom/example/hasselt/hasselt/sockets/Termination$Outcome;"), (0, .long 18446744073709551615), (1, .methodref 38 39), (0, .class_ 40), (0, .nameAndType 41 42), (0, u "com/example/hasselt/hasselt/sockets/TerminationStartPinLaw"), (0, u "expect"), (0, u "(JJJ)Lcom/example/hasselt/hasselt/sockets/Termination$Outcome;"), (0, .fieldref 8 44), (0, .nameAndType 45 12), (0, u "INCOMPLETE"), (3, u "law"), (0, u "(IJJJJJ)Z")] 4

def k1m0 : Method := { name := "<init>", desc := "()V", sig := { parameters := [], returnType := none }, accessFlags := 1, code := none }
def k1c1 : Code := { maxStack := 4, maxLocals := 6, code := method_2_code, exceptionTable := #[], attributes := #[] }
def k1m1 : Method := { name := "expect", desc := "(JJJ)Lcom/example/hasselt/hasselt/sockets/Termination$Outcome;", sig := { parameters := [.long, .long, .long], returnType := some (.object "com/example/hasselt/hasselt/sockets/Termination$Outcome") }, accessFlags := 10, code := some k1c1 }
def k1c2 : Code := { maxStack := 9, maxLocals := 19, code := code, exceptionTable := #[], attributes := #[] }
def k1m2 : Method := { name := "law", desc := "(IJJJJJ)Z", sig := { parameters := [.int, .long, .long, .long, .long, .long], returnType := some .boolean }, accessFlags := 9, code := some k1c2 }
/-- com/example/hasselt/hasselt/sockets/TerminationStartPinLaw -/
def k1 : Class := { plain "com/example/hasselt/hasselt/sockets/TerminationStartPinLaw" (some 0) with
  accessFlags := 49
  interfaces := #[]
  cf := some (fileOf pool1 38 #[] #[{ accessFlags := 1, nameIndex := 5, descriptorIndex := 6, attributes := #[] }, { accessFlags := 10, nameIndex := 41, descriptorIndex := 42, attributes := #[] }, { accessFlags := 9, nameIndex := 49, descriptorIndex := 50, attributes := #[] }] 49 2 #[] #[])
  fields := #[]
  methods := #[k1m0, k1m1, k1m2]
  instanceTypes := #[]
  staticTypes := #[]
  resolved := Array.replicate 55 none
  statics := none }

def pool2 : Array CpInfo := pool [(1, .methodref 2 3), (0, .class_ 4), (0, .nameAndType 5 6), (0, u "java/lang/Object"), (0, u "<init>"), (0, u "()V"), (0, .long 18446744073709551615), (1, .fieldref 10 11), (0, .class_ 12), (0, .nameAndType 13 14), (0, u "com/example/hasselt/hasselt/sockets/Termination"), (0, u "earlierReceived"), (0, u "J"), (0, .fieldref 10 16), (0, .nameAndType 17 18), (0, u "nodes"), (0, u "I"), (0, .fieldref 10 20), (0, .nameAndType 21 18), (0, u "wave"), (0, .fieldref 10 23), (0, .nameAndType 24 18), (0, u "reports"), (0, .fieldref 10 26), (0, .nameAndType 27 14), (0, u "sent"), (0, .fieldref 10 29), (0, .nameAndType 30 14), (0, u "received"), (0, .fieldref 32 33), (0, .class_ 34), (0, .nameAndType 35 36), (0, u "com/example/hasselt/hasselt/sockets/Termination$Outcome"), (0, u "INCOMPLETE"), (0, u "Lcom/example/hasselt/hasselt/sockets/Termination$Outcome;"), (0, .fieldref 32 38), (0, .nameAndType 39 36), (0, u "RESTS"), (0, .fieldref 32 41), (0, .nameAndType 42 36), (0, u "QUIET"), (0, .fieldref 32 44), (0, .nameAndType 45 36), (0, u "BUSY"), (0, u "(I)V"), (2, u "start"), (0, u "()I"), (1, u "report"), (0, u "(IJJ)Lcom/example/hasselt/hasselt/sockets/Termination$Outcome;")] 6

def k2c0 : Code := { maxStack := 3, maxLocals := 2, code := prog_123_method_1_code, exceptionTable := #[], attributes := #[] }
def k2m0 : Method := { name := "<init>", desc := "(I)V", sig := { parameters := [.int], returnType := none }, accessFlags := 0, code := some k2c0 }
def k2c1 : Code := { maxStack := 3, maxLocals := 1, code := prog_123_method_2_code, exceptionTable := #[], attributes := #[] }
def k2m1 : Method := { name := "start", desc := "()I", sig := { parameters := [], returnType := some .int }, accessFlags := 0, code := some k2c1 }
def k2c2 : Code := { maxStack := 1, maxLocals := 1, code := prog_123_method_4_code, exceptionTable := #[], attributes := #[] }
def k2m2 : Method := { name := "wave", desc := "()I", sig := { parameters := [], returnType := some .int }, accessFlags := 0, code := some k2c2 }
def k2c3 : Code := { maxStack := 5, maxLocals := 7, code := prog_123_method_5_code, exceptionTable := #[], attributes := #[] }
def k2m3 : Method := { name := "report", desc := "(IJJ)Lcom/example/hasselt/hasselt/sockets/Termination$Outcome;", sig := { parameters := [.int, .long, .long], returnType := some (.object "com/example/hasselt/hasselt/sockets/Termination$Outcome") }, accessFlags := 0, code := some k2c3 }
/-- com/example/hasselt/hasselt/sockets/Termination -/
def k2 : Class := { plain "com/example/hasselt/hasselt/sockets/Termination" (some 0) with
  accessFlags := 32
  interfaces := #[]
  cf := some (fileOf pool2 10 #[.nestMembers #[32]] #[{ accessFlags := 0, nameIndex := 5, descriptorIndex := 46, attributes := #[] }, { accessFlags := 0, nameIndex := 49, descriptorIndex := 50, attributes := #[] }, { accessFlags := 0, nameIndex := 21, descriptorIndex := 50, attributes := #[] }, { accessFlags := 0, nameIndex := 52, descriptorIndex := 53, attributes := #[] }] 32 2 #[] #[{ accessFlags := 2, nameIndex := 17, descriptorIndex := 18, attributes := #[] }, { accessFlags := 2, nameIndex := 21, descriptorIndex := 18, attributes := #[] }, { accessFlags := 2, nameIndex := 24, descriptorIndex := 18, attributes := #[] }, { accessFlags := 2, nameIndex := 27, descriptorIndex := 14, attributes := #[] }, { accessFlags := 2, nameIndex := 30, descriptorIndex := 14, attributes := #[] }, { accessFlags := 2, nameIndex := 13, descriptorIndex := 14, attributes := #[] }])
  fields := #[{ name := "nodes", type := .int, accessFlags := 2, slot := 0, constantValue := 0 }, { name := "wave", type := .int, accessFlags := 2, slot := 1, constantValue := 0 }, { name := "reports", type := .int, accessFlags := 2, slot := 2, constantValue := 0 }, { name := "sent", type := .long, accessFlags := 2, slot := 3, constantValue := 0 }, { name := "received", type := .long, accessFlags := 2, slot := 4, constantValue := 0 }, { name := "earlierReceived", type := .long, accessFlags := 2, slot := 5, constantValue := 0 }]
  methods := #[k2m0, k2m1, k2m2, k2m3]
  instanceTypes := #[.int, .int, .int, .long, .long, .long]
  staticTypes := #[]
  resolved := Array.replicate 60 none
  statics := none }

def pool3 : Array CpInfo := pool [(1, .class_ 2), (0, u "java/lang/constant/Constable"), (0, .class_ 4), (0, u "java/lang/Object")] 6

/-- java/lang/constant/Constable -/
def k3 : Class := { plain "java/lang/constant/Constable" (some 0) with
  accessFlags := 1537
  interfaces := #[]
  cf := some (fileOf pool3 1 #[] #[] 1537 3 #[] #[])
  fields := #[]
  methods := #[]
  instanceTypes := #[]
  staticTypes := #[]
  resolved := Array.replicate 11 none
  statics := none }

def pool4 : Array CpInfo := pool [(1, .class_ 2), (0, u "java/lang/Comparable"), (0, .class_ 4), (0, u "java/lang/Object")] 7

/-- java/lang/Comparable -/
def k4 : Class := { plain "java/lang/Comparable" (some 0) with
  accessFlags := 1537
  interfaces := #[]
  cf := some (fileOf pool4 1 #[] #[] 1537 3 #[] #[])
  fields := #[]
  methods := #[]
  instanceTypes := #[]
  staticTypes := #[]
  resolved := Array.replicate 12 none
  statics := none }

def pool5 : Array CpInfo := pool [(1, .class_ 2), (0, u "java/io/Serializable"), (0, .class_ 4), (0, u "java/lang/Object")] 2

/-- java/io/Serializable -/
def k5 : Class := { plain "java/io/Serializable" (some 0) with
  accessFlags := 1537
  interfaces := #[]
  cf := some (fileOf pool5 1 #[] #[] 1537 3 #[] #[])
  fields := #[]
  methods := #[]
  instanceTypes := #[]
  staticTypes := #[]
  resolved := Array.replicate 7 none
  statics := none }

def pool6 : Array CpInfo := pool [(2, .class_ 4), (1, u "java/lang/Enum"), (0, u "name"), (0, u "Ljava/lang/String;"), (2, u "ordinal"), (0, u "I"), (1, .class_ 14), (1, u "java/lang/Object"), (4, u "hash"), (86, .class_ 108), (1, u "java/lang/Enum$EnumDesc"), (2, .class_ 112), (0, u "java/lang/constant/Constable"), (0, .class_ 114), (0, u "java/lang/Comparable"), (0, .class_ 116), (0, u "java/io/Serializable")] 87

/-- java/lang/Enum -/
def k6 : Class := { plain "java/lang/Enum" (some 0) with
  accessFlags := 1057
  interfaces := #[3, 4, 5]
  cf := some (fileOf pool6 2 #[.nestMembers #[106]] #[] 1057 12 #[111, 113, 115] #[{ accessFlags := 18, nameIndex := 5, descriptorIndex := 6, attributes := #[] }, { accessFlags := 18, nameIndex := 9, descriptorIndex := 10, attributes := #[] }, { accessFlags := 2, nameIndex := 19, descriptorIndex := 10, attributes := #[] }])
  fields := #[{ name := "name", type := (.object "java/lang/String"), accessFlags := 18, slot := 0, constantValue := 0 }, { name := "ordinal", type := .int, accessFlags := 18, slot := 1, constantValue := 0 }, { name := "hash", type := .int, accessFlags := 2, slot := 2, constantValue := 0 }]
  methods := #[]
  instanceTypes := #[(.object "java/lang/String"), .int, .int]
  staticTypes := #[]
  resolved := Array.replicate 204 none
  statics := none }

def pool7 : Array CpInfo := pool [(1, .class_ 2), (0, u "com/example/hasselt/hasselt/sockets/Termination$Outcome"), (2, u "INCOMPLETE"), (0, u "Lcom/example/hasselt/hasselt/sockets/Termination$Outcome;"), (2, u "RESTS"), (2, u "QUIET"), (2, u "BUSY"), (2, u "$VALUES"), (0, u "[Lcom/example/hasselt/hasselt/sockets/Termination$Outcome;"), (6, .class_ 28), (1, u "java/lang/Enum"), (27, .class_ 57), (0, u "com/example/hasselt/hasselt/sockets/Termination")] 2

/-- com/example/hasselt/hasselt/sockets/Termination$Outcome -/
def k7 : Class := { plain "com/example/hasselt/hasselt/sockets/Termination$Outcome" (some 6) with
  accessFlags := 16432
  interfaces := #[]
  cf := some (fileOf pool7 1 #[.nestHost 56] #[] 16432 26 #[] #[{ accessFlags := 16409, nameIndex := 5, descriptorIndex := 6, attributes := #[] }, { accessFlags := 16409, nameIndex := 9, descriptorIndex := 6, attributes := #[] }, { accessFlags := 16409, nameIndex := 12, descriptorIndex := 6, attributes := #[] }, { accessFlags := 16409, nameIndex := 15, descriptorIndex := 6, attributes := #[] }, { accessFlags := 4122, nameIndex := 18, descriptorIndex := 19, attributes := #[] }])
  fields := #[{ name := "INCOMPLETE", type := (.object "com/example/hasselt/hasselt/sockets/Termination$Outcome"), accessFlags := 16409, slot := 0, constantValue := 0 }, { name := "RESTS", type := (.object "com/example/hasselt/hasselt/sockets/Termination$Outcome"), accessFlags := 16409, slot := 1, constantValue := 0 }, { name := "QUIET", type := (.object "com/example/hasselt/hasselt/sockets/Termination$Outcome"), accessFlags := 16409, slot := 2, constantValue := 0 }, { name := "BUSY", type := (.object "com/example/hasselt/hasselt/sockets/Termination$Outcome"), accessFlags := 16409, slot := 3, constantValue := 0 }, { name := "$VALUES", type := (.array (.object "com/example/hasselt/hasselt/sockets/Termination$Outcome")), accessFlags := 4122, slot := 4, constantValue := 0 }]
  methods := #[]
  instanceTypes := #[(.object "java/lang/String"), .int, .int]
  staticTypes := #[(.object "com/example/hasselt/hasselt/sockets/Termination$Outcome"), (.object "com/example/hasselt/hasselt/sockets/Termination$Outcome"), (.object "com/example/hasselt/hasselt/sockets/Termination$Outcome"), (.object "com/example/hasselt/hasselt/sockets/Termination$Outcome"), (.array (.object "com/example/hasselt/hasselt/sockets/Termination$Outcome"))]
  resolved := Array.replicate 60 none
  statics := some 0 }

def pool8 : Array CpInfo := pool [(1, u "java/lang/Cloneable"), (0, .class_ 1), (0, u "java/lang/Object"), (0, .class_ 3)] 3

/-- java/lang/Cloneable -/
def k8 : Class := { plain "java/lang/Cloneable" (some 0) with
  accessFlags := 1537
  interfaces := #[]
  cf := some (fileOf pool8 2 #[] #[] 1537 4 #[] #[])
  fields := #[]
  methods := #[]
  instanceTypes := #[]
  staticTypes := #[]
  resolved := Array.replicate 8 none
  statics := none }

/-- the primitive byte -/
def k9 : Class := { plain "byte" none with kind := .primitive 'B', accessFlags := 0x411 }
/-- [B -/
def k10 : Class := { plain "[B" (some 0) with kind := .array 9 .byte, interfaces := #[8, 5], accessFlags := 1041 }

/-- the primitive int -/
def k11 : Class := { plain "int" none with kind := .primitive 'I', accessFlags := 0x411 }
/-- [I -/
def k12 : Class := { plain "[I" (some 0) with kind := .array 11 .int, interfaces := #[8, 5], accessFlags := 1041 }

def heap : Heap := #[{ cls := 7, slots := #[.ref 1, .ref 2, .ref 3, .ref 4, .null], vm := .statics 7 },
  { cls := 7, slots := #[.null, .int 0, .int 0], vm := .none },
  { cls := 7, slots := #[.null, .int 1, .int 0], vm := .none },
  { cls := 7, slots := #[.null, .int 2, .int 0], vm := .none },
  { cls := 7, slots := #[.null, .int 3, .int 0], vm := .none }]
def classes : Array Class := #[k0, k1, k2, k3, k4, k5, k6, k7, k8, k9, k10, k11, k12]
def interned : List (Array UInt16 × Addr) := []
def slotsUsed : Nat := 17
def theMethod : MethodId := ⟨1, 2⟩
def args0 : Array Value := #[.int 0, .long 1, .long 2, .long 3, .long 4, .long 5]
def aboutOver (below : List Frame) : State where
  vm := { classes := classes, interned := interned.toArray }
  heap := heap
  slotsUsed := slotsUsed
  threads := #[{ frames := .invoking theMethod args0 :: below }]
def below0 : List Frame := [.native { method := ⟨0, 0⟩, args := #[] }]
def about1 : State := aboutOver below0
def p0 : Program := .bare "" "" ""
def e0 : Env := launch0.env 0 0 0
theorem w_frames : about1.frames = Frame.invoking theMethod args0 :: below0 := rfl
set_option maxRecDepth 65536 in
theorem w_args : argsFit about1.vm theMethod args0 = true := by decide +kernel
set_option maxRecDepth 65536 in
theorem w_heap : heapFits about1 = true := by decide +kernel
set_option maxRecDepth 65536 in
theorem w_runnable : about1.curStatus? = some .runnable := by decide +kernel
set_option maxRecDepth 65536 in
theorem w_alone : about1.alone = true := by decide +kernel
set_option maxRecDepth 65536 in
theorem w_named : about1.methodNamed? x = some theMethod := by decide +kernel
set_option maxRecDepth 65536 in
theorem w_hears : about1.hears theMethod below0 = true := by decide +kernel
set_option maxRecDepth 65536 in
theorem w_ripe : about1.ripe theMethod args0 below0 = true := by decide +kernel
theorem w_running : about1.status = .running := rfl
set_option maxRecDepth 65536 in
theorem w_room : about1.hasRoom e0.platform room_1 = true :=
  launch0.hasRoom_least _ room_1 (by decide +kernel) (by decide +kernel) (by decide +kernel) (by decide +kernel) (by decide +kernel) (by decide +kernel)
theorem allAtoms_all (ts : List Jvm.Cond) (a : Array Jvm.Value) (st : Jvm.State) : (allAtoms ts).before a st = ts.all (fun c => c.before a st) := by
  induction ts with
  | nil => rfl
  | cons c t ih =>
    show (Jvm.Cond.and c (allAtoms t)).before a st = _
    rw [Jvm.Cond.before_and, ih, List.all_cons]
def words1 : List Jvm.Cond := Jvm.Cond.code x code maxLocals ret :: tables_1
/-- a 'code' word, met by the world's own term for the bytes: nothing is compared byte by byte -/
theorem code_word {y : MethodName} {bytes : ByteArray} {mx : Nat} {rt : Option FieldType} {a : Array Value} {s : State} {m : MethodId} {meth : Method} {c : Code} (h1 : s.methodNamed? y = some m) (h2 : s.vm.method? m = some meth) (h3 : meth.code = some c) (h4 : c.code = bytes)
    (h5 : (c.maxLocals == mx && c.exceptionTable.isEmpty && decide (c.maxStack ≤ mostOperands) && decide (meth.sig.returnType = rt) && !meth.locks && decide (parseMethodDescriptor y.desc = some meth.sig)) = true) : (Jvm.Cond.code y bytes mx rt).before a s = true := by
  simp only [Bool.and_eq_true, beq_iff_eq, Bool.not_eq_true', decide_eq_true_eq] at h5
  obtain ⟨⟨⟨⟨⟨g1, g2⟩, g3⟩, g4⟩, g5⟩, g6⟩ := h5
  simp [Cond.before, Cond.holds, Cond.value, h1, h2, h3, h4, g1, g2, g3, g4, g5, g6]
def isCode : Jvm.Cond → Bool
  | .code _ _ _ _ => true
  | _ => false
theorem all_split {L : List Jvm.Cond} {P : Jvm.Cond → Bool} (h1 : L.all (fun c => isCode c || P c) = true) (h2 : ∀ c ∈ L.filter isCode, P c = true) : L.all P = true := by
  refine List.all_eq_true.mpr fun c hc => ?_
  have h := List.all_eq_true.mp h1 c hc
  rcases Bool.eq_false_or_eq_true (isCode c) with hi | hi
  · exact h2 c (List.mem_filter.mpr ⟨hc, hi⟩)
  · simpa [hi] using h
set_option maxRecDepth 65536 in
theorem w_c0 : (Jvm.Cond.code x code maxLocals ret).before args0 about1 = true := code_word (m := ⟨1, 2⟩) (meth := k1m2) (c := k1c2) (by decide +kernel) rfl rfl rfl (by decide +kernel)
set_option maxRecDepth 65536 in
theorem w_c1 : (Jvm.Cond.code ({ cls := "com/example/hasselt/hasselt/sockets/Termination", name := "<init>", desc := "(I)V" } : Jvm.MethodName) prog_123_method_1_code (2 : Nat) (Option.none : Option Jvm.ClassFile.FieldType)).before args0 about1 = true := code_word (m := ⟨2, 0⟩) (meth := k2m0) (c := k2c0) (by decide +kernel) rfl rfl rfl (by decide +kernel)
set_option maxRecDepth 65536 in
theorem w_c2 : (Jvm.Cond.code ({ cls := "java/lang/Object", name := "<init>", desc := "()V" } : Jvm.MethodName) object_method_1_code (1 : Nat) (Option.none : Option Jvm.ClassFile.FieldType)).before args0 about1 = true := code_word (m := ⟨0, 0⟩) (meth := k0m0) (c := k0c0) (by decide +kernel) rfl rfl rfl (by decide +kernel)
set_option maxRecDepth 65536 in
theorem w_c3 : (Jvm.Cond.code ({ cls := "com/example/hasselt/hasselt/sockets/Termination", name := "start", desc := "()I" } : Jvm.MethodName) prog_123_method_2_code (1 : Nat) (Option.some Jvm.ClassFile.FieldType.int)).before args0 about1 = true := code_word (m := ⟨2, 1⟩) (meth := k2m1) (c := k2c1) (by decide +kernel) rfl rfl rfl (by decide +kernel)
set_option maxRecDepth 65536 in
theorem w_c4 : (Jvm.Cond.code ({ cls := "com/example/hasselt/hasselt/sockets/Termination", name := "wave", desc := "()I" } : Jvm.MethodName) prog_123_method_4_code (1 : Nat) (Option.some Jvm.ClassFile.FieldType.int)).before args0 about1 = true := code_word (m := ⟨2, 2⟩) (meth := k2m2) (c := k2c2) (by decide +kernel) rfl rfl rfl (by decide +kernel)
set_option maxRecDepth 65536 in
theorem w_c5 : (Jvm.Cond.code ({ cls := "com/example/hasselt/hasselt/sockets/Termination", name := "report", desc := "(IJJ)Lcom/example/hasselt/hasselt/sockets/Termination$Outcome;" } : Jvm.MethodName) prog_123_method_5_code (7 : Nat) (Option.some (Jvm.ClassFile.FieldType.object "com/example/hasselt/hasselt/sockets/Termination$Outcome"))).before args0 about1 = true := code_word (m := ⟨2, 3⟩) (meth := k2m3) (c := k2c3) (by decide +kernel) rfl rfl rfl (by decide +kernel)
set_option maxRecDepth 65536 in
theorem w_c6 : (Jvm.Cond.code ({ cls := "com/example/hasselt/hasselt/sockets/TerminationStartPinLaw", name := "expect", desc := "(JJJ)Lcom/example/hasselt/hasselt/sockets/Termination$Outcome;" } : Jvm.MethodName) method_2_code (6 : Nat) (Option.some (Jvm.ClassFile.FieldType.object "com/example/hasselt/hasselt/sockets/Termination$Outcome"))).before args0 about1 = true := code_word (m := ⟨1, 1⟩) (meth := k1m1) (c := k1c1) (by decide +kernel) rfl rfl rfl (by decide +kernel)
def codes1 : List Jvm.Cond := [Jvm.Cond.code x code maxLocals ret, Jvm.Cond.code ({ cls := "com/example/hasselt/hasselt/sockets/Termination", name := "<init>", desc := "(I)V" } : Jvm.MethodName) prog_123_method_1_code (2 : Nat) (Option.none : Option Jvm.ClassFile.FieldType), Jvm.Cond.code ({ cls := "java/lang/Object", name := "<init>", desc := "()V" } : Jvm.MethodName) object_method_1_code (1 : Nat) (Option.none : Option Jvm.ClassFile.FieldType), Jvm.Cond.code ({ cls := "com/example/hasselt/hasselt/sockets/Termination", name := "start", desc := "()I" } : Jvm.MethodName) prog_123_method_2_code (1 : Nat) (Option.some Jvm.ClassFile.FieldType.int), Jvm.Cond.code ({ cls := "com/example/hasselt/hasselt/sockets/Termination", name := "wave", desc := "()I" } : Jvm.MethodName) prog_123_method_4_code (1 : Nat) (Option.some Jvm.ClassFile.FieldType.int), Jvm.Cond.code ({ cls := "com/example/hasselt/hasselt/sockets/Termination", name := "report", desc := "(IJJ)Lcom/example/hasselt/hasselt/sockets/Termination$Outcome;" } : Jvm.MethodName) prog_123_method_5_code (7 : Nat) (Option.some (Jvm.ClassFile.FieldType.object "com/example/hasselt/hasselt/sockets/Termination$Outcome")), Jvm.Cond.code ({ cls := "com/example/hasselt/hasselt/sockets/TerminationStartPinLaw", name := "expect", desc := "(JJJ)Lcom/example/hasselt/hasselt/sockets/Termination$Outcome;" } : Jvm.MethodName) method_2_code (6 : Nat) (Option.some (Jvm.ClassFile.FieldType.object "com/example/hasselt/hasselt/sockets/Termination$Outcome"))]
set_option maxRecDepth 65536 in
theorem codes_eq : words1.filter isCode = codes1 := rfl
theorem w_codes : ∀ c ∈ words1.filter isCode, c.before args0 about1 = true := by
  rw [codes_eq]
  intro c hc
  simp only [codes1, List.mem_cons, List.not_mem_nil, or_false] at hc
  rcases hc with rfl | rfl | rfl | rfl | rfl | rfl | rfl
  · exact w_c0
  · exact w_c1
  · exact w_c2
  · exact w_c3
  · exact w_c4
  · exact w_c5
  · exact w_c6
set_option maxRecDepth 65536 in
theorem w_t1 : (words1.take 24).all (fun c => isCode c || c.before args0 about1) = true := by decide +kernel
set_option maxRecDepth 65536 in
theorem w_t2 : ((words1.drop 24).take 24).all (fun c => isCode c || c.before args0 about1) = true := by decide +kernel
set_option maxRecDepth 65536 in
theorem w_t3 : ((words1.drop 24).drop 24).all (fun c => isCode c || c.before args0 about1) = true := by decide +kernel
theorem w_tables : (allAtoms (Jvm.Cond.code x code maxLocals ret :: tables_1)).before args0 about1 = true := by
  rw [allAtoms_all]
  show words1.all (fun c => c.before args0 about1) = true
  refine all_split ?_ w_codes
  rw [← List.take_append_drop 24 words1, List.all_append, w_t1, ← List.take_append_drop 24 (words1.drop 24), List.all_append, w_t2, w_t3]
  rfl
set_option maxRecDepth 65536 in
theorem w_case : (Jvm.Cond.and given_1 narrow_1).before args0 about1 = true := by decide +kernel
theorem w_applies : (headSpec (Jvm.Cond.code x code maxLocals ret :: tables_1) room_1).applies x e0.platform about1 = true :=
  (Spec.applies_iff w_frames).mpr ⟨w_running, w_runnable, w_alone, w_named, w_hears, w_ripe, w_room, w_tables⟩
theorem atStart : AtStart classFile x code maxLocals ret World_1 tables_1 room_1 Calls_1 rest_1 Pre_1 launch0 p0 e0 about1 theMethod args0 below0 :=
  ⟨lists_1, trivial, launch0.admits_env _ _ _, launch0.least_env, fairChoices_fair.cas, fairChoices_fair.clock, w_frames, w_args, w_heap, w_applies, trivial, trivial, w_case⟩
end start1
theorem witness_1 : WitnessClaimed_1 := ⟨start1.p0, start1.e0, start1.about1, start1.theMethod, start1.args0, start1.below0, start1.atStart⟩
end Jvm.Pilot.@@N@@
