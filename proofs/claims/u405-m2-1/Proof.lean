import JvmDerived
import JvmDerived.Pilot.@@N@@Statement
import JvmDerived.Pilot.@@N@@Code
set_option linter.unusedVariables false
set_option linter.unusedSimpArgs false
namespace Jvm.Pilot.@@N@@
open Jvm Jvm.ClassFile Sem Op Lib Jvm.Free Jvm.Stand Jvm.LawKit Jvm.RoadKit Bundle Jvm.Pilot.@@N@@.Jvm.D
def own_bi (P : Prop) [Decidable P] : Int32 := if P then 1 else 0
theorem own_bi_t {P : Prop} [Decidable P] (h : P) : own_bi P = 1 := if_pos h
theorem own_bi_f {P : Prop} [Decidable P] (h : ¬ P) : own_bi P = 0 := if_neg h
theorem own_bi_01 (P : Prop) [Decidable P] : own_bi P = 0 ∨ own_bi P = 1 := by by_cases h : P <;> simp [own_bi, h]
theorem own_bi_eq {P Q : Prop} [Decidable P] [Decidable Q] (h : P ↔ Q) : own_bi P = own_bi Q := by by_cases q : P <;> simp [own_bi, q, ← h]
theorem own_bi_iff (P : Prop) [Decidable P] : own_bi P = 1 ↔ P := by by_cases q : P <;> simp [own_bi, q]
theorem own_bi_ne (P : Prop) [Decidable P] : own_bi P = 0 ↔ ¬ P := by by_cases q : P <;> simp [own_bi, q]
theorem own_ofNat {n : Nat} (h : n < 2147483648) : (Int32.ofNat n).toInt = (n : Int) := len_toInt h
theorem own_narZ {z : Int32} (h : z = 0 ∨ z = 1) : narrow .boolean (.int z) = .int z := by rcases h with rfl | rfl <;> rfl
def own_itJ (w : Int32) (x y : Int64) : Int64 := if w = 0 then x else y
def own_itI (w : Int32) (x y : Int32) : Int32 := if w = 0 then x else y
theorem pn_1 : plainName "com/example/sluice/sluice/checkpoint/ChainAccount" = true := by first | (simp [plainName, overriddenIn]; done) | decide +kernel
theorem d1_0 : decode prog_41_method_1_code 0 = .ok (.aload_n 0, 1) := by decide +kernel
theorem d1_1 : decode prog_41_method_1_code 1 = .ok (.invokespecial 1, 3) := by decide +kernel
theorem d1_4 : decode prog_41_method_1_code 4 = .ok (.aload_n 0, 1) := by decide +kernel
theorem d1_5 : decode prog_41_method_1_code 5 = .ok (.lload_n 1, 1) := by decide +kernel
theorem d1_6 : decode prog_41_method_1_code 6 = .ok (.putfield 7, 3) := by decide +kernel
theorem d1_9 : decode prog_41_method_1_code 9 = .ok (.return_, 1) := by decide +kernel
theorem ef_1 (m : MethodId) (a1 : Addr) (p1 : Int64) : entryFrame m #[(.ref a1), (.long p1)] 3 = mkF m 0 #[.val (.ref a1), .val (.long p1), .second] [] := by first | (simp [entryFrame, mkF, argsToLocals, Value.category]; done) | rfl
def Q1 (Z : State) (a1 : Addr) (p1 : Int64) (h0 : Heap) (n0 : Nat) (v : Option Value) (h : Heap) (L : List Loc) : Prop := v = none ∧ Fr n0 L ∧ Keep h0 h [a1] ∧ Fld Z h a1 "com/example/sluice/sluice/checkpoint/ChainAccount" "unfollowed" "J" (.long p1) ∧ Fld Z h a1 "com/example/sluice/sluice/checkpoint/ChainAccount" "wholeBytes" "J" (.long (0 : Int64)) ∧ Fld Z h a1 "com/example/sluice/sluice/checkpoint/ChainAccount" "changesBytes" "J" (.long (0 : Int64)) ∧ Fld Z h a1 "com/example/sluice/sluice/checkpoint/ChainAccount" "changes" "I" (.int (0 : Int32)) ∧ Fld Z h a1 "com/example/sluice/sluice/checkpoint/ChainAccount" "lastId" "J" (.long (0 : Int64))
set_option maxRecDepth 65536 in
set_option maxHeartbeats 40000000 in
theorem rm1 (l : Launch) (Z : State) (a0 : Array Value) (hw : ∀ d ∈ tables_1, d.before a0 Z = true) (ws : List Jvm.Cond) (a1 : Addr) (p1 : Int64) (h0 : Heap) (n0 : Nat) (Z0 : n0 ≤ h0.size) (E1 : Exa Z h0 a1 "com/example/sluice/sluice/checkpoint/ChainAccount") (ga1 : n0 ≤ a1) (Fd0 : Fld Z h0 a1 "com/example/sluice/sluice/checkpoint/ChainAccount" "unfollowed" "J" (.long (0 : Int64))) (Fd1 : Fld Z h0 a1 "com/example/sluice/sluice/checkpoint/ChainAccount" "wholeBytes" "J" (.long (0 : Int64))) (Fd2 : Fld Z h0 a1 "com/example/sluice/sluice/checkpoint/ChainAccount" "changesBytes" "J" (.long (0 : Int64))) (Fd3 : Fld Z h0 a1 "com/example/sluice/sluice/checkpoint/ChainAccount" "changes" "I" (.int (0 : Int32))) (Fd4 : Fld Z h0 a1 "com/example/sluice/sluice/checkpoint/ChainAccount" "lastId" "J" (.long (0 : Int64))) :
    MetFree l (⟨"com/example/sluice/sluice/checkpoint/ChainAccount", "<init>", "(J)V"⟩ : MethodName) (head1 (Jvm.Cond.code (⟨"com/example/sluice/sluice/checkpoint/ChainAccount", "<init>", "(J)V"⟩ : MethodName) prog_41_method_1_code 3 none :: ws) ({ frames := 1, cells := 0, slots := 0, locals := 12 } : Room)) (fun a U => a = #[(.ref a1), (.long p1)] ∧ Z.Warmed39 U.vm ∧ U.heap = h0) (fun _ _ _ _ _ => True) (fun _ U o U' => ∃ v L, o = .returned v ∧ Q1 Z a1 p1 h0 n0 v U'.heap L ∧ FrameEnd U o U' L ({ frames := 1, cells := 0, slots := 0, locals := 12 } : Room).cells ({ frames := 1, cells := 0, slots := 0, locals := 12 } : Room).slots) := by
  refine MetFree.of_bodySF (plainFor_of_name pn_1) hisR ?_
  intro p e s m args below meth c s₁ Bd hml0 hP hK
  obtain ⟨rfl, hZ, hh⟩ := hP
  have hx := Bd.exec
  have hby := Bd.bytes
  have hml : c.maxLocals = 3 := hml0
  have hown : s.vm.findClass "com/example/sluice/sluice/checkpoint/ChainAccount" = some m.cls := findClass_of_methodNamed Bd.named
  have hnm := (name_of_methodNamed Bd.named Bd.method).1
  have X0 : Stand p l e ({ frames := 1, cells := 0, slots := 0, locals := 12 } : Room) s m #[(.ref a1), (.long p1)] below meth c s₁ [] 0 0 := Stand.of_body Bd
  have e0 : s₁.heap = h0 := by rw [← hh, Bd.state]; rfl
  have N0 := Fr.nil n0
  have pre0 : ∀ t, Steps p.tables e below (s₁.setTop (mkF m 0 #[.val (.ref a1), .val (.long p1), .second] [])) t → Steps p.tables e below (s₁.setTop (entryFrame m #[(.ref a1), (.long p1)] 3)) t := fun t k => castTop (ef_1 m a1 p1) k
  have pre1 : ∀ t, Steps p.tables e below (s₁.setTop (mkF m 1 #[.val (.ref a1), .val (.long p1), .second] [(.ref a1)])) t → Steps p.tables e below (s₁.setTop (entryFrame m #[(.ref a1), (.long p1)] 3)) t := by
    intro t k
    refine pre0 t ?_
    refine XS.aloadN X0.here hx rfl (hb hby d1_0) rfl rfl ?_
    show Steps p.tables e below (s₁.setTop (mkF m 1 #[.val (.ref a1), .val (.long p1), .second] [(.ref a1)])) _
    exact k
  obtain ⟨T2, X2, e2, st2⟩ := initO X0 hx hZ hown (hw _ (List.mem_of_getElem? (i := 6) rfl)) (hw _ (List.mem_of_getElem? (i := 7) rfl)) (hw _ (List.mem_of_getElem? (i := 8) rfl)) e0 (g := (mkF m 1 #[.val (.ref a1), .val (.long p1), .second] [(.ref a1)])) rfl (by rw [hml]; rfl) rfl (hb hby d1_1) (by decide) (W := 0) (by show 2 * 0 + _ ≤ _; exact Nat.le_of_eq rfl) (by decide)
  have pre3 : ∀ t, Steps p.tables e below (T2.setTop (mkF m 4 #[.val (.ref a1), .val (.long p1), .second] [])) t → Steps p.tables e below (s₁.setTop (entryFrame m #[(.ref a1), (.long p1)] 3)) t := fun t k => pre1 t (st2 t k)
  have pre5 : ∀ t, Steps p.tables e below (T2.setTop (mkF m 6 #[.val (.ref a1), .val (.long p1), .second] [(.long p1), (.ref a1)])) t → Steps p.tables e below (s₁.setTop (entryFrame m #[(.ref a1), (.long p1)] 3)) t := by
    intro t k
    refine pre3 t ?_
    refine XS.aloadN X2.here hx rfl (hb hby d1_4) rfl rfl ?_
    show Steps p.tables e below (T2.setTop (mkF m 5 #[.val (.ref a1), .val (.long p1), .second] [(.ref a1)])) _
    refine XT.lloadN X2.here hx rfl (hb hby d1_5) rfl ?_
    show Steps p.tables e below (T2.setTop (mkF m 6 #[.val (.ref a1), .val (.long p1), .second] [(.long p1), (.ref a1)])) _
    exact k
  have K4 : Keep h0 h0 [a1] := (Keep.refl h0 [a1])
  obtain ⟨T6, h6, X6, e6, W6, st6⟩ := putF X2 hx hZ hown (host := "") (Or.inl (hw _ (List.mem_of_getElem? (i := 9) rfl))) Via.refl e2 Fd0 E1 (Or.inr ⟨(hw _ (List.mem_of_getElem? (i := 10) rfl)), rfl, hnm⟩) (hw _ (List.mem_of_getElem? (i := 1) rfl)) (ty := .long) (by decide) rfl rfl (g := (mkF m 6 #[.val (.ref a1), .val (.long p1), .second] [(.long p1), (.ref a1)])) rfl rfl (hb hby d1_6)
  have N6 := Fr.snoc X6 N0 ga1
  have pre7 : ∀ t, Steps p.tables e below (T6.setTop (mkF m 9 #[.val (.ref a1), .val (.long p1), .second] [])) t → Steps p.tables e below (s₁.setTop (entryFrame m #[(.ref a1), (.long p1)] 3)) t := fun t k => pre5 t (st6 t k)
  have F8_0 : Fld Z h6 a1 "com/example/sluice/sluice/checkpoint/ChainAccount" "unfollowed" "J" (.long p1) := (Fd0.same W6)
  have F8_1 : Fld Z h6 a1 "com/example/sluice/sluice/checkpoint/ChainAccount" "wholeBytes" "J" (.long (0 : Int64)) := (Fd1.other W6 (Or.inr (slot_ne (Or.inl (hw _ (List.mem_of_getElem? (i := 17) rfl))) (Or.inr (hw _ (List.mem_of_getElem? (i := 10) rfl))) (by decide) (t := .long) (t' := .long) (by decide) (by decide))))
  have F8_2 : Fld Z h6 a1 "com/example/sluice/sluice/checkpoint/ChainAccount" "changesBytes" "J" (.long (0 : Int64)) := (Fd2.other W6 (Or.inr (slot_ne (Or.inl (hw _ (List.mem_of_getElem? (i := 19) rfl))) (Or.inr (hw _ (List.mem_of_getElem? (i := 10) rfl))) (by decide) (t := .long) (t' := .long) (by decide) (by decide))))
  have F8_3 : Fld Z h6 a1 "com/example/sluice/sluice/checkpoint/ChainAccount" "changes" "I" (.int (0 : Int32)) := (Fd3.other W6 (Or.inr (slot_ne (Or.inl (hw _ (List.mem_of_getElem? (i := 21) rfl))) (Or.inr (hw _ (List.mem_of_getElem? (i := 10) rfl))) (by decide) (t := .int) (t' := .long) (by decide) (by decide))))
  have F8_4 : Fld Z h6 a1 "com/example/sluice/sluice/checkpoint/ChainAccount" "lastId" "J" (.long (0 : Int64)) := (Fd4.other W6 (Or.inr (slot_ne (Or.inl (hw _ (List.mem_of_getElem? (i := 23) rfl))) (Or.inr (hw _ (List.mem_of_getElem? (i := 10) rfl))) (by decide) (t := .long) (t' := .long) (by decide) (by decide))))
  have E8_0 : Exa Z h6 a1 "com/example/sluice/sluice/checkpoint/ChainAccount" := (E1.wr W6)
  have K8 : Keep h0 h6 [a1] := (K4.wr W6 (Or.inl (List.mem_of_getElem? (i := 0) rfl)))
  have Z8 : n0 ≤ h6.size := (Nat.le_trans Z0 (Nat.le_of_eq W6.size.symm))
  obtain ⟨fs, hr, hrun, hended, hW, hsame⟩ := X6.leave (v := none) (fun _ => rfl)
  refine ⟨_, _, pre7 _ ?_, hrun, hended, _, _, rfl, ?_, ⟨_, rfl⟩, hW, hsame.mono (by decide) (by decide)⟩
  · exact X6.returnOut hx Bd.returns (hb hby d1_9) hr
  · show Q1 Z a1 p1 h0 n0 _ T6.heap _
    rw [e6]
    exact ⟨rfl, N6, K8, F8_0, F8_1, F8_2, F8_3, F8_4⟩
theorem pn_3 : plainName "com/example/sluice/sluice/checkpoint/ChainAccount" = true := by first | (simp [plainName, overriddenIn]; done) | decide +kernel
theorem d3_0 : decode prog_41_method_5_code 0 = .ok (.iload 5, 2) := by decide +kernel
theorem d3_2 : decode prog_41_method_5_code 2 = .ok (.ifCond .eq 21, 3) := by decide +kernel
theorem d3_5 : decode prog_41_method_5_code 5 = .ok (.aload_n 0, 1) := by decide +kernel
theorem d3_6 : decode prog_41_method_5_code 6 = .ok (.lload_n 3, 1) := by decide +kernel
theorem d3_7 : decode prog_41_method_5_code 7 = .ok (.putfield 20, 3) := by decide +kernel
theorem d3_10 : decode prog_41_method_5_code 10 = .ok (.aload_n 0, 1) := by decide +kernel
theorem d3_11 : decode prog_41_method_5_code 11 = .ok (.lconst 0, 1) := by decide +kernel
theorem d3_12 : decode prog_41_method_5_code 12 = .ok (.putfield 23, 3) := by decide +kernel
theorem d3_15 : decode prog_41_method_5_code 15 = .ok (.aload_n 0, 1) := by decide +kernel
theorem d3_16 : decode prog_41_method_5_code 16 = .ok (.iconst 0, 1) := by decide +kernel
theorem d3_17 : decode prog_41_method_5_code 17 = .ok (.putfield 16, 3) := by decide +kernel
theorem d3_20 : decode prog_41_method_5_code 20 = .ok (.goto 23, 3) := by decide +kernel
theorem d3_23 : decode prog_41_method_5_code 23 = .ok (.aload_n 0, 1) := by decide +kernel
theorem d3_24 : decode prog_41_method_5_code 24 = .ok (.dup, 1) := by decide +kernel
theorem d3_25 : decode prog_41_method_5_code 25 = .ok (.getfield 23, 3) := by decide +kernel
theorem d3_28 : decode prog_41_method_5_code 28 = .ok (.lload_n 3, 1) := by decide +kernel
theorem d3_29 : decode prog_41_method_5_code 29 = .ok (.ladd, 1) := by decide +kernel
theorem d3_30 : decode prog_41_method_5_code 30 = .ok (.putfield 23, 3) := by decide +kernel
theorem d3_33 : decode prog_41_method_5_code 33 = .ok (.aload_n 0, 1) := by decide +kernel
theorem d3_34 : decode prog_41_method_5_code 34 = .ok (.dup, 1) := by decide +kernel
theorem d3_35 : decode prog_41_method_5_code 35 = .ok (.getfield 16, 3) := by decide +kernel
theorem d3_38 : decode prog_41_method_5_code 38 = .ok (.iconst 1, 1) := by decide +kernel
theorem d3_39 : decode prog_41_method_5_code 39 = .ok (.iadd, 1) := by decide +kernel
theorem d3_40 : decode prog_41_method_5_code 40 = .ok (.putfield 16, 3) := by decide +kernel
theorem d3_43 : decode prog_41_method_5_code 43 = .ok (.aload_n 0, 1) := by decide +kernel
theorem d3_44 : decode prog_41_method_5_code 44 = .ok (.lload_n 1, 1) := by decide +kernel
theorem d3_45 : decode prog_41_method_5_code 45 = .ok (.putfield 13, 3) := by decide +kernel
theorem d3_48 : decode prog_41_method_5_code 48 = .ok (.return_, 1) := by decide +kernel
theorem ef_3 (m : MethodId) (a1 : Addr) (p1 : Int64) (p2 : Int64) (p3 : Int32) : entryFrame m #[(.ref a1), (.long p1), (.long p2), (.int p3)] 6 = mkF m 0 #[.val (.ref a1), .val (.long p1), .second, .val (.long p2), .second, .val (.int p3)] [] := by first | (simp [entryFrame, mkF, argsToLocals, Value.category]; done) | rfl
def Q3 (Z : State) (a1 : Addr) (p1 : Int64) (p2 : Int64) (p3 : Int32) (q0 : Int64) (q1 : Int64) (q2 : Int64) (q3 : Int32) (q4 : Int64) (h0 : Heap) (n0 : Nat) (v : Option Value) (h : Heap) (L : List Loc) : Prop := v = none ∧ Fr n0 L ∧ Keep h0 h [a1] ∧ Fld Z h a1 "com/example/sluice/sluice/checkpoint/ChainAccount" "unfollowed" "J" (.long q0) ∧ Fld Z h a1 "com/example/sluice/sluice/checkpoint/ChainAccount" "wholeBytes" "J" (.long (own_itJ p3 q1 p2)) ∧ Fld Z h a1 "com/example/sluice/sluice/checkpoint/ChainAccount" "changesBytes" "J" (.long (own_itJ p3 (q2 + p2) (0 : Int64))) ∧ Fld Z h a1 "com/example/sluice/sluice/checkpoint/ChainAccount" "changes" "I" (.int (own_itI p3 (q3 + (1 : Int32)) (0 : Int32))) ∧ Fld Z h a1 "com/example/sluice/sluice/checkpoint/ChainAccount" "lastId" "J" (.long p1)
set_option maxRecDepth 65536 in
set_option maxHeartbeats 40000000 in
theorem rm3 (l : Launch) (Z : State) (a0 : Array Value) (hw : ∀ d ∈ tables_1, d.before a0 Z = true) (ws : List Jvm.Cond) (a1 : Addr) (p1 : Int64) (p2 : Int64) (p3 : Int32) (q0 : Int64) (q1 : Int64) (q2 : Int64) (q3 : Int32) (q4 : Int64) (h0 : Heap) (n0 : Nat) (Z0 : n0 ≤ h0.size) (E1 : Exa Z h0 a1 "com/example/sluice/sluice/checkpoint/ChainAccount") (ga1 : n0 ≤ a1) (F0 : Fld Z h0 a1 "com/example/sluice/sluice/checkpoint/ChainAccount" "unfollowed" "J" (.long q0)) (F1 : Fld Z h0 a1 "com/example/sluice/sluice/checkpoint/ChainAccount" "wholeBytes" "J" (.long q1)) (F2 : Fld Z h0 a1 "com/example/sluice/sluice/checkpoint/ChainAccount" "changesBytes" "J" (.long q2)) (F3 : Fld Z h0 a1 "com/example/sluice/sluice/checkpoint/ChainAccount" "changes" "I" (.int q3)) (F4 : Fld Z h0 a1 "com/example/sluice/sluice/checkpoint/ChainAccount" "lastId" "J" (.long q4)) :
    MetFree l (⟨"com/example/sluice/sluice/checkpoint/ChainAccount", "stored", "(JJZ)V"⟩ : MethodName) (head1 (Jvm.Cond.code (⟨"com/example/sluice/sluice/checkpoint/ChainAccount", "stored", "(JJZ)V"⟩ : MethodName) prog_41_method_5_code 6 none :: ws) ({ frames := 0, cells := 0, slots := 0, locals := 0 } : Room)) (fun a U => a = #[(.ref a1), (.long p1), (.long p2), (.int p3)] ∧ Z.Warmed39 U.vm ∧ U.heap = h0) (fun _ _ _ _ _ => True) (fun _ U o U' => ∃ v L, o = .returned v ∧ Q3 Z a1 p1 p2 p3 q0 q1 q2 q3 q4 h0 n0 v U'.heap L ∧ FrameEnd U o U' L ({ frames := 0, cells := 0, slots := 0, locals := 0 } : Room).cells ({ frames := 0, cells := 0, slots := 0, locals := 0 } : Room).slots) := by
  refine MetFree.of_bodySF (plainFor_of_name pn_3) hisR ?_
  intro p e s m args below meth c s₁ Bd hml0 hP hK
  obtain ⟨rfl, hZ, hh⟩ := hP
  have hx := Bd.exec
  have hby := Bd.bytes
  have hml : c.maxLocals = 6 := hml0
  have hown : s.vm.findClass "com/example/sluice/sluice/checkpoint/ChainAccount" = some m.cls := findClass_of_methodNamed Bd.named
  have hnm := (name_of_methodNamed Bd.named Bd.method).1
  have X0 : Stand p l e ({ frames := 0, cells := 0, slots := 0, locals := 0 } : Room) s m #[(.ref a1), (.long p1), (.long p2), (.int p3)] below meth c s₁ [] 0 0 := Stand.of_body Bd
  have e0 : s₁.heap = h0 := by rw [← hh, Bd.state]; rfl
  have N0 := Fr.nil n0
  have pre0 : ∀ t, Steps p.tables e below (s₁.setTop (mkF m 0 #[.val (.ref a1), .val (.long p1), .second, .val (.long p2), .second, .val (.int p3)] [])) t → Steps p.tables e below (s₁.setTop (entryFrame m #[(.ref a1), (.long p1), (.long p2), (.int p3)] 6)) t := fun t k => castTop (ef_3 m a1 p1 p2 p3) k
  have pre1 : ∀ t, Steps p.tables e below (s₁.setTop (mkF m 2 #[.val (.ref a1), .val (.long p1), .second, .val (.long p2), .second, .val (.int p3)] [(.int p3)])) t → Steps p.tables e below (s₁.setTop (entryFrame m #[(.ref a1), (.long p1), (.long p2), (.int p3)] 6)) t := by
    intro t k
    refine pre0 t ?_
    refine XS.iload X0.here hx rfl (hb hby d3_0) rfl ?_
    show Steps p.tables e below (s₁.setTop (mkF m 2 #[.val (.ref a1), .val (.long p1), .second, .val (.long p2), .second, .val (.int p3)] [(.int p3)])) _
    exact k
  by_cases hc2 : p3 = (0 : Int32)
  · skip
    have pre2 : ∀ t, Steps p.tables e below (s₁.setTop (mkF m 25 #[.val (.ref a1), .val (.long p1), .second, .val (.long p2), .second, .val (.int p3)] [(.ref a1), (.ref a1)])) t → Steps p.tables e below (s₁.setTop (entryFrame m #[(.ref a1), (.long p1), (.long p2), (.int p3)] 6)) t := by
      intro t k
      refine pre1 t ?_
      refine XS.ifYes X0.here hx rfl (pc0 := 2) (pc' := 23) rfl (hb hby d3_2) rfl (XT.i0_eq_t hc2) (by decide) (by decide) ?_
      show Steps p.tables e below (s₁.setTop (mkF m 23 #[.val (.ref a1), .val (.long p1), .second, .val (.long p2), .second, .val (.int p3)] [])) _
      refine XS.aloadN X0.here hx rfl (hb hby d3_23) rfl rfl ?_
      show Steps p.tables e below (s₁.setTop (mkF m 24 #[.val (.ref a1), .val (.long p1), .second, .val (.long p2), .second, .val (.int p3)] [(.ref a1)])) _
      refine XS.dup X0.here hx rfl (hb hby d3_24) rfl rfl ?_
      show Steps p.tables e below (s₁.setTop (mkF m 25 #[.val (.ref a1), .val (.long p1), .second, .val (.long p2), .second, .val (.int p3)] [(.ref a1), (.ref a1)])) _
      exact k
    obtain ⟨T3, X3, e3, st3⟩ := getF X0 hx hZ hown (host := "") (Or.inl (hw _ (List.mem_of_getElem? (i := 18) rfl))) Via.refl e0 F2 (g := (mkF m 25 #[.val (.ref a1), .val (.long p1), .second, .val (.long p2), .second, .val (.int p3)] [(.ref a1), (.ref a1)])) rfl rfl (hb hby d3_25)
    have pre4 : ∀ t, Steps p.tables e below (T3.setTop (mkF m 28 #[.val (.ref a1), .val (.long p1), .second, .val (.long p2), .second, .val (.int p3)] [(.long q2), (.ref a1)])) t → Steps p.tables e below (s₁.setTop (entryFrame m #[(.ref a1), (.long p1), (.long p2), (.int p3)] 6)) t := fun t k => pre2 t (st3 t k)
    have pre6 : ∀ t, Steps p.tables e below (T3.setTop (mkF m 30 #[.val (.ref a1), .val (.long p1), .second, .val (.long p2), .second, .val (.int p3)] [(.long (q2 + p2)), (.ref a1)])) t → Steps p.tables e below (s₁.setTop (entryFrame m #[(.ref a1), (.long p1), (.long p2), (.int p3)] 6)) t := by
      intro t k
      refine pre4 t ?_
      refine XT.lloadN X3.here hx rfl (hb hby d3_28) rfl ?_
      show Steps p.tables e below (T3.setTop (mkF m 29 #[.val (.ref a1), .val (.long p1), .second, .val (.long p2), .second, .val (.int p3)] [(.long p2), (.long q2), (.ref a1)])) _
      refine XT.ladd X3.here hx rfl (hb hby d3_29) rfl ?_
      show Steps p.tables e below (T3.setTop (mkF m 30 #[.val (.ref a1), .val (.long p1), .second, .val (.long p2), .second, .val (.int p3)] [(.long (q2 + p2)), (.ref a1)])) _
      exact k
    have K5 : Keep h0 h0 [a1] := (Keep.refl h0 [a1])
    obtain ⟨T7, h7, X7, e7, W7, st7⟩ := putF X3 hx hZ hown (host := "") (Or.inl (hw _ (List.mem_of_getElem? (i := 18) rfl))) Via.refl e3 F2 E1 (Or.inl (hw _ (List.mem_of_getElem? (i := 19) rfl))) (hw _ (List.mem_of_getElem? (i := 1) rfl)) (ty := .long) (by decide) rfl rfl (g := (mkF m 30 #[.val (.ref a1), .val (.long p1), .second, .val (.long p2), .second, .val (.int p3)] [(.long (q2 + p2)), (.ref a1)])) rfl rfl (hb hby d3_30)
    have N7 := Fr.snoc X7 N0 ga1
    have pre8 : ∀ t, Steps p.tables e below (T7.setTop (mkF m 33 #[.val (.ref a1), .val (.long p1), .second, .val (.long p2), .second, .val (.int p3)] [])) t → Steps p.tables e below (s₁.setTop (entryFrame m #[(.ref a1), (.long p1), (.long p2), (.int p3)] 6)) t := fun t k => pre6 t (st7 t k)
    have F9_0 : Fld Z h7 a1 "com/example/sluice/sluice/checkpoint/ChainAccount" "unfollowed" "J" (.long q0) := (F0.other W7 (Or.inr (slot_ne (Or.inr (hw _ (List.mem_of_getElem? (i := 10) rfl))) (Or.inl (hw _ (List.mem_of_getElem? (i := 19) rfl))) (by decide) (t := .long) (t' := .long) (by decide) (by decide))))
    have F9_1 : Fld Z h7 a1 "com/example/sluice/sluice/checkpoint/ChainAccount" "wholeBytes" "J" (.long q1) := (F1.other W7 (Or.inr (slot_ne (Or.inl (hw _ (List.mem_of_getElem? (i := 17) rfl))) (Or.inl (hw _ (List.mem_of_getElem? (i := 19) rfl))) (by decide) (t := .long) (t' := .long) (by decide) (by decide))))
    have F9_2 : Fld Z h7 a1 "com/example/sluice/sluice/checkpoint/ChainAccount" "changesBytes" "J" (.long (q2 + p2)) := (F2.same W7)
    have F9_3 : Fld Z h7 a1 "com/example/sluice/sluice/checkpoint/ChainAccount" "changes" "I" (.int q3) := (F3.other W7 (Or.inr (slot_ne (Or.inl (hw _ (List.mem_of_getElem? (i := 21) rfl))) (Or.inl (hw _ (List.mem_of_getElem? (i := 19) rfl))) (by decide) (t := .int) (t' := .long) (by decide) (by decide))))
    have F9_4 : Fld Z h7 a1 "com/example/sluice/sluice/checkpoint/ChainAccount" "lastId" "J" (.long q4) := (F4.other W7 (Or.inr (slot_ne (Or.inl (hw _ (List.mem_of_getElem? (i := 23) rfl))) (Or.inl (hw _ (List.mem_of_getElem? (i := 19) rfl))) (by decide) (t := .long) (t' := .long) (by decide) (by decide))))
    have E9_0 : Exa Z h7 a1 "com/example/sluice/sluice/checkpoint/ChainAccount" := (E1.wr W7)
    have K9 : Keep h0 h7 [a1] := (K5.wr W7 (Or.inl (List.mem_of_getElem? (i := 0) rfl)))
    have Z9 : n0 ≤ h7.size := (Nat.le_trans Z0 (Nat.le_of_eq W7.size.symm))
    have pre10 : ∀ t, Steps p.tables e below (T7.setTop (mkF m 35 #[.val (.ref a1), .val (.long p1), .second, .val (.long p2), .second, .val (.int p3)] [(.ref a1), (.ref a1)])) t → Steps p.tables e below (s₁.setTop (entryFrame m #[(.ref a1), (.long p1), (.long p2), (.int p3)] 6)) t := by
      intro t k
      refine pre8 t ?_
      refine XS.aloadN X7.here hx rfl (hb hby d3_33) rfl rfl ?_
      show Steps p.tables e below (T7.setTop (mkF m 34 #[.val (.ref a1), .val (.long p1), .second, .val (.long p2), .second, .val (.int p3)] [(.ref a1)])) _
      refine XS.dup X7.here hx rfl (hb hby d3_34) rfl rfl ?_
      show Steps p.tables e below (T7.setTop (mkF m 35 #[.val (.ref a1), .val (.long p1), .second, .val (.long p2), .second, .val (.int p3)] [(.ref a1), (.ref a1)])) _
      exact k
    obtain ⟨T11, X11, e11, st11⟩ := getF X7 hx hZ hown (host := "") (Or.inl (hw _ (List.mem_of_getElem? (i := 20) rfl))) Via.refl e7 F9_3 (g := (mkF m 35 #[.val (.ref a1), .val (.long p1), .second, .val (.long p2), .second, .val (.int p3)] [(.ref a1), (.ref a1)])) rfl rfl (hb hby d3_35)
    have pre12 : ∀ t, Steps p.tables e below (T11.setTop (mkF m 38 #[.val (.ref a1), .val (.long p1), .second, .val (.long p2), .second, .val (.int p3)] [(.int q3), (.ref a1)])) t → Steps p.tables e below (s₁.setTop (entryFrame m #[(.ref a1), (.long p1), (.long p2), (.int p3)] 6)) t := fun t k => pre10 t (st11 t k)
    have pre14 : ∀ t, Steps p.tables e below (T11.setTop (mkF m 40 #[.val (.ref a1), .val (.long p1), .second, .val (.long p2), .second, .val (.int p3)] [(.int (q3 + (1 : Int32))), (.ref a1)])) t → Steps p.tables e below (s₁.setTop (entryFrame m #[(.ref a1), (.long p1), (.long p2), (.int p3)] 6)) t := by
      intro t k
      refine pre12 t ?_
      refine XS.iconst X11.here hx rfl (hb hby d3_38) ?_
      show Steps p.tables e below (T11.setTop (mkF m 39 #[.val (.ref a1), .val (.long p1), .second, .val (.long p2), .second, .val (.int p3)] [(.int (1 : Int32)), (.int q3), (.ref a1)])) _
      refine XS.iadd X11.here hx rfl (hb hby d3_39) rfl ?_
      show Steps p.tables e below (T11.setTop (mkF m 40 #[.val (.ref a1), .val (.long p1), .second, .val (.long p2), .second, .val (.int p3)] [(.int (q3 + (1 : Int32))), (.ref a1)])) _
      exact k
    obtain ⟨T15, h15, X15, e15, W15, st15⟩ := putF X11 hx hZ hown (host := "") (Or.inl (hw _ (List.mem_of_getElem? (i := 20) rfl))) Via.refl e11 F9_3 E9_0 (Or.inl (hw _ (List.mem_of_getElem? (i := 21) rfl))) (hw _ (List.mem_of_getElem? (i := 1) rfl)) (ty := .int) (by decide) rfl rfl (g := (mkF m 40 #[.val (.ref a1), .val (.long p1), .second, .val (.long p2), .second, .val (.int p3)] [(.int (q3 + (1 : Int32))), (.ref a1)])) rfl rfl (hb hby d3_40)
    have N15 := Fr.snoc X15 N7 ga1
    have pre16 : ∀ t, Steps p.tables e below (T15.setTop (mkF m 43 #[.val (.ref a1), .val (.long p1), .second, .val (.long p2), .second, .val (.int p3)] [])) t → Steps p.tables e below (s₁.setTop (entryFrame m #[(.ref a1), (.long p1), (.long p2), (.int p3)] 6)) t := fun t k => pre14 t (st15 t k)
    have F17_0 : Fld Z h15 a1 "com/example/sluice/sluice/checkpoint/ChainAccount" "unfollowed" "J" (.long q0) := (F9_0.other W15 (Or.inr (slot_ne (Or.inr (hw _ (List.mem_of_getElem? (i := 10) rfl))) (Or.inl (hw _ (List.mem_of_getElem? (i := 21) rfl))) (by decide) (t := .long) (t' := .int) (by decide) (by decide))))
    have F17_1 : Fld Z h15 a1 "com/example/sluice/sluice/checkpoint/ChainAccount" "wholeBytes" "J" (.long q1) := (F9_1.other W15 (Or.inr (slot_ne (Or.inl (hw _ (List.mem_of_getElem? (i := 17) rfl))) (Or.inl (hw _ (List.mem_of_getElem? (i := 21) rfl))) (by decide) (t := .long) (t' := .int) (by decide) (by decide))))
    have F17_2 : Fld Z h15 a1 "com/example/sluice/sluice/checkpoint/ChainAccount" "changesBytes" "J" (.long (q2 + p2)) := (F9_2.other W15 (Or.inr (slot_ne (Or.inl (hw _ (List.mem_of_getElem? (i := 19) rfl))) (Or.inl (hw _ (List.mem_of_getElem? (i := 21) rfl))) (by decide) (t := .long) (t' := .int) (by decide) (by decide))))
    have F17_3 : Fld Z h15 a1 "com/example/sluice/sluice/checkpoint/ChainAccount" "changes" "I" (.int (q3 + (1 : Int32))) := (F9_3.same W15)
    have F17_4 : Fld Z h15 a1 "com/example/sluice/sluice/checkpoint/ChainAccount" "lastId" "J" (.long q4) := (F9_4.other W15 (Or.inr (slot_ne (Or.inl (hw _ (List.mem_of_getElem? (i := 23) rfl))) (Or.inl (hw _ (List.mem_of_getElem? (i := 21) rfl))) (by decide) (t := .long) (t' := .int) (by decide) (by decide))))
    have E17_0 : Exa Z h15 a1 "com/example/sluice/sluice/checkpoint/ChainAccount" := (E9_0.wr W15)
    have K17 : Keep h0 h15 [a1] := (K9.wr W15 (Or.inl (List.mem_of_getElem? (i := 0) rfl)))
    have Z17 : n0 ≤ h15.size := (Nat.le_trans Z9 (Nat.le_of_eq W15.size.symm))
    have pre19 : ∀ t, Steps p.tables e below (T15.setTop (mkF m 45 #[.val (.ref a1), .val (.long p1), .second, .val (.long p2), .second, .val (.int p3)] [(.long p1), (.ref a1)])) t → Steps p.tables e below (s₁.setTop (entryFrame m #[(.ref a1), (.long p1), (.long p2), (.int p3)] 6)) t := by
      intro t k
      refine pre16 t ?_
      refine XS.aloadN X15.here hx rfl (hb hby d3_43) rfl rfl ?_
      show Steps p.tables e below (T15.setTop (mkF m 44 #[.val (.ref a1), .val (.long p1), .second, .val (.long p2), .second, .val (.int p3)] [(.ref a1)])) _
      refine XT.lloadN X15.here hx rfl (hb hby d3_44) rfl ?_
      show Steps p.tables e below (T15.setTop (mkF m 45 #[.val (.ref a1), .val (.long p1), .second, .val (.long p2), .second, .val (.int p3)] [(.long p1), (.ref a1)])) _
      exact k
    obtain ⟨T20, h20, X20, e20, W20, st20⟩ := putF X15 hx hZ hown (host := "") (Or.inl (hw _ (List.mem_of_getElem? (i := 22) rfl))) Via.refl e15 F17_4 E17_0 (Or.inl (hw _ (List.mem_of_getElem? (i := 23) rfl))) (hw _ (List.mem_of_getElem? (i := 1) rfl)) (ty := .long) (by decide) rfl rfl (g := (mkF m 45 #[.val (.ref a1), .val (.long p1), .second, .val (.long p2), .second, .val (.int p3)] [(.long p1), (.ref a1)])) rfl rfl (hb hby d3_45)
    have N20 := Fr.snoc X20 N15 ga1
    have pre21 : ∀ t, Steps p.tables e below (T20.setTop (mkF m 48 #[.val (.ref a1), .val (.long p1), .second, .val (.long p2), .second, .val (.int p3)] [])) t → Steps p.tables e below (s₁.setTop (entryFrame m #[(.ref a1), (.long p1), (.long p2), (.int p3)] 6)) t := fun t k => pre19 t (st20 t k)
    have F22_0 : Fld Z h20 a1 "com/example/sluice/sluice/checkpoint/ChainAccount" "unfollowed" "J" (.long q0) := (F17_0.other W20 (Or.inr (slot_ne (Or.inr (hw _ (List.mem_of_getElem? (i := 10) rfl))) (Or.inl (hw _ (List.mem_of_getElem? (i := 23) rfl))) (by decide) (t := .long) (t' := .long) (by decide) (by decide))))
    have F22_1 : Fld Z h20 a1 "com/example/sluice/sluice/checkpoint/ChainAccount" "wholeBytes" "J" (.long q1) := (F17_1.other W20 (Or.inr (slot_ne (Or.inl (hw _ (List.mem_of_getElem? (i := 17) rfl))) (Or.inl (hw _ (List.mem_of_getElem? (i := 23) rfl))) (by decide) (t := .long) (t' := .long) (by decide) (by decide))))
    have F22_2 : Fld Z h20 a1 "com/example/sluice/sluice/checkpoint/ChainAccount" "changesBytes" "J" (.long (q2 + p2)) := (F17_2.other W20 (Or.inr (slot_ne (Or.inl (hw _ (List.mem_of_getElem? (i := 19) rfl))) (Or.inl (hw _ (List.mem_of_getElem? (i := 23) rfl))) (by decide) (t := .long) (t' := .long) (by decide) (by decide))))
    have F22_3 : Fld Z h20 a1 "com/example/sluice/sluice/checkpoint/ChainAccount" "changes" "I" (.int (q3 + (1 : Int32))) := (F17_3.other W20 (Or.inr (slot_ne (Or.inl (hw _ (List.mem_of_getElem? (i := 21) rfl))) (Or.inl (hw _ (List.mem_of_getElem? (i := 23) rfl))) (by decide) (t := .int) (t' := .long) (by decide) (by decide))))
    have F22_4 : Fld Z h20 a1 "com/example/sluice/sluice/checkpoint/ChainAccount" "lastId" "J" (.long p1) := (F17_4.same W20)
    have E22_0 : Exa Z h20 a1 "com/example/sluice/sluice/checkpoint/ChainAccount" := (E17_0.wr W20)
    have K22 : Keep h0 h20 [a1] := (K17.wr W20 (Or.inl (List.mem_of_getElem? (i := 0) rfl)))
    have Z22 : n0 ≤ h20.size := (Nat.le_trans Z17 (Nat.le_of_eq W20.size.symm))
    obtain ⟨fs, hr, hrun, hended, hW, hsame⟩ := X20.leave (v := none) (fun _ => rfl)
    refine ⟨_, _, pre21 _ ?_, hrun, hended, _, _, rfl, ?_, ⟨_, rfl⟩, hW, hsame.mono (by decide) (by decide)⟩
    · exact X20.returnOut hx Bd.returns (hb hby d3_48) hr
    · show Q3 Z a1 p1 p2 p3 q0 q1 q2 q3 q4 h0 n0 _ T20.heap _
      rw [e20]
      exact ⟨rfl, N20, K22, F22_0, (by rw [own_itJ, if_pos hc2]; exact F22_1), (by rw [own_itJ, if_pos hc2]; exact F22_2), (by rw [own_itI, if_pos hc2]; exact F22_3), F22_4⟩
  · skip
    have pre25 : ∀ t, Steps p.tables e below (s₁.setTop (mkF m 7 #[.val (.ref a1), .val (.long p1), .second, .val (.long p2), .second, .val (.int p3)] [(.long p2), (.ref a1)])) t → Steps p.tables e below (s₁.setTop (entryFrame m #[(.ref a1), (.long p1), (.long p2), (.int p3)] 6)) t := by
      intro t k
      refine pre1 t ?_
      refine XS.ifNo X0.here hx rfl (hb hby d3_2) rfl (XT.i0_eq_f hc2) ?_
      show Steps p.tables e below (s₁.setTop (mkF m 5 #[.val (.ref a1), .val (.long p1), .second, .val (.long p2), .second, .val (.int p3)] [])) _
      refine XS.aloadN X0.here hx rfl (hb hby d3_5) rfl rfl ?_
      show Steps p.tables e below (s₁.setTop (mkF m 6 #[.val (.ref a1), .val (.long p1), .second, .val (.long p2), .second, .val (.int p3)] [(.ref a1)])) _
      refine XT.lloadN X0.here hx rfl (hb hby d3_6) rfl ?_
      show Steps p.tables e below (s₁.setTop (mkF m 7 #[.val (.ref a1), .val (.long p1), .second, .val (.long p2), .second, .val (.int p3)] [(.long p2), (.ref a1)])) _
      exact k
    have K24 : Keep h0 h0 [a1] := (Keep.refl h0 [a1])
    obtain ⟨T26, h26, X26, e26, W26, st26⟩ := putF X0 hx hZ hown (host := "") (Or.inl (hw _ (List.mem_of_getElem? (i := 16) rfl))) Via.refl e0 F1 E1 (Or.inl (hw _ (List.mem_of_getElem? (i := 17) rfl))) (hw _ (List.mem_of_getElem? (i := 1) rfl)) (ty := .long) (by decide) rfl rfl (g := (mkF m 7 #[.val (.ref a1), .val (.long p1), .second, .val (.long p2), .second, .val (.int p3)] [(.long p2), (.ref a1)])) rfl rfl (hb hby d3_7)
    have N26 := Fr.snoc X26 N0 ga1
    have pre27 : ∀ t, Steps p.tables e below (T26.setTop (mkF m 10 #[.val (.ref a1), .val (.long p1), .second, .val (.long p2), .second, .val (.int p3)] [])) t → Steps p.tables e below (s₁.setTop (entryFrame m #[(.ref a1), (.long p1), (.long p2), (.int p3)] 6)) t := fun t k => pre25 t (st26 t k)
    have F28_0 : Fld Z h26 a1 "com/example/sluice/sluice/checkpoint/ChainAccount" "unfollowed" "J" (.long q0) := (F0.other W26 (Or.inr (slot_ne (Or.inr (hw _ (List.mem_of_getElem? (i := 10) rfl))) (Or.inl (hw _ (List.mem_of_getElem? (i := 17) rfl))) (by decide) (t := .long) (t' := .long) (by decide) (by decide))))
    have F28_1 : Fld Z h26 a1 "com/example/sluice/sluice/checkpoint/ChainAccount" "wholeBytes" "J" (.long p2) := (F1.same W26)
    have F28_2 : Fld Z h26 a1 "com/example/sluice/sluice/checkpoint/ChainAccount" "changesBytes" "J" (.long q2) := (F2.other W26 (Or.inr (slot_ne (Or.inl (hw _ (List.mem_of_getElem? (i := 19) rfl))) (Or.inl (hw _ (List.mem_of_getElem? (i := 17) rfl))) (by decide) (t := .long) (t' := .long) (by decide) (by decide))))
    have F28_3 : Fld Z h26 a1 "com/example/sluice/sluice/checkpoint/ChainAccount" "changes" "I" (.int q3) := (F3.other W26 (Or.inr (slot_ne (Or.inl (hw _ (List.mem_of_getElem? (i := 21) rfl))) (Or.inl (hw _ (List.mem_of_getElem? (i := 17) rfl))) (by decide) (t := .int) (t' := .long) (by decide) (by decide))))
    have F28_4 : Fld Z h26 a1 "com/example/sluice/sluice/checkpoint/ChainAccount" "lastId" "J" (.long q4) := (F4.other W26 (Or.inr (slot_ne (Or.inl (hw _ (List.mem_of_getElem? (i := 23) rfl))) (Or.inl (hw _ (List.mem_of_getElem? (i := 17) rfl))) (by decide) (t := .long) (t' := .long) (by decide) (by decide))))
    have E28_0 : Exa Z h26 a1 "com/example/sluice/sluice/checkpoint/ChainAccount" := (E1.wr W26)
    have K28 : Keep h0 h26 [a1] := (K24.wr W26 (Or.inl (List.mem_of_getElem? (i := 0) rfl)))
    have Z28 : n0 ≤ h26.size := (Nat.le_trans Z0 (Nat.le_of_eq W26.size.symm))
    have pre30 : ∀ t, Steps p.tables e below (T26.setTop (mkF m 12 #[.val (.ref a1), .val (.long p1), .second, .val (.long p2), .second, .val (.int p3)] [(.long (0 : Int64)), (.ref a1)])) t → Steps p.tables e below (s₁.setTop (entryFrame m #[(.ref a1), (.long p1), (.long p2), (.int p3)] 6)) t := by
      intro t k
      refine pre27 t ?_
      refine XS.aloadN X26.here hx rfl (hb hby d3_10) rfl rfl ?_
      show Steps p.tables e below (T26.setTop (mkF m 11 #[.val (.ref a1), .val (.long p1), .second, .val (.long p2), .second, .val (.int p3)] [(.ref a1)])) _
      refine XT.lconst X26.here hx rfl (hb hby d3_11) ?_
      show Steps p.tables e below (T26.setTop (mkF m 12 #[.val (.ref a1), .val (.long p1), .second, .val (.long p2), .second, .val (.int p3)] [(.long (0 : Int64)), (.ref a1)])) _
      exact k
    obtain ⟨T31, h31, X31, e31, W31, st31⟩ := putF X26 hx hZ hown (host := "") (Or.inl (hw _ (List.mem_of_getElem? (i := 18) rfl))) Via.refl e26 F28_2 E28_0 (Or.inl (hw _ (List.mem_of_getElem? (i := 19) rfl))) (hw _ (List.mem_of_getElem? (i := 1) rfl)) (ty := .long) (by decide) rfl rfl (g := (mkF m 12 #[.val (.ref a1), .val (.long p1), .second, .val (.long p2), .second, .val (.int p3)] [(.long (0 : Int64)), (.ref a1)])) rfl rfl (hb hby d3_12)
    have N31 := Fr.snoc X31 N26 ga1
    have pre32 : ∀ t, Steps p.tables e below (T31.setTop (mkF m 15 #[.val (.ref a1), .val (.long p1), .second, .val (.long p2), .second, .val (.int p3)] [])) t → Steps p.tables e below (s₁.setTop (entryFrame m #[(.ref a1), (.long p1), (.long p2), (.int p3)] 6)) t := fun t k => pre30 t (st31 t k)
    have F33_0 : Fld Z h31 a1 "com/example/sluice/sluice/checkpoint/ChainAccount" "unfollowed" "J" (.long q0) := (F28_0.other W31 (Or.inr (slot_ne (Or.inr (hw _ (List.mem_of_getElem? (i := 10) rfl))) (Or.inl (hw _ (List.mem_of_getElem? (i := 19) rfl))) (by decide) (t := .long) (t' := .long) (by decide) (by decide))))
    have F33_1 : Fld Z h31 a1 "com/example/sluice/sluice/checkpoint/ChainAccount" "wholeBytes" "J" (.long p2) := (F28_1.other W31 (Or.inr (slot_ne (Or.inl (hw _ (List.mem_of_getElem? (i := 17) rfl))) (Or.inl (hw _ (List.mem_of_getElem? (i := 19) rfl))) (by decide) (t := .long) (t' := .long) (by decide) (by decide))))
    have F33_2 : Fld Z h31 a1 "com/example/sluice/sluice/checkpoint/ChainAccount" "changesBytes" "J" (.long (0 : Int64)) := (F28_2.same W31)
    have F33_3 : Fld Z h31 a1 "com/example/sluice/sluice/checkpoint/ChainAccount" "changes" "I" (.int q3) := (F28_3.other W31 (Or.inr (slot_ne (Or.inl (hw _ (List.mem_of_getElem? (i := 21) rfl))) (Or.inl (hw _ (List.mem_of_getElem? (i := 19) rfl))) (by decide) (t := .int) (t' := .long) (by decide) (by decide))))
    have F33_4 : Fld Z h31 a1 "com/example/sluice/sluice/checkpoint/ChainAccount" "lastId" "J" (.long q4) := (F28_4.other W31 (Or.inr (slot_ne (Or.inl (hw _ (List.mem_of_getElem? (i := 23) rfl))) (Or.inl (hw _ (List.mem_of_getElem? (i := 19) rfl))) (by decide) (t := .long) (t' := .long) (by decide) (by decide))))
    have E33_0 : Exa Z h31 a1 "com/example/sluice/sluice/checkpoint/ChainAccount" := (E28_0.wr W31)
    have K33 : Keep h0 h31 [a1] := (K28.wr W31 (Or.inl (List.mem_of_getElem? (i := 0) rfl)))
    have Z33 : n0 ≤ h31.size := (Nat.le_trans Z28 (Nat.le_of_eq W31.size.symm))
    have pre35 : ∀ t, Steps p.tables e below (T31.setTop (mkF m 17 #[.val (.ref a1), .val (.long p1), .second, .val (.long p2), .second, .val (.int p3)] [(.int (0 : Int32)), (.ref a1)])) t → Steps p.tables e below (s₁.setTop (entryFrame m #[(.ref a1), (.long p1), (.long p2), (.int p3)] 6)) t := by
      intro t k
      refine pre32 t ?_
      refine XS.aloadN X31.here hx rfl (hb hby d3_15) rfl rfl ?_
      show Steps p.tables e below (T31.setTop (mkF m 16 #[.val (.ref a1), .val (.long p1), .second, .val (.long p2), .second, .val (.int p3)] [(.ref a1)])) _
      refine XS.iconst X31.here hx rfl (hb hby d3_16) ?_
      show Steps p.tables e below (T31.setTop (mkF m 17 #[.val (.ref a1), .val (.long p1), .second, .val (.long p2), .second, .val (.int p3)] [(.int (0 : Int32)), (.ref a1)])) _
      exact k
    obtain ⟨T36, h36, X36, e36, W36, st36⟩ := putF X31 hx hZ hown (host := "") (Or.inl (hw _ (List.mem_of_getElem? (i := 20) rfl))) Via.refl e31 F33_3 E33_0 (Or.inl (hw _ (List.mem_of_getElem? (i := 21) rfl))) (hw _ (List.mem_of_getElem? (i := 1) rfl)) (ty := .int) (by decide) rfl rfl (g := (mkF m 17 #[.val (.ref a1), .val (.long p1), .second, .val (.long p2), .second, .val (.int p3)] [(.int (0 : Int32)), (.ref a1)])) rfl rfl (hb hby d3_17)
    have N36 := Fr.snoc X36 N31 ga1
    have pre37 : ∀ t, Steps p.tables e below (T36.setTop (mkF m 20 #[.val (.ref a1), .val (.long p1), .second, .val (.long p2), .second, .val (.int p3)] [])) t → Steps p.tables e below (s₁.setTop (entryFrame m #[(.ref a1), (.long p1), (.long p2), (.int p3)] 6)) t := fun t k => pre35 t (st36 t k)
    have F38_0 : Fld Z h36 a1 "com/example/sluice/sluice/checkpoint/ChainAccount" "unfollowed" "J" (.long q0) := (F33_0.other W36 (Or.inr (slot_ne (Or.inr (hw _ (List.mem_of_getElem? (i := 10) rfl))) (Or.inl (hw _ (List.mem_of_getElem? (i := 21) rfl))) (by decide) (t := .long) (t' := .int) (by decide) (by decide))))
    have F38_1 : Fld Z h36 a1 "com/example/sluice/sluice/checkpoint/ChainAccount" "wholeBytes" "J" (.long p2) := (F33_1.other W36 (Or.inr (slot_ne (Or.inl (hw _ (List.mem_of_getElem? (i := 17) rfl))) (Or.inl (hw _ (List.mem_of_getElem? (i := 21) rfl))) (by decide) (t := .long) (t' := .int) (by decide) (by decide))))
    have F38_2 : Fld Z h36 a1 "com/example/sluice/sluice/checkpoint/ChainAccount" "changesBytes" "J" (.long (0 : Int64)) := (F33_2.other W36 (Or.inr (slot_ne (Or.inl (hw _ (List.mem_of_getElem? (i := 19) rfl))) (Or.inl (hw _ (List.mem_of_getElem? (i := 21) rfl))) (by decide) (t := .long) (t' := .int) (by decide) (by decide))))
    have F38_3 : Fld Z h36 a1 "com/example/sluice/sluice/checkpoint/ChainAccount" "changes" "I" (.int (0 : Int32)) := (F33_3.same W36)
    have F38_4 : Fld Z h36 a1 "com/example/sluice/sluice/checkpoint/ChainAccount" "lastId" "J" (.long q4) := (F33_4.other W36 (Or.inr (slot_ne (Or.inl (hw _ (List.mem_of_getElem? (i := 23) rfl))) (Or.inl (hw _ (List.mem_of_getElem? (i := 21) rfl))) (by decide) (t := .long) (t' := .int) (by decide) (by decide))))
    have E38_0 : Exa Z h36 a1 "com/example/sluice/sluice/checkpoint/ChainAccount" := (E33_0.wr W36)
    have K38 : Keep h0 h36 [a1] := (K33.wr W36 (Or.inl (List.mem_of_getElem? (i := 0) rfl)))
    have Z38 : n0 ≤ h36.size := (Nat.le_trans Z33 (Nat.le_of_eq W36.size.symm))
    have pre40 : ∀ t, Steps p.tables e below (T36.setTop (mkF m 45 #[.val (.ref a1), .val (.long p1), .second, .val (.long p2), .second, .val (.int p3)] [(.long p1), (.ref a1)])) t → Steps p.tables e below (s₁.setTop (entryFrame m #[(.ref a1), (.long p1), (.long p2), (.int p3)] 6)) t := by
      intro t k
      refine pre37 t ?_
      refine XS.goto X36.here hx rfl (pc0 := 20) (pc' := 43) rfl (hb hby d3_20) (by decide) (by decide) ?_
      show Steps p.tables e below (T36.setTop (mkF m 43 #[.val (.ref a1), .val (.long p1), .second, .val (.long p2), .second, .val (.int p3)] [])) _
      refine XS.aloadN X36.here hx rfl (hb hby d3_43) rfl rfl ?_
      show Steps p.tables e below (T36.setTop (mkF m 44 #[.val (.ref a1), .val (.long p1), .second, .val (.long p2), .second, .val (.int p3)] [(.ref a1)])) _
      refine XT.lloadN X36.here hx rfl (hb hby d3_44) rfl ?_
      show Steps p.tables e below (T36.setTop (mkF m 45 #[.val (.ref a1), .val (.long p1), .second, .val (.long p2), .second, .val (.int p3)] [(.long p1), (.ref a1)])) _
      exact k
    obtain ⟨T41, h41, X41, e41, W41, st41⟩ := putF X36 hx hZ hown (host := "") (Or.inl (hw _ (List.mem_of_getElem? (i := 22) rfl))) Via.refl e36 F38_4 E38_0 (Or.inl (hw _ (List.mem_of_getElem? (i := 23) rfl))) (hw _ (List.mem_of_getElem? (i := 1) rfl)) (ty := .long) (by decide) rfl rfl (g := (mkF m 45 #[.val (.ref a1), .val (.long p1), .second, .val (.long p2), .second, .val (.int p3)] [(.long p1), (.ref a1)])) rfl rfl (hb hby d3_45)
    have N41 := Fr.snoc X41 N36 ga1
    have pre42 : ∀ t, Steps p.tables e below (T41.setTop (mkF m 48 #[.val (.ref a1), .val (.long p1), .second, .val (.long p2), .second, .val (.int p3)] [])) t → Steps p.tables e below (s₁.setTop (entryFrame m #[(.ref a1), (.long p1), (.long p2), (.int p3)] 6)) t := fun t k => pre40 t (st41 t k)
    have F43_0 : Fld Z h41 a1 "com/example/sluice/sluice/checkpoint/ChainAccount" "unfollowed" "J" (.long q0) := (F38_0.other W41 (Or.inr (slot_ne (Or.inr (hw _ (List.mem_of_getElem? (i := 10) rfl))) (Or.inl (hw _ (List.mem_of_getElem? (i := 23) rfl))) (by decide) (t := .long) (t' := .long) (by decide) (by decide))))
    have F43_1 : Fld Z h41 a1 "com/example/sluice/sluice/checkpoint/ChainAccount" "wholeBytes" "J" (.long p2) := (F38_1.other W41 (Or.inr (slot_ne (Or.inl (hw _ (List.mem_of_getElem? (i := 17) rfl))) (Or.inl (hw _ (List.mem_of_getElem? (i := 23) rfl))) (by decide) (t := .long) (t' := .long) (by decide) (by decide))))
    have F43_2 : Fld Z h41 a1 "com/example/sluice/sluice/checkpoint/ChainAccount" "changesBytes" "J" (.long (0 : Int64)) := (F38_2.other W41 (Or.inr (slot_ne (Or.inl (hw _ (List.mem_of_getElem? (i := 19) rfl))) (Or.inl (hw _ (List.mem_of_getElem? (i := 23) rfl))) (by decide) (t := .long) (t' := .long) (by decide) (by decide))))
    have F43_3 : Fld Z h41 a1 "com/example/sluice/sluice/checkpoint/ChainAccount" "changes" "I" (.int (0 : Int32)) := (F38_3.other W41 (Or.inr (slot_ne (Or.inl (hw _ (List.mem_of_getElem? (i := 21) rfl))) (Or.inl (hw _ (List.mem_of_getElem? (i := 23) rfl))) (by decide) (t := .int) (t' := .long) (by decide) (by decide))))
    have F43_4 : Fld Z h41 a1 "com/example/sluice/sluice/checkpoint/ChainAccount" "lastId" "J" (.long p1) := (F38_4.same W41)
    have E43_0 : Exa Z h41 a1 "com/example/sluice/sluice/checkpoint/ChainAccount" := (E38_0.wr W41)
    have K43 : Keep h0 h41 [a1] := (K38.wr W41 (Or.inl (List.mem_of_getElem? (i := 0) rfl)))
    have Z43 : n0 ≤ h41.size := (Nat.le_trans Z38 (Nat.le_of_eq W41.size.symm))
    obtain ⟨fs, hr, hrun, hended, hW, hsame⟩ := X41.leave (v := none) (fun _ => rfl)
    refine ⟨_, _, pre42 _ ?_, hrun, hended, _, _, rfl, ?_, ⟨_, rfl⟩, hW, hsame.mono (by decide) (by decide)⟩
    · exact X41.returnOut hx Bd.returns (hb hby d3_48) hr
    · show Q3 Z a1 p1 p2 p3 q0 q1 q2 q3 q4 h0 n0 _ T41.heap _
      rw [e41]
      exact ⟨rfl, N41, K43, F43_0, (by rw [own_itJ, if_neg hc2]; exact F43_1), (by rw [own_itJ, if_neg hc2]; exact F43_2), (by rw [own_itI, if_neg hc2]; exact F43_3), F43_4⟩
theorem pn_4 : plainName "com/example/sluice/sluice/checkpoint/ChainAccount" = true := by first | (simp [plainName, overriddenIn]; done) | decide +kernel
theorem d4_0 : decode prog_41_method_4_code 0 = .ok (.aload_n 0, 1) := by decide +kernel
theorem d4_1 : decode prog_41_method_4_code 1 = .ok (.getfield 20, 3) := by decide +kernel
theorem d4_4 : decode prog_41_method_4_code 4 = .ok (.aload_n 0, 1) := by decide +kernel
theorem d4_5 : decode prog_41_method_4_code 5 = .ok (.getfield 23, 3) := by decide +kernel
theorem d4_8 : decode prog_41_method_4_code 8 = .ok (.lsub, 1) := by decide +kernel
theorem d4_9 : decode prog_41_method_4_code 9 = .ok (.lreturn, 1) := by decide +kernel
theorem ef_4 (m : MethodId) (a1 : Addr) : entryFrame m #[(.ref a1)] 1 = mkF m 0 #[.val (.ref a1)] [] := by first | (simp [entryFrame, mkF, argsToLocals, Value.category]; done) | rfl
def Q4 (Z : State) (a1 : Addr) (q0 : Int64) (q1 : Int64) (q2 : Int64) (q3 : Int32) (q4 : Int64) (h0 : Heap) (n0 : Nat) (v : Option Value) (h : Heap) (L : List Loc) : Prop := v = some (.long (q1 - q2)) ∧ Fr n0 L ∧ h = h0
set_option maxRecDepth 65536 in
set_option maxHeartbeats 40000000 in
theorem rm4 (l : Launch) (Z : State) (a0 : Array Value) (hw : ∀ d ∈ tables_1, d.before a0 Z = true) (ws : List Jvm.Cond) (a1 : Addr) (q0 : Int64) (q1 : Int64) (q2 : Int64) (q3 : Int32) (q4 : Int64) (h0 : Heap) (n0 : Nat) (Z0 : n0 ≤ h0.size) (F0 : Fld Z h0 a1 "com/example/sluice/sluice/checkpoint/ChainAccount" "unfollowed" "J" (.long q0)) (F1 : Fld Z h0 a1 "com/example/sluice/sluice/checkpoint/ChainAccount" "wholeBytes" "J" (.long q1)) (F2 : Fld Z h0 a1 "com/example/sluice/sluice/checkpoint/ChainAccount" "changesBytes" "J" (.long q2)) (F3 : Fld Z h0 a1 "com/example/sluice/sluice/checkpoint/ChainAccount" "changes" "I" (.int q3)) (F4 : Fld Z h0 a1 "com/example/sluice/sluice/checkpoint/ChainAccount" "lastId" "J" (.long q4)) :
    MetFree l (⟨"com/example/sluice/sluice/checkpoint/ChainAccount", "left", "()J"⟩ : MethodName) (head1 (Jvm.Cond.code (⟨"com/example/sluice/sluice/checkpoint/ChainAccount", "left", "()J"⟩ : MethodName) prog_41_method_4_code 1 (some .long) :: ws) ({ frames := 0, cells := 0, slots := 0, locals := 0 } : Room)) (fun a U => a = #[(.ref a1)] ∧ Z.Warmed39 U.vm ∧ U.heap = h0) (fun _ _ _ _ _ => True) (fun _ U o U' => ∃ v L, o = .returned v ∧ Q4 Z a1 q0 q1 q2 q3 q4 h0 n0 v U'.heap L ∧ FrameEnd U o U' L ({ frames := 0, cells := 0, slots := 0, locals := 0 } : Room).cells ({ frames := 0, cells := 0, slots := 0, locals := 0 } : Room).slots) := by
  refine MetFree.of_bodySF (plainFor_of_name pn_4) hisR ?_
  intro p e s m args below meth c s₁ Bd hml0 hP hK
  obtain ⟨rfl, hZ, hh⟩ := hP
  have hx := Bd.exec
  have hby := Bd.bytes
  have hml : c.maxLocals = 1 := hml0
  have hown : s.vm.findClass "com/example/sluice/sluice/checkpoint/ChainAccount" = some m.cls := findClass_of_methodNamed Bd.named
  have hnm := (name_of_methodNamed Bd.named Bd.method).1
  have X0 : Stand p l e ({ frames := 0, cells := 0, slots := 0, locals := 0 } : Room) s m #[(.ref a1)] below meth c s₁ [] 0 0 := Stand.of_body Bd
  have e0 : s₁.heap = h0 := by rw [← hh, Bd.state]; rfl
  have N0 := Fr.nil n0
  have pre0 : ∀ t, Steps p.tables e below (s₁.setTop (mkF m 0 #[.val (.ref a1)] [])) t → Steps p.tables e below (s₁.setTop (entryFrame m #[(.ref a1)] 1)) t := fun t k => castTop (ef_4 m a1) k
  have pre1 : ∀ t, Steps p.tables e below (s₁.setTop (mkF m 1 #[.val (.ref a1)] [(.ref a1)])) t → Steps p.tables e below (s₁.setTop (entryFrame m #[(.ref a1)] 1)) t := by
    intro t k
    refine pre0 t ?_
    refine XS.aloadN X0.here hx rfl (hb hby d4_0) rfl rfl ?_
    show Steps p.tables e below (s₁.setTop (mkF m 1 #[.val (.ref a1)] [(.ref a1)])) _
    exact k
  obtain ⟨T2, X2, e2, st2⟩ := getF X0 hx hZ hown (host := "") (Or.inl (hw _ (List.mem_of_getElem? (i := 16) rfl))) Via.refl e0 F1 (g := (mkF m 1 #[.val (.ref a1)] [(.ref a1)])) rfl rfl (hb hby d4_1)
  have pre3 : ∀ t, Steps p.tables e below (T2.setTop (mkF m 4 #[.val (.ref a1)] [(.long q1)])) t → Steps p.tables e below (s₁.setTop (entryFrame m #[(.ref a1)] 1)) t := fun t k => pre1 t (st2 t k)
  have pre4 : ∀ t, Steps p.tables e below (T2.setTop (mkF m 5 #[.val (.ref a1)] [(.ref a1), (.long q1)])) t → Steps p.tables e below (s₁.setTop (entryFrame m #[(.ref a1)] 1)) t := by
    intro t k
    refine pre3 t ?_
    refine XS.aloadN X2.here hx rfl (hb hby d4_4) rfl rfl ?_
    show Steps p.tables e below (T2.setTop (mkF m 5 #[.val (.ref a1)] [(.ref a1), (.long q1)])) _
    exact k
  obtain ⟨T5, X5, e5, st5⟩ := getF X2 hx hZ hown (host := "") (Or.inl (hw _ (List.mem_of_getElem? (i := 18) rfl))) Via.refl e2 F2 (g := (mkF m 5 #[.val (.ref a1)] [(.ref a1), (.long q1)])) rfl rfl (hb hby d4_5)
  have pre6 : ∀ t, Steps p.tables e below (T5.setTop (mkF m 8 #[.val (.ref a1)] [(.long q2), (.long q1)])) t → Steps p.tables e below (s₁.setTop (entryFrame m #[(.ref a1)] 1)) t := fun t k => pre4 t (st5 t k)
  have pre7 : ∀ t, Steps p.tables e below (T5.setTop (mkF m 9 #[.val (.ref a1)] [(.long (q1 - q2))])) t → Steps p.tables e below (s₁.setTop (entryFrame m #[(.ref a1)] 1)) t := by
    intro t k
    refine pre6 t ?_
    refine XT.lsub X5.here hx rfl (hb hby d4_8) rfl ?_
    show Steps p.tables e below (T5.setTop (mkF m 9 #[.val (.ref a1)] [(.long (q1 - q2))])) _
    exact k
  obtain ⟨fs, hr, hrun, hended, hW, hsame⟩ := X5.leave (v := some (.long (q1 - q2))) (fun h => by rw [Bd.returns] at h; cases h)
  refine ⟨_, _, pre7 _ ?_, hrun, hended, _, _, rfl, ?_, ⟨_, rfl⟩, hW, hsame.mono (by decide) (by decide)⟩
  · exact retOut X5 hx Bd.returns rfl (Or.inr (Or.inl ⟨rfl, rfl, _, rfl⟩)) (hb hby d4_9) hr
  · show Q4 Z a1 q0 q1 q2 q3 q4 h0 n0 _ T5.heap _
    rw [e5]
    exact ⟨rfl, N0, rfl⟩
theorem pn_5 : plainName "com/example/sluice/sluice/checkpoint/ChainAccount" = true := by first | (simp [plainName, overriddenIn]; done) | decide +kernel
theorem d5_0 : decode prog_41_method_3_code 0 = .ok (.aload_n 0, 1) := by decide +kernel
theorem d5_1 : decode prog_41_method_3_code 1 = .ok (.getfield 16, 3) := by decide +kernel
theorem d5_4 : decode prog_41_method_3_code 4 = .ok (.ifCond .ne 7, 3) := by decide +kernel
theorem d5_7 : decode prog_41_method_3_code 7 = .ok (.iconst 1, 1) := by decide +kernel
theorem d5_8 : decode prog_41_method_3_code 8 = .ok (.goto 4, 3) := by decide +kernel
theorem d5_11 : decode prog_41_method_3_code 11 = .ok (.iconst 0, 1) := by decide +kernel
theorem d5_12 : decode prog_41_method_3_code 12 = .ok (.ireturn, 1) := by decide +kernel
theorem ef_5 (m : MethodId) (a1 : Addr) : entryFrame m #[(.ref a1)] 1 = mkF m 0 #[.val (.ref a1)] [] := by first | (simp [entryFrame, mkF, argsToLocals, Value.category]; done) | rfl
def Q5 (Z : State) (a1 : Addr) (q0 : Int64) (q1 : Int64) (q2 : Int64) (q3 : Int32) (q4 : Int64) (h0 : Heap) (n0 : Nat) (v : Option Value) (h : Heap) (L : List Loc) : Prop := v = some (.int (own_bi (q3 = 0))) ∧ Fr n0 L ∧ h = h0
set_option maxRecDepth 65536 in
set_option maxHeartbeats 40000000 in
theorem rm5 (l : Launch) (Z : State) (a0 : Array Value) (hw : ∀ d ∈ tables_1, d.before a0 Z = true) (ws : List Jvm.Cond) (a1 : Addr) (q0 : Int64) (q1 : Int64) (q2 : Int64) (q3 : Int32) (q4 : Int64) (h0 : Heap) (n0 : Nat) (Z0 : n0 ≤ h0.size) (F0 : Fld Z h0 a1 "com/example/sluice/sluice/checkpoint/ChainAccount" "unfollowed" "J" (.long q0)) (F1 : Fld Z h0 a1 "com/example/sluice/sluice/checkpoint/ChainAccount" "wholeBytes" "J" (.long q1)) (F2 : Fld Z h0 a1 "com/example/sluice/sluice/checkpoint/ChainAccount" "changesBytes" "J" (.long q2)) (F3 : Fld Z h0 a1 "com/example/sluice/sluice/checkpoint/ChainAccount" "changes" "I" (.int q3)) (F4 : Fld Z h0 a1 "com/example/sluice/sluice/checkpoint/ChainAccount" "lastId" "J" (.long q4)) :
    MetFree l (⟨"com/example/sluice/sluice/checkpoint/ChainAccount", "noChanges", "()Z"⟩ : MethodName) (head1 (Jvm.Cond.code (⟨"com/example/sluice/sluice/checkpoint/ChainAccount", "noChanges", "()Z"⟩ : MethodName) prog_41_method_3_code 1 (some .boolean) :: ws) ({ frames := 0, cells := 0, slots := 0, locals := 0 } : Room)) (fun a U => a = #[(.ref a1)] ∧ Z.Warmed39 U.vm ∧ U.heap = h0) (fun _ _ _ _ _ => True) (fun _ U o U' => ∃ v L, o = .returned v ∧ Q5 Z a1 q0 q1 q2 q3 q4 h0 n0 v U'.heap L ∧ FrameEnd U o U' L ({ frames := 0, cells := 0, slots := 0, locals := 0 } : Room).cells ({ frames := 0, cells := 0, slots := 0, locals := 0 } : Room).slots) := by
  refine MetFree.of_bodySF (plainFor_of_name pn_5) hisR ?_
  intro p e s m args below meth c s₁ Bd hml0 hP hK
  obtain ⟨rfl, hZ, hh⟩ := hP
  have hx := Bd.exec
  have hby := Bd.bytes
  have hml : c.maxLocals = 1 := hml0
  have hown : s.vm.findClass "com/example/sluice/sluice/checkpoint/ChainAccount" = some m.cls := findClass_of_methodNamed Bd.named
  have hnm := (name_of_methodNamed Bd.named Bd.method).1
  have X0 : Stand p l e ({ frames := 0, cells := 0, slots := 0, locals := 0 } : Room) s m #[(.ref a1)] below meth c s₁ [] 0 0 := Stand.of_body Bd
  have e0 : s₁.heap = h0 := by rw [← hh, Bd.state]; rfl
  have N0 := Fr.nil n0
  have pre0 : ∀ t, Steps p.tables e below (s₁.setTop (mkF m 0 #[.val (.ref a1)] [])) t → Steps p.tables e below (s₁.setTop (entryFrame m #[(.ref a1)] 1)) t := fun t k => castTop (ef_5 m a1) k
  have pre1 : ∀ t, Steps p.tables e below (s₁.setTop (mkF m 1 #[.val (.ref a1)] [(.ref a1)])) t → Steps p.tables e below (s₁.setTop (entryFrame m #[(.ref a1)] 1)) t := by
    intro t k
    refine pre0 t ?_
    refine XS.aloadN X0.here hx rfl (hb hby d5_0) rfl rfl ?_
    show Steps p.tables e below (s₁.setTop (mkF m 1 #[.val (.ref a1)] [(.ref a1)])) _
    exact k
  obtain ⟨T2, X2, e2, st2⟩ := getF X0 hx hZ hown (host := "") (Or.inl (hw _ (List.mem_of_getElem? (i := 20) rfl))) Via.refl e0 F3 (g := (mkF m 1 #[.val (.ref a1)] [(.ref a1)])) rfl rfl (hb hby d5_1)
  have pre3 : ∀ t, Steps p.tables e below (T2.setTop (mkF m 4 #[.val (.ref a1)] [(.int q3)])) t → Steps p.tables e below (s₁.setTop (entryFrame m #[(.ref a1)] 1)) t := fun t k => pre1 t (st2 t k)
  have mrg4 : ∃ (b : Int32) (T4 : State) (Lo4 : List Loc), Stand p l e ({ frames := 0, cells := 0, slots := 0, locals := 0 } : Room) s m #[(.ref a1)] below meth c T4 Lo4 0 0 ∧ Fr n0 Lo4 ∧ T4.heap = h0 ∧ (b = own_bi (q3 = 0)) ∧ ∀ t, Steps p.tables e below (T4.setTop (mkF m 12 #[.val (.ref a1)] [(.int b)])) t → Steps p.tables e below (s₁.setTop (entryFrame m #[(.ref a1)] 1)) t := by
    by_cases hc4 : q3 = (0 : Int32)
    · skip
      have pre5 : ∀ t, Steps p.tables e below (T2.setTop (mkF m 12 #[.val (.ref a1)] [(.int (1 : Int32))])) t → Steps p.tables e below (s₁.setTop (entryFrame m #[(.ref a1)] 1)) t := by
        intro t k
        refine pre3 t ?_
        refine XS.ifNo X2.here hx rfl (hb hby d5_4) rfl (XT.i0_ne_f hc4) ?_
        show Steps p.tables e below (T2.setTop (mkF m 7 #[.val (.ref a1)] [])) _
        refine XS.iconst X2.here hx rfl (hb hby d5_7) ?_
        show Steps p.tables e below (T2.setTop (mkF m 8 #[.val (.ref a1)] [(.int (1 : Int32))])) _
        refine XS.goto X2.here hx rfl (pc0 := 8) (pc' := 12) rfl (hb hby d5_8) (by decide) (by decide) ?_
        show Steps p.tables e below (T2.setTop (mkF m 12 #[.val (.ref a1)] [(.int (1 : Int32))])) _
        exact k
      exact ⟨(1 : Int32), _, _, X2, N0, e2, (by first | (simp [own_bi, hc4]; done) | contradiction), pre5⟩
    · skip
      have pre6 : ∀ t, Steps p.tables e below (T2.setTop (mkF m 12 #[.val (.ref a1)] [(.int (0 : Int32))])) t → Steps p.tables e below (s₁.setTop (entryFrame m #[(.ref a1)] 1)) t := by
        intro t k
        refine pre3 t ?_
        refine XS.ifYes X2.here hx rfl (pc0 := 4) (pc' := 11) rfl (hb hby d5_4) rfl (XT.i0_ne_t hc4) (by decide) (by decide) ?_
        show Steps p.tables e below (T2.setTop (mkF m 11 #[.val (.ref a1)] [])) _
        refine XS.iconst X2.here hx rfl (hb hby d5_11) ?_
        show Steps p.tables e below (T2.setTop (mkF m 12 #[.val (.ref a1)] [(.int (0 : Int32))])) _
        exact k
      exact ⟨(0 : Int32), _, _, X2, N0, e2, (by first | (simp [own_bi, hc4]; done) | contradiction), pre6⟩
  obtain ⟨b, T4, Lo4, X4, N4, e4, hb, pre4⟩ := mrg4
  subst hb
  obtain ⟨fs, hr, hrun, hended, hW, hsame⟩ := X4.leave (v := some (.int (own_bi (q3 = 0)))) (fun h => by rw [Bd.returns] at h; cases h)
  refine ⟨_, _, pre4 _ ?_, hrun, hended, _, _, rfl, ?_, ⟨_, rfl⟩, hW, hsame.mono (by decide) (by decide)⟩
  · exact retOut X4 hx Bd.returns (own_narZ (own_bi_01 _)) (Or.inl ⟨rfl, by simp, _, rfl⟩) (hb hby d5_12) hr
  · show Q5 Z a1 q0 q1 q2 q3 q4 h0 n0 _ T4.heap _
    rw [e4]
    exact ⟨rfl, N4, rfl⟩
theorem pn_6 : plainName "com/example/sluice/sluice/checkpoint/ChainAccount" = true := by first | (simp [plainName, overriddenIn]; done) | decide +kernel
theorem d6_0 : decode prog_41_method_2_code 0 = .ok (.lload_n 1, 1) := by decide +kernel
theorem d6_1 : decode prog_41_method_2_code 1 = .ok (.aload_n 0, 1) := by decide +kernel
theorem d6_2 : decode prog_41_method_2_code 2 = .ok (.getfield 13, 3) := by decide +kernel
theorem d6_5 : decode prog_41_method_2_code 5 = .ok (.lconst 1, 1) := by decide +kernel
theorem d6_6 : decode prog_41_method_2_code 6 = .ok (.ladd, 1) := by decide +kernel
theorem d6_7 : decode prog_41_method_2_code 7 = .ok (.lcmp, 1) := by decide +kernel
theorem d6_8 : decode prog_41_method_2_code 8 = .ok (.ifCond .ne 28, 3) := by decide +kernel
theorem d6_11 : decode prog_41_method_2_code 11 = .ok (.aload_n 0, 1) := by decide +kernel
theorem d6_12 : decode prog_41_method_2_code 12 = .ok (.getfield 13, 3) := by decide +kernel
theorem d6_15 : decode prog_41_method_2_code 15 = .ok (.aload_n 0, 1) := by decide +kernel
theorem d6_16 : decode prog_41_method_2_code 16 = .ok (.getfield 7, 3) := by decide +kernel
theorem d6_19 : decode prog_41_method_2_code 19 = .ok (.lcmp, 1) := by decide +kernel
theorem d6_20 : decode prog_41_method_2_code 20 = .ok (.ifCond .eq 16, 3) := by decide +kernel
theorem d6_23 : decode prog_41_method_2_code 23 = .ok (.aload_n 0, 1) := by decide +kernel
theorem d6_24 : decode prog_41_method_2_code 24 = .ok (.getfield 16, 3) := by decide +kernel
theorem d6_27 : decode prog_41_method_2_code 27 = .ok (.bipush 100, 2) := by decide +kernel
theorem d6_29 : decode prog_41_method_2_code 29 = .ok (.if_icmp .ge 7, 3) := by decide +kernel
theorem d6_32 : decode prog_41_method_2_code 32 = .ok (.iconst 1, 1) := by decide +kernel
theorem d6_33 : decode prog_41_method_2_code 33 = .ok (.goto 4, 3) := by decide +kernel
theorem d6_36 : decode prog_41_method_2_code 36 = .ok (.iconst 0, 1) := by decide +kernel
theorem d6_37 : decode prog_41_method_2_code 37 = .ok (.ireturn, 1) := by decide +kernel
theorem ef_6 (m : MethodId) (a1 : Addr) (p1 : Int64) : entryFrame m #[(.ref a1), (.long p1)] 3 = mkF m 0 #[.val (.ref a1), .val (.long p1), .second] [] := by first | (simp [entryFrame, mkF, argsToLocals, Value.category]; done) | rfl
def Q6 (Z : State) (a1 : Addr) (p1 : Int64) (q0 : Int64) (q1 : Int64) (q2 : Int64) (q3 : Int32) (q4 : Int64) (h0 : Heap) (n0 : Nat) (v : Option Value) (h : Heap) (L : List Loc) : Prop := v = some (.int (own_bi (p1 = q4 + 1 ∧ ¬ q4 = q0 ∧ q3 < 100))) ∧ Fr n0 L ∧ h = h0
set_option maxRecDepth 65536 in
set_option maxHeartbeats 40000000 in
theorem rm6 (l : Launch) (Z : State) (a0 : Array Value) (hw : ∀ d ∈ tables_1, d.before a0 Z = true) (ws : List Jvm.Cond) (a1 : Addr) (p1 : Int64) (q0 : Int64) (q1 : Int64) (q2 : Int64) (q3 : Int32) (q4 : Int64) (h0 : Heap) (n0 : Nat) (Z0 : n0 ≤ h0.size) (F0 : Fld Z h0 a1 "com/example/sluice/sluice/checkpoint/ChainAccount" "unfollowed" "J" (.long q0)) (F1 : Fld Z h0 a1 "com/example/sluice/sluice/checkpoint/ChainAccount" "wholeBytes" "J" (.long q1)) (F2 : Fld Z h0 a1 "com/example/sluice/sluice/checkpoint/ChainAccount" "changesBytes" "J" (.long q2)) (F3 : Fld Z h0 a1 "com/example/sluice/sluice/checkpoint/ChainAccount" "changes" "I" (.int q3)) (F4 : Fld Z h0 a1 "com/example/sluice/sluice/checkpoint/ChainAccount" "lastId" "J" (.long q4)) :
    MetFree l (⟨"com/example/sluice/sluice/checkpoint/ChainAccount", "mayChange", "(J)Z"⟩ : MethodName) (head1 (Jvm.Cond.code (⟨"com/example/sluice/sluice/checkpoint/ChainAccount", "mayChange", "(J)Z"⟩ : MethodName) prog_41_method_2_code 3 (some .boolean) :: ws) ({ frames := 0, cells := 0, slots := 0, locals := 0 } : Room)) (fun a U => a = #[(.ref a1), (.long p1)] ∧ Z.Warmed39 U.vm ∧ U.heap = h0) (fun _ _ _ _ _ => True) (fun _ U o U' => ∃ v L, o = .returned v ∧ Q6 Z a1 p1 q0 q1 q2 q3 q4 h0 n0 v U'.heap L ∧ FrameEnd U o U' L ({ frames := 0, cells := 0, slots := 0, locals := 0 } : Room).cells ({ frames := 0, cells := 0, slots := 0, locals := 0 } : Room).slots) := by
  refine MetFree.of_bodySF (plainFor_of_name pn_6) hisR ?_
  intro p e s m args below meth c s₁ Bd hml0 hP hK
  obtain ⟨rfl, hZ, hh⟩ := hP
  have hx := Bd.exec
  have hby := Bd.bytes
  have hml : c.maxLocals = 3 := hml0
  have hown : s.vm.findClass "com/example/sluice/sluice/checkpoint/ChainAccount" = some m.cls := findClass_of_methodNamed Bd.named
  have hnm := (name_of_methodNamed Bd.named Bd.method).1
  have X0 : Stand p l e ({ frames := 0, cells := 0, slots := 0, locals := 0 } : Room) s m #[(.ref a1), (.long p1)] below meth c s₁ [] 0 0 := Stand.of_body Bd
  have e0 : s₁.heap = h0 := by rw [← hh, Bd.state]; rfl
  have N0 := Fr.nil n0
  have pre0 : ∀ t, Steps p.tables e below (s₁.setTop (mkF m 0 #[.val (.ref a1), .val (.long p1), .second] [])) t → Steps p.tables e below (s₁.setTop (entryFrame m #[(.ref a1), (.long p1)] 3)) t := fun t k => castTop (ef_6 m a1 p1) k
  have pre1 : ∀ t, Steps p.tables e below (s₁.setTop (mkF m 2 #[.val (.ref a1), .val (.long p1), .second] [(.ref a1), (.long p1)])) t → Steps p.tables e below (s₁.setTop (entryFrame m #[(.ref a1), (.long p1)] 3)) t := by
    intro t k
    refine pre0 t ?_
    refine XT.lloadN X0.here hx rfl (hb hby d6_0) rfl ?_
    show Steps p.tables e below (s₁.setTop (mkF m 1 #[.val (.ref a1), .val (.long p1), .second] [(.long p1)])) _
    refine XS.aloadN X0.here hx rfl (hb hby d6_1) rfl rfl ?_
    show Steps p.tables e below (s₁.setTop (mkF m 2 #[.val (.ref a1), .val (.long p1), .second] [(.ref a1), (.long p1)])) _
    exact k
  obtain ⟨T2, X2, e2, st2⟩ := getF X0 hx hZ hown (host := "") (Or.inl (hw _ (List.mem_of_getElem? (i := 22) rfl))) Via.refl e0 F4 (g := (mkF m 2 #[.val (.ref a1), .val (.long p1), .second] [(.ref a1), (.long p1)])) rfl rfl (hb hby d6_2)
  have pre3 : ∀ t, Steps p.tables e below (T2.setTop (mkF m 5 #[.val (.ref a1), .val (.long p1), .second] [(.long q4), (.long p1)])) t → Steps p.tables e below (s₁.setTop (entryFrame m #[(.ref a1), (.long p1)] 3)) t := fun t k => pre1 t (st2 t k)
  have mrg4 : ∃ (b : Int32) (T4 : State) (Lo4 : List Loc), Stand p l e ({ frames := 0, cells := 0, slots := 0, locals := 0 } : Room) s m #[(.ref a1), (.long p1)] below meth c T4 Lo4 0 0 ∧ Fr n0 Lo4 ∧ T4.heap = h0 ∧ (b = own_bi (p1 = q4 + 1 ∧ ¬ q4 = q0 ∧ q3 < 100)) ∧ ∀ t, Steps p.tables e below (T4.setTop (mkF m 37 #[.val (.ref a1), .val (.long p1), .second] [(.int b)])) t → Steps p.tables e below (s₁.setTop (entryFrame m #[(.ref a1), (.long p1)] 3)) t := by
    have pre5 : ∀ t, Steps p.tables e below (T2.setTop (mkF m 8 #[.val (.ref a1), .val (.long p1), .second] [(.int (XT.cmpL p1 (q4 + (1 : Int64))))])) t → Steps p.tables e below (s₁.setTop (entryFrame m #[(.ref a1), (.long p1)] 3)) t := by
      intro t k
      refine pre3 t ?_
      refine XT.lconst X2.here hx rfl (hb hby d6_5) ?_
      show Steps p.tables e below (T2.setTop (mkF m 6 #[.val (.ref a1), .val (.long p1), .second] [(.long (1 : Int64)), (.long q4), (.long p1)])) _
      refine XT.ladd X2.here hx rfl (hb hby d6_6) rfl ?_
      show Steps p.tables e below (T2.setTop (mkF m 7 #[.val (.ref a1), .val (.long p1), .second] [(.long (q4 + (1 : Int64))), (.long p1)])) _
      refine XT.lcmp X2.here hx rfl (hb hby d6_7) rfl ?_
      show Steps p.tables e below (T2.setTop (mkF m 8 #[.val (.ref a1), .val (.long p1), .second] [(.int (XT.cmpL p1 (q4 + (1 : Int64))))])) _
      exact k
    by_cases hc8 : p1 = (q4 + (1 : Int64))
    · skip
      have pre6 : ∀ t, Steps p.tables e below (T2.setTop (mkF m 12 #[.val (.ref a1), .val (.long p1), .second] [(.ref a1)])) t → Steps p.tables e below (s₁.setTop (entryFrame m #[(.ref a1), (.long p1)] 3)) t := by
        intro t k
        refine pre5 t ?_
        refine XS.ifNo X2.here hx rfl (hb hby d6_8) rfl (XT.ll_ne_f hc8) ?_
        show Steps p.tables e below (T2.setTop (mkF m 11 #[.val (.ref a1), .val (.long p1), .second] [])) _
        refine XS.aloadN X2.here hx rfl (hb hby d6_11) rfl rfl ?_
        show Steps p.tables e below (T2.setTop (mkF m 12 #[.val (.ref a1), .val (.long p1), .second] [(.ref a1)])) _
        exact k
      obtain ⟨T7, X7, e7, st7⟩ := getF X2 hx hZ hown (host := "") (Or.inl (hw _ (List.mem_of_getElem? (i := 22) rfl))) Via.refl e2 F4 (g := (mkF m 12 #[.val (.ref a1), .val (.long p1), .second] [(.ref a1)])) rfl rfl (hb hby d6_12)
      have pre8 : ∀ t, Steps p.tables e below (T7.setTop (mkF m 15 #[.val (.ref a1), .val (.long p1), .second] [(.long q4)])) t → Steps p.tables e below (s₁.setTop (entryFrame m #[(.ref a1), (.long p1)] 3)) t := fun t k => pre6 t (st7 t k)
      have pre9 : ∀ t, Steps p.tables e below (T7.setTop (mkF m 16 #[.val (.ref a1), .val (.long p1), .second] [(.ref a1), (.long q4)])) t → Steps p.tables e below (s₁.setTop (entryFrame m #[(.ref a1), (.long p1)] 3)) t := by
        intro t k
        refine pre8 t ?_
        refine XS.aloadN X7.here hx rfl (hb hby d6_15) rfl rfl ?_
        show Steps p.tables e below (T7.setTop (mkF m 16 #[.val (.ref a1), .val (.long p1), .second] [(.ref a1), (.long q4)])) _
        exact k
      obtain ⟨T10, X10, e10, st10⟩ := getF X7 hx hZ hown (host := "") (Or.inl (hw _ (List.mem_of_getElem? (i := 9) rfl))) Via.refl e7 F0 (g := (mkF m 16 #[.val (.ref a1), .val (.long p1), .second] [(.ref a1), (.long q4)])) rfl rfl (hb hby d6_16)
      have pre11 : ∀ t, Steps p.tables e below (T10.setTop (mkF m 19 #[.val (.ref a1), .val (.long p1), .second] [(.long q0), (.long q4)])) t → Steps p.tables e below (s₁.setTop (entryFrame m #[(.ref a1), (.long p1)] 3)) t := fun t k => pre9 t (st10 t k)
      have pre12 : ∀ t, Steps p.tables e below (T10.setTop (mkF m 20 #[.val (.ref a1), .val (.long p1), .second] [(.int (XT.cmpL q4 q0))])) t → Steps p.tables e below (s₁.setTop (entryFrame m #[(.ref a1), (.long p1)] 3)) t := by
        intro t k
        refine pre11 t ?_
        refine XT.lcmp X10.here hx rfl (hb hby d6_19) rfl ?_
        show Steps p.tables e below (T10.setTop (mkF m 20 #[.val (.ref a1), .val (.long p1), .second] [(.int (XT.cmpL q4 q0))])) _
        exact k
      by_cases hc20 : q4 = q0
      · skip
        have pre13 : ∀ t, Steps p.tables e below (T10.setTop (mkF m 37 #[.val (.ref a1), .val (.long p1), .second] [(.int (0 : Int32))])) t → Steps p.tables e below (s₁.setTop (entryFrame m #[(.ref a1), (.long p1)] 3)) t := by
          intro t k
          refine pre12 t ?_
          refine XS.ifYes X10.here hx rfl (pc0 := 20) (pc' := 36) rfl (hb hby d6_20) rfl (XT.ll_eq_t hc20) (by decide) (by decide) ?_
          show Steps p.tables e below (T10.setTop (mkF m 36 #[.val (.ref a1), .val (.long p1), .second] [])) _
          refine XS.iconst X10.here hx rfl (hb hby d6_36) ?_
          show Steps p.tables e below (T10.setTop (mkF m 37 #[.val (.ref a1), .val (.long p1), .second] [(.int (0 : Int32))])) _
          exact k
        exact ⟨(0 : Int32), _, _, X10, N0, e10, (by first | (simp [own_bi, hc8, hc20]; done) | contradiction), pre13⟩
      · skip
        have pre14 : ∀ t, Steps p.tables e below (T10.setTop (mkF m 24 #[.val (.ref a1), .val (.long p1), .second] [(.ref a1)])) t → Steps p.tables e below (s₁.setTop (entryFrame m #[(.ref a1), (.long p1)] 3)) t := by
          intro t k
          refine pre12 t ?_
          refine XS.ifNo X10.here hx rfl (hb hby d6_20) rfl (XT.ll_eq_f hc20) ?_
          show Steps p.tables e below (T10.setTop (mkF m 23 #[.val (.ref a1), .val (.long p1), .second] [])) _
          refine XS.aloadN X10.here hx rfl (hb hby d6_23) rfl rfl ?_
          show Steps p.tables e below (T10.setTop (mkF m 24 #[.val (.ref a1), .val (.long p1), .second] [(.ref a1)])) _
          exact k
        obtain ⟨T15, X15, e15, st15⟩ := getF X10 hx hZ hown (host := "") (Or.inl (hw _ (List.mem_of_getElem? (i := 20) rfl))) Via.refl e10 F3 (g := (mkF m 24 #[.val (.ref a1), .val (.long p1), .second] [(.ref a1)])) rfl rfl (hb hby d6_24)
        have pre16 : ∀ t, Steps p.tables e below (T15.setTop (mkF m 27 #[.val (.ref a1), .val (.long p1), .second] [(.int q3)])) t → Steps p.tables e below (s₁.setTop (entryFrame m #[(.ref a1), (.long p1)] 3)) t := fun t k => pre14 t (st15 t k)
        have pre17 : ∀ t, Steps p.tables e below (T15.setTop (mkF m 29 #[.val (.ref a1), .val (.long p1), .second] [(.int (100 : Int32)), (.int q3)])) t → Steps p.tables e below (s₁.setTop (entryFrame m #[(.ref a1), (.long p1)] 3)) t := by
          intro t k
          refine pre16 t ?_
          refine XS.bipush X15.here hx rfl (hb hby d6_27) ?_
          show Steps p.tables e below (T15.setTop (mkF m 29 #[.val (.ref a1), .val (.long p1), .second] [(.int (100 : Int32)), (.int q3)])) _
          exact k
        by_cases hc29 : q3 < (100 : Int32)
        · skip
          have pre18 : ∀ t, Steps p.tables e below (T15.setTop (mkF m 37 #[.val (.ref a1), .val (.long p1), .second] [(.int (1 : Int32))])) t → Steps p.tables e below (s₁.setTop (entryFrame m #[(.ref a1), (.long p1)] 3)) t := by
            intro t k
            refine pre17 t ?_
            refine XS.icmpNo X15.here hx rfl (hb hby d6_29) rfl (XT.ii_ge_f hc29) ?_
            show Steps p.tables e below (T15.setTop (mkF m 32 #[.val (.ref a1), .val (.long p1), .second] [])) _
            refine XS.iconst X15.here hx rfl (hb hby d6_32) ?_
            show Steps p.tables e below (T15.setTop (mkF m 33 #[.val (.ref a1), .val (.long p1), .second] [(.int (1 : Int32))])) _
            refine XS.goto X15.here hx rfl (pc0 := 33) (pc' := 37) rfl (hb hby d6_33) (by decide) (by decide) ?_
            show Steps p.tables e below (T15.setTop (mkF m 37 #[.val (.ref a1), .val (.long p1), .second] [(.int (1 : Int32))])) _
            exact k
          exact ⟨(1 : Int32), _, _, X15, N0, e15, (by first | (simp [own_bi, hc8, hc20, hc29]; done) | contradiction), pre18⟩
        · skip
          have pre19 : ∀ t, Steps p.tables e below (T15.setTop (mkF m 37 #[.val (.ref a1), .val (.long p1), .second] [(.int (0 : Int32))])) t → Steps p.tables e below (s₁.setTop (entryFrame m #[(.ref a1), (.long p1)] 3)) t := by
            intro t k
            refine pre17 t ?_
            refine XS.icmpYes X15.here hx rfl (pc0 := 29) (pc' := 36) rfl (hb hby d6_29) rfl (XT.ii_ge_t hc29) (by decide) (by decide) ?_
            show Steps p.tables e below (T15.setTop (mkF m 36 #[.val (.ref a1), .val (.long p1), .second] [])) _
            refine XS.iconst X15.here hx rfl (hb hby d6_36) ?_
            show Steps p.tables e below (T15.setTop (mkF m 37 #[.val (.ref a1), .val (.long p1), .second] [(.int (0 : Int32))])) _
            exact k
          exact ⟨(0 : Int32), _, _, X15, N0, e15, (by first | (simp [own_bi, hc8, hc20, hc29]; done) | contradiction), pre19⟩
    · skip
      have pre20 : ∀ t, Steps p.tables e below (T2.setTop (mkF m 37 #[.val (.ref a1), .val (.long p1), .second] [(.int (0 : Int32))])) t → Steps p.tables e below (s₁.setTop (entryFrame m #[(.ref a1), (.long p1)] 3)) t := by
        intro t k
        refine pre5 t ?_
        refine XS.ifYes X2.here hx rfl (pc0 := 8) (pc' := 36) rfl (hb hby d6_8) rfl (XT.ll_ne_t hc8) (by decide) (by decide) ?_
        show Steps p.tables e below (T2.setTop (mkF m 36 #[.val (.ref a1), .val (.long p1), .second] [])) _
        refine XS.iconst X2.here hx rfl (hb hby d6_36) ?_
        show Steps p.tables e below (T2.setTop (mkF m 37 #[.val (.ref a1), .val (.long p1), .second] [(.int (0 : Int32))])) _
        exact k
      exact ⟨(0 : Int32), _, _, X2, N0, e2, (by first | (simp [own_bi, hc8]; done) | contradiction), pre20⟩
  obtain ⟨b, T4, Lo4, X4, N4, e4, hb, pre4⟩ := mrg4
  subst hb
  obtain ⟨fs, hr, hrun, hended, hW, hsame⟩ := X4.leave (v := some (.int (own_bi (p1 = q4 + 1 ∧ ¬ q4 = q0 ∧ q3 < 100)))) (fun h => by rw [Bd.returns] at h; cases h)
  refine ⟨_, _, pre4 _ ?_, hrun, hended, _, _, rfl, ?_, ⟨_, rfl⟩, hW, hsame.mono (by decide) (by decide)⟩
  · exact retOut X4 hx Bd.returns (own_narZ (own_bi_01 _)) (Or.inl ⟨rfl, by simp, _, rfl⟩) (hb hby d6_37) hr
  · show Q6 Z a1 p1 q0 q1 q2 q3 q4 h0 n0 _ T4.heap _
    rw [e4]
    exact ⟨rfl, N4, rfl⟩
theorem pd_ini : parseMethodDescriptor "(J)V" = some ⟨[.long], none⟩ := by decide +kernel
theorem pd_sto : parseMethodDescriptor "(JJZ)V" = some ⟨[.long, .long, .boolean], none⟩ := by decide +kernel
theorem pd_left : parseMethodDescriptor "()J" = some ⟨[], some .long⟩ := by decide +kernel
theorem pd_no : parseMethodDescriptor "()Z" = some ⟨[], some .boolean⟩ := by decide +kernel
theorem pd_may : parseMethodDescriptor "(J)Z" = some ⟨[.long], some .boolean⟩ := by decide +kernel
theorem pn_law : plainName "com/example/sluice/sluice/checkpoint/ChainAccountStoredPinLaw" = true := by first | (simp [plainName, overriddenIn]; done) | decide +kernel
theorem ef_law (m : MethodId) (u0 : Int64) (id0 : Int64) (b0 : Int64) (idd : Int64) (byt : Int64) (flg : Int32) : entryFrame m #[(.long u0), (.long id0), (.long b0), (.long idd), (.long byt), (.int flg)] maxLocals = mkF m 0 #[.val (.long u0), .second, .val (.long id0), .second, .val (.long b0), .second, .val (.long idd), .second, .val (.long byt), .second, .val (.int flg), .unset, .unset, .unset, .unset, .unset, .unset, .unset, .unset, .unset, .unset, .unset, .unset, .unset, .unset, .unset, .unset] [] := by first | (simp [entryFrame, mkF, argsToLocals, Value.category, maxLocals]; done) | rfl
def Qlaw (Z : State) (u0 : Int64) (id0 : Int64) (b0 : Int64) (idd : Int64) (byt : Int64) (flg : Int32) (h0 : Heap) (n0 : Nat) (v : Option Value) (h : Heap) (L : List Loc) : Prop := v = some (.int (1 : Int32)) ∧ Fr n0 L
set_option maxRecDepth 65536 in
set_option maxHeartbeats 40000000 in
theorem rmlaw (l : Launch) (Z : State) (a0 : Array Value) (hw : ∀ d ∈ tables_1, d.before a0 Z = true) (ws : List Jvm.Cond) (u0 : Int64) (id0 : Int64) (b0 : Int64) (idd : Int64) (byt : Int64) (flg : Int32) (h0 : Heap) (n0 : Nat) (Z0 : n0 ≤ h0.size) :
    MetFree l x (head1 (Jvm.Cond.code x code maxLocals ret :: ws) room_1) (fun a U => a = #[(.long u0), (.long id0), (.long b0), (.long idd), (.long byt), (.int flg)] ∧ Z.Warmed39 U.vm ∧ U.heap = h0) (fun _ _ _ _ _ => True) (fun _ U o U' => ∃ v L, o = .returned v ∧ Qlaw Z u0 id0 b0 idd byt flg h0 n0 v U'.heap L ∧ FrameEnd U o U' L room_1.cells room_1.slots) := by
  refine MetFree.of_bodySF (plainFor_of_name pn_law) hisR ?_
  intro p e s m args below meth c s₁ Bd hml0 hP hK
  obtain ⟨rfl, hZ, hh⟩ := hP
  have hx := Bd.exec
  have hby := Bd.bytes
  have hml : c.maxLocals = 27 := hml0
  have hown : s.vm.findClass "com/example/sluice/sluice/checkpoint/ChainAccountStoredPinLaw" = some m.cls := findClass_of_methodNamed Bd.named
  have hnm := (name_of_methodNamed Bd.named Bd.method).1
  have X0 : Stand p l e room_1 s m #[(.long u0), (.long id0), (.long b0), (.long idd), (.long byt), (.int flg)] below meth c s₁ [] 0 0 := Stand.of_body Bd
  have e0 : s₁.heap = h0 := by rw [← hh, Bd.state]; rfl
  have N0 := Fr.nil n0
  have pre0 : ∀ t, Steps p.tables e below (s₁.setTop (mkF m 0 #[.val (.long u0), .second, .val (.long id0), .second, .val (.long b0), .second, .val (.long idd), .second, .val (.long byt), .second, .val (.int flg), .unset, .unset, .unset, .unset, .unset, .unset, .unset, .unset, .unset, .unset, .unset, .unset, .unset, .unset, .unset, .unset] [])) t → Steps p.tables e below (s₁.setTop (entryFrame m #[(.long u0), (.long id0), (.long b0), (.long idd), (.long byt), (.int flg)] maxLocals)) t := fun t k => castTop (ef_law m u0 id0 b0 idd byt flg) k
  have mrg1 : ∃ (w1 : Int32) (T1 : State) (Lo1 : List Loc), Stand p l e room_1 s m #[(.long u0), (.long id0), (.long b0), (.long idd), (.long byt), (.int flg)] below meth c T1 Lo1 0 0 ∧ Fr n0 Lo1 ∧ T1.heap = h0 ∧ (w1 = 0 ∨ w1 = 1) ∧ ∀ t, Steps p.tables e below (T1.setTop (mkF m 12 #[.val (.long u0), .second, .val (.long id0), .second, .val (.long b0), .second, .val (.long idd), .second, .val (.long byt), .second, .val (.int flg), .unset, .unset, .unset, .unset, .unset, .unset, .unset, .unset, .unset, .unset, .unset, .unset, .unset, .unset, .unset, .unset] [(.int w1)])) t → Steps p.tables e below (s₁.setTop (entryFrame m #[(.long u0), (.long id0), (.long b0), (.long idd), (.long byt), (.int flg)] maxLocals)) t := by
    have pre2 : ∀ t, Steps p.tables e below (s₁.setTop (mkF m 4 #[.val (.long u0), .second, .val (.long id0), .second, .val (.long b0), .second, .val (.long idd), .second, .val (.long byt), .second, .val (.int flg), .unset, .unset, .unset, .unset, .unset, .unset, .unset, .unset, .unset, .unset, .unset, .unset, .unset, .unset, .unset, .unset] [(.int (flg &&& (1 : Int32)))])) t → Steps p.tables e below (s₁.setTop (entryFrame m #[(.long u0), (.long id0), (.long b0), (.long idd), (.long byt), (.int flg)] maxLocals)) t := by
      intro t k
      refine pre0 t ?_
      refine XS.iload X0.here hx rfl (hb hby at_0) rfl ?_
      show Steps p.tables e below (s₁.setTop (mkF m 2 #[.val (.long u0), .second, .val (.long id0), .second, .val (.long b0), .second, .val (.long idd), .second, .val (.long byt), .second, .val (.int flg), .unset, .unset, .unset, .unset, .unset, .unset, .unset, .unset, .unset, .unset, .unset, .unset, .unset, .unset, .unset, .unset] [(.int flg)])) _
      refine XS.iconst X0.here hx rfl (hb hby at_2) ?_
      show Steps p.tables e below (s₁.setTop (mkF m 3 #[.val (.long u0), .second, .val (.long id0), .second, .val (.long b0), .second, .val (.long idd), .second, .val (.long byt), .second, .val (.int flg), .unset, .unset, .unset, .unset, .unset, .unset, .unset, .unset, .unset, .unset, .unset, .unset, .unset, .unset, .unset, .unset] [(.int (1 : Int32)), (.int flg)])) _
      refine XS.iand X0.here hx rfl (hb hby at_3) rfl ?_
      show Steps p.tables e below (s₁.setTop (mkF m 4 #[.val (.long u0), .second, .val (.long id0), .second, .val (.long b0), .second, .val (.long idd), .second, .val (.long byt), .second, .val (.int flg), .unset, .unset, .unset, .unset, .unset, .unset, .unset, .unset, .unset, .unset, .unset, .unset, .unset, .unset, .unset, .unset] [(.int (flg &&& (1 : Int32)))])) _
      exact k
    by_cases hc4 : (flg &&& (1 : Int32)) = (0 : Int32)
    · skip
      have pre3 : ∀ t, Steps p.tables e below (s₁.setTop (mkF m 12 #[.val (.long u0), .second, .val (.long id0), .second, .val (.long b0), .second, .val (.long idd), .second, .val (.long byt), .second, .val (.int flg), .unset, .unset, .unset, .unset, .unset, .unset, .unset, .unset, .unset, .unset, .unset, .unset, .unset, .unset, .unset, .unset] [(.int (0 : Int32))])) t → Steps p.tables e below (s₁.setTop (entryFrame m #[(.long u0), (.long id0), (.long b0), (.long idd), (.long byt), (.int flg)] maxLocals)) t := by
        intro t k
        refine pre2 t ?_
        refine XS.ifYes X0.here hx rfl (pc0 := 4) (pc' := 11) rfl (hb hby at_4) rfl (XT.i0_eq_t hc4) (by decide) (by decide) ?_
        show Steps p.tables e below (s₁.setTop (mkF m 11 #[.val (.long u0), .second, .val (.long id0), .second, .val (.long b0), .second, .val (.long idd), .second, .val (.long byt), .second, .val (.int flg), .unset, .unset, .unset, .unset, .unset, .unset, .unset, .unset, .unset, .unset, .unset, .unset, .unset, .unset, .unset, .unset] [])) _
        refine XS.iconst X0.here hx rfl (hb hby at_11) ?_
        show Steps p.tables e below (s₁.setTop (mkF m 12 #[.val (.long u0), .second, .val (.long id0), .second, .val (.long b0), .second, .val (.long idd), .second, .val (.long byt), .second, .val (.int flg), .unset, .unset, .unset, .unset, .unset, .unset, .unset, .unset, .unset, .unset, .unset, .unset, .unset, .unset, .unset, .unset] [(.int (0 : Int32))])) _
        exact k
      exact ⟨(0 : Int32), _, _, X0, N0, e0, (by simp), pre3⟩
    · skip
      have pre4 : ∀ t, Steps p.tables e below (s₁.setTop (mkF m 12 #[.val (.long u0), .second, .val (.long id0), .second, .val (.long b0), .second, .val (.long idd), .second, .val (.long byt), .second, .val (.int flg), .unset, .unset, .unset, .unset, .unset, .unset, .unset, .unset, .unset, .unset, .unset, .unset, .unset, .unset, .unset, .unset] [(.int (1 : Int32))])) t → Steps p.tables e below (s₁.setTop (entryFrame m #[(.long u0), (.long id0), (.long b0), (.long idd), (.long byt), (.int flg)] maxLocals)) t := by
        intro t k
        refine pre2 t ?_
        refine XS.ifNo X0.here hx rfl (hb hby at_4) rfl (XT.i0_eq_f hc4) ?_
        show Steps p.tables e below (s₁.setTop (mkF m 7 #[.val (.long u0), .second, .val (.long id0), .second, .val (.long b0), .second, .val (.long idd), .second, .val (.long byt), .second, .val (.int flg), .unset, .unset, .unset, .unset, .unset, .unset, .unset, .unset, .unset, .unset, .unset, .unset, .unset, .unset, .unset, .unset] [])) _
        refine XS.iconst X0.here hx rfl (hb hby at_7) ?_
        show Steps p.tables e below (s₁.setTop (mkF m 8 #[.val (.long u0), .second, .val (.long id0), .second, .val (.long b0), .second, .val (.long idd), .second, .val (.long byt), .second, .val (.int flg), .unset, .unset, .unset, .unset, .unset, .unset, .unset, .unset, .unset, .unset, .unset, .unset, .unset, .unset, .unset, .unset] [(.int (1 : Int32))])) _
        refine XS.goto X0.here hx rfl (pc0 := 8) (pc' := 12) rfl (hb hby at_8) (by decide) (by decide) ?_
        show Steps p.tables e below (s₁.setTop (mkF m 12 #[.val (.long u0), .second, .val (.long id0), .second, .val (.long b0), .second, .val (.long idd), .second, .val (.long byt), .second, .val (.int flg), .unset, .unset, .unset, .unset, .unset, .unset, .unset, .unset, .unset, .unset, .unset, .unset, .unset, .unset, .unset, .unset] [(.int (1 : Int32))])) _
        exact k
      exact ⟨(1 : Int32), _, _, X0, N0, e0, (by simp), pre4⟩
  obtain ⟨w1, T1, Lo1, X1, N1, e1, hw1, pre1⟩ := mrg1
  have pre5 : ∀ t, Steps p.tables e below (T1.setTop (mkF m 14 #[.val (.long u0), .second, .val (.long id0), .second, .val (.long b0), .second, .val (.long idd), .second, .val (.long byt), .second, .val (.int flg), .val (.int w1), .unset, .unset, .unset, .unset, .unset, .unset, .unset, .unset, .unset, .unset, .unset, .unset, .unset, .unset, .unset] [])) t → Steps p.tables e below (s₁.setTop (entryFrame m #[(.long u0), (.long id0), (.long b0), (.long idd), (.long byt), (.int flg)] maxLocals)) t := by
    intro t k
    refine pre1 t ?_
    refine XS.istore X1.here hx rfl (hb hby at_12) rfl (l' := #[.val (.long u0), .second, .val (.long id0), .second, .val (.long b0), .second, .val (.long idd), .second, .val (.long byt), .second, .val (.int flg), .val (.int w1), .unset, .unset, .unset, .unset, .unset, .unset, .unset, .unset, .unset, .unset, .unset, .unset, .unset, .unset, .unset]) rfl ?_
    show Steps p.tables e below (T1.setTop (mkF m 14 #[.val (.long u0), .second, .val (.long id0), .second, .val (.long b0), .second, .val (.long idd), .second, .val (.long byt), .second, .val (.int flg), .val (.int w1), .unset, .unset, .unset, .unset, .unset, .unset, .unset, .unset, .unset, .unset, .unset, .unset, .unset, .unset, .unset] [])) _
    exact k
  have mrg6 : ∃ (w2 : Int32) (T6 : State) (Lo6 : List Loc), Stand p l e room_1 s m #[(.long u0), (.long id0), (.long b0), (.long idd), (.long byt), (.int flg)] below meth c T6 Lo6 0 0 ∧ Fr n0 Lo6 ∧ T6.heap = h0 ∧ (w2 = 0 ∨ w2 = 1) ∧ ∀ t, Steps p.tables e below (T6.setTop (mkF m 26 #[.val (.long u0), .second, .val (.long id0), .second, .val (.long b0), .second, .val (.long idd), .second, .val (.long byt), .second, .val (.int flg), .val (.int w1), .unset, .unset, .unset, .unset, .unset, .unset, .unset, .unset, .unset, .unset, .unset, .unset, .unset, .unset, .unset] [(.int w2)])) t → Steps p.tables e below (s₁.setTop (entryFrame m #[(.long u0), (.long id0), (.long b0), (.long idd), (.long byt), (.int flg)] maxLocals)) t := by
    have pre7 : ∀ t, Steps p.tables e below (T1.setTop (mkF m 18 #[.val (.long u0), .second, .val (.long id0), .second, .val (.long b0), .second, .val (.long idd), .second, .val (.long byt), .second, .val (.int flg), .val (.int w1), .unset, .unset, .unset, .unset, .unset, .unset, .unset, .unset, .unset, .unset, .unset, .unset, .unset, .unset, .unset] [(.int (flg &&& (2 : Int32)))])) t → Steps p.tables e below (s₁.setTop (entryFrame m #[(.long u0), (.long id0), (.long b0), (.long idd), (.long byt), (.int flg)] maxLocals)) t := by
      intro t k
      refine pre5 t ?_
      refine XS.iload X1.here hx rfl (hb hby at_14) rfl ?_
      show Steps p.tables e below (T1.setTop (mkF m 16 #[.val (.long u0), .second, .val (.long id0), .second, .val (.long b0), .second, .val (.long idd), .second, .val (.long byt), .second, .val (.int flg), .val (.int w1), .unset, .unset, .unset, .unset, .unset, .unset, .unset, .unset, .unset, .unset, .unset, .unset, .unset, .unset, .unset] [(.int flg)])) _
      refine XS.iconst X1.here hx rfl (hb hby at_16) ?_
      show Steps p.tables e below (T1.setTop (mkF m 17 #[.val (.long u0), .second, .val (.long id0), .second, .val (.long b0), .second, .val (.long idd), .second, .val (.long byt), .second, .val (.int flg), .val (.int w1), .unset, .unset, .unset, .unset, .unset, .unset, .unset, .unset, .unset, .unset, .unset, .unset, .unset, .unset, .unset] [(.int (2 : Int32)), (.int flg)])) _
      refine XS.iand X1.here hx rfl (hb hby at_17) rfl ?_
      show Steps p.tables e below (T1.setTop (mkF m 18 #[.val (.long u0), .second, .val (.long id0), .second, .val (.long b0), .second, .val (.long idd), .second, .val (.long byt), .second, .val (.int flg), .val (.int w1), .unset, .unset, .unset, .unset, .unset, .unset, .unset, .unset, .unset, .unset, .unset, .unset, .unset, .unset, .unset] [(.int (flg &&& (2 : Int32)))])) _
      exact k
    by_cases hc18 : (flg &&& (2 : Int32)) = (0 : Int32)
    · skip
      have pre8 : ∀ t, Steps p.tables e below (T1.setTop (mkF m 26 #[.val (.long u0), .second, .val (.long id0), .second, .val (.long b0), .second, .val (.long idd), .second, .val (.long byt), .second, .val (.int flg), .val (.int w1), .unset, .unset, .unset, .unset, .unset, .unset, .unset, .unset, .unset, .unset, .unset, .unset, .unset, .unset, .unset] [(.int (0 : Int32))])) t → Steps p.tables e below (s₁.setTop (entryFrame m #[(.long u0), (.long id0), (.long b0), (.long idd), (.long byt), (.int flg)] maxLocals)) t := by
        intro t k
        refine pre7 t ?_
        refine XS.ifYes X1.here hx rfl (pc0 := 18) (pc' := 25) rfl (hb hby at_18) rfl (XT.i0_eq_t hc18) (by decide) (by decide) ?_
        show Steps p.tables e below (T1.setTop (mkF m 25 #[.val (.long u0), .second, .val (.long id0), .second, .val (.long b0), .second, .val (.long idd), .second, .val (.long byt), .second, .val (.int flg), .val (.int w1), .unset, .unset, .unset, .unset, .unset, .unset, .unset, .unset, .unset, .unset, .unset, .unset, .unset, .unset, .unset] [])) _
        refine XS.iconst X1.here hx rfl (hb hby at_25) ?_
        show Steps p.tables e below (T1.setTop (mkF m 26 #[.val (.long u0), .second, .val (.long id0), .second, .val (.long b0), .second, .val (.long idd), .second, .val (.long byt), .second, .val (.int flg), .val (.int w1), .unset, .unset, .unset, .unset, .unset, .unset, .unset, .unset, .unset, .unset, .unset, .unset, .unset, .unset, .unset] [(.int (0 : Int32))])) _
        exact k
      exact ⟨(0 : Int32), _, _, X1, N1, e1, (by simp), pre8⟩
    · skip
      have pre9 : ∀ t, Steps p.tables e below (T1.setTop (mkF m 26 #[.val (.long u0), .second, .val (.long id0), .second, .val (.long b0), .second, .val (.long idd), .second, .val (.long byt), .second, .val (.int flg), .val (.int w1), .unset, .unset, .unset, .unset, .unset, .unset, .unset, .unset, .unset, .unset, .unset, .unset, .unset, .unset, .unset] [(.int (1 : Int32))])) t → Steps p.tables e below (s₁.setTop (entryFrame m #[(.long u0), (.long id0), (.long b0), (.long idd), (.long byt), (.int flg)] maxLocals)) t := by
        intro t k
        refine pre7 t ?_
        refine XS.ifNo X1.here hx rfl (hb hby at_18) rfl (XT.i0_eq_f hc18) ?_
        show Steps p.tables e below (T1.setTop (mkF m 21 #[.val (.long u0), .second, .val (.long id0), .second, .val (.long b0), .second, .val (.long idd), .second, .val (.long byt), .second, .val (.int flg), .val (.int w1), .unset, .unset, .unset, .unset, .unset, .unset, .unset, .unset, .unset, .unset, .unset, .unset, .unset, .unset, .unset] [])) _
        refine XS.iconst X1.here hx rfl (hb hby at_21) ?_
        show Steps p.tables e below (T1.setTop (mkF m 22 #[.val (.long u0), .second, .val (.long id0), .second, .val (.long b0), .second, .val (.long idd), .second, .val (.long byt), .second, .val (.int flg), .val (.int w1), .unset, .unset, .unset, .unset, .unset, .unset, .unset, .unset, .unset, .unset, .unset, .unset, .unset, .unset, .unset] [(.int (1 : Int32))])) _
        refine XS.goto X1.here hx rfl (pc0 := 22) (pc' := 26) rfl (hb hby at_22) (by decide) (by decide) ?_
        show Steps p.tables e below (T1.setTop (mkF m 26 #[.val (.long u0), .second, .val (.long id0), .second, .val (.long b0), .second, .val (.long idd), .second, .val (.long byt), .second, .val (.int flg), .val (.int w1), .unset, .unset, .unset, .unset, .unset, .unset, .unset, .unset, .unset, .unset, .unset, .unset, .unset, .unset, .unset] [(.int (1 : Int32))])) _
        exact k
      exact ⟨(1 : Int32), _, _, X1, N1, e1, (by simp), pre9⟩
  obtain ⟨w2, T6, Lo6, X6, N6, e6, hw2, pre6⟩ := mrg6
  have pre10 : ∀ t, Steps p.tables e below (T6.setTop (mkF m 28 #[.val (.long u0), .second, .val (.long id0), .second, .val (.long b0), .second, .val (.long idd), .second, .val (.long byt), .second, .val (.int flg), .val (.int w1), .val (.int w2), .unset, .unset, .unset, .unset, .unset, .unset, .unset, .unset, .unset, .unset, .unset, .unset, .unset, .unset] [])) t → Steps p.tables e below (s₁.setTop (entryFrame m #[(.long u0), (.long id0), (.long b0), (.long idd), (.long byt), (.int flg)] maxLocals)) t := by
    intro t k
    refine pre6 t ?_
    refine XS.istore X6.here hx rfl (hb hby at_26) rfl (l' := #[.val (.long u0), .second, .val (.long id0), .second, .val (.long b0), .second, .val (.long idd), .second, .val (.long byt), .second, .val (.int flg), .val (.int w1), .val (.int w2), .unset, .unset, .unset, .unset, .unset, .unset, .unset, .unset, .unset, .unset, .unset, .unset, .unset, .unset]) rfl ?_
    show Steps p.tables e below (T6.setTop (mkF m 28 #[.val (.long u0), .second, .val (.long id0), .second, .val (.long b0), .second, .val (.long idd), .second, .val (.long byt), .second, .val (.int flg), .val (.int w1), .val (.int w2), .unset, .unset, .unset, .unset, .unset, .unset, .unset, .unset, .unset, .unset, .unset, .unset, .unset, .unset] [])) _
    exact k
  have mrg11 : ∃ (unf : Int64) (T11 : State) (Lo11 : List Loc), Stand p l e room_1 s m #[(.long u0), (.long id0), (.long b0), (.long idd), (.long byt), (.int flg)] below meth c T11 Lo11 0 0 ∧ Fr n0 Lo11 ∧ T11.heap = h0 ∧ (True) ∧ ∀ t, Steps p.tables e below (T11.setTop (mkF m 41 #[.val (.long u0), .second, .val (.long id0), .second, .val (.long b0), .second, .val (.long idd), .second, .val (.long byt), .second, .val (.int flg), .val (.int w1), .val (.int w2), .unset, .unset, .unset, .unset, .unset, .unset, .unset, .unset, .unset, .unset, .unset, .unset, .unset, .unset] [(.long unf)])) t → Steps p.tables e below (s₁.setTop (entryFrame m #[(.long u0), (.long id0), (.long b0), (.long idd), (.long byt), (.int flg)] maxLocals)) t := by
    have pre12 : ∀ t, Steps p.tables e below (T6.setTop (mkF m 32 #[.val (.long u0), .second, .val (.long id0), .second, .val (.long b0), .second, .val (.long idd), .second, .val (.long byt), .second, .val (.int flg), .val (.int w1), .val (.int w2), .unset, .unset, .unset, .unset, .unset, .unset, .unset, .unset, .unset, .unset, .unset, .unset, .unset, .unset] [(.int (flg &&& (4 : Int32)))])) t → Steps p.tables e below (s₁.setTop (entryFrame m #[(.long u0), (.long id0), (.long b0), (.long idd), (.long byt), (.int flg)] maxLocals)) t := by
      intro t k
      refine pre10 t ?_
      refine XS.iload X6.here hx rfl (hb hby at_28) rfl ?_
      show Steps p.tables e below (T6.setTop (mkF m 30 #[.val (.long u0), .second, .val (.long id0), .second, .val (.long b0), .second, .val (.long idd), .second, .val (.long byt), .second, .val (.int flg), .val (.int w1), .val (.int w2), .unset, .unset, .unset, .unset, .unset, .unset, .unset, .unset, .unset, .unset, .unset, .unset, .unset, .unset] [(.int flg)])) _
      refine XS.iconst X6.here hx rfl (hb hby at_30) ?_
      show Steps p.tables e below (T6.setTop (mkF m 31 #[.val (.long u0), .second, .val (.long id0), .second, .val (.long b0), .second, .val (.long idd), .second, .val (.long byt), .second, .val (.int flg), .val (.int w1), .val (.int w2), .unset, .unset, .unset, .unset, .unset, .unset, .unset, .unset, .unset, .unset, .unset, .unset, .unset, .unset] [(.int (4 : Int32)), (.int flg)])) _
      refine XS.iand X6.here hx rfl (hb hby at_31) rfl ?_
      show Steps p.tables e below (T6.setTop (mkF m 32 #[.val (.long u0), .second, .val (.long id0), .second, .val (.long b0), .second, .val (.long idd), .second, .val (.long byt), .second, .val (.int flg), .val (.int w1), .val (.int w2), .unset, .unset, .unset, .unset, .unset, .unset, .unset, .unset, .unset, .unset, .unset, .unset, .unset, .unset] [(.int (flg &&& (4 : Int32)))])) _
      exact k
    by_cases hc32 : (flg &&& (4 : Int32)) = (0 : Int32)
    · skip
      have pre13 : ∀ t, Steps p.tables e below (T6.setTop (mkF m 41 #[.val (.long u0), .second, .val (.long id0), .second, .val (.long b0), .second, .val (.long idd), .second, .val (.long byt), .second, .val (.int flg), .val (.int w1), .val (.int w2), .unset, .unset, .unset, .unset, .unset, .unset, .unset, .unset, .unset, .unset, .unset, .unset, .unset, .unset] [(.long u0)])) t → Steps p.tables e below (s₁.setTop (entryFrame m #[(.long u0), (.long id0), (.long b0), (.long idd), (.long byt), (.int flg)] maxLocals)) t := by
        intro t k
        refine pre12 t ?_
        refine XS.ifYes X6.here hx rfl (pc0 := 32) (pc' := 40) rfl (hb hby at_32) rfl (XT.i0_eq_t hc32) (by decide) (by decide) ?_
        show Steps p.tables e below (T6.setTop (mkF m 40 #[.val (.long u0), .second, .val (.long id0), .second, .val (.long b0), .second, .val (.long idd), .second, .val (.long byt), .second, .val (.int flg), .val (.int w1), .val (.int w2), .unset, .unset, .unset, .unset, .unset, .unset, .unset, .unset, .unset, .unset, .unset, .unset, .unset, .unset] [])) _
        refine XT.lloadN X6.here hx rfl (hb hby at_40) rfl ?_
        show Steps p.tables e below (T6.setTop (mkF m 41 #[.val (.long u0), .second, .val (.long id0), .second, .val (.long b0), .second, .val (.long idd), .second, .val (.long byt), .second, .val (.int flg), .val (.int w1), .val (.int w2), .unset, .unset, .unset, .unset, .unset, .unset, .unset, .unset, .unset, .unset, .unset, .unset, .unset, .unset] [(.long u0)])) _
        exact k
      exact ⟨u0, _, _, X6, N6, e6, (by trivial), pre13⟩
    · skip
      have pre14 : ∀ t, Steps p.tables e below (T6.setTop (mkF m 41 #[.val (.long u0), .second, .val (.long id0), .second, .val (.long b0), .second, .val (.long idd), .second, .val (.long byt), .second, .val (.int flg), .val (.int w1), .val (.int w2), .unset, .unset, .unset, .unset, .unset, .unset, .unset, .unset, .unset, .unset, .unset, .unset, .unset, .unset] [(.long idd)])) t → Steps p.tables e below (s₁.setTop (entryFrame m #[(.long u0), (.long id0), (.long b0), (.long idd), (.long byt), (.int flg)] maxLocals)) t := by
        intro t k
        refine pre12 t ?_
        refine XS.ifNo X6.here hx rfl (hb hby at_32) rfl (XT.i0_eq_f hc32) ?_
        show Steps p.tables e below (T6.setTop (mkF m 35 #[.val (.long u0), .second, .val (.long id0), .second, .val (.long b0), .second, .val (.long idd), .second, .val (.long byt), .second, .val (.int flg), .val (.int w1), .val (.int w2), .unset, .unset, .unset, .unset, .unset, .unset, .unset, .unset, .unset, .unset, .unset, .unset, .unset, .unset] [])) _
        refine XT.lload X6.here hx rfl (hb hby at_35) rfl ?_
        show Steps p.tables e below (T6.setTop (mkF m 37 #[.val (.long u0), .second, .val (.long id0), .second, .val (.long b0), .second, .val (.long idd), .second, .val (.long byt), .second, .val (.int flg), .val (.int w1), .val (.int w2), .unset, .unset, .unset, .unset, .unset, .unset, .unset, .unset, .unset, .unset, .unset, .unset, .unset, .unset] [(.long idd)])) _
        refine XS.goto X6.here hx rfl (pc0 := 37) (pc' := 41) rfl (hb hby at_37) (by decide) (by decide) ?_
        show Steps p.tables e below (T6.setTop (mkF m 41 #[.val (.long u0), .second, .val (.long id0), .second, .val (.long b0), .second, .val (.long idd), .second, .val (.long byt), .second, .val (.int flg), .val (.int w1), .val (.int w2), .unset, .unset, .unset, .unset, .unset, .unset, .unset, .unset, .unset, .unset, .unset, .unset, .unset, .unset] [(.long idd)])) _
        exact k
      exact ⟨idd, _, _, X6, N6, e6, (by trivial), pre14⟩
  obtain ⟨unf, T11, Lo11, X11, N11, e11, hunf, pre11⟩ := mrg11
  have pre15 : ∀ t, Steps p.tables e below (T11.setTop (mkF m 53 #[.val (.long u0), .second, .val (.long id0), .second, .val (.long b0), .second, .val (.long idd), .second, .val (.long byt), .second, .val (.int flg), .val (.int w1), .val (.int w2), .val (.long unf), .second, .val (.long (idd + ((flg >>> ((3 : Int32) &&& 31)).toInt64))), .second, .unset, .unset, .unset, .unset, .unset, .unset, .unset, .unset, .unset, .unset] [])) t → Steps p.tables e below (s₁.setTop (entryFrame m #[(.long u0), (.long id0), (.long b0), (.long idd), (.long byt), (.int flg)] maxLocals)) t := by
    intro t k
    refine pre11 t ?_
    refine XT.lstore X11.here hx rfl (hb hby at_41) rfl (l' := #[.val (.long u0), .second, .val (.long id0), .second, .val (.long b0), .second, .val (.long idd), .second, .val (.long byt), .second, .val (.int flg), .val (.int w1), .val (.int w2), .val (.long unf), .second, .unset, .unset, .unset, .unset, .unset, .unset, .unset, .unset, .unset, .unset, .unset, .unset]) rfl ?_
    show Steps p.tables e below (T11.setTop (mkF m 43 #[.val (.long u0), .second, .val (.long id0), .second, .val (.long b0), .second, .val (.long idd), .second, .val (.long byt), .second, .val (.int flg), .val (.int w1), .val (.int w2), .val (.long unf), .second, .unset, .unset, .unset, .unset, .unset, .unset, .unset, .unset, .unset, .unset, .unset, .unset] [])) _
    refine XT.lload X11.here hx rfl (hb hby at_43) rfl ?_
    show Steps p.tables e below (T11.setTop (mkF m 45 #[.val (.long u0), .second, .val (.long id0), .second, .val (.long b0), .second, .val (.long idd), .second, .val (.long byt), .second, .val (.int flg), .val (.int w1), .val (.int w2), .val (.long unf), .second, .unset, .unset, .unset, .unset, .unset, .unset, .unset, .unset, .unset, .unset, .unset, .unset] [(.long idd)])) _
    refine XS.iload X11.here hx rfl (hb hby at_45) rfl ?_
    show Steps p.tables e below (T11.setTop (mkF m 47 #[.val (.long u0), .second, .val (.long id0), .second, .val (.long b0), .second, .val (.long idd), .second, .val (.long byt), .second, .val (.int flg), .val (.int w1), .val (.int w2), .val (.long unf), .second, .unset, .unset, .unset, .unset, .unset, .unset, .unset, .unset, .unset, .unset, .unset, .unset] [(.int flg), (.long idd)])) _
    refine XS.iconst X11.here hx rfl (hb hby at_47) ?_
    show Steps p.tables e below (T11.setTop (mkF m 48 #[.val (.long u0), .second, .val (.long id0), .second, .val (.long b0), .second, .val (.long idd), .second, .val (.long byt), .second, .val (.int flg), .val (.int w1), .val (.int w2), .val (.long unf), .second, .unset, .unset, .unset, .unset, .unset, .unset, .unset, .unset, .unset, .unset, .unset, .unset] [(.int (3 : Int32)), (.int flg), (.long idd)])) _
    refine XT.ishr X11.here hx rfl (hb hby at_48) rfl ?_
    show Steps p.tables e below (T11.setTop (mkF m 49 #[.val (.long u0), .second, .val (.long id0), .second, .val (.long b0), .second, .val (.long idd), .second, .val (.long byt), .second, .val (.int flg), .val (.int w1), .val (.int w2), .val (.long unf), .second, .unset, .unset, .unset, .unset, .unset, .unset, .unset, .unset, .unset, .unset, .unset, .unset] [(.int (flg >>> ((3 : Int32) &&& 31))), (.long idd)])) _
    refine XT.i2l X11.here hx rfl (hb hby at_49) rfl ?_
    show Steps p.tables e below (T11.setTop (mkF m 50 #[.val (.long u0), .second, .val (.long id0), .second, .val (.long b0), .second, .val (.long idd), .second, .val (.long byt), .second, .val (.int flg), .val (.int w1), .val (.int w2), .val (.long unf), .second, .unset, .unset, .unset, .unset, .unset, .unset, .unset, .unset, .unset, .unset, .unset, .unset] [(.long ((flg >>> ((3 : Int32) &&& 31)).toInt64)), (.long idd)])) _
    refine XT.ladd X11.here hx rfl (hb hby at_50) rfl ?_
    show Steps p.tables e below (T11.setTop (mkF m 51 #[.val (.long u0), .second, .val (.long id0), .second, .val (.long b0), .second, .val (.long idd), .second, .val (.long byt), .second, .val (.int flg), .val (.int w1), .val (.int w2), .val (.long unf), .second, .unset, .unset, .unset, .unset, .unset, .unset, .unset, .unset, .unset, .unset, .unset, .unset] [(.long (idd + ((flg >>> ((3 : Int32) &&& 31)).toInt64)))])) _
    refine XT.lstore X11.here hx rfl (hb hby at_51) rfl (l' := #[.val (.long u0), .second, .val (.long id0), .second, .val (.long b0), .second, .val (.long idd), .second, .val (.long byt), .second, .val (.int flg), .val (.int w1), .val (.int w2), .val (.long unf), .second, .val (.long (idd + ((flg >>> ((3 : Int32) &&& 31)).toInt64))), .second, .unset, .unset, .unset, .unset, .unset, .unset, .unset, .unset, .unset, .unset]) rfl ?_
    show Steps p.tables e below (T11.setTop (mkF m 53 #[.val (.long u0), .second, .val (.long id0), .second, .val (.long b0), .second, .val (.long idd), .second, .val (.long byt), .second, .val (.int flg), .val (.int w1), .val (.int w2), .val (.long unf), .second, .val (.long (idd + ((flg >>> ((3 : Int32) &&& 31)).toInt64))), .second, .unset, .unset, .unset, .unset, .unset, .unset, .unset, .unset, .unset, .unset] [])) _
    exact k
  obtain ⟨xx, hn_xx, pre16⟩ : ∃ xx : Int64, xx = (idd + ((flg >>> ((3 : Int32) &&& 31)).toInt64)) ∧ ∀ t, Steps p.tables e below (T11.setTop (mkF m 53 #[.val (.long u0), .second, .val (.long id0), .second, .val (.long b0), .second, .val (.long idd), .second, .val (.long byt), .second, .val (.int flg), .val (.int w1), .val (.int w2), .val (.long unf), .second, .val (.long xx), .second, .unset, .unset, .unset, .unset, .unset, .unset, .unset, .unset, .unset, .unset] [])) t → Steps p.tables e below (s₁.setTop (entryFrame m #[(.long u0), (.long id0), (.long b0), (.long idd), (.long byt), (.int flg)] maxLocals)) t := ⟨_, rfl, pre15⟩
  obtain ⟨T18, h18, X18, e18, E18, A18, D18, -, st18⟩ := newO X11 hx hZ hown (hw _ (List.mem_of_getElem? (i := 0) rfl)) (hw _ (List.mem_of_getElem? (i := 1) rfl)) (hw _ (List.mem_of_getElem? (i := 2) rfl)) e11 (g := (mkF m 53 #[.val (.long u0), .second, .val (.long id0), .second, .val (.long b0), .second, .val (.long idd), .second, .val (.long byt), .second, .val (.int flg), .val (.int w1), .val (.int w2), .val (.long unf), .second, .val (.long xx), .second, .unset, .unset, .unset, .unset, .unset, .unset, .unset, .unset, .unset, .unset] [])) rfl (hb hby at_53) (by decide) (by decide)
  obtain ⟨a1, gz18⟩ : ∃ z, z = h0.size := ⟨_, rfl⟩
  rw [← gz18] at A18 D18 st18
  have g_a1 : n0 ≤ a1 := Nat.le_trans Z0 (Nat.le_of_eq gz18.symm)
  have F_unfollowed_a1 : Fld Z h18 a1 "com/example/sluice/sluice/checkpoint/ChainAccount" "unfollowed" "J" (.long (0 : Int64)) := D18 (Or.inr (hw _ (List.mem_of_getElem? (i := 10) rfl))) (ty := .long) (by decide)
  have F_wholeBytes_a1 : Fld Z h18 a1 "com/example/sluice/sluice/checkpoint/ChainAccount" "wholeBytes" "J" (.long (0 : Int64)) := D18 (Or.inl (hw _ (List.mem_of_getElem? (i := 17) rfl))) (ty := .long) (by decide)
  have F_changesBytes_a1 : Fld Z h18 a1 "com/example/sluice/sluice/checkpoint/ChainAccount" "changesBytes" "J" (.long (0 : Int64)) := D18 (Or.inl (hw _ (List.mem_of_getElem? (i := 19) rfl))) (ty := .long) (by decide)
  have F_changes_a1 : Fld Z h18 a1 "com/example/sluice/sluice/checkpoint/ChainAccount" "changes" "I" (.int (0 : Int32)) := D18 (Or.inl (hw _ (List.mem_of_getElem? (i := 21) rfl))) (ty := .int) (by decide)
  have F_lastId_a1 : Fld Z h18 a1 "com/example/sluice/sluice/checkpoint/ChainAccount" "lastId" "J" (.long (0 : Int64)) := D18 (Or.inl (hw _ (List.mem_of_getElem? (i := 23) rfl))) (ty := .long) (by decide)
  have pre19 : ∀ t, Steps p.tables e below (T18.setTop (mkF m 56 #[.val (.long u0), .second, .val (.long id0), .second, .val (.long b0), .second, .val (.long idd), .second, .val (.long byt), .second, .val (.int flg), .val (.int w1), .val (.int w2), .val (.long unf), .second, .val (.long xx), .second, .unset, .unset, .unset, .unset, .unset, .unset, .unset, .unset, .unset, .unset] [(.ref a1)])) t → Steps p.tables e below (s₁.setTop (entryFrame m #[(.long u0), (.long id0), (.long b0), (.long idd), (.long byt), (.int flg)] maxLocals)) t := fun t k => pre16 t (st18 t k)
  have Z20 : n0 ≤ h18.size := (Nat.le_trans Z0 E18.1)
  have pre22 : ∀ t, Steps p.tables e below (T18.setTop (mkF m 59 #[.val (.long u0), .second, .val (.long id0), .second, .val (.long b0), .second, .val (.long idd), .second, .val (.long byt), .second, .val (.int flg), .val (.int w1), .val (.int w2), .val (.long unf), .second, .val (.long xx), .second, .unset, .unset, .unset, .unset, .unset, .unset, .unset, .unset, .unset, .unset] [(.long unf), (.ref a1), (.ref a1)])) t → Steps p.tables e below (s₁.setTop (entryFrame m #[(.long u0), (.long id0), (.long b0), (.long idd), (.long byt), (.int flg)] maxLocals)) t := by
    intro t k
    refine pre19 t ?_
    refine XS.dup X18.here hx rfl (hb hby at_56) rfl rfl ?_
    show Steps p.tables e below (T18.setTop (mkF m 57 #[.val (.long u0), .second, .val (.long id0), .second, .val (.long b0), .second, .val (.long idd), .second, .val (.long byt), .second, .val (.int flg), .val (.int w1), .val (.int w2), .val (.long unf), .second, .val (.long xx), .second, .unset, .unset, .unset, .unset, .unset, .unset, .unset, .unset, .unset, .unset] [(.ref a1), (.ref a1)])) _
    refine XT.lload X18.here hx rfl (hb hby at_57) rfl ?_
    show Steps p.tables e below (T18.setTop (mkF m 59 #[.val (.long u0), .second, .val (.long id0), .second, .val (.long b0), .second, .val (.long idd), .second, .val (.long byt), .second, .val (.int flg), .val (.int w1), .val (.int w2), .val (.long unf), .second, .val (.long xx), .second, .unset, .unset, .unset, .unset, .unset, .unset, .unset, .unset, .unset, .unset] [(.long unf), (.ref a1), (.ref a1)])) _
    exact k
  obtain ⟨_, _, ⟨T24, L24, k24, n24⟩, -, X24, ⟨Lc24, hQ24, l24, y24, z24⟩, st24⟩ := X18.specialBack hx (y := (⟨"com/example/sluice/sluice/checkpoint/ChainAccount", "<init>", "(J)V"⟩ : MethodName)) rfl hown (mvT hZ (hw _ (List.mem_of_getElem? (i := 3) rfl))) (mvT hZ (hw _ (List.mem_of_getElem? (i := 4) rfl))) (mvT hZ (hw _ (List.mem_of_getElem? (i := 5) rfl))) (by decide) (backOf (W := 1) (rm1 l Z a0 hw [] a1 unf h18 n0 Z20 A18 g_a1  F_unfollowed_a1 F_wholeBytes_a1 F_changesBytes_a1 F_changes_a1 F_lastId_a1) hZ (hw _ (List.mem_of_getElem? (i := 5) rfl)) (hw _ (List.mem_of_getElem? (i := 2) rfl)) (by decide) (by decide)) (g := (mkF m 59 #[.val (.long u0), .second, .val (.long id0), .second, .val (.long b0), .second, .val (.long idd), .second, .val (.long byt), .second, .val (.int flg), .val (.int w1), .val (.int w2), .val (.long unf), .second, .val (.long xx), .second, .unset, .unset, .unset, .unset, .unset, .unset, .unset, .unset, .unset, .unset] [(.long unf), (.ref a1), (.ref a1)])) rfl (by rw [hml]; rfl) (Steps.refl _) (a := a1) (argsL := [(.long unf)]) (rest := [(.ref a1)]) (lenOf pd_ini rfl) rfl (by show 2 * 0 + _ ≤ _; exact Nat.le_of_eq rfl) (hb hby at_59) (fun _ _ => ⟨rfl, e18, (by decide : 1 + 0 ≤ _), (by decide : 5 + 0 ≤ _)⟩)
  dsimp only [Pt.U, Pt.locs, Pt.cells, Pt.slots] at X24 l24 y24 z24 st24 hQ24
  subst l24 y24 z24
  obtain ⟨rfl, Nq24, Kq24, Fx0_24, Fx1_24, Fx2_24, Fx3_24, Fx4_24⟩ := hQ24
  have N24 := Fr.app N11 Nq24
  have pre25 : ∀ t, Steps p.tables e below (T24.setTop (mkF m 62 #[.val (.long u0), .second, .val (.long id0), .second, .val (.long b0), .second, .val (.long idd), .second, .val (.long byt), .second, .val (.int flg), .val (.int w1), .val (.int w2), .val (.long unf), .second, .val (.long xx), .second, .unset, .unset, .unset, .unset, .unset, .unset, .unset, .unset, .unset, .unset] [(.ref a1)])) t → Steps p.tables e below (s₁.setTop (entryFrame m #[(.long u0), (.long id0), (.long b0), (.long idd), (.long byt), (.int flg)] maxLocals)) t := fun t k => pre22 t (st24.trans k)
  obtain ⟨h24, e24⟩ : ∃ z, T24.heap = z := ⟨_, rfl⟩
  rw [e24] at Kq24 Fx0_24 Fx1_24 Fx2_24 Fx3_24 Fx4_24
  have E26_0 : Exa Z h24 a1 "com/example/sluice/sluice/checkpoint/ChainAccount" := (A18.keep Kq24)
  have Z26 : n0 ≤ h24.size := (Nat.le_trans Z20 Kq24.1)
  have pre28 : ∀ t, Steps p.tables e below (T24.setTop (mkF m 71 #[.val (.long u0), .second, .val (.long id0), .second, .val (.long b0), .second, .val (.long idd), .second, .val (.long byt), .second, .val (.int flg), .val (.int w1), .val (.int w2), .val (.long unf), .second, .val (.long xx), .second, .val (.ref a1), .unset, .unset, .unset, .unset, .unset, .unset, .unset, .unset, .unset] [(.int w2), (.long b0), (.long id0), (.ref a1)])) t → Steps p.tables e below (s₁.setTop (entryFrame m #[(.long u0), (.long id0), (.long b0), (.long idd), (.long byt), (.int flg)] maxLocals)) t := by
    intro t k
    refine pre25 t ?_
    refine XS.astore X24.here hx rfl (hb hby at_62) rfl rfl (l' := #[.val (.long u0), .second, .val (.long id0), .second, .val (.long b0), .second, .val (.long idd), .second, .val (.long byt), .second, .val (.int flg), .val (.int w1), .val (.int w2), .val (.long unf), .second, .val (.long xx), .second, .val (.ref a1), .unset, .unset, .unset, .unset, .unset, .unset, .unset, .unset, .unset]) rfl ?_
    show Steps p.tables e below (T24.setTop (mkF m 64 #[.val (.long u0), .second, .val (.long id0), .second, .val (.long b0), .second, .val (.long idd), .second, .val (.long byt), .second, .val (.int flg), .val (.int w1), .val (.int w2), .val (.long unf), .second, .val (.long xx), .second, .val (.ref a1), .unset, .unset, .unset, .unset, .unset, .unset, .unset, .unset, .unset] [])) _
    refine XS.aload X24.here hx rfl (hb hby at_64) rfl rfl ?_
    show Steps p.tables e below (T24.setTop (mkF m 66 #[.val (.long u0), .second, .val (.long id0), .second, .val (.long b0), .second, .val (.long idd), .second, .val (.long byt), .second, .val (.int flg), .val (.int w1), .val (.int w2), .val (.long unf), .second, .val (.long xx), .second, .val (.ref a1), .unset, .unset, .unset, .unset, .unset, .unset, .unset, .unset, .unset] [(.ref a1)])) _
    refine XT.lloadN X24.here hx rfl (hb hby at_66) rfl ?_
    show Steps p.tables e below (T24.setTop (mkF m 67 #[.val (.long u0), .second, .val (.long id0), .second, .val (.long b0), .second, .val (.long idd), .second, .val (.long byt), .second, .val (.int flg), .val (.int w1), .val (.int w2), .val (.long unf), .second, .val (.long xx), .second, .val (.ref a1), .unset, .unset, .unset, .unset, .unset, .unset, .unset, .unset, .unset] [(.long id0), (.ref a1)])) _
    refine XT.lload X24.here hx rfl (hb hby at_67) rfl ?_
    show Steps p.tables e below (T24.setTop (mkF m 69 #[.val (.long u0), .second, .val (.long id0), .second, .val (.long b0), .second, .val (.long idd), .second, .val (.long byt), .second, .val (.int flg), .val (.int w1), .val (.int w2), .val (.long unf), .second, .val (.long xx), .second, .val (.ref a1), .unset, .unset, .unset, .unset, .unset, .unset, .unset, .unset, .unset] [(.long b0), (.long id0), (.ref a1)])) _
    refine XS.iload X24.here hx rfl (hb hby at_69) rfl ?_
    show Steps p.tables e below (T24.setTop (mkF m 71 #[.val (.long u0), .second, .val (.long id0), .second, .val (.long b0), .second, .val (.long idd), .second, .val (.long byt), .second, .val (.int flg), .val (.int w1), .val (.int w2), .val (.long unf), .second, .val (.long xx), .second, .val (.ref a1), .unset, .unset, .unset, .unset, .unset, .unset, .unset, .unset, .unset] [(.int w2), (.long b0), (.long id0), (.ref a1)])) _
    exact k
  obtain ⟨cq30, kq30, q30a, q30b, q30c⟩ := isOf hZ e24 E26_0
  obtain ⟨_, _, ⟨T30, L30, k30, n30⟩, -, X30, ⟨Lc30, hQ30, l30, y30, z30⟩, st30⟩ := X24.virtualBack hx (y := (⟨"com/example/sluice/sluice/checkpoint/ChainAccount", "stored", "(JJZ)V"⟩ : MethodName)) (z := (⟨"com/example/sluice/sluice/checkpoint/ChainAccount", "stored", "(JJZ)V"⟩ : MethodName)) hown (mvT hZ (hw _ (List.mem_of_getElem? (i := 11) rfl))) (mvT hZ (hw _ (List.mem_of_getElem? (i := 12) rfl))) (notFace_of_selects (args := #[]) (mvT hZ (hw _ (List.mem_of_getElem? (i := 14) rfl)))) (mvT hZ (hw _ (List.mem_of_getElem? (i := 14) rfl))) (mvT hZ (hw _ (List.mem_of_getElem? (i := 13) rfl))) (by decide) (backOf (W := 0) (rm3 l Z a0 hw [] a1 id0 b0 w2 unf (0 : Int64) (0 : Int64) (0 : Int32) (0 : Int64) h24 n0 Z26 E26_0 g_a1 Fx0_24 Fx1_24 Fx2_24 Fx3_24 Fx4_24) hZ (hw _ (List.mem_of_getElem? (i := 15) rfl)) (hw _ (List.mem_of_getElem? (i := 2) rfl)) (by decide) (by decide)) q30a q30c (g := (mkF m 71 #[.val (.long u0), .second, .val (.long id0), .second, .val (.long b0), .second, .val (.long idd), .second, .val (.long byt), .second, .val (.int flg), .val (.int w1), .val (.int w2), .val (.long unf), .second, .val (.long xx), .second, .val (.ref a1), .unset, .unset, .unset, .unset, .unset, .unset, .unset, .unset, .unset] [(.int w2), (.long b0), (.long id0), (.ref a1)])) rfl (by rw [hml]; rfl) (Steps.refl _) (argsL := [(.long id0), (.long b0), (.int w2)]) (rest := []) (lenOf pd_sto rfl) rfl (by show 2 * 0 + _ ≤ _; exact Nat.le_of_eq rfl) (hb hby at_71) (fun _ _ => ⟨rfl, e24, (by decide : 1 + 0 ≤ _), (by decide : 5 + 0 ≤ _)⟩)
  dsimp only [Pt.U, Pt.locs, Pt.cells, Pt.slots] at X30 l30 y30 z30 st30 hQ30
  subst l30 y30 z30
  obtain ⟨rfl, Nq30, Kq30, Fa30, Fb30, Fc30, Fd30, Fe30⟩ := hQ30
  have N30 := Fr.app N24 Nq30
  have pre31 : ∀ t, Steps p.tables e below (T30.setTop (mkF m 74 #[.val (.long u0), .second, .val (.long id0), .second, .val (.long b0), .second, .val (.long idd), .second, .val (.long byt), .second, .val (.int flg), .val (.int w1), .val (.int w2), .val (.long unf), .second, .val (.long xx), .second, .val (.ref a1), .unset, .unset, .unset, .unset, .unset, .unset, .unset, .unset, .unset] [])) t → Steps p.tables e below (s₁.setTop (entryFrame m #[(.long u0), (.long id0), (.long b0), (.long idd), (.long byt), (.int flg)] maxLocals)) t := fun t k => pre28 t (st30.trans k)
  obtain ⟨h30, e30⟩ : ∃ z, T30.heap = z := ⟨_, rfl⟩
  rw [e30] at Kq30 Fa30 Fb30 Fc30 Fd30 Fe30
  have E32_0 : Exa Z h30 a1 "com/example/sluice/sluice/checkpoint/ChainAccount" := (E26_0.keep Kq30)
  have Z32 : n0 ≤ h30.size := (Nat.le_trans Z26 Kq30.1)
  have pre34 : ∀ t, Steps p.tables e below (T30.setTop (mkF m 82 #[.val (.long u0), .second, .val (.long id0), .second, .val (.long b0), .second, .val (.long idd), .second, .val (.long byt), .second, .val (.int flg), .val (.int w1), .val (.int w2), .val (.long unf), .second, .val (.long xx), .second, .val (.ref a1), .unset, .unset, .unset, .unset, .unset, .unset, .unset, .unset, .unset] [(.int w1), (.long byt), (.long idd), (.ref a1)])) t → Steps p.tables e below (s₁.setTop (entryFrame m #[(.long u0), (.long id0), (.long b0), (.long idd), (.long byt), (.int flg)] maxLocals)) t := by
    intro t k
    refine pre31 t ?_
    refine XS.aload X30.here hx rfl (hb hby at_74) rfl rfl ?_
    show Steps p.tables e below (T30.setTop (mkF m 76 #[.val (.long u0), .second, .val (.long id0), .second, .val (.long b0), .second, .val (.long idd), .second, .val (.long byt), .second, .val (.int flg), .val (.int w1), .val (.int w2), .val (.long unf), .second, .val (.long xx), .second, .val (.ref a1), .unset, .unset, .unset, .unset, .unset, .unset, .unset, .unset, .unset] [(.ref a1)])) _
    refine XT.lload X30.here hx rfl (hb hby at_76) rfl ?_
    show Steps p.tables e below (T30.setTop (mkF m 78 #[.val (.long u0), .second, .val (.long id0), .second, .val (.long b0), .second, .val (.long idd), .second, .val (.long byt), .second, .val (.int flg), .val (.int w1), .val (.int w2), .val (.long unf), .second, .val (.long xx), .second, .val (.ref a1), .unset, .unset, .unset, .unset, .unset, .unset, .unset, .unset, .unset] [(.long idd), (.ref a1)])) _
    refine XT.lload X30.here hx rfl (hb hby at_78) rfl ?_
    show Steps p.tables e below (T30.setTop (mkF m 80 #[.val (.long u0), .second, .val (.long id0), .second, .val (.long b0), .second, .val (.long idd), .second, .val (.long byt), .second, .val (.int flg), .val (.int w1), .val (.int w2), .val (.long unf), .second, .val (.long xx), .second, .val (.ref a1), .unset, .unset, .unset, .unset, .unset, .unset, .unset, .unset, .unset] [(.long byt), (.long idd), (.ref a1)])) _
    refine XS.iload X30.here hx rfl (hb hby at_80) rfl ?_
    show Steps p.tables e below (T30.setTop (mkF m 82 #[.val (.long u0), .second, .val (.long id0), .second, .val (.long b0), .second, .val (.long idd), .second, .val (.long byt), .second, .val (.int flg), .val (.int w1), .val (.int w2), .val (.long unf), .second, .val (.long xx), .second, .val (.ref a1), .unset, .unset, .unset, .unset, .unset, .unset, .unset, .unset, .unset] [(.int w1), (.long byt), (.long idd), (.ref a1)])) _
    exact k
  obtain ⟨cq36, kq36, q36a, q36b, q36c⟩ := isOf hZ e30 E32_0
  obtain ⟨_, _, ⟨T36, L36, k36, n36⟩, -, X36, ⟨Lc36, hQ36, l36, y36, z36⟩, st36⟩ := X30.virtualBack hx (y := (⟨"com/example/sluice/sluice/checkpoint/ChainAccount", "stored", "(JJZ)V"⟩ : MethodName)) (z := (⟨"com/example/sluice/sluice/checkpoint/ChainAccount", "stored", "(JJZ)V"⟩ : MethodName)) hown (mvT hZ (hw _ (List.mem_of_getElem? (i := 11) rfl))) (mvT hZ (hw _ (List.mem_of_getElem? (i := 12) rfl))) (notFace_of_selects (args := #[]) (mvT hZ (hw _ (List.mem_of_getElem? (i := 14) rfl)))) (mvT hZ (hw _ (List.mem_of_getElem? (i := 14) rfl))) (mvT hZ (hw _ (List.mem_of_getElem? (i := 13) rfl))) (by decide) (backOf (W := 0) (rm3 l Z a0 hw [] a1 idd byt w1 unf (own_itJ w2 (0 : Int64) b0) (own_itJ w2 ((0 : Int64) + b0) (0 : Int64)) (own_itI w2 ((0 : Int32) + (1 : Int32)) (0 : Int32)) id0 h30 n0 Z32 E32_0 g_a1 Fa30 Fb30 Fc30 Fd30 Fe30) hZ (hw _ (List.mem_of_getElem? (i := 15) rfl)) (hw _ (List.mem_of_getElem? (i := 2) rfl)) (by decide) (by decide)) q36a q36c (g := (mkF m 82 #[.val (.long u0), .second, .val (.long id0), .second, .val (.long b0), .second, .val (.long idd), .second, .val (.long byt), .second, .val (.int flg), .val (.int w1), .val (.int w2), .val (.long unf), .second, .val (.long xx), .second, .val (.ref a1), .unset, .unset, .unset, .unset, .unset, .unset, .unset, .unset, .unset] [(.int w1), (.long byt), (.long idd), (.ref a1)])) rfl (by rw [hml]; rfl) (Steps.refl _) (argsL := [(.long idd), (.long byt), (.int w1)]) (rest := []) (lenOf pd_sto rfl) rfl (by show 2 * 0 + _ ≤ _; exact Nat.le_of_eq rfl) (hb hby at_82) (fun _ _ => ⟨rfl, e30, (by decide : 1 + 0 ≤ _), (by decide : 5 + 0 ≤ _)⟩)
  dsimp only [Pt.U, Pt.locs, Pt.cells, Pt.slots] at X36 l36 y36 z36 st36 hQ36
  subst l36 y36 z36
  obtain ⟨rfl, Nq36, Kq36, Fa36, Fb36, Fc36, Fd36, Fe36⟩ := hQ36
  have N36 := Fr.app N30 Nq36
  have pre37 : ∀ t, Steps p.tables e below (T36.setTop (mkF m 85 #[.val (.long u0), .second, .val (.long id0), .second, .val (.long b0), .second, .val (.long idd), .second, .val (.long byt), .second, .val (.int flg), .val (.int w1), .val (.int w2), .val (.long unf), .second, .val (.long xx), .second, .val (.ref a1), .unset, .unset, .unset, .unset, .unset, .unset, .unset, .unset, .unset] [])) t → Steps p.tables e below (s₁.setTop (entryFrame m #[(.long u0), (.long id0), (.long b0), (.long idd), (.long byt), (.int flg)] maxLocals)) t := fun t k => pre34 t (st36.trans k)
  obtain ⟨h36, e36⟩ : ∃ z, T36.heap = z := ⟨_, rfl⟩
  rw [e36] at Kq36 Fa36 Fb36 Fc36 Fd36 Fe36
  have E38_0 : Exa Z h36 a1 "com/example/sluice/sluice/checkpoint/ChainAccount" := (E32_0.keep Kq36)
  have Z38 : n0 ≤ h36.size := (Nat.le_trans Z32 Kq36.1)
  have mrg39 : ∃ (we : Int64) (ce : Int64) (he : Int32) (T39 : State) (Lo39 : List Loc), Stand p l e room_1 s m #[(.long u0), (.long id0), (.long b0), (.long idd), (.long byt), (.int flg)] below meth c T39 Lo39 1 5 ∧ Fr n0 Lo39 ∧ T39.heap = h36 ∧ (we = (own_itJ w1 (own_itJ w2 (0 : Int64) b0) byt) ∧ ce = (own_itJ w1 ((own_itJ w2 ((0 : Int64) + b0) (0 : Int64)) + byt) (0 : Int64)) ∧ he = (own_itI w1 ((own_itI w2 ((0 : Int32) + (1 : Int32)) (0 : Int32)) + (1 : Int32)) (0 : Int32)) ∧ he < 100) ∧ ∀ t, Steps p.tables e below (T39.setTop (mkF m 144 #[.val (.long u0), .second, .val (.long id0), .second, .val (.long b0), .second, .val (.long idd), .second, .val (.long byt), .second, .val (.int flg), .val (.int w1), .val (.int w2), .val (.long unf), .second, .val (.long xx), .second, .val (.ref a1), .val (.long we), .second, .val (.long ce), .second, .val (.int he), .unset, .unset, .unset, .unset] [])) t → Steps p.tables e below (s₁.setTop (entryFrame m #[(.long u0), (.long id0), (.long b0), (.long idd), (.long byt), (.int flg)] maxLocals)) t := by
    have pre40 : ∀ t, Steps p.tables e below (T36.setTop (mkF m 87 #[.val (.long u0), .second, .val (.long id0), .second, .val (.long b0), .second, .val (.long idd), .second, .val (.long byt), .second, .val (.int flg), .val (.int w1), .val (.int w2), .val (.long unf), .second, .val (.long xx), .second, .val (.ref a1), .unset, .unset, .unset, .unset, .unset, .unset, .unset, .unset, .unset] [(.int w1)])) t → Steps p.tables e below (s₁.setTop (entryFrame m #[(.long u0), (.long id0), (.long b0), (.long idd), (.long byt), (.int flg)] maxLocals)) t := by
      intro t k
      refine pre37 t ?_
      refine XS.iload X36.here hx rfl (hb hby at_85) rfl ?_
      show Steps p.tables e below (T36.setTop (mkF m 87 #[.val (.long u0), .second, .val (.long id0), .second, .val (.long b0), .second, .val (.long idd), .second, .val (.long byt), .second, .val (.int flg), .val (.int w1), .val (.int w2), .val (.long unf), .second, .val (.long xx), .second, .val (.ref a1), .unset, .unset, .unset, .unset, .unset, .unset, .unset, .unset, .unset] [(.int w1)])) _
      exact k
    by_cases hc87 : w1 = (0 : Int32)
    · skip
      have pre41 : ∀ t, Steps p.tables e below (T36.setTop (mkF m 105 #[.val (.long u0), .second, .val (.long id0), .second, .val (.long b0), .second, .val (.long idd), .second, .val (.long byt), .second, .val (.int flg), .val (.int w1), .val (.int w2), .val (.long unf), .second, .val (.long xx), .second, .val (.ref a1), .unset, .unset, .unset, .unset, .unset, .unset, .unset, .unset, .unset] [(.int w2)])) t → Steps p.tables e below (s₁.setTop (entryFrame m #[(.long u0), (.long id0), (.long b0), (.long idd), (.long byt), (.int flg)] maxLocals)) t := by
        intro t k
        refine pre40 t ?_
        refine XS.ifYes X36.here hx rfl (pc0 := 87) (pc' := 103) rfl (hb hby at_87) rfl (XT.i0_eq_t hc87) (by decide) (by decide) ?_
        show Steps p.tables e below (T36.setTop (mkF m 103 #[.val (.long u0), .second, .val (.long id0), .second, .val (.long b0), .second, .val (.long idd), .second, .val (.long byt), .second, .val (.int flg), .val (.int w1), .val (.int w2), .val (.long unf), .second, .val (.long xx), .second, .val (.ref a1), .unset, .unset, .unset, .unset, .unset, .unset, .unset, .unset, .unset] [])) _
        refine XS.iload X36.here hx rfl (hb hby at_103) rfl ?_
        show Steps p.tables e below (T36.setTop (mkF m 105 #[.val (.long u0), .second, .val (.long id0), .second, .val (.long b0), .second, .val (.long idd), .second, .val (.long byt), .second, .val (.int flg), .val (.int w1), .val (.int w2), .val (.long unf), .second, .val (.long xx), .second, .val (.ref a1), .unset, .unset, .unset, .unset, .unset, .unset, .unset, .unset, .unset] [(.int w2)])) _
        exact k
      by_cases hc105 : w2 = (0 : Int32)
      · skip
        have pre42 : ∀ t, Steps p.tables e below (T36.setTop (mkF m 118 #[.val (.long u0), .second, .val (.long id0), .second, .val (.long b0), .second, .val (.long idd), .second, .val (.long byt), .second, .val (.int flg), .val (.int w1), .val (.int w2), .val (.long unf), .second, .val (.long xx), .second, .val (.ref a1), .val (.long (0 : Int64)), .second, .unset, .unset, .unset, .unset, .unset, .unset, .unset] [(.int w2)])) t → Steps p.tables e below (s₁.setTop (entryFrame m #[(.long u0), (.long id0), (.long b0), (.long idd), (.long byt), (.int flg)] maxLocals)) t := by
          intro t k
          refine pre41 t ?_
          refine XS.ifYes X36.here hx rfl (pc0 := 105) (pc' := 113) rfl (hb hby at_105) rfl (XT.i0_eq_t hc105) (by decide) (by decide) ?_
          show Steps p.tables e below (T36.setTop (mkF m 113 #[.val (.long u0), .second, .val (.long id0), .second, .val (.long b0), .second, .val (.long idd), .second, .val (.long byt), .second, .val (.int flg), .val (.int w1), .val (.int w2), .val (.long unf), .second, .val (.long xx), .second, .val (.ref a1), .unset, .unset, .unset, .unset, .unset, .unset, .unset, .unset, .unset] [])) _
          refine XT.lconst X36.here hx rfl (hb hby at_113) ?_
          show Steps p.tables e below (T36.setTop (mkF m 114 #[.val (.long u0), .second, .val (.long id0), .second, .val (.long b0), .second, .val (.long idd), .second, .val (.long byt), .second, .val (.int flg), .val (.int w1), .val (.int w2), .val (.long unf), .second, .val (.long xx), .second, .val (.ref a1), .unset, .unset, .unset, .unset, .unset, .unset, .unset, .unset, .unset] [(.long (0 : Int64))])) _
          refine XT.lstore X36.here hx rfl (hb hby at_114) rfl (l' := #[.val (.long u0), .second, .val (.long id0), .second, .val (.long b0), .second, .val (.long idd), .second, .val (.long byt), .second, .val (.int flg), .val (.int w1), .val (.int w2), .val (.long unf), .second, .val (.long xx), .second, .val (.ref a1), .val (.long (0 : Int64)), .second, .unset, .unset, .unset, .unset, .unset, .unset, .unset]) rfl ?_
          show Steps p.tables e below (T36.setTop (mkF m 116 #[.val (.long u0), .second, .val (.long id0), .second, .val (.long b0), .second, .val (.long idd), .second, .val (.long byt), .second, .val (.int flg), .val (.int w1), .val (.int w2), .val (.long unf), .second, .val (.long xx), .second, .val (.ref a1), .val (.long (0 : Int64)), .second, .unset, .unset, .unset, .unset, .unset, .unset, .unset] [])) _
          refine XS.iload X36.here hx rfl (hb hby at_116) rfl ?_
          show Steps p.tables e below (T36.setTop (mkF m 118 #[.val (.long u0), .second, .val (.long id0), .second, .val (.long b0), .second, .val (.long idd), .second, .val (.long byt), .second, .val (.int flg), .val (.int w1), .val (.int w2), .val (.long unf), .second, .val (.long xx), .second, .val (.ref a1), .val (.long (0 : Int64)), .second, .unset, .unset, .unset, .unset, .unset, .unset, .unset] [(.int w2)])) _
          exact k
        by_cases hc118 : w2 = (0 : Int32)
        · skip
          have pre43 : ∀ t, Steps p.tables e below (T36.setTop (mkF m 134 #[.val (.long u0), .second, .val (.long id0), .second, .val (.long b0), .second, .val (.long idd), .second, .val (.long byt), .second, .val (.int flg), .val (.int w1), .val (.int w2), .val (.long unf), .second, .val (.long xx), .second, .val (.ref a1), .val (.long (0 : Int64)), .second, .val (.long (b0 + byt)), .second, .unset, .unset, .unset, .unset, .unset] [(.int w2)])) t → Steps p.tables e below (s₁.setTop (entryFrame m #[(.long u0), (.long id0), (.long b0), (.long idd), (.long byt), (.int flg)] maxLocals)) t := by
            intro t k
            refine pre42 t ?_
            refine XS.ifYes X36.here hx rfl (pc0 := 118) (pc' := 125) rfl (hb hby at_118) rfl (XT.i0_eq_t hc118) (by decide) (by decide) ?_
            show Steps p.tables e below (T36.setTop (mkF m 125 #[.val (.long u0), .second, .val (.long id0), .second, .val (.long b0), .second, .val (.long idd), .second, .val (.long byt), .second, .val (.int flg), .val (.int w1), .val (.int w2), .val (.long unf), .second, .val (.long xx), .second, .val (.ref a1), .val (.long (0 : Int64)), .second, .unset, .unset, .unset, .unset, .unset, .unset, .unset] [])) _
            refine XT.lload X36.here hx rfl (hb hby at_125) rfl ?_
            show Steps p.tables e below (T36.setTop (mkF m 127 #[.val (.long u0), .second, .val (.long id0), .second, .val (.long b0), .second, .val (.long idd), .second, .val (.long byt), .second, .val (.int flg), .val (.int w1), .val (.int w2), .val (.long unf), .second, .val (.long xx), .second, .val (.ref a1), .val (.long (0 : Int64)), .second, .unset, .unset, .unset, .unset, .unset, .unset, .unset] [(.long b0)])) _
            refine XT.lload X36.here hx rfl (hb hby at_127) rfl ?_
            show Steps p.tables e below (T36.setTop (mkF m 129 #[.val (.long u0), .second, .val (.long id0), .second, .val (.long b0), .second, .val (.long idd), .second, .val (.long byt), .second, .val (.int flg), .val (.int w1), .val (.int w2), .val (.long unf), .second, .val (.long xx), .second, .val (.ref a1), .val (.long (0 : Int64)), .second, .unset, .unset, .unset, .unset, .unset, .unset, .unset] [(.long byt), (.long b0)])) _
            refine XT.ladd X36.here hx rfl (hb hby at_129) rfl ?_
            show Steps p.tables e below (T36.setTop (mkF m 130 #[.val (.long u0), .second, .val (.long id0), .second, .val (.long b0), .second, .val (.long idd), .second, .val (.long byt), .second, .val (.int flg), .val (.int w1), .val (.int w2), .val (.long unf), .second, .val (.long xx), .second, .val (.ref a1), .val (.long (0 : Int64)), .second, .unset, .unset, .unset, .unset, .unset, .unset, .unset] [(.long (b0 + byt))])) _
            refine XT.lstore X36.here hx rfl (hb hby at_130) rfl (l' := #[.val (.long u0), .second, .val (.long id0), .second, .val (.long b0), .second, .val (.long idd), .second, .val (.long byt), .second, .val (.int flg), .val (.int w1), .val (.int w2), .val (.long unf), .second, .val (.long xx), .second, .val (.ref a1), .val (.long (0 : Int64)), .second, .val (.long (b0 + byt)), .second, .unset, .unset, .unset, .unset, .unset]) rfl ?_
            show Steps p.tables e below (T36.setTop (mkF m 132 #[.val (.long u0), .second, .val (.long id0), .second, .val (.long b0), .second, .val (.long idd), .second, .val (.long byt), .second, .val (.int flg), .val (.int w1), .val (.int w2), .val (.long unf), .second, .val (.long xx), .second, .val (.ref a1), .val (.long (0 : Int64)), .second, .val (.long (b0 + byt)), .second, .unset, .unset, .unset, .unset, .unset] [])) _
            refine XS.iload X36.here hx rfl (hb hby at_132) rfl ?_
            show Steps p.tables e below (T36.setTop (mkF m 134 #[.val (.long u0), .second, .val (.long id0), .second, .val (.long b0), .second, .val (.long idd), .second, .val (.long byt), .second, .val (.int flg), .val (.int w1), .val (.int w2), .val (.long unf), .second, .val (.long xx), .second, .val (.ref a1), .val (.long (0 : Int64)), .second, .val (.long (b0 + byt)), .second, .unset, .unset, .unset, .unset, .unset] [(.int w2)])) _
            exact k
          by_cases hc134 : w2 = (0 : Int32)
          · skip
            have pre44 : ∀ t, Steps p.tables e below (T36.setTop (mkF m 144 #[.val (.long u0), .second, .val (.long id0), .second, .val (.long b0), .second, .val (.long idd), .second, .val (.long byt), .second, .val (.int flg), .val (.int w1), .val (.int w2), .val (.long unf), .second, .val (.long xx), .second, .val (.ref a1), .val (.long (0 : Int64)), .second, .val (.long (b0 + byt)), .second, .val (.int (2 : Int32)), .unset, .unset, .unset, .unset] [])) t → Steps p.tables e below (s₁.setTop (entryFrame m #[(.long u0), (.long id0), (.long b0), (.long idd), (.long byt), (.int flg)] maxLocals)) t := by
              intro t k
              refine pre43 t ?_
              refine XS.ifYes X36.here hx rfl (pc0 := 134) (pc' := 141) rfl (hb hby at_134) rfl (XT.i0_eq_t hc134) (by decide) (by decide) ?_
              show Steps p.tables e below (T36.setTop (mkF m 141 #[.val (.long u0), .second, .val (.long id0), .second, .val (.long b0), .second, .val (.long idd), .second, .val (.long byt), .second, .val (.int flg), .val (.int w1), .val (.int w2), .val (.long unf), .second, .val (.long xx), .second, .val (.ref a1), .val (.long (0 : Int64)), .second, .val (.long (b0 + byt)), .second, .unset, .unset, .unset, .unset, .unset] [])) _
              refine XS.iconst X36.here hx rfl (hb hby at_141) ?_
              show Steps p.tables e below (T36.setTop (mkF m 142 #[.val (.long u0), .second, .val (.long id0), .second, .val (.long b0), .second, .val (.long idd), .second, .val (.long byt), .second, .val (.int flg), .val (.int w1), .val (.int w2), .val (.long unf), .second, .val (.long xx), .second, .val (.ref a1), .val (.long (0 : Int64)), .second, .val (.long (b0 + byt)), .second, .unset, .unset, .unset, .unset, .unset] [(.int (2 : Int32))])) _
              refine XS.istore X36.here hx rfl (hb hby at_142) rfl (l' := #[.val (.long u0), .second, .val (.long id0), .second, .val (.long b0), .second, .val (.long idd), .second, .val (.long byt), .second, .val (.int flg), .val (.int w1), .val (.int w2), .val (.long unf), .second, .val (.long xx), .second, .val (.ref a1), .val (.long (0 : Int64)), .second, .val (.long (b0 + byt)), .second, .val (.int (2 : Int32)), .unset, .unset, .unset, .unset]) rfl ?_
              show Steps p.tables e below (T36.setTop (mkF m 144 #[.val (.long u0), .second, .val (.long id0), .second, .val (.long b0), .second, .val (.long idd), .second, .val (.long byt), .second, .val (.int flg), .val (.int w1), .val (.int w2), .val (.long unf), .second, .val (.long xx), .second, .val (.ref a1), .val (.long (0 : Int64)), .second, .val (.long (b0 + byt)), .second, .val (.int (2 : Int32)), .unset, .unset, .unset, .unset] [])) _
              exact k
            exact ⟨(0 : Int64), (b0 + byt), (2 : Int32), _, _, X36, N36, e36, (by first | (simp [own_itJ, own_itI, hc87, hc105, hc118, hc134]; done) | contradiction | (simp [own_itJ, own_itI, hc87, hc105, hc118, hc134]; decide)), pre44⟩
          · skip
            have pre45 : ∀ t, Steps p.tables e below (T36.setTop (mkF m 144 #[.val (.long u0), .second, .val (.long id0), .second, .val (.long b0), .second, .val (.long idd), .second, .val (.long byt), .second, .val (.int flg), .val (.int w1), .val (.int w2), .val (.long unf), .second, .val (.long xx), .second, .val (.ref a1), .val (.long (0 : Int64)), .second, .val (.long (b0 + byt)), .second, .val (.int (1 : Int32)), .unset, .unset, .unset, .unset] [])) t → Steps p.tables e below (s₁.setTop (entryFrame m #[(.long u0), (.long id0), (.long b0), (.long idd), (.long byt), (.int flg)] maxLocals)) t := by
              intro t k
              refine pre43 t ?_
              refine XS.ifNo X36.here hx rfl (hb hby at_134) rfl (XT.i0_eq_f hc134) ?_
              show Steps p.tables e below (T36.setTop (mkF m 137 #[.val (.long u0), .second, .val (.long id0), .second, .val (.long b0), .second, .val (.long idd), .second, .val (.long byt), .second, .val (.int flg), .val (.int w1), .val (.int w2), .val (.long unf), .second, .val (.long xx), .second, .val (.ref a1), .val (.long (0 : Int64)), .second, .val (.long (b0 + byt)), .second, .unset, .unset, .unset, .unset, .unset] [])) _
              refine XS.iconst X36.here hx rfl (hb hby at_137) ?_
              show Steps p.tables e below (T36.setTop (mkF m 138 #[.val (.long u0), .second, .val (.long id0), .second, .val (.long b0), .second, .val (.long idd), .second, .val (.long byt), .second, .val (.int flg), .val (.int w1), .val (.int w2), .val (.long unf), .second, .val (.long xx), .second, .val (.ref a1), .val (.long (0 : Int64)), .second, .val (.long (b0 + byt)), .second, .unset, .unset, .unset, .unset, .unset] [(.int (1 : Int32))])) _
              refine XS.goto X36.here hx rfl (pc0 := 138) (pc' := 142) rfl (hb hby at_138) (by decide) (by decide) ?_
              show Steps p.tables e below (T36.setTop (mkF m 142 #[.val (.long u0), .second, .val (.long id0), .second, .val (.long b0), .second, .val (.long idd), .second, .val (.long byt), .second, .val (.int flg), .val (.int w1), .val (.int w2), .val (.long unf), .second, .val (.long xx), .second, .val (.ref a1), .val (.long (0 : Int64)), .second, .val (.long (b0 + byt)), .second, .unset, .unset, .unset, .unset, .unset] [(.int (1 : Int32))])) _
              refine XS.istore X36.here hx rfl (hb hby at_142) rfl (l' := #[.val (.long u0), .second, .val (.long id0), .second, .val (.long b0), .second, .val (.long idd), .second, .val (.long byt), .second, .val (.int flg), .val (.int w1), .val (.int w2), .val (.long unf), .second, .val (.long xx), .second, .val (.ref a1), .val (.long (0 : Int64)), .second, .val (.long (b0 + byt)), .second, .val (.int (1 : Int32)), .unset, .unset, .unset, .unset]) rfl ?_
              show Steps p.tables e below (T36.setTop (mkF m 144 #[.val (.long u0), .second, .val (.long id0), .second, .val (.long b0), .second, .val (.long idd), .second, .val (.long byt), .second, .val (.int flg), .val (.int w1), .val (.int w2), .val (.long unf), .second, .val (.long xx), .second, .val (.ref a1), .val (.long (0 : Int64)), .second, .val (.long (b0 + byt)), .second, .val (.int (1 : Int32)), .unset, .unset, .unset, .unset] [])) _
              exact k
            exact ⟨(0 : Int64), (b0 + byt), (1 : Int32), _, _, X36, N36, e36, (by first | (simp [own_itJ, own_itI, hc87, hc105, hc118, hc134]; done) | contradiction | (simp [own_itJ, own_itI, hc87, hc105, hc118, hc134]; decide)), pre45⟩
        · skip
          have pre46 : ∀ t, Steps p.tables e below (T36.setTop (mkF m 134 #[.val (.long u0), .second, .val (.long id0), .second, .val (.long b0), .second, .val (.long idd), .second, .val (.long byt), .second, .val (.int flg), .val (.int w1), .val (.int w2), .val (.long unf), .second, .val (.long xx), .second, .val (.ref a1), .val (.long (0 : Int64)), .second, .val (.long ((0 : Int64) + byt)), .second, .unset, .unset, .unset, .unset, .unset] [(.int w2)])) t → Steps p.tables e below (s₁.setTop (entryFrame m #[(.long u0), (.long id0), (.long b0), (.long idd), (.long byt), (.int flg)] maxLocals)) t := by
            intro t k
            refine pre42 t ?_
            refine XS.ifNo X36.here hx rfl (hb hby at_118) rfl (XT.i0_eq_f hc118) ?_
            show Steps p.tables e below (T36.setTop (mkF m 121 #[.val (.long u0), .second, .val (.long id0), .second, .val (.long b0), .second, .val (.long idd), .second, .val (.long byt), .second, .val (.int flg), .val (.int w1), .val (.int w2), .val (.long unf), .second, .val (.long xx), .second, .val (.ref a1), .val (.long (0 : Int64)), .second, .unset, .unset, .unset, .unset, .unset, .unset, .unset] [])) _
            refine XT.lconst X36.here hx rfl (hb hby at_121) ?_
            show Steps p.tables e below (T36.setTop (mkF m 122 #[.val (.long u0), .second, .val (.long id0), .second, .val (.long b0), .second, .val (.long idd), .second, .val (.long byt), .second, .val (.int flg), .val (.int w1), .val (.int w2), .val (.long unf), .second, .val (.long xx), .second, .val (.ref a1), .val (.long (0 : Int64)), .second, .unset, .unset, .unset, .unset, .unset, .unset, .unset] [(.long (0 : Int64))])) _
            refine XS.goto X36.here hx rfl (pc0 := 122) (pc' := 127) rfl (hb hby at_122) (by decide) (by decide) ?_
            show Steps p.tables e below (T36.setTop (mkF m 127 #[.val (.long u0), .second, .val (.long id0), .second, .val (.long b0), .second, .val (.long idd), .second, .val (.long byt), .second, .val (.int flg), .val (.int w1), .val (.int w2), .val (.long unf), .second, .val (.long xx), .second, .val (.ref a1), .val (.long (0 : Int64)), .second, .unset, .unset, .unset, .unset, .unset, .unset, .unset] [(.long (0 : Int64))])) _
            refine XT.lload X36.here hx rfl (hb hby at_127) rfl ?_
            show Steps p.tables e below (T36.setTop (mkF m 129 #[.val (.long u0), .second, .val (.long id0), .second, .val (.long b0), .second, .val (.long idd), .second, .val (.long byt), .second, .val (.int flg), .val (.int w1), .val (.int w2), .val (.long unf), .second, .val (.long xx), .second, .val (.ref a1), .val (.long (0 : Int64)), .second, .unset, .unset, .unset, .unset, .unset, .unset, .unset] [(.long byt), (.long (0 : Int64))])) _
            refine XT.ladd X36.here hx rfl (hb hby at_129) rfl ?_
            show Steps p.tables e below (T36.setTop (mkF m 130 #[.val (.long u0), .second, .val (.long id0), .second, .val (.long b0), .second, .val (.long idd), .second, .val (.long byt), .second, .val (.int flg), .val (.int w1), .val (.int w2), .val (.long unf), .second, .val (.long xx), .second, .val (.ref a1), .val (.long (0 : Int64)), .second, .unset, .unset, .unset, .unset, .unset, .unset, .unset] [(.long ((0 : Int64) + byt))])) _
            refine XT.lstore X36.here hx rfl (hb hby at_130) rfl (l' := #[.val (.long u0), .second, .val (.long id0), .second, .val (.long b0), .second, .val (.long idd), .second, .val (.long byt), .second, .val (.int flg), .val (.int w1), .val (.int w2), .val (.long unf), .second, .val (.long xx), .second, .val (.ref a1), .val (.long (0 : Int64)), .second, .val (.long ((0 : Int64) + byt)), .second, .unset, .unset, .unset, .unset, .unset]) rfl ?_
            show Steps p.tables e below (T36.setTop (mkF m 132 #[.val (.long u0), .second, .val (.long id0), .second, .val (.long b0), .second, .val (.long idd), .second, .val (.long byt), .second, .val (.int flg), .val (.int w1), .val (.int w2), .val (.long unf), .second, .val (.long xx), .second, .val (.ref a1), .val (.long (0 : Int64)), .second, .val (.long ((0 : Int64) + byt)), .second, .unset, .unset, .unset, .unset, .unset] [])) _
            refine XS.iload X36.here hx rfl (hb hby at_132) rfl ?_
            show Steps p.tables e below (T36.setTop (mkF m 134 #[.val (.long u0), .second, .val (.long id0), .second, .val (.long b0), .second, .val (.long idd), .second, .val (.long byt), .second, .val (.int flg), .val (.int w1), .val (.int w2), .val (.long unf), .second, .val (.long xx), .second, .val (.ref a1), .val (.long (0 : Int64)), .second, .val (.long ((0 : Int64) + byt)), .second, .unset, .unset, .unset, .unset, .unset] [(.int w2)])) _
            exact k
          by_cases hc134 : w2 = (0 : Int32)
          · skip
            have pre47 : ∀ t, Steps p.tables e below (T36.setTop (mkF m 144 #[.val (.long u0), .second, .val (.long id0), .second, .val (.long b0), .second, .val (.long idd), .second, .val (.long byt), .second, .val (.int flg), .val (.int w1), .val (.int w2), .val (.long unf), .second, .val (.long xx), .second, .val (.ref a1), .val (.long (0 : Int64)), .second, .val (.long ((0 : Int64) + byt)), .second, .val (.int (2 : Int32)), .unset, .unset, .unset, .unset] [])) t → Steps p.tables e below (s₁.setTop (entryFrame m #[(.long u0), (.long id0), (.long b0), (.long idd), (.long byt), (.int flg)] maxLocals)) t := by
              intro t k
              refine pre46 t ?_
              refine XS.ifYes X36.here hx rfl (pc0 := 134) (pc' := 141) rfl (hb hby at_134) rfl (XT.i0_eq_t hc134) (by decide) (by decide) ?_
              show Steps p.tables e below (T36.setTop (mkF m 141 #[.val (.long u0), .second, .val (.long id0), .second, .val (.long b0), .second, .val (.long idd), .second, .val (.long byt), .second, .val (.int flg), .val (.int w1), .val (.int w2), .val (.long unf), .second, .val (.long xx), .second, .val (.ref a1), .val (.long (0 : Int64)), .second, .val (.long ((0 : Int64) + byt)), .second, .unset, .unset, .unset, .unset, .unset] [])) _
              refine XS.iconst X36.here hx rfl (hb hby at_141) ?_
              show Steps p.tables e below (T36.setTop (mkF m 142 #[.val (.long u0), .second, .val (.long id0), .second, .val (.long b0), .second, .val (.long idd), .second, .val (.long byt), .second, .val (.int flg), .val (.int w1), .val (.int w2), .val (.long unf), .second, .val (.long xx), .second, .val (.ref a1), .val (.long (0 : Int64)), .second, .val (.long ((0 : Int64) + byt)), .second, .unset, .unset, .unset, .unset, .unset] [(.int (2 : Int32))])) _
              refine XS.istore X36.here hx rfl (hb hby at_142) rfl (l' := #[.val (.long u0), .second, .val (.long id0), .second, .val (.long b0), .second, .val (.long idd), .second, .val (.long byt), .second, .val (.int flg), .val (.int w1), .val (.int w2), .val (.long unf), .second, .val (.long xx), .second, .val (.ref a1), .val (.long (0 : Int64)), .second, .val (.long ((0 : Int64) + byt)), .second, .val (.int (2 : Int32)), .unset, .unset, .unset, .unset]) rfl ?_
              show Steps p.tables e below (T36.setTop (mkF m 144 #[.val (.long u0), .second, .val (.long id0), .second, .val (.long b0), .second, .val (.long idd), .second, .val (.long byt), .second, .val (.int flg), .val (.int w1), .val (.int w2), .val (.long unf), .second, .val (.long xx), .second, .val (.ref a1), .val (.long (0 : Int64)), .second, .val (.long ((0 : Int64) + byt)), .second, .val (.int (2 : Int32)), .unset, .unset, .unset, .unset] [])) _
              exact k
            exact ⟨(0 : Int64), ((0 : Int64) + byt), (2 : Int32), _, _, X36, N36, e36, (by first | (simp [own_itJ, own_itI, hc87, hc105, hc118, hc134]; done) | contradiction | (simp [own_itJ, own_itI, hc87, hc105, hc118, hc134]; decide)), pre47⟩
          · skip
            have pre48 : ∀ t, Steps p.tables e below (T36.setTop (mkF m 144 #[.val (.long u0), .second, .val (.long id0), .second, .val (.long b0), .second, .val (.long idd), .second, .val (.long byt), .second, .val (.int flg), .val (.int w1), .val (.int w2), .val (.long unf), .second, .val (.long xx), .second, .val (.ref a1), .val (.long (0 : Int64)), .second, .val (.long ((0 : Int64) + byt)), .second, .val (.int (1 : Int32)), .unset, .unset, .unset, .unset] [])) t → Steps p.tables e below (s₁.setTop (entryFrame m #[(.long u0), (.long id0), (.long b0), (.long idd), (.long byt), (.int flg)] maxLocals)) t := by
              intro t k
              refine pre46 t ?_
              refine XS.ifNo X36.here hx rfl (hb hby at_134) rfl (XT.i0_eq_f hc134) ?_
              show Steps p.tables e below (T36.setTop (mkF m 137 #[.val (.long u0), .second, .val (.long id0), .second, .val (.long b0), .second, .val (.long idd), .second, .val (.long byt), .second, .val (.int flg), .val (.int w1), .val (.int w2), .val (.long unf), .second, .val (.long xx), .second, .val (.ref a1), .val (.long (0 : Int64)), .second, .val (.long ((0 : Int64) + byt)), .second, .unset, .unset, .unset, .unset, .unset] [])) _
              refine XS.iconst X36.here hx rfl (hb hby at_137) ?_
              show Steps p.tables e below (T36.setTop (mkF m 138 #[.val (.long u0), .second, .val (.long id0), .second, .val (.long b0), .second, .val (.long idd), .second, .val (.long byt), .second, .val (.int flg), .val (.int w1), .val (.int w2), .val (.long unf), .second, .val (.long xx), .second, .val (.ref a1), .val (.long (0 : Int64)), .second, .val (.long ((0 : Int64) + byt)), .second, .unset, .unset, .unset, .unset, .unset] [(.int (1 : Int32))])) _
              refine XS.goto X36.here hx rfl (pc0 := 138) (pc' := 142) rfl (hb hby at_138) (by decide) (by decide) ?_
              show Steps p.tables e below (T36.setTop (mkF m 142 #[.val (.long u0), .second, .val (.long id0), .second, .val (.long b0), .second, .val (.long idd), .second, .val (.long byt), .second, .val (.int flg), .val (.int w1), .val (.int w2), .val (.long unf), .second, .val (.long xx), .second, .val (.ref a1), .val (.long (0 : Int64)), .second, .val (.long ((0 : Int64) + byt)), .second, .unset, .unset, .unset, .unset, .unset] [(.int (1 : Int32))])) _
              refine XS.istore X36.here hx rfl (hb hby at_142) rfl (l' := #[.val (.long u0), .second, .val (.long id0), .second, .val (.long b0), .second, .val (.long idd), .second, .val (.long byt), .second, .val (.int flg), .val (.int w1), .val (.int w2), .val (.long unf), .second, .val (.long xx), .second, .val (.ref a1), .val (.long (0 : Int64)), .second, .val (.long ((0 : Int64) + byt)), .second, .val (.int (1 : Int32)), .unset, .unset, .unset, .unset]) rfl ?_
              show Steps p.tables e below (T36.setTop (mkF m 144 #[.val (.long u0), .second, .val (.long id0), .second, .val (.long b0), .second, .val (.long idd), .second, .val (.long byt), .second, .val (.int flg), .val (.int w1), .val (.int w2), .val (.long unf), .second, .val (.long xx), .second, .val (.ref a1), .val (.long (0 : Int64)), .second, .val (.long ((0 : Int64) + byt)), .second, .val (.int (1 : Int32)), .unset, .unset, .unset, .unset] [])) _
              exact k
            exact ⟨(0 : Int64), ((0 : Int64) + byt), (1 : Int32), _, _, X36, N36, e36, (by first | (simp [own_itJ, own_itI, hc87, hc105, hc118, hc134]; done) | contradiction | (simp [own_itJ, own_itI, hc87, hc105, hc118, hc134]; decide)), pre48⟩
      · skip
        have pre49 : ∀ t, Steps p.tables e below (T36.setTop (mkF m 118 #[.val (.long u0), .second, .val (.long id0), .second, .val (.long b0), .second, .val (.long idd), .second, .val (.long byt), .second, .val (.int flg), .val (.int w1), .val (.int w2), .val (.long unf), .second, .val (.long xx), .second, .val (.ref a1), .val (.long b0), .second, .unset, .unset, .unset, .unset, .unset, .unset, .unset] [(.int w2)])) t → Steps p.tables e below (s₁.setTop (entryFrame m #[(.long u0), (.long id0), (.long b0), (.long idd), (.long byt), (.int flg)] maxLocals)) t := by
          intro t k
          refine pre41 t ?_
          refine XS.ifNo X36.here hx rfl (hb hby at_105) rfl (XT.i0_eq_f hc105) ?_
          show Steps p.tables e below (T36.setTop (mkF m 108 #[.val (.long u0), .second, .val (.long id0), .second, .val (.long b0), .second, .val (.long idd), .second, .val (.long byt), .second, .val (.int flg), .val (.int w1), .val (.int w2), .val (.long unf), .second, .val (.long xx), .second, .val (.ref a1), .unset, .unset, .unset, .unset, .unset, .unset, .unset, .unset, .unset] [])) _
          refine XT.lload X36.here hx rfl (hb hby at_108) rfl ?_
          show Steps p.tables e below (T36.setTop (mkF m 110 #[.val (.long u0), .second, .val (.long id0), .second, .val (.long b0), .second, .val (.long idd), .second, .val (.long byt), .second, .val (.int flg), .val (.int w1), .val (.int w2), .val (.long unf), .second, .val (.long xx), .second, .val (.ref a1), .unset, .unset, .unset, .unset, .unset, .unset, .unset, .unset, .unset] [(.long b0)])) _
          refine XS.goto X36.here hx rfl (pc0 := 110) (pc' := 114) rfl (hb hby at_110) (by decide) (by decide) ?_
          show Steps p.tables e below (T36.setTop (mkF m 114 #[.val (.long u0), .second, .val (.long id0), .second, .val (.long b0), .second, .val (.long idd), .second, .val (.long byt), .second, .val (.int flg), .val (.int w1), .val (.int w2), .val (.long unf), .second, .val (.long xx), .second, .val (.ref a1), .unset, .unset, .unset, .unset, .unset, .unset, .unset, .unset, .unset] [(.long b0)])) _
          refine XT.lstore X36.here hx rfl (hb hby at_114) rfl (l' := #[.val (.long u0), .second, .val (.long id0), .second, .val (.long b0), .second, .val (.long idd), .second, .val (.long byt), .second, .val (.int flg), .val (.int w1), .val (.int w2), .val (.long unf), .second, .val (.long xx), .second, .val (.ref a1), .val (.long b0), .second, .unset, .unset, .unset, .unset, .unset, .unset, .unset]) rfl ?_
          show Steps p.tables e below (T36.setTop (mkF m 116 #[.val (.long u0), .second, .val (.long id0), .second, .val (.long b0), .second, .val (.long idd), .second, .val (.long byt), .second, .val (.int flg), .val (.int w1), .val (.int w2), .val (.long unf), .second, .val (.long xx), .second, .val (.ref a1), .val (.long b0), .second, .unset, .unset, .unset, .unset, .unset, .unset, .unset] [])) _
          refine XS.iload X36.here hx rfl (hb hby at_116) rfl ?_
          show Steps p.tables e below (T36.setTop (mkF m 118 #[.val (.long u0), .second, .val (.long id0), .second, .val (.long b0), .second, .val (.long idd), .second, .val (.long byt), .second, .val (.int flg), .val (.int w1), .val (.int w2), .val (.long unf), .second, .val (.long xx), .second, .val (.ref a1), .val (.long b0), .second, .unset, .unset, .unset, .unset, .unset, .unset, .unset] [(.int w2)])) _
          exact k
        by_cases hc118 : w2 = (0 : Int32)
        · skip
          have pre50 : ∀ t, Steps p.tables e below (T36.setTop (mkF m 134 #[.val (.long u0), .second, .val (.long id0), .second, .val (.long b0), .second, .val (.long idd), .second, .val (.long byt), .second, .val (.int flg), .val (.int w1), .val (.int w2), .val (.long unf), .second, .val (.long xx), .second, .val (.ref a1), .val (.long b0), .second, .val (.long (b0 + byt)), .second, .unset, .unset, .unset, .unset, .unset] [(.int w2)])) t → Steps p.tables e below (s₁.setTop (entryFrame m #[(.long u0), (.long id0), (.long b0), (.long idd), (.long byt), (.int flg)] maxLocals)) t := by
            intro t k
            refine pre49 t ?_
            refine XS.ifYes X36.here hx rfl (pc0 := 118) (pc' := 125) rfl (hb hby at_118) rfl (XT.i0_eq_t hc118) (by decide) (by decide) ?_
            show Steps p.tables e below (T36.setTop (mkF m 125 #[.val (.long u0), .second, .val (.long id0), .second, .val (.long b0), .second, .val (.long idd), .second, .val (.long byt), .second, .val (.int flg), .val (.int w1), .val (.int w2), .val (.long unf), .second, .val (.long xx), .second, .val (.ref a1), .val (.long b0), .second, .unset, .unset, .unset, .unset, .unset, .unset, .unset] [])) _
            refine XT.lload X36.here hx rfl (hb hby at_125) rfl ?_
            show Steps p.tables e below (T36.setTop (mkF m 127 #[.val (.long u0), .second, .val (.long id0), .second, .val (.long b0), .second, .val (.long idd), .second, .val (.long byt), .second, .val (.int flg), .val (.int w1), .val (.int w2), .val (.long unf), .second, .val (.long xx), .second, .val (.ref a1), .val (.long b0), .second, .unset, .unset, .unset, .unset, .unset, .unset, .unset] [(.long b0)])) _
            refine XT.lload X36.here hx rfl (hb hby at_127) rfl ?_
            show Steps p.tables e below (T36.setTop (mkF m 129 #[.val (.long u0), .second, .val (.long id0), .second, .val (.long b0), .second, .val (.long idd), .second, .val (.long byt), .second, .val (.int flg), .val (.int w1), .val (.int w2), .val (.long unf), .second, .val (.long xx), .second, .val (.ref a1), .val (.long b0), .second, .unset, .unset, .unset, .unset, .unset, .unset, .unset] [(.long byt), (.long b0)])) _
            refine XT.ladd X36.here hx rfl (hb hby at_129) rfl ?_
            show Steps p.tables e below (T36.setTop (mkF m 130 #[.val (.long u0), .second, .val (.long id0), .second, .val (.long b0), .second, .val (.long idd), .second, .val (.long byt), .second, .val (.int flg), .val (.int w1), .val (.int w2), .val (.long unf), .second, .val (.long xx), .second, .val (.ref a1), .val (.long b0), .second, .unset, .unset, .unset, .unset, .unset, .unset, .unset] [(.long (b0 + byt))])) _
            refine XT.lstore X36.here hx rfl (hb hby at_130) rfl (l' := #[.val (.long u0), .second, .val (.long id0), .second, .val (.long b0), .second, .val (.long idd), .second, .val (.long byt), .second, .val (.int flg), .val (.int w1), .val (.int w2), .val (.long unf), .second, .val (.long xx), .second, .val (.ref a1), .val (.long b0), .second, .val (.long (b0 + byt)), .second, .unset, .unset, .unset, .unset, .unset]) rfl ?_
            show Steps p.tables e below (T36.setTop (mkF m 132 #[.val (.long u0), .second, .val (.long id0), .second, .val (.long b0), .second, .val (.long idd), .second, .val (.long byt), .second, .val (.int flg), .val (.int w1), .val (.int w2), .val (.long unf), .second, .val (.long xx), .second, .val (.ref a1), .val (.long b0), .second, .val (.long (b0 + byt)), .second, .unset, .unset, .unset, .unset, .unset] [])) _
            refine XS.iload X36.here hx rfl (hb hby at_132) rfl ?_
            show Steps p.tables e below (T36.setTop (mkF m 134 #[.val (.long u0), .second, .val (.long id0), .second, .val (.long b0), .second, .val (.long idd), .second, .val (.long byt), .second, .val (.int flg), .val (.int w1), .val (.int w2), .val (.long unf), .second, .val (.long xx), .second, .val (.ref a1), .val (.long b0), .second, .val (.long (b0 + byt)), .second, .unset, .unset, .unset, .unset, .unset] [(.int w2)])) _
            exact k
          by_cases hc134 : w2 = (0 : Int32)
          · skip
            have pre51 : ∀ t, Steps p.tables e below (T36.setTop (mkF m 144 #[.val (.long u0), .second, .val (.long id0), .second, .val (.long b0), .second, .val (.long idd), .second, .val (.long byt), .second, .val (.int flg), .val (.int w1), .val (.int w2), .val (.long unf), .second, .val (.long xx), .second, .val (.ref a1), .val (.long b0), .second, .val (.long (b0 + byt)), .second, .val (.int (2 : Int32)), .unset, .unset, .unset, .unset] [])) t → Steps p.tables e below (s₁.setTop (entryFrame m #[(.long u0), (.long id0), (.long b0), (.long idd), (.long byt), (.int flg)] maxLocals)) t := by
              intro t k
              refine pre50 t ?_
              refine XS.ifYes X36.here hx rfl (pc0 := 134) (pc' := 141) rfl (hb hby at_134) rfl (XT.i0_eq_t hc134) (by decide) (by decide) ?_
              show Steps p.tables e below (T36.setTop (mkF m 141 #[.val (.long u0), .second, .val (.long id0), .second, .val (.long b0), .second, .val (.long idd), .second, .val (.long byt), .second, .val (.int flg), .val (.int w1), .val (.int w2), .val (.long unf), .second, .val (.long xx), .second, .val (.ref a1), .val (.long b0), .second, .val (.long (b0 + byt)), .second, .unset, .unset, .unset, .unset, .unset] [])) _
              refine XS.iconst X36.here hx rfl (hb hby at_141) ?_
              show Steps p.tables e below (T36.setTop (mkF m 142 #[.val (.long u0), .second, .val (.long id0), .second, .val (.long b0), .second, .val (.long idd), .second, .val (.long byt), .second, .val (.int flg), .val (.int w1), .val (.int w2), .val (.long unf), .second, .val (.long xx), .second, .val (.ref a1), .val (.long b0), .second, .val (.long (b0 + byt)), .second, .unset, .unset, .unset, .unset, .unset] [(.int (2 : Int32))])) _
              refine XS.istore X36.here hx rfl (hb hby at_142) rfl (l' := #[.val (.long u0), .second, .val (.long id0), .second, .val (.long b0), .second, .val (.long idd), .second, .val (.long byt), .second, .val (.int flg), .val (.int w1), .val (.int w2), .val (.long unf), .second, .val (.long xx), .second, .val (.ref a1), .val (.long b0), .second, .val (.long (b0 + byt)), .second, .val (.int (2 : Int32)), .unset, .unset, .unset, .unset]) rfl ?_
              show Steps p.tables e below (T36.setTop (mkF m 144 #[.val (.long u0), .second, .val (.long id0), .second, .val (.long b0), .second, .val (.long idd), .second, .val (.long byt), .second, .val (.int flg), .val (.int w1), .val (.int w2), .val (.long unf), .second, .val (.long xx), .second, .val (.ref a1), .val (.long b0), .second, .val (.long (b0 + byt)), .second, .val (.int (2 : Int32)), .unset, .unset, .unset, .unset] [])) _
              exact k
            exact ⟨b0, (b0 + byt), (2 : Int32), _, _, X36, N36, e36, (by first | (simp [own_itJ, own_itI, hc87, hc105, hc118, hc134]; done) | contradiction | (simp [own_itJ, own_itI, hc87, hc105, hc118, hc134]; decide)), pre51⟩
          · skip
            have pre52 : ∀ t, Steps p.tables e below (T36.setTop (mkF m 144 #[.val (.long u0), .second, .val (.long id0), .second, .val (.long b0), .second, .val (.long idd), .second, .val (.long byt), .second, .val (.int flg), .val (.int w1), .val (.int w2), .val (.long unf), .second, .val (.long xx), .second, .val (.ref a1), .val (.long b0), .second, .val (.long (b0 + byt)), .second, .val (.int (1 : Int32)), .unset, .unset, .unset, .unset] [])) t → Steps p.tables e below (s₁.setTop (entryFrame m #[(.long u0), (.long id0), (.long b0), (.long idd), (.long byt), (.int flg)] maxLocals)) t := by
              intro t k
              refine pre50 t ?_
              refine XS.ifNo X36.here hx rfl (hb hby at_134) rfl (XT.i0_eq_f hc134) ?_
              show Steps p.tables e below (T36.setTop (mkF m 137 #[.val (.long u0), .second, .val (.long id0), .second, .val (.long b0), .second, .val (.long idd), .second, .val (.long byt), .second, .val (.int flg), .val (.int w1), .val (.int w2), .val (.long unf), .second, .val (.long xx), .second, .val (.ref a1), .val (.long b0), .second, .val (.long (b0 + byt)), .second, .unset, .unset, .unset, .unset, .unset] [])) _
              refine XS.iconst X36.here hx rfl (hb hby at_137) ?_
              show Steps p.tables e below (T36.setTop (mkF m 138 #[.val (.long u0), .second, .val (.long id0), .second, .val (.long b0), .second, .val (.long idd), .second, .val (.long byt), .second, .val (.int flg), .val (.int w1), .val (.int w2), .val (.long unf), .second, .val (.long xx), .second, .val (.ref a1), .val (.long b0), .second, .val (.long (b0 + byt)), .second, .unset, .unset, .unset, .unset, .unset] [(.int (1 : Int32))])) _
              refine XS.goto X36.here hx rfl (pc0 := 138) (pc' := 142) rfl (hb hby at_138) (by decide) (by decide) ?_
              show Steps p.tables e below (T36.setTop (mkF m 142 #[.val (.long u0), .second, .val (.long id0), .second, .val (.long b0), .second, .val (.long idd), .second, .val (.long byt), .second, .val (.int flg), .val (.int w1), .val (.int w2), .val (.long unf), .second, .val (.long xx), .second, .val (.ref a1), .val (.long b0), .second, .val (.long (b0 + byt)), .second, .unset, .unset, .unset, .unset, .unset] [(.int (1 : Int32))])) _
              refine XS.istore X36.here hx rfl (hb hby at_142) rfl (l' := #[.val (.long u0), .second, .val (.long id0), .second, .val (.long b0), .second, .val (.long idd), .second, .val (.long byt), .second, .val (.int flg), .val (.int w1), .val (.int w2), .val (.long unf), .second, .val (.long xx), .second, .val (.ref a1), .val (.long b0), .second, .val (.long (b0 + byt)), .second, .val (.int (1 : Int32)), .unset, .unset, .unset, .unset]) rfl ?_
              show Steps p.tables e below (T36.setTop (mkF m 144 #[.val (.long u0), .second, .val (.long id0), .second, .val (.long b0), .second, .val (.long idd), .second, .val (.long byt), .second, .val (.int flg), .val (.int w1), .val (.int w2), .val (.long unf), .second, .val (.long xx), .second, .val (.ref a1), .val (.long b0), .second, .val (.long (b0 + byt)), .second, .val (.int (1 : Int32)), .unset, .unset, .unset, .unset] [])) _
              exact k
            exact ⟨b0, (b0 + byt), (1 : Int32), _, _, X36, N36, e36, (by first | (simp [own_itJ, own_itI, hc87, hc105, hc118, hc134]; done) | contradiction | (simp [own_itJ, own_itI, hc87, hc105, hc118, hc134]; decide)), pre52⟩
        · skip
          have pre53 : ∀ t, Steps p.tables e below (T36.setTop (mkF m 134 #[.val (.long u0), .second, .val (.long id0), .second, .val (.long b0), .second, .val (.long idd), .second, .val (.long byt), .second, .val (.int flg), .val (.int w1), .val (.int w2), .val (.long unf), .second, .val (.long xx), .second, .val (.ref a1), .val (.long b0), .second, .val (.long ((0 : Int64) + byt)), .second, .unset, .unset, .unset, .unset, .unset] [(.int w2)])) t → Steps p.tables e below (s₁.setTop (entryFrame m #[(.long u0), (.long id0), (.long b0), (.long idd), (.long byt), (.int flg)] maxLocals)) t := by
            intro t k
            refine pre49 t ?_
            refine XS.ifNo X36.here hx rfl (hb hby at_118) rfl (XT.i0_eq_f hc118) ?_
            show Steps p.tables e below (T36.setTop (mkF m 121 #[.val (.long u0), .second, .val (.long id0), .second, .val (.long b0), .second, .val (.long idd), .second, .val (.long byt), .second, .val (.int flg), .val (.int w1), .val (.int w2), .val (.long unf), .second, .val (.long xx), .second, .val (.ref a1), .val (.long b0), .second, .unset, .unset, .unset, .unset, .unset, .unset, .unset] [])) _
            refine XT.lconst X36.here hx rfl (hb hby at_121) ?_
            show Steps p.tables e below (T36.setTop (mkF m 122 #[.val (.long u0), .second, .val (.long id0), .second, .val (.long b0), .second, .val (.long idd), .second, .val (.long byt), .second, .val (.int flg), .val (.int w1), .val (.int w2), .val (.long unf), .second, .val (.long xx), .second, .val (.ref a1), .val (.long b0), .second, .unset, .unset, .unset, .unset, .unset, .unset, .unset] [(.long (0 : Int64))])) _
            refine XS.goto X36.here hx rfl (pc0 := 122) (pc' := 127) rfl (hb hby at_122) (by decide) (by decide) ?_
            show Steps p.tables e below (T36.setTop (mkF m 127 #[.val (.long u0), .second, .val (.long id0), .second, .val (.long b0), .second, .val (.long idd), .second, .val (.long byt), .second, .val (.int flg), .val (.int w1), .val (.int w2), .val (.long unf), .second, .val (.long xx), .second, .val (.ref a1), .val (.long b0), .second, .unset, .unset, .unset, .unset, .unset, .unset, .unset] [(.long (0 : Int64))])) _
            refine XT.lload X36.here hx rfl (hb hby at_127) rfl ?_
            show Steps p.tables e below (T36.setTop (mkF m 129 #[.val (.long u0), .second, .val (.long id0), .second, .val (.long b0), .second, .val (.long idd), .second, .val (.long byt), .second, .val (.int flg), .val (.int w1), .val (.int w2), .val (.long unf), .second, .val (.long xx), .second, .val (.ref a1), .val (.long b0), .second, .unset, .unset, .unset, .unset, .unset, .unset, .unset] [(.long byt), (.long (0 : Int64))])) _
            refine XT.ladd X36.here hx rfl (hb hby at_129) rfl ?_
            show Steps p.tables e below (T36.setTop (mkF m 130 #[.val (.long u0), .second, .val (.long id0), .second, .val (.long b0), .second, .val (.long idd), .second, .val (.long byt), .second, .val (.int flg), .val (.int w1), .val (.int w2), .val (.long unf), .second, .val (.long xx), .second, .val (.ref a1), .val (.long b0), .second, .unset, .unset, .unset, .unset, .unset, .unset, .unset] [(.long ((0 : Int64) + byt))])) _
            refine XT.lstore X36.here hx rfl (hb hby at_130) rfl (l' := #[.val (.long u0), .second, .val (.long id0), .second, .val (.long b0), .second, .val (.long idd), .second, .val (.long byt), .second, .val (.int flg), .val (.int w1), .val (.int w2), .val (.long unf), .second, .val (.long xx), .second, .val (.ref a1), .val (.long b0), .second, .val (.long ((0 : Int64) + byt)), .second, .unset, .unset, .unset, .unset, .unset]) rfl ?_
            show Steps p.tables e below (T36.setTop (mkF m 132 #[.val (.long u0), .second, .val (.long id0), .second, .val (.long b0), .second, .val (.long idd), .second, .val (.long byt), .second, .val (.int flg), .val (.int w1), .val (.int w2), .val (.long unf), .second, .val (.long xx), .second, .val (.ref a1), .val (.long b0), .second, .val (.long ((0 : Int64) + byt)), .second, .unset, .unset, .unset, .unset, .unset] [])) _
            refine XS.iload X36.here hx rfl (hb hby at_132) rfl ?_
            show Steps p.tables e below (T36.setTop (mkF m 134 #[.val (.long u0), .second, .val (.long id0), .second, .val (.long b0), .second, .val (.long idd), .second, .val (.long byt), .second, .val (.int flg), .val (.int w1), .val (.int w2), .val (.long unf), .second, .val (.long xx), .second, .val (.ref a1), .val (.long b0), .second, .val (.long ((0 : Int64) + byt)), .second, .unset, .unset, .unset, .unset, .unset] [(.int w2)])) _
            exact k
          by_cases hc134 : w2 = (0 : Int32)
          · skip
            have pre54 : ∀ t, Steps p.tables e below (T36.setTop (mkF m 144 #[.val (.long u0), .second, .val (.long id0), .second, .val (.long b0), .second, .val (.long idd), .second, .val (.long byt), .second, .val (.int flg), .val (.int w1), .val (.int w2), .val (.long unf), .second, .val (.long xx), .second, .val (.ref a1), .val (.long b0), .second, .val (.long ((0 : Int64) + byt)), .second, .val (.int (2 : Int32)), .unset, .unset, .unset, .unset] [])) t → Steps p.tables e below (s₁.setTop (entryFrame m #[(.long u0), (.long id0), (.long b0), (.long idd), (.long byt), (.int flg)] maxLocals)) t := by
              intro t k
              refine pre53 t ?_
              refine XS.ifYes X36.here hx rfl (pc0 := 134) (pc' := 141) rfl (hb hby at_134) rfl (XT.i0_eq_t hc134) (by decide) (by decide) ?_
              show Steps p.tables e below (T36.setTop (mkF m 141 #[.val (.long u0), .second, .val (.long id0), .second, .val (.long b0), .second, .val (.long idd), .second, .val (.long byt), .second, .val (.int flg), .val (.int w1), .val (.int w2), .val (.long unf), .second, .val (.long xx), .second, .val (.ref a1), .val (.long b0), .second, .val (.long ((0 : Int64) + byt)), .second, .unset, .unset, .unset, .unset, .unset] [])) _
              refine XS.iconst X36.here hx rfl (hb hby at_141) ?_
              show Steps p.tables e below (T36.setTop (mkF m 142 #[.val (.long u0), .second, .val (.long id0), .second, .val (.long b0), .second, .val (.long idd), .second, .val (.long byt), .second, .val (.int flg), .val (.int w1), .val (.int w2), .val (.long unf), .second, .val (.long xx), .second, .val (.ref a1), .val (.long b0), .second, .val (.long ((0 : Int64) + byt)), .second, .unset, .unset, .unset, .unset, .unset] [(.int (2 : Int32))])) _
              refine XS.istore X36.here hx rfl (hb hby at_142) rfl (l' := #[.val (.long u0), .second, .val (.long id0), .second, .val (.long b0), .second, .val (.long idd), .second, .val (.long byt), .second, .val (.int flg), .val (.int w1), .val (.int w2), .val (.long unf), .second, .val (.long xx), .second, .val (.ref a1), .val (.long b0), .second, .val (.long ((0 : Int64) + byt)), .second, .val (.int (2 : Int32)), .unset, .unset, .unset, .unset]) rfl ?_
              show Steps p.tables e below (T36.setTop (mkF m 144 #[.val (.long u0), .second, .val (.long id0), .second, .val (.long b0), .second, .val (.long idd), .second, .val (.long byt), .second, .val (.int flg), .val (.int w1), .val (.int w2), .val (.long unf), .second, .val (.long xx), .second, .val (.ref a1), .val (.long b0), .second, .val (.long ((0 : Int64) + byt)), .second, .val (.int (2 : Int32)), .unset, .unset, .unset, .unset] [])) _
              exact k
            exact ⟨b0, ((0 : Int64) + byt), (2 : Int32), _, _, X36, N36, e36, (by first | (simp [own_itJ, own_itI, hc87, hc105, hc118, hc134]; done) | contradiction | (simp [own_itJ, own_itI, hc87, hc105, hc118, hc134]; decide)), pre54⟩
          · skip
            have pre55 : ∀ t, Steps p.tables e below (T36.setTop (mkF m 144 #[.val (.long u0), .second, .val (.long id0), .second, .val (.long b0), .second, .val (.long idd), .second, .val (.long byt), .second, .val (.int flg), .val (.int w1), .val (.int w2), .val (.long unf), .second, .val (.long xx), .second, .val (.ref a1), .val (.long b0), .second, .val (.long ((0 : Int64) + byt)), .second, .val (.int (1 : Int32)), .unset, .unset, .unset, .unset] [])) t → Steps p.tables e below (s₁.setTop (entryFrame m #[(.long u0), (.long id0), (.long b0), (.long idd), (.long byt), (.int flg)] maxLocals)) t := by
              intro t k
              refine pre53 t ?_
              refine XS.ifNo X36.here hx rfl (hb hby at_134) rfl (XT.i0_eq_f hc134) ?_
              show Steps p.tables e below (T36.setTop (mkF m 137 #[.val (.long u0), .second, .val (.long id0), .second, .val (.long b0), .second, .val (.long idd), .second, .val (.long byt), .second, .val (.int flg), .val (.int w1), .val (.int w2), .val (.long unf), .second, .val (.long xx), .second, .val (.ref a1), .val (.long b0), .second, .val (.long ((0 : Int64) + byt)), .second, .unset, .unset, .unset, .unset, .unset] [])) _
              refine XS.iconst X36.here hx rfl (hb hby at_137) ?_
              show Steps p.tables e below (T36.setTop (mkF m 138 #[.val (.long u0), .second, .val (.long id0), .second, .val (.long b0), .second, .val (.long idd), .second, .val (.long byt), .second, .val (.int flg), .val (.int w1), .val (.int w2), .val (.long unf), .second, .val (.long xx), .second, .val (.ref a1), .val (.long b0), .second, .val (.long ((0 : Int64) + byt)), .second, .unset, .unset, .unset, .unset, .unset] [(.int (1 : Int32))])) _
              refine XS.goto X36.here hx rfl (pc0 := 138) (pc' := 142) rfl (hb hby at_138) (by decide) (by decide) ?_
              show Steps p.tables e below (T36.setTop (mkF m 142 #[.val (.long u0), .second, .val (.long id0), .second, .val (.long b0), .second, .val (.long idd), .second, .val (.long byt), .second, .val (.int flg), .val (.int w1), .val (.int w2), .val (.long unf), .second, .val (.long xx), .second, .val (.ref a1), .val (.long b0), .second, .val (.long ((0 : Int64) + byt)), .second, .unset, .unset, .unset, .unset, .unset] [(.int (1 : Int32))])) _
              refine XS.istore X36.here hx rfl (hb hby at_142) rfl (l' := #[.val (.long u0), .second, .val (.long id0), .second, .val (.long b0), .second, .val (.long idd), .second, .val (.long byt), .second, .val (.int flg), .val (.int w1), .val (.int w2), .val (.long unf), .second, .val (.long xx), .second, .val (.ref a1), .val (.long b0), .second, .val (.long ((0 : Int64) + byt)), .second, .val (.int (1 : Int32)), .unset, .unset, .unset, .unset]) rfl ?_
              show Steps p.tables e below (T36.setTop (mkF m 144 #[.val (.long u0), .second, .val (.long id0), .second, .val (.long b0), .second, .val (.long idd), .second, .val (.long byt), .second, .val (.int flg), .val (.int w1), .val (.int w2), .val (.long unf), .second, .val (.long xx), .second, .val (.ref a1), .val (.long b0), .second, .val (.long ((0 : Int64) + byt)), .second, .val (.int (1 : Int32)), .unset, .unset, .unset, .unset] [])) _
              exact k
            exact ⟨b0, ((0 : Int64) + byt), (1 : Int32), _, _, X36, N36, e36, (by first | (simp [own_itJ, own_itI, hc87, hc105, hc118, hc134]; done) | contradiction | (simp [own_itJ, own_itI, hc87, hc105, hc118, hc134]; decide)), pre55⟩
    · skip
      have pre56 : ∀ t, Steps p.tables e below (T36.setTop (mkF m 144 #[.val (.long u0), .second, .val (.long id0), .second, .val (.long b0), .second, .val (.long idd), .second, .val (.long byt), .second, .val (.int flg), .val (.int w1), .val (.int w2), .val (.long unf), .second, .val (.long xx), .second, .val (.ref a1), .val (.long byt), .second, .val (.long (0 : Int64)), .second, .val (.int (0 : Int32)), .unset, .unset, .unset, .unset] [])) t → Steps p.tables e below (s₁.setTop (entryFrame m #[(.long u0), (.long id0), (.long b0), (.long idd), (.long byt), (.int flg)] maxLocals)) t := by
        intro t k
        refine pre40 t ?_
        refine XS.ifNo X36.here hx rfl (hb hby at_87) rfl (XT.i0_eq_f hc87) ?_
        show Steps p.tables e below (T36.setTop (mkF m 90 #[.val (.long u0), .second, .val (.long id0), .second, .val (.long b0), .second, .val (.long idd), .second, .val (.long byt), .second, .val (.int flg), .val (.int w1), .val (.int w2), .val (.long unf), .second, .val (.long xx), .second, .val (.ref a1), .unset, .unset, .unset, .unset, .unset, .unset, .unset, .unset, .unset] [])) _
        refine XT.lload X36.here hx rfl (hb hby at_90) rfl ?_
        show Steps p.tables e below (T36.setTop (mkF m 92 #[.val (.long u0), .second, .val (.long id0), .second, .val (.long b0), .second, .val (.long idd), .second, .val (.long byt), .second, .val (.int flg), .val (.int w1), .val (.int w2), .val (.long unf), .second, .val (.long xx), .second, .val (.ref a1), .unset, .unset, .unset, .unset, .unset, .unset, .unset, .unset, .unset] [(.long byt)])) _
        refine XT.lstore X36.here hx rfl (hb hby at_92) rfl (l' := #[.val (.long u0), .second, .val (.long id0), .second, .val (.long b0), .second, .val (.long idd), .second, .val (.long byt), .second, .val (.int flg), .val (.int w1), .val (.int w2), .val (.long unf), .second, .val (.long xx), .second, .val (.ref a1), .val (.long byt), .second, .unset, .unset, .unset, .unset, .unset, .unset, .unset]) rfl ?_
        show Steps p.tables e below (T36.setTop (mkF m 94 #[.val (.long u0), .second, .val (.long id0), .second, .val (.long b0), .second, .val (.long idd), .second, .val (.long byt), .second, .val (.int flg), .val (.int w1), .val (.int w2), .val (.long unf), .second, .val (.long xx), .second, .val (.ref a1), .val (.long byt), .second, .unset, .unset, .unset, .unset, .unset, .unset, .unset] [])) _
        refine XT.lconst X36.here hx rfl (hb hby at_94) ?_
        show Steps p.tables e below (T36.setTop (mkF m 95 #[.val (.long u0), .second, .val (.long id0), .second, .val (.long b0), .second, .val (.long idd), .second, .val (.long byt), .second, .val (.int flg), .val (.int w1), .val (.int w2), .val (.long unf), .second, .val (.long xx), .second, .val (.ref a1), .val (.long byt), .second, .unset, .unset, .unset, .unset, .unset, .unset, .unset] [(.long (0 : Int64))])) _
        refine XT.lstore X36.here hx rfl (hb hby at_95) rfl (l' := #[.val (.long u0), .second, .val (.long id0), .second, .val (.long b0), .second, .val (.long idd), .second, .val (.long byt), .second, .val (.int flg), .val (.int w1), .val (.int w2), .val (.long unf), .second, .val (.long xx), .second, .val (.ref a1), .val (.long byt), .second, .val (.long (0 : Int64)), .second, .unset, .unset, .unset, .unset, .unset]) rfl ?_
        show Steps p.tables e below (T36.setTop (mkF m 97 #[.val (.long u0), .second, .val (.long id0), .second, .val (.long b0), .second, .val (.long idd), .second, .val (.long byt), .second, .val (.int flg), .val (.int w1), .val (.int w2), .val (.long unf), .second, .val (.long xx), .second, .val (.ref a1), .val (.long byt), .second, .val (.long (0 : Int64)), .second, .unset, .unset, .unset, .unset, .unset] [])) _
        refine XS.iconst X36.here hx rfl (hb hby at_97) ?_
        show Steps p.tables e below (T36.setTop (mkF m 98 #[.val (.long u0), .second, .val (.long id0), .second, .val (.long b0), .second, .val (.long idd), .second, .val (.long byt), .second, .val (.int flg), .val (.int w1), .val (.int w2), .val (.long unf), .second, .val (.long xx), .second, .val (.ref a1), .val (.long byt), .second, .val (.long (0 : Int64)), .second, .unset, .unset, .unset, .unset, .unset] [(.int (0 : Int32))])) _
        refine XS.istore X36.here hx rfl (hb hby at_98) rfl (l' := #[.val (.long u0), .second, .val (.long id0), .second, .val (.long b0), .second, .val (.long idd), .second, .val (.long byt), .second, .val (.int flg), .val (.int w1), .val (.int w2), .val (.long unf), .second, .val (.long xx), .second, .val (.ref a1), .val (.long byt), .second, .val (.long (0 : Int64)), .second, .val (.int (0 : Int32)), .unset, .unset, .unset, .unset]) rfl ?_
        show Steps p.tables e below (T36.setTop (mkF m 100 #[.val (.long u0), .second, .val (.long id0), .second, .val (.long b0), .second, .val (.long idd), .second, .val (.long byt), .second, .val (.int flg), .val (.int w1), .val (.int w2), .val (.long unf), .second, .val (.long xx), .second, .val (.ref a1), .val (.long byt), .second, .val (.long (0 : Int64)), .second, .val (.int (0 : Int32)), .unset, .unset, .unset, .unset] [])) _
        refine XS.goto X36.here hx rfl (pc0 := 100) (pc' := 144) rfl (hb hby at_100) (by decide) (by decide) ?_
        show Steps p.tables e below (T36.setTop (mkF m 144 #[.val (.long u0), .second, .val (.long id0), .second, .val (.long b0), .second, .val (.long idd), .second, .val (.long byt), .second, .val (.int flg), .val (.int w1), .val (.int w2), .val (.long unf), .second, .val (.long xx), .second, .val (.ref a1), .val (.long byt), .second, .val (.long (0 : Int64)), .second, .val (.int (0 : Int32)), .unset, .unset, .unset, .unset] [])) _
        exact k
      exact ⟨byt, (0 : Int64), (0 : Int32), _, _, X36, N36, e36, (by first | (simp [own_itJ, own_itI, hc87]; done) | contradiction | (simp [own_itJ, own_itI, hc87]; decide)), pre56⟩
  obtain ⟨we, ce, he, T39, Lo39, X39, N39, e39, hwe_ce_he, pre39⟩ := mrg39
  have pre58 : ∀ t, Steps p.tables e below (T39.setTop (mkF m 146 #[.val (.long u0), .second, .val (.long id0), .second, .val (.long b0), .second, .val (.long idd), .second, .val (.long byt), .second, .val (.int flg), .val (.int w1), .val (.int w2), .val (.long unf), .second, .val (.long xx), .second, .val (.ref a1), .val (.long we), .second, .val (.long ce), .second, .val (.int he), .unset, .unset, .unset, .unset] [(.ref a1)])) t → Steps p.tables e below (s₁.setTop (entryFrame m #[(.long u0), (.long id0), (.long b0), (.long idd), (.long byt), (.int flg)] maxLocals)) t := by
    intro t k
    refine pre39 t ?_
    refine XS.aload X39.here hx rfl (hb hby at_144) rfl rfl ?_
    show Steps p.tables e below (T39.setTop (mkF m 146 #[.val (.long u0), .second, .val (.long id0), .second, .val (.long b0), .second, .val (.long idd), .second, .val (.long byt), .second, .val (.int flg), .val (.int w1), .val (.int w2), .val (.long unf), .second, .val (.long xx), .second, .val (.ref a1), .val (.long we), .second, .val (.long ce), .second, .val (.int he), .unset, .unset, .unset, .unset] [(.ref a1)])) _
    exact k
  obtain ⟨cq60, kq60, q60a, q60b, q60c⟩ := isOf hZ e39 E38_0
  obtain ⟨_, _, ⟨T60, L60, k60, n60⟩, -, X60, ⟨Lc60, hQ60, l60, y60, z60⟩, st60⟩ := X39.virtualBack hx (y := (⟨"com/example/sluice/sluice/checkpoint/ChainAccount", "left", "()J"⟩ : MethodName)) (z := (⟨"com/example/sluice/sluice/checkpoint/ChainAccount", "left", "()J"⟩ : MethodName)) hown (mvT hZ (hw _ (List.mem_of_getElem? (i := 24) rfl))) (mvT hZ (hw _ (List.mem_of_getElem? (i := 25) rfl))) (notFace_of_selects (args := #[]) (mvT hZ (hw _ (List.mem_of_getElem? (i := 27) rfl)))) (mvT hZ (hw _ (List.mem_of_getElem? (i := 27) rfl))) (mvT hZ (hw _ (List.mem_of_getElem? (i := 26) rfl))) (by decide) (backOf (W := 0) (rm4 l Z a0 hw [] a1 unf (own_itJ w1 (own_itJ w2 (0 : Int64) b0) byt) (own_itJ w1 ((own_itJ w2 ((0 : Int64) + b0) (0 : Int64)) + byt) (0 : Int64)) (own_itI w1 ((own_itI w2 ((0 : Int32) + (1 : Int32)) (0 : Int32)) + (1 : Int32)) (0 : Int32)) idd h36 n0 Z38 Fa36 Fb36 Fc36 Fd36 Fe36) hZ (hw _ (List.mem_of_getElem? (i := 28) rfl)) (hw _ (List.mem_of_getElem? (i := 2) rfl)) (by decide) (by decide)) q60a q60c (g := (mkF m 146 #[.val (.long u0), .second, .val (.long id0), .second, .val (.long b0), .second, .val (.long idd), .second, .val (.long byt), .second, .val (.int flg), .val (.int w1), .val (.int w2), .val (.long unf), .second, .val (.long xx), .second, .val (.ref a1), .val (.long we), .second, .val (.long ce), .second, .val (.int he), .unset, .unset, .unset, .unset] [(.ref a1)])) rfl (by rw [hml]; rfl) (Steps.refl _) (argsL := []) (rest := []) (lenOf pd_left rfl) rfl (by show 2 * 0 + _ ≤ _; exact Nat.le_of_eq rfl) (hb hby at_146) (fun _ _ => ⟨rfl, e39, (by decide : 1 + 0 ≤ _), (by decide : 5 + 0 ≤ _)⟩)
  dsimp only [Pt.U, Pt.locs, Pt.cells, Pt.slots] at X60 l60 y60 z60 st60 hQ60
  subst l60 y60 z60
  obtain ⟨rfl, Nq60, heq60⟩ := hQ60
  have N60 := Fr.app N39 Nq60
  have pre61 : ∀ t, Steps p.tables e below (T60.setTop (mkF m 149 #[.val (.long u0), .second, .val (.long id0), .second, .val (.long b0), .second, .val (.long idd), .second, .val (.long byt), .second, .val (.int flg), .val (.int w1), .val (.int w2), .val (.long unf), .second, .val (.long xx), .second, .val (.ref a1), .val (.long we), .second, .val (.long ce), .second, .val (.int he), .unset, .unset, .unset, .unset] [(.long ((own_itJ w1 (own_itJ w2 (0 : Int64) b0) byt) - (own_itJ w1 ((own_itJ w2 ((0 : Int64) + b0) (0 : Int64)) + byt) (0 : Int64))))])) t → Steps p.tables e below (s₁.setTop (entryFrame m #[(.long u0), (.long id0), (.long b0), (.long idd), (.long byt), (.int flg)] maxLocals)) t := fun t k => pre58 t (st60.trans k)
  have pre63 : ∀ t, Steps p.tables e below (T60.setTop (mkF m 167 #[.val (.long u0), .second, .val (.long id0), .second, .val (.long b0), .second, .val (.long idd), .second, .val (.long byt), .second, .val (.int flg), .val (.int w1), .val (.int w2), .val (.long unf), .second, .val (.long xx), .second, .val (.ref a1), .val (.long we), .second, .val (.long ce), .second, .val (.int he), .val (.int (1 : Int32)), .unset, .unset, .unset] [(.ref a1)])) t → Steps p.tables e below (s₁.setTop (entryFrame m #[(.long u0), (.long id0), (.long b0), (.long idd), (.long byt), (.int flg)] maxLocals)) t := by
    intro t k
    refine pre61 t ?_
    refine XT.lload X60.here hx rfl (hb hby at_149) rfl ?_
    show Steps p.tables e below (T60.setTop (mkF m 151 #[.val (.long u0), .second, .val (.long id0), .second, .val (.long b0), .second, .val (.long idd), .second, .val (.long byt), .second, .val (.int flg), .val (.int w1), .val (.int w2), .val (.long unf), .second, .val (.long xx), .second, .val (.ref a1), .val (.long we), .second, .val (.long ce), .second, .val (.int he), .unset, .unset, .unset, .unset] [(.long we), (.long ((own_itJ w1 (own_itJ w2 (0 : Int64) b0) byt) - (own_itJ w1 ((own_itJ w2 ((0 : Int64) + b0) (0 : Int64)) + byt) (0 : Int64))))])) _
    refine XT.lload X60.here hx rfl (hb hby at_151) rfl ?_
    show Steps p.tables e below (T60.setTop (mkF m 153 #[.val (.long u0), .second, .val (.long id0), .second, .val (.long b0), .second, .val (.long idd), .second, .val (.long byt), .second, .val (.int flg), .val (.int w1), .val (.int w2), .val (.long unf), .second, .val (.long xx), .second, .val (.ref a1), .val (.long we), .second, .val (.long ce), .second, .val (.int he), .unset, .unset, .unset, .unset] [(.long ce), (.long we), (.long ((own_itJ w1 (own_itJ w2 (0 : Int64) b0) byt) - (own_itJ w1 ((own_itJ w2 ((0 : Int64) + b0) (0 : Int64)) + byt) (0 : Int64))))])) _
    refine XT.lsub X60.here hx rfl (hb hby at_153) rfl ?_
    show Steps p.tables e below (T60.setTop (mkF m 154 #[.val (.long u0), .second, .val (.long id0), .second, .val (.long b0), .second, .val (.long idd), .second, .val (.long byt), .second, .val (.int flg), .val (.int w1), .val (.int w2), .val (.long unf), .second, .val (.long xx), .second, .val (.ref a1), .val (.long we), .second, .val (.long ce), .second, .val (.int he), .unset, .unset, .unset, .unset] [(.long (we - ce)), (.long ((own_itJ w1 (own_itJ w2 (0 : Int64) b0) byt) - (own_itJ w1 ((own_itJ w2 ((0 : Int64) + b0) (0 : Int64)) + byt) (0 : Int64))))])) _
    refine XT.lcmp X60.here hx rfl (hb hby at_154) rfl ?_
    show Steps p.tables e below (T60.setTop (mkF m 155 #[.val (.long u0), .second, .val (.long id0), .second, .val (.long b0), .second, .val (.long idd), .second, .val (.long byt), .second, .val (.int flg), .val (.int w1), .val (.int w2), .val (.long unf), .second, .val (.long xx), .second, .val (.ref a1), .val (.long we), .second, .val (.long ce), .second, .val (.int he), .unset, .unset, .unset, .unset] [(.int (XT.cmpL ((own_itJ w1 (own_itJ w2 (0 : Int64) b0) byt) - (own_itJ w1 ((own_itJ w2 ((0 : Int64) + b0) (0 : Int64)) + byt) (0 : Int64))) (we - ce)))])) _
    refine XS.ifNo X60.here hx rfl (hb hby at_155) rfl (XT.ll_ne_f (by rw [hwe_ce_he.1, hwe_ce_he.2.1])) ?_
    show Steps p.tables e below (T60.setTop (mkF m 158 #[.val (.long u0), .second, .val (.long id0), .second, .val (.long b0), .second, .val (.long idd), .second, .val (.long byt), .second, .val (.int flg), .val (.int w1), .val (.int w2), .val (.long unf), .second, .val (.long xx), .second, .val (.ref a1), .val (.long we), .second, .val (.long ce), .second, .val (.int he), .unset, .unset, .unset, .unset] [])) _
    refine XS.iconst X60.here hx rfl (hb hby at_158) ?_
    show Steps p.tables e below (T60.setTop (mkF m 159 #[.val (.long u0), .second, .val (.long id0), .second, .val (.long b0), .second, .val (.long idd), .second, .val (.long byt), .second, .val (.int flg), .val (.int w1), .val (.int w2), .val (.long unf), .second, .val (.long xx), .second, .val (.ref a1), .val (.long we), .second, .val (.long ce), .second, .val (.int he), .unset, .unset, .unset, .unset] [(.int (1 : Int32))])) _
    refine XS.goto X60.here hx rfl (pc0 := 159) (pc' := 163) rfl (hb hby at_159) (by decide) (by decide) ?_
    show Steps p.tables e below (T60.setTop (mkF m 163 #[.val (.long u0), .second, .val (.long id0), .second, .val (.long b0), .second, .val (.long idd), .second, .val (.long byt), .second, .val (.int flg), .val (.int w1), .val (.int w2), .val (.long unf), .second, .val (.long xx), .second, .val (.ref a1), .val (.long we), .second, .val (.long ce), .second, .val (.int he), .unset, .unset, .unset, .unset] [(.int (1 : Int32))])) _
    refine XS.istore X60.here hx rfl (hb hby at_163) rfl (l' := #[.val (.long u0), .second, .val (.long id0), .second, .val (.long b0), .second, .val (.long idd), .second, .val (.long byt), .second, .val (.int flg), .val (.int w1), .val (.int w2), .val (.long unf), .second, .val (.long xx), .second, .val (.ref a1), .val (.long we), .second, .val (.long ce), .second, .val (.int he), .val (.int (1 : Int32)), .unset, .unset, .unset]) rfl ?_
    show Steps p.tables e below (T60.setTop (mkF m 165 #[.val (.long u0), .second, .val (.long id0), .second, .val (.long b0), .second, .val (.long idd), .second, .val (.long byt), .second, .val (.int flg), .val (.int w1), .val (.int w2), .val (.long unf), .second, .val (.long xx), .second, .val (.ref a1), .val (.long we), .second, .val (.long ce), .second, .val (.int he), .val (.int (1 : Int32)), .unset, .unset, .unset] [])) _
    refine XS.aload X60.here hx rfl (hb hby at_165) rfl rfl ?_
    show Steps p.tables e below (T60.setTop (mkF m 167 #[.val (.long u0), .second, .val (.long id0), .second, .val (.long b0), .second, .val (.long idd), .second, .val (.long byt), .second, .val (.int flg), .val (.int w1), .val (.int w2), .val (.long unf), .second, .val (.long xx), .second, .val (.ref a1), .val (.long we), .second, .val (.long ce), .second, .val (.int he), .val (.int (1 : Int32)), .unset, .unset, .unset] [(.ref a1)])) _
    exact k
  obtain ⟨cq65, kq65, q65a, q65b, q65c⟩ := isOf hZ heq60 E38_0
  obtain ⟨_, _, ⟨T65, L65, k65, n65⟩, -, X65, ⟨Lc65, hQ65, l65, y65, z65⟩, st65⟩ := X60.virtualBack hx (y := (⟨"com/example/sluice/sluice/checkpoint/ChainAccount", "noChanges", "()Z"⟩ : MethodName)) (z := (⟨"com/example/sluice/sluice/checkpoint/ChainAccount", "noChanges", "()Z"⟩ : MethodName)) hown (mvT hZ (hw _ (List.mem_of_getElem? (i := 29) rfl))) (mvT hZ (hw _ (List.mem_of_getElem? (i := 30) rfl))) (notFace_of_selects (args := #[]) (mvT hZ (hw _ (List.mem_of_getElem? (i := 32) rfl)))) (mvT hZ (hw _ (List.mem_of_getElem? (i := 32) rfl))) (mvT hZ (hw _ (List.mem_of_getElem? (i := 31) rfl))) (by decide) (backOf (W := 0) (rm5 l Z a0 hw [] a1 unf (own_itJ w1 (own_itJ w2 (0 : Int64) b0) byt) (own_itJ w1 ((own_itJ w2 ((0 : Int64) + b0) (0 : Int64)) + byt) (0 : Int64)) (own_itI w1 ((own_itI w2 ((0 : Int32) + (1 : Int32)) (0 : Int32)) + (1 : Int32)) (0 : Int32)) idd h36 n0 Z38 Fa36 Fb36 Fc36 Fd36 Fe36) hZ (hw _ (List.mem_of_getElem? (i := 33) rfl)) (hw _ (List.mem_of_getElem? (i := 2) rfl)) (by decide) (by decide)) q65a q65c (g := (mkF m 167 #[.val (.long u0), .second, .val (.long id0), .second, .val (.long b0), .second, .val (.long idd), .second, .val (.long byt), .second, .val (.int flg), .val (.int w1), .val (.int w2), .val (.long unf), .second, .val (.long xx), .second, .val (.ref a1), .val (.long we), .second, .val (.long ce), .second, .val (.int he), .val (.int (1 : Int32)), .unset, .unset, .unset] [(.ref a1)])) rfl (by rw [hml]; rfl) (Steps.refl _) (argsL := []) (rest := []) (lenOf pd_no rfl) rfl (by show 2 * 0 + _ ≤ _; exact Nat.le_of_eq rfl) (hb hby at_167) (fun _ _ => ⟨rfl, heq60, (by decide : 1 + 0 ≤ _), (by decide : 5 + 0 ≤ _)⟩)
  dsimp only [Pt.U, Pt.locs, Pt.cells, Pt.slots] at X65 l65 y65 z65 st65 hQ65
  subst l65 y65 z65
  obtain ⟨rfl, Nq65, heq65⟩ := hQ65
  have N65 := Fr.app N60 Nq65
  have pre66 : ∀ t, Steps p.tables e below (T65.setTop (mkF m 170 #[.val (.long u0), .second, .val (.long id0), .second, .val (.long b0), .second, .val (.long idd), .second, .val (.long byt), .second, .val (.int flg), .val (.int w1), .val (.int w2), .val (.long unf), .second, .val (.long xx), .second, .val (.ref a1), .val (.long we), .second, .val (.long ce), .second, .val (.int he), .val (.int (1 : Int32)), .unset, .unset, .unset] [(.int (own_bi ((own_itI w1 ((own_itI w2 ((0 : Int32) + (1 : Int32)) (0 : Int32)) + (1 : Int32)) (0 : Int32)) = 0)))])) t → Steps p.tables e below (s₁.setTop (entryFrame m #[(.long u0), (.long id0), (.long b0), (.long idd), (.long byt), (.int flg)] maxLocals)) t := fun t k => pre63 t (st65.trans k)
  have mrg67 : ∃ (e1 : Int32) (T67 : State) (Lo67 : List Loc), Stand p l e room_1 s m #[(.long u0), (.long id0), (.long b0), (.long idd), (.long byt), (.int flg)] below meth c T67 Lo67 1 5 ∧ Fr n0 Lo67 ∧ T67.heap = h36 ∧ (e1 = own_bi (he = 0)) ∧ ∀ t, Steps p.tables e below (T67.setTop (mkF m 180 #[.val (.long u0), .second, .val (.long id0), .second, .val (.long b0), .second, .val (.long idd), .second, .val (.long byt), .second, .val (.int flg), .val (.int w1), .val (.int w2), .val (.long unf), .second, .val (.long xx), .second, .val (.ref a1), .val (.long we), .second, .val (.long ce), .second, .val (.int he), .val (.int (1 : Int32)), .unset, .unset, .unset] [(.int e1), (.int (own_bi ((own_itI w1 ((own_itI w2 ((0 : Int32) + (1 : Int32)) (0 : Int32)) + (1 : Int32)) (0 : Int32)) = 0)))])) t → Steps p.tables e below (s₁.setTop (entryFrame m #[(.long u0), (.long id0), (.long b0), (.long idd), (.long byt), (.int flg)] maxLocals)) t := by
    have pre68 : ∀ t, Steps p.tables e below (T65.setTop (mkF m 172 #[.val (.long u0), .second, .val (.long id0), .second, .val (.long b0), .second, .val (.long idd), .second, .val (.long byt), .second, .val (.int flg), .val (.int w1), .val (.int w2), .val (.long unf), .second, .val (.long xx), .second, .val (.ref a1), .val (.long we), .second, .val (.long ce), .second, .val (.int he), .val (.int (1 : Int32)), .unset, .unset, .unset] [(.int he), (.int (own_bi ((own_itI w1 ((own_itI w2 ((0 : Int32) + (1 : Int32)) (0 : Int32)) + (1 : Int32)) (0 : Int32)) = 0)))])) t → Steps p.tables e below (s₁.setTop (entryFrame m #[(.long u0), (.long id0), (.long b0), (.long idd), (.long byt), (.int flg)] maxLocals)) t := by
      intro t k
      refine pre66 t ?_
      refine XS.iload X65.here hx rfl (hb hby at_170) rfl ?_
      show Steps p.tables e below (T65.setTop (mkF m 172 #[.val (.long u0), .second, .val (.long id0), .second, .val (.long b0), .second, .val (.long idd), .second, .val (.long byt), .second, .val (.int flg), .val (.int w1), .val (.int w2), .val (.long unf), .second, .val (.long xx), .second, .val (.ref a1), .val (.long we), .second, .val (.long ce), .second, .val (.int he), .val (.int (1 : Int32)), .unset, .unset, .unset] [(.int he), (.int (own_bi ((own_itI w1 ((own_itI w2 ((0 : Int32) + (1 : Int32)) (0 : Int32)) + (1 : Int32)) (0 : Int32)) = 0)))])) _
      exact k
    by_cases hc172 : he = (0 : Int32)
    · skip
      have pre69 : ∀ t, Steps p.tables e below (T65.setTop (mkF m 180 #[.val (.long u0), .second, .val (.long id0), .second, .val (.long b0), .second, .val (.long idd), .second, .val (.long byt), .second, .val (.int flg), .val (.int w1), .val (.int w2), .val (.long unf), .second, .val (.long xx), .second, .val (.ref a1), .val (.long we), .second, .val (.long ce), .second, .val (.int he), .val (.int (1 : Int32)), .unset, .unset, .unset] [(.int (1 : Int32)), (.int (own_bi ((own_itI w1 ((own_itI w2 ((0 : Int32) + (1 : Int32)) (0 : Int32)) + (1 : Int32)) (0 : Int32)) = 0)))])) t → Steps p.tables e below (s₁.setTop (entryFrame m #[(.long u0), (.long id0), (.long b0), (.long idd), (.long byt), (.int flg)] maxLocals)) t := by
        intro t k
        refine pre68 t ?_
        refine XS.ifNo X65.here hx rfl (hb hby at_172) rfl (XT.i0_ne_f hc172) ?_
        show Steps p.tables e below (T65.setTop (mkF m 175 #[.val (.long u0), .second, .val (.long id0), .second, .val (.long b0), .second, .val (.long idd), .second, .val (.long byt), .second, .val (.int flg), .val (.int w1), .val (.int w2), .val (.long unf), .second, .val (.long xx), .second, .val (.ref a1), .val (.long we), .second, .val (.long ce), .second, .val (.int he), .val (.int (1 : Int32)), .unset, .unset, .unset] [(.int (own_bi ((own_itI w1 ((own_itI w2 ((0 : Int32) + (1 : Int32)) (0 : Int32)) + (1 : Int32)) (0 : Int32)) = 0)))])) _
        refine XS.iconst X65.here hx rfl (hb hby at_175) ?_
        show Steps p.tables e below (T65.setTop (mkF m 176 #[.val (.long u0), .second, .val (.long id0), .second, .val (.long b0), .second, .val (.long idd), .second, .val (.long byt), .second, .val (.int flg), .val (.int w1), .val (.int w2), .val (.long unf), .second, .val (.long xx), .second, .val (.ref a1), .val (.long we), .second, .val (.long ce), .second, .val (.int he), .val (.int (1 : Int32)), .unset, .unset, .unset] [(.int (1 : Int32)), (.int (own_bi ((own_itI w1 ((own_itI w2 ((0 : Int32) + (1 : Int32)) (0 : Int32)) + (1 : Int32)) (0 : Int32)) = 0)))])) _
        refine XS.goto X65.here hx rfl (pc0 := 176) (pc' := 180) rfl (hb hby at_176) (by decide) (by decide) ?_
        show Steps p.tables e below (T65.setTop (mkF m 180 #[.val (.long u0), .second, .val (.long id0), .second, .val (.long b0), .second, .val (.long idd), .second, .val (.long byt), .second, .val (.int flg), .val (.int w1), .val (.int w2), .val (.long unf), .second, .val (.long xx), .second, .val (.ref a1), .val (.long we), .second, .val (.long ce), .second, .val (.int he), .val (.int (1 : Int32)), .unset, .unset, .unset] [(.int (1 : Int32)), (.int (own_bi ((own_itI w1 ((own_itI w2 ((0 : Int32) + (1 : Int32)) (0 : Int32)) + (1 : Int32)) (0 : Int32)) = 0)))])) _
        exact k
      exact ⟨(1 : Int32), _, _, X65, N65, heq65, (by first | (simp [own_bi, hc172]; done) | contradiction), pre69⟩
    · skip
      have pre70 : ∀ t, Steps p.tables e below (T65.setTop (mkF m 180 #[.val (.long u0), .second, .val (.long id0), .second, .val (.long b0), .second, .val (.long idd), .second, .val (.long byt), .second, .val (.int flg), .val (.int w1), .val (.int w2), .val (.long unf), .second, .val (.long xx), .second, .val (.ref a1), .val (.long we), .second, .val (.long ce), .second, .val (.int he), .val (.int (1 : Int32)), .unset, .unset, .unset] [(.int (0 : Int32)), (.int (own_bi ((own_itI w1 ((own_itI w2 ((0 : Int32) + (1 : Int32)) (0 : Int32)) + (1 : Int32)) (0 : Int32)) = 0)))])) t → Steps p.tables e below (s₁.setTop (entryFrame m #[(.long u0), (.long id0), (.long b0), (.long idd), (.long byt), (.int flg)] maxLocals)) t := by
        intro t k
        refine pre68 t ?_
        refine XS.ifYes X65.here hx rfl (pc0 := 172) (pc' := 179) rfl (hb hby at_172) rfl (XT.i0_ne_t hc172) (by decide) (by decide) ?_
        show Steps p.tables e below (T65.setTop (mkF m 179 #[.val (.long u0), .second, .val (.long id0), .second, .val (.long b0), .second, .val (.long idd), .second, .val (.long byt), .second, .val (.int flg), .val (.int w1), .val (.int w2), .val (.long unf), .second, .val (.long xx), .second, .val (.ref a1), .val (.long we), .second, .val (.long ce), .second, .val (.int he), .val (.int (1 : Int32)), .unset, .unset, .unset] [(.int (own_bi ((own_itI w1 ((own_itI w2 ((0 : Int32) + (1 : Int32)) (0 : Int32)) + (1 : Int32)) (0 : Int32)) = 0)))])) _
        refine XS.iconst X65.here hx rfl (hb hby at_179) ?_
        show Steps p.tables e below (T65.setTop (mkF m 180 #[.val (.long u0), .second, .val (.long id0), .second, .val (.long b0), .second, .val (.long idd), .second, .val (.long byt), .second, .val (.int flg), .val (.int w1), .val (.int w2), .val (.long unf), .second, .val (.long xx), .second, .val (.ref a1), .val (.long we), .second, .val (.long ce), .second, .val (.int he), .val (.int (1 : Int32)), .unset, .unset, .unset] [(.int (0 : Int32)), (.int (own_bi ((own_itI w1 ((own_itI w2 ((0 : Int32) + (1 : Int32)) (0 : Int32)) + (1 : Int32)) (0 : Int32)) = 0)))])) _
        exact k
      exact ⟨(0 : Int32), _, _, X65, N65, heq65, (by first | (simp [own_bi, hc172]; done) | contradiction), pre70⟩
  obtain ⟨e1, T67, Lo67, X67, N67, e67, he1, pre67⟩ := mrg67
  have hch : (own_itI w1 ((own_itI w2 ((0 : Int32) + (1 : Int32)) (0 : Int32)) + (1 : Int32)) (0 : Int32)) < 100 := hwe_ce_he.2.2.1 ▸ hwe_ce_he.2.2.2
  have pre72 : ∀ t, Steps p.tables e below (T67.setTop (mkF m 196 #[.val (.long u0), .second, .val (.long id0), .second, .val (.long b0), .second, .val (.long idd), .second, .val (.long byt), .second, .val (.int flg), .val (.int w1), .val (.int w2), .val (.long unf), .second, .val (.long xx), .second, .val (.ref a1), .val (.long we), .second, .val (.long ce), .second, .val (.int he), .val (.int (1 : Int32)), .val (.int (1 : Int32)), .unset, .unset] [(.long (idd + (1 : Int64))), (.ref a1)])) t → Steps p.tables e below (s₁.setTop (entryFrame m #[(.long u0), (.long id0), (.long b0), (.long idd), (.long byt), (.int flg)] maxLocals)) t := by
    intro t k
    refine pre67 t ?_
    refine XS.icmpNo X67.here hx rfl (hb hby at_180) rfl (XT.ii_ne_f (by rw [he1, hwe_ce_he.2.2.1])) ?_
    show Steps p.tables e below (T67.setTop (mkF m 183 #[.val (.long u0), .second, .val (.long id0), .second, .val (.long b0), .second, .val (.long idd), .second, .val (.long byt), .second, .val (.int flg), .val (.int w1), .val (.int w2), .val (.long unf), .second, .val (.long xx), .second, .val (.ref a1), .val (.long we), .second, .val (.long ce), .second, .val (.int he), .val (.int (1 : Int32)), .unset, .unset, .unset] [])) _
    refine XS.iconst X67.here hx rfl (hb hby at_183) ?_
    show Steps p.tables e below (T67.setTop (mkF m 184 #[.val (.long u0), .second, .val (.long id0), .second, .val (.long b0), .second, .val (.long idd), .second, .val (.long byt), .second, .val (.int flg), .val (.int w1), .val (.int w2), .val (.long unf), .second, .val (.long xx), .second, .val (.ref a1), .val (.long we), .second, .val (.long ce), .second, .val (.int he), .val (.int (1 : Int32)), .unset, .unset, .unset] [(.int (1 : Int32))])) _
    refine XS.goto X67.here hx rfl (pc0 := 184) (pc' := 188) rfl (hb hby at_184) (by decide) (by decide) ?_
    show Steps p.tables e below (T67.setTop (mkF m 188 #[.val (.long u0), .second, .val (.long id0), .second, .val (.long b0), .second, .val (.long idd), .second, .val (.long byt), .second, .val (.int flg), .val (.int w1), .val (.int w2), .val (.long unf), .second, .val (.long xx), .second, .val (.ref a1), .val (.long we), .second, .val (.long ce), .second, .val (.int he), .val (.int (1 : Int32)), .unset, .unset, .unset] [(.int (1 : Int32))])) _
    refine XS.istore X67.here hx rfl (hb hby at_188) rfl (l' := #[.val (.long u0), .second, .val (.long id0), .second, .val (.long b0), .second, .val (.long idd), .second, .val (.long byt), .second, .val (.int flg), .val (.int w1), .val (.int w2), .val (.long unf), .second, .val (.long xx), .second, .val (.ref a1), .val (.long we), .second, .val (.long ce), .second, .val (.int he), .val (.int (1 : Int32)), .val (.int (1 : Int32)), .unset, .unset]) rfl ?_
    show Steps p.tables e below (T67.setTop (mkF m 190 #[.val (.long u0), .second, .val (.long id0), .second, .val (.long b0), .second, .val (.long idd), .second, .val (.long byt), .second, .val (.int flg), .val (.int w1), .val (.int w2), .val (.long unf), .second, .val (.long xx), .second, .val (.ref a1), .val (.long we), .second, .val (.long ce), .second, .val (.int he), .val (.int (1 : Int32)), .val (.int (1 : Int32)), .unset, .unset] [])) _
    refine XS.aload X67.here hx rfl (hb hby at_190) rfl rfl ?_
    show Steps p.tables e below (T67.setTop (mkF m 192 #[.val (.long u0), .second, .val (.long id0), .second, .val (.long b0), .second, .val (.long idd), .second, .val (.long byt), .second, .val (.int flg), .val (.int w1), .val (.int w2), .val (.long unf), .second, .val (.long xx), .second, .val (.ref a1), .val (.long we), .second, .val (.long ce), .second, .val (.int he), .val (.int (1 : Int32)), .val (.int (1 : Int32)), .unset, .unset] [(.ref a1)])) _
    refine XT.lload X67.here hx rfl (hb hby at_192) rfl ?_
    show Steps p.tables e below (T67.setTop (mkF m 194 #[.val (.long u0), .second, .val (.long id0), .second, .val (.long b0), .second, .val (.long idd), .second, .val (.long byt), .second, .val (.int flg), .val (.int w1), .val (.int w2), .val (.long unf), .second, .val (.long xx), .second, .val (.ref a1), .val (.long we), .second, .val (.long ce), .second, .val (.int he), .val (.int (1 : Int32)), .val (.int (1 : Int32)), .unset, .unset] [(.long idd), (.ref a1)])) _
    refine XT.lconst X67.here hx rfl (hb hby at_194) ?_
    show Steps p.tables e below (T67.setTop (mkF m 195 #[.val (.long u0), .second, .val (.long id0), .second, .val (.long b0), .second, .val (.long idd), .second, .val (.long byt), .second, .val (.int flg), .val (.int w1), .val (.int w2), .val (.long unf), .second, .val (.long xx), .second, .val (.ref a1), .val (.long we), .second, .val (.long ce), .second, .val (.int he), .val (.int (1 : Int32)), .val (.int (1 : Int32)), .unset, .unset] [(.long (1 : Int64)), (.long idd), (.ref a1)])) _
    refine XT.ladd X67.here hx rfl (hb hby at_195) rfl ?_
    show Steps p.tables e below (T67.setTop (mkF m 196 #[.val (.long u0), .second, .val (.long id0), .second, .val (.long b0), .second, .val (.long idd), .second, .val (.long byt), .second, .val (.int flg), .val (.int w1), .val (.int w2), .val (.long unf), .second, .val (.long xx), .second, .val (.ref a1), .val (.long we), .second, .val (.long ce), .second, .val (.int he), .val (.int (1 : Int32)), .val (.int (1 : Int32)), .unset, .unset] [(.long (idd + (1 : Int64))), (.ref a1)])) _
    exact k
  obtain ⟨cq74, kq74, q74a, q74b, q74c⟩ := isOf hZ e67 E38_0
  obtain ⟨_, _, ⟨T74, L74, k74, n74⟩, -, X74, ⟨Lc74, hQ74, l74, y74, z74⟩, st74⟩ := X67.virtualBack hx (y := (⟨"com/example/sluice/sluice/checkpoint/ChainAccount", "mayChange", "(J)Z"⟩ : MethodName)) (z := (⟨"com/example/sluice/sluice/checkpoint/ChainAccount", "mayChange", "(J)Z"⟩ : MethodName)) hown (mvT hZ (hw _ (List.mem_of_getElem? (i := 34) rfl))) (mvT hZ (hw _ (List.mem_of_getElem? (i := 35) rfl))) (notFace_of_selects (args := #[]) (mvT hZ (hw _ (List.mem_of_getElem? (i := 37) rfl)))) (mvT hZ (hw _ (List.mem_of_getElem? (i := 37) rfl))) (mvT hZ (hw _ (List.mem_of_getElem? (i := 36) rfl))) (by decide) (backOf (W := 0) (rm6 l Z a0 hw [] a1 (idd + (1 : Int64)) unf (own_itJ w1 (own_itJ w2 (0 : Int64) b0) byt) (own_itJ w1 ((own_itJ w2 ((0 : Int64) + b0) (0 : Int64)) + byt) (0 : Int64)) (own_itI w1 ((own_itI w2 ((0 : Int32) + (1 : Int32)) (0 : Int32)) + (1 : Int32)) (0 : Int32)) idd h36 n0 Z38 Fa36 Fb36 Fc36 Fd36 Fe36) hZ (hw _ (List.mem_of_getElem? (i := 38) rfl)) (hw _ (List.mem_of_getElem? (i := 2) rfl)) (by decide) (by decide)) q74a q74c (g := (mkF m 196 #[.val (.long u0), .second, .val (.long id0), .second, .val (.long b0), .second, .val (.long idd), .second, .val (.long byt), .second, .val (.int flg), .val (.int w1), .val (.int w2), .val (.long unf), .second, .val (.long xx), .second, .val (.ref a1), .val (.long we), .second, .val (.long ce), .second, .val (.int he), .val (.int (1 : Int32)), .val (.int (1 : Int32)), .unset, .unset] [(.long (idd + (1 : Int64))), (.ref a1)])) rfl (by rw [hml]; rfl) (Steps.refl _) (argsL := [(.long (idd + (1 : Int64)))]) (rest := []) (lenOf pd_may rfl) rfl (by show 2 * 0 + _ ≤ _; exact Nat.le_of_eq rfl) (hb hby at_196) (fun _ _ => ⟨rfl, e67, (by decide : 1 + 0 ≤ _), (by decide : 5 + 0 ≤ _)⟩)
  dsimp only [Pt.U, Pt.locs, Pt.cells, Pt.slots] at X74 l74 y74 z74 st74 hQ74
  subst l74 y74 z74
  obtain ⟨rfl, Nq74, heq74⟩ := hQ74
  have N74 := Fr.app N67 Nq74
  have pre75 : ∀ t, Steps p.tables e below (T74.setTop (mkF m 199 #[.val (.long u0), .second, .val (.long id0), .second, .val (.long b0), .second, .val (.long idd), .second, .val (.long byt), .second, .val (.int flg), .val (.int w1), .val (.int w2), .val (.long unf), .second, .val (.long xx), .second, .val (.ref a1), .val (.long we), .second, .val (.long ce), .second, .val (.int he), .val (.int (1 : Int32)), .val (.int (1 : Int32)), .unset, .unset] [(.int (own_bi (idd + (1 : Int64) = idd + 1 ∧ ¬ idd = unf ∧ (own_itI w1 ((own_itI w2 ((0 : Int32) + (1 : Int32)) (0 : Int32)) + (1 : Int32)) (0 : Int32)) < 100)))])) t → Steps p.tables e below (s₁.setTop (entryFrame m #[(.long u0), (.long id0), (.long b0), (.long idd), (.long byt), (.int flg)] maxLocals)) t := fun t k => pre72 t (st74.trans k)
  have mrg76 : ∃ (e2 : Int32) (T76 : State) (Lo76 : List Loc), Stand p l e room_1 s m #[(.long u0), (.long id0), (.long b0), (.long idd), (.long byt), (.int flg)] below meth c T76 Lo76 1 5 ∧ Fr n0 Lo76 ∧ T76.heap = h36 ∧ (e2 = own_bi (¬ idd = unf)) ∧ ∀ t, Steps p.tables e below (T76.setTop (mkF m 212 #[.val (.long u0), .second, .val (.long id0), .second, .val (.long b0), .second, .val (.long idd), .second, .val (.long byt), .second, .val (.int flg), .val (.int w1), .val (.int w2), .val (.long unf), .second, .val (.long xx), .second, .val (.ref a1), .val (.long we), .second, .val (.long ce), .second, .val (.int he), .val (.int (1 : Int32)), .val (.int (1 : Int32)), .unset, .unset] [(.int e2), (.int (own_bi (idd + (1 : Int64) = idd + 1 ∧ ¬ idd = unf ∧ (own_itI w1 ((own_itI w2 ((0 : Int32) + (1 : Int32)) (0 : Int32)) + (1 : Int32)) (0 : Int32)) < 100)))])) t → Steps p.tables e below (s₁.setTop (entryFrame m #[(.long u0), (.long id0), (.long b0), (.long idd), (.long byt), (.int flg)] maxLocals)) t := by
    have pre77 : ∀ t, Steps p.tables e below (T74.setTop (mkF m 204 #[.val (.long u0), .second, .val (.long id0), .second, .val (.long b0), .second, .val (.long idd), .second, .val (.long byt), .second, .val (.int flg), .val (.int w1), .val (.int w2), .val (.long unf), .second, .val (.long xx), .second, .val (.ref a1), .val (.long we), .second, .val (.long ce), .second, .val (.int he), .val (.int (1 : Int32)), .val (.int (1 : Int32)), .unset, .unset] [(.int (XT.cmpL idd unf)), (.int (own_bi (idd + (1 : Int64) = idd + 1 ∧ ¬ idd = unf ∧ (own_itI w1 ((own_itI w2 ((0 : Int32) + (1 : Int32)) (0 : Int32)) + (1 : Int32)) (0 : Int32)) < 100)))])) t → Steps p.tables e below (s₁.setTop (entryFrame m #[(.long u0), (.long id0), (.long b0), (.long idd), (.long byt), (.int flg)] maxLocals)) t := by
      intro t k
      refine pre75 t ?_
      refine XT.lload X74.here hx rfl (hb hby at_199) rfl ?_
      show Steps p.tables e below (T74.setTop (mkF m 201 #[.val (.long u0), .second, .val (.long id0), .second, .val (.long b0), .second, .val (.long idd), .second, .val (.long byt), .second, .val (.int flg), .val (.int w1), .val (.int w2), .val (.long unf), .second, .val (.long xx), .second, .val (.ref a1), .val (.long we), .second, .val (.long ce), .second, .val (.int he), .val (.int (1 : Int32)), .val (.int (1 : Int32)), .unset, .unset] [(.long idd), (.int (own_bi (idd + (1 : Int64) = idd + 1 ∧ ¬ idd = unf ∧ (own_itI w1 ((own_itI w2 ((0 : Int32) + (1 : Int32)) (0 : Int32)) + (1 : Int32)) (0 : Int32)) < 100)))])) _
      refine XT.lload X74.here hx rfl (hb hby at_201) rfl ?_
      show Steps p.tables e below (T74.setTop (mkF m 203 #[.val (.long u0), .second, .val (.long id0), .second, .val (.long b0), .second, .val (.long idd), .second, .val (.long byt), .second, .val (.int flg), .val (.int w1), .val (.int w2), .val (.long unf), .second, .val (.long xx), .second, .val (.ref a1), .val (.long we), .second, .val (.long ce), .second, .val (.int he), .val (.int (1 : Int32)), .val (.int (1 : Int32)), .unset, .unset] [(.long unf), (.long idd), (.int (own_bi (idd + (1 : Int64) = idd + 1 ∧ ¬ idd = unf ∧ (own_itI w1 ((own_itI w2 ((0 : Int32) + (1 : Int32)) (0 : Int32)) + (1 : Int32)) (0 : Int32)) < 100)))])) _
      refine XT.lcmp X74.here hx rfl (hb hby at_203) rfl ?_
      show Steps p.tables e below (T74.setTop (mkF m 204 #[.val (.long u0), .second, .val (.long id0), .second, .val (.long b0), .second, .val (.long idd), .second, .val (.long byt), .second, .val (.int flg), .val (.int w1), .val (.int w2), .val (.long unf), .second, .val (.long xx), .second, .val (.ref a1), .val (.long we), .second, .val (.long ce), .second, .val (.int he), .val (.int (1 : Int32)), .val (.int (1 : Int32)), .unset, .unset] [(.int (XT.cmpL idd unf)), (.int (own_bi (idd + (1 : Int64) = idd + 1 ∧ ¬ idd = unf ∧ (own_itI w1 ((own_itI w2 ((0 : Int32) + (1 : Int32)) (0 : Int32)) + (1 : Int32)) (0 : Int32)) < 100)))])) _
      exact k
    by_cases hc204 : idd = unf
    · skip
      have pre78 : ∀ t, Steps p.tables e below (T74.setTop (mkF m 212 #[.val (.long u0), .second, .val (.long id0), .second, .val (.long b0), .second, .val (.long idd), .second, .val (.long byt), .second, .val (.int flg), .val (.int w1), .val (.int w2), .val (.long unf), .second, .val (.long xx), .second, .val (.ref a1), .val (.long we), .second, .val (.long ce), .second, .val (.int he), .val (.int (1 : Int32)), .val (.int (1 : Int32)), .unset, .unset] [(.int (0 : Int32)), (.int (own_bi (idd + (1 : Int64) = idd + 1 ∧ ¬ idd = unf ∧ (own_itI w1 ((own_itI w2 ((0 : Int32) + (1 : Int32)) (0 : Int32)) + (1 : Int32)) (0 : Int32)) < 100)))])) t → Steps p.tables e below (s₁.setTop (entryFrame m #[(.long u0), (.long id0), (.long b0), (.long idd), (.long byt), (.int flg)] maxLocals)) t := by
        intro t k
        refine pre77 t ?_
        refine XS.ifYes X74.here hx rfl (pc0 := 204) (pc' := 211) rfl (hb hby at_204) rfl (XT.ll_eq_t hc204) (by decide) (by decide) ?_
        show Steps p.tables e below (T74.setTop (mkF m 211 #[.val (.long u0), .second, .val (.long id0), .second, .val (.long b0), .second, .val (.long idd), .second, .val (.long byt), .second, .val (.int flg), .val (.int w1), .val (.int w2), .val (.long unf), .second, .val (.long xx), .second, .val (.ref a1), .val (.long we), .second, .val (.long ce), .second, .val (.int he), .val (.int (1 : Int32)), .val (.int (1 : Int32)), .unset, .unset] [(.int (own_bi (idd + (1 : Int64) = idd + 1 ∧ ¬ idd = unf ∧ (own_itI w1 ((own_itI w2 ((0 : Int32) + (1 : Int32)) (0 : Int32)) + (1 : Int32)) (0 : Int32)) < 100)))])) _
        refine XS.iconst X74.here hx rfl (hb hby at_211) ?_
        show Steps p.tables e below (T74.setTop (mkF m 212 #[.val (.long u0), .second, .val (.long id0), .second, .val (.long b0), .second, .val (.long idd), .second, .val (.long byt), .second, .val (.int flg), .val (.int w1), .val (.int w2), .val (.long unf), .second, .val (.long xx), .second, .val (.ref a1), .val (.long we), .second, .val (.long ce), .second, .val (.int he), .val (.int (1 : Int32)), .val (.int (1 : Int32)), .unset, .unset] [(.int (0 : Int32)), (.int (own_bi (idd + (1 : Int64) = idd + 1 ∧ ¬ idd = unf ∧ (own_itI w1 ((own_itI w2 ((0 : Int32) + (1 : Int32)) (0 : Int32)) + (1 : Int32)) (0 : Int32)) < 100)))])) _
        exact k
      exact ⟨(0 : Int32), _, _, X74, N74, heq74, (by first | (simp [own_bi, hc204]; done) | contradiction), pre78⟩
    · skip
      have pre79 : ∀ t, Steps p.tables e below (T74.setTop (mkF m 212 #[.val (.long u0), .second, .val (.long id0), .second, .val (.long b0), .second, .val (.long idd), .second, .val (.long byt), .second, .val (.int flg), .val (.int w1), .val (.int w2), .val (.long unf), .second, .val (.long xx), .second, .val (.ref a1), .val (.long we), .second, .val (.long ce), .second, .val (.int he), .val (.int (1 : Int32)), .val (.int (1 : Int32)), .unset, .unset] [(.int (1 : Int32)), (.int (own_bi (idd + (1 : Int64) = idd + 1 ∧ ¬ idd = unf ∧ (own_itI w1 ((own_itI w2 ((0 : Int32) + (1 : Int32)) (0 : Int32)) + (1 : Int32)) (0 : Int32)) < 100)))])) t → Steps p.tables e below (s₁.setTop (entryFrame m #[(.long u0), (.long id0), (.long b0), (.long idd), (.long byt), (.int flg)] maxLocals)) t := by
        intro t k
        refine pre77 t ?_
        refine XS.ifNo X74.here hx rfl (hb hby at_204) rfl (XT.ll_eq_f hc204) ?_
        show Steps p.tables e below (T74.setTop (mkF m 207 #[.val (.long u0), .second, .val (.long id0), .second, .val (.long b0), .second, .val (.long idd), .second, .val (.long byt), .second, .val (.int flg), .val (.int w1), .val (.int w2), .val (.long unf), .second, .val (.long xx), .second, .val (.ref a1), .val (.long we), .second, .val (.long ce), .second, .val (.int he), .val (.int (1 : Int32)), .val (.int (1 : Int32)), .unset, .unset] [(.int (own_bi (idd + (1 : Int64) = idd + 1 ∧ ¬ idd = unf ∧ (own_itI w1 ((own_itI w2 ((0 : Int32) + (1 : Int32)) (0 : Int32)) + (1 : Int32)) (0 : Int32)) < 100)))])) _
        refine XS.iconst X74.here hx rfl (hb hby at_207) ?_
        show Steps p.tables e below (T74.setTop (mkF m 208 #[.val (.long u0), .second, .val (.long id0), .second, .val (.long b0), .second, .val (.long idd), .second, .val (.long byt), .second, .val (.int flg), .val (.int w1), .val (.int w2), .val (.long unf), .second, .val (.long xx), .second, .val (.ref a1), .val (.long we), .second, .val (.long ce), .second, .val (.int he), .val (.int (1 : Int32)), .val (.int (1 : Int32)), .unset, .unset] [(.int (1 : Int32)), (.int (own_bi (idd + (1 : Int64) = idd + 1 ∧ ¬ idd = unf ∧ (own_itI w1 ((own_itI w2 ((0 : Int32) + (1 : Int32)) (0 : Int32)) + (1 : Int32)) (0 : Int32)) < 100)))])) _
        refine XS.goto X74.here hx rfl (pc0 := 208) (pc' := 212) rfl (hb hby at_208) (by decide) (by decide) ?_
        show Steps p.tables e below (T74.setTop (mkF m 212 #[.val (.long u0), .second, .val (.long id0), .second, .val (.long b0), .second, .val (.long idd), .second, .val (.long byt), .second, .val (.int flg), .val (.int w1), .val (.int w2), .val (.long unf), .second, .val (.long xx), .second, .val (.ref a1), .val (.long we), .second, .val (.long ce), .second, .val (.int he), .val (.int (1 : Int32)), .val (.int (1 : Int32)), .unset, .unset] [(.int (1 : Int32)), (.int (own_bi (idd + (1 : Int64) = idd + 1 ∧ ¬ idd = unf ∧ (own_itI w1 ((own_itI w2 ((0 : Int32) + (1 : Int32)) (0 : Int32)) + (1 : Int32)) (0 : Int32)) < 100)))])) _
        exact k
      exact ⟨(1 : Int32), _, _, X74, N74, heq74, (by first | (simp [own_bi, hc204]; done) | contradiction), pre79⟩
  obtain ⟨e2, T76, Lo76, X76, N76, e76, he2, pre76⟩ := mrg76
  have pre81 : ∀ t, Steps p.tables e below (T76.setTop (mkF m 226 #[.val (.long u0), .second, .val (.long id0), .second, .val (.long b0), .second, .val (.long idd), .second, .val (.long byt), .second, .val (.int flg), .val (.int w1), .val (.int w2), .val (.long unf), .second, .val (.long xx), .second, .val (.ref a1), .val (.long we), .second, .val (.long ce), .second, .val (.int he), .val (.int (1 : Int32)), .val (.int (1 : Int32)), .val (.int (1 : Int32)), .unset] [(.long xx), (.ref a1)])) t → Steps p.tables e below (s₁.setTop (entryFrame m #[(.long u0), (.long id0), (.long b0), (.long idd), (.long byt), (.int flg)] maxLocals)) t := by
    intro t k
    refine pre76 t ?_
    refine XS.icmpNo X76.here hx rfl (hb hby at_212) rfl (XT.ii_ne_f (by rw [he2]; exact own_bi_eq ⟨fun q => q.2.1, fun q => ⟨rfl, q, hch⟩⟩)) ?_
    show Steps p.tables e below (T76.setTop (mkF m 215 #[.val (.long u0), .second, .val (.long id0), .second, .val (.long b0), .second, .val (.long idd), .second, .val (.long byt), .second, .val (.int flg), .val (.int w1), .val (.int w2), .val (.long unf), .second, .val (.long xx), .second, .val (.ref a1), .val (.long we), .second, .val (.long ce), .second, .val (.int he), .val (.int (1 : Int32)), .val (.int (1 : Int32)), .unset, .unset] [])) _
    refine XS.iconst X76.here hx rfl (hb hby at_215) ?_
    show Steps p.tables e below (T76.setTop (mkF m 216 #[.val (.long u0), .second, .val (.long id0), .second, .val (.long b0), .second, .val (.long idd), .second, .val (.long byt), .second, .val (.int flg), .val (.int w1), .val (.int w2), .val (.long unf), .second, .val (.long xx), .second, .val (.ref a1), .val (.long we), .second, .val (.long ce), .second, .val (.int he), .val (.int (1 : Int32)), .val (.int (1 : Int32)), .unset, .unset] [(.int (1 : Int32))])) _
    refine XS.goto X76.here hx rfl (pc0 := 216) (pc' := 220) rfl (hb hby at_216) (by decide) (by decide) ?_
    show Steps p.tables e below (T76.setTop (mkF m 220 #[.val (.long u0), .second, .val (.long id0), .second, .val (.long b0), .second, .val (.long idd), .second, .val (.long byt), .second, .val (.int flg), .val (.int w1), .val (.int w2), .val (.long unf), .second, .val (.long xx), .second, .val (.ref a1), .val (.long we), .second, .val (.long ce), .second, .val (.int he), .val (.int (1 : Int32)), .val (.int (1 : Int32)), .unset, .unset] [(.int (1 : Int32))])) _
    refine XS.istore X76.here hx rfl (hb hby at_220) rfl (l' := #[.val (.long u0), .second, .val (.long id0), .second, .val (.long b0), .second, .val (.long idd), .second, .val (.long byt), .second, .val (.int flg), .val (.int w1), .val (.int w2), .val (.long unf), .second, .val (.long xx), .second, .val (.ref a1), .val (.long we), .second, .val (.long ce), .second, .val (.int he), .val (.int (1 : Int32)), .val (.int (1 : Int32)), .val (.int (1 : Int32)), .unset]) rfl ?_
    show Steps p.tables e below (T76.setTop (mkF m 222 #[.val (.long u0), .second, .val (.long id0), .second, .val (.long b0), .second, .val (.long idd), .second, .val (.long byt), .second, .val (.int flg), .val (.int w1), .val (.int w2), .val (.long unf), .second, .val (.long xx), .second, .val (.ref a1), .val (.long we), .second, .val (.long ce), .second, .val (.int he), .val (.int (1 : Int32)), .val (.int (1 : Int32)), .val (.int (1 : Int32)), .unset] [])) _
    refine XS.aload X76.here hx rfl (hb hby at_222) rfl rfl ?_
    show Steps p.tables e below (T76.setTop (mkF m 224 #[.val (.long u0), .second, .val (.long id0), .second, .val (.long b0), .second, .val (.long idd), .second, .val (.long byt), .second, .val (.int flg), .val (.int w1), .val (.int w2), .val (.long unf), .second, .val (.long xx), .second, .val (.ref a1), .val (.long we), .second, .val (.long ce), .second, .val (.int he), .val (.int (1 : Int32)), .val (.int (1 : Int32)), .val (.int (1 : Int32)), .unset] [(.ref a1)])) _
    refine XT.lload X76.here hx rfl (hb hby at_224) rfl ?_
    show Steps p.tables e below (T76.setTop (mkF m 226 #[.val (.long u0), .second, .val (.long id0), .second, .val (.long b0), .second, .val (.long idd), .second, .val (.long byt), .second, .val (.int flg), .val (.int w1), .val (.int w2), .val (.long unf), .second, .val (.long xx), .second, .val (.ref a1), .val (.long we), .second, .val (.long ce), .second, .val (.int he), .val (.int (1 : Int32)), .val (.int (1 : Int32)), .val (.int (1 : Int32)), .unset] [(.long xx), (.ref a1)])) _
    exact k
  obtain ⟨cq83, kq83, q83a, q83b, q83c⟩ := isOf hZ e76 E38_0
  obtain ⟨_, _, ⟨T83, L83, k83, n83⟩, -, X83, ⟨Lc83, hQ83, l83, y83, z83⟩, st83⟩ := X76.virtualBack hx (y := (⟨"com/example/sluice/sluice/checkpoint/ChainAccount", "mayChange", "(J)Z"⟩ : MethodName)) (z := (⟨"com/example/sluice/sluice/checkpoint/ChainAccount", "mayChange", "(J)Z"⟩ : MethodName)) hown (mvT hZ (hw _ (List.mem_of_getElem? (i := 34) rfl))) (mvT hZ (hw _ (List.mem_of_getElem? (i := 35) rfl))) (notFace_of_selects (args := #[]) (mvT hZ (hw _ (List.mem_of_getElem? (i := 37) rfl)))) (mvT hZ (hw _ (List.mem_of_getElem? (i := 37) rfl))) (mvT hZ (hw _ (List.mem_of_getElem? (i := 36) rfl))) (by decide) (backOf (W := 0) (rm6 l Z a0 hw [] a1 xx unf (own_itJ w1 (own_itJ w2 (0 : Int64) b0) byt) (own_itJ w1 ((own_itJ w2 ((0 : Int64) + b0) (0 : Int64)) + byt) (0 : Int64)) (own_itI w1 ((own_itI w2 ((0 : Int32) + (1 : Int32)) (0 : Int32)) + (1 : Int32)) (0 : Int32)) idd h36 n0 Z38 Fa36 Fb36 Fc36 Fd36 Fe36) hZ (hw _ (List.mem_of_getElem? (i := 38) rfl)) (hw _ (List.mem_of_getElem? (i := 2) rfl)) (by decide) (by decide)) q83a q83c (g := (mkF m 226 #[.val (.long u0), .second, .val (.long id0), .second, .val (.long b0), .second, .val (.long idd), .second, .val (.long byt), .second, .val (.int flg), .val (.int w1), .val (.int w2), .val (.long unf), .second, .val (.long xx), .second, .val (.ref a1), .val (.long we), .second, .val (.long ce), .second, .val (.int he), .val (.int (1 : Int32)), .val (.int (1 : Int32)), .val (.int (1 : Int32)), .unset] [(.long xx), (.ref a1)])) rfl (by rw [hml]; rfl) (Steps.refl _) (argsL := [(.long xx)]) (rest := []) (lenOf pd_may rfl) rfl (by show 2 * 0 + _ ≤ _; exact Nat.le_of_eq rfl) (hb hby at_226) (fun _ _ => ⟨rfl, e76, (by decide : 1 + 0 ≤ _), (by decide : 5 + 0 ≤ _)⟩)
  dsimp only [Pt.U, Pt.locs, Pt.cells, Pt.slots] at X83 l83 y83 z83 st83 hQ83
  subst l83 y83 z83
  obtain ⟨rfl, Nq83, heq83⟩ := hQ83
  have N83 := Fr.app N76 Nq83
  have pre84 : ∀ t, Steps p.tables e below (T83.setTop (mkF m 229 #[.val (.long u0), .second, .val (.long id0), .second, .val (.long b0), .second, .val (.long idd), .second, .val (.long byt), .second, .val (.int flg), .val (.int w1), .val (.int w2), .val (.long unf), .second, .val (.long xx), .second, .val (.ref a1), .val (.long we), .second, .val (.long ce), .second, .val (.int he), .val (.int (1 : Int32)), .val (.int (1 : Int32)), .val (.int (1 : Int32)), .unset] [(.int (own_bi (xx = idd + 1 ∧ ¬ idd = unf ∧ (own_itI w1 ((own_itI w2 ((0 : Int32) + (1 : Int32)) (0 : Int32)) + (1 : Int32)) (0 : Int32)) < 100)))])) t → Steps p.tables e below (s₁.setTop (entryFrame m #[(.long u0), (.long id0), (.long b0), (.long idd), (.long byt), (.int flg)] maxLocals)) t := fun t k => pre81 t (st83.trans k)
  have mrg85 : ∃ (e3 : Int32) (T85 : State) (Lo85 : List Loc), Stand p l e room_1 s m #[(.long u0), (.long id0), (.long b0), (.long idd), (.long byt), (.int flg)] below meth c T85 Lo85 1 5 ∧ Fr n0 Lo85 ∧ T85.heap = h36 ∧ (e3 = own_bi (xx = idd + 1 ∧ ¬ idd = unf)) ∧ ∀ t, Steps p.tables e below (T85.setTop (mkF m 252 #[.val (.long u0), .second, .val (.long id0), .second, .val (.long b0), .second, .val (.long idd), .second, .val (.long byt), .second, .val (.int flg), .val (.int w1), .val (.int w2), .val (.long unf), .second, .val (.long xx), .second, .val (.ref a1), .val (.long we), .second, .val (.long ce), .second, .val (.int he), .val (.int (1 : Int32)), .val (.int (1 : Int32)), .val (.int (1 : Int32)), .unset] [(.int e3), (.int (own_bi (xx = idd + 1 ∧ ¬ idd = unf ∧ (own_itI w1 ((own_itI w2 ((0 : Int32) + (1 : Int32)) (0 : Int32)) + (1 : Int32)) (0 : Int32)) < 100)))])) t → Steps p.tables e below (s₁.setTop (entryFrame m #[(.long u0), (.long id0), (.long b0), (.long idd), (.long byt), (.int flg)] maxLocals)) t := by
    have pre86 : ∀ t, Steps p.tables e below (T83.setTop (mkF m 236 #[.val (.long u0), .second, .val (.long id0), .second, .val (.long b0), .second, .val (.long idd), .second, .val (.long byt), .second, .val (.int flg), .val (.int w1), .val (.int w2), .val (.long unf), .second, .val (.long xx), .second, .val (.ref a1), .val (.long we), .second, .val (.long ce), .second, .val (.int he), .val (.int (1 : Int32)), .val (.int (1 : Int32)), .val (.int (1 : Int32)), .unset] [(.int (XT.cmpL xx (idd + (1 : Int64)))), (.int (own_bi (xx = idd + 1 ∧ ¬ idd = unf ∧ (own_itI w1 ((own_itI w2 ((0 : Int32) + (1 : Int32)) (0 : Int32)) + (1 : Int32)) (0 : Int32)) < 100)))])) t → Steps p.tables e below (s₁.setTop (entryFrame m #[(.long u0), (.long id0), (.long b0), (.long idd), (.long byt), (.int flg)] maxLocals)) t := by
      intro t k
      refine pre84 t ?_
      refine XT.lload X83.here hx rfl (hb hby at_229) rfl ?_
      show Steps p.tables e below (T83.setTop (mkF m 231 #[.val (.long u0), .second, .val (.long id0), .second, .val (.long b0), .second, .val (.long idd), .second, .val (.long byt), .second, .val (.int flg), .val (.int w1), .val (.int w2), .val (.long unf), .second, .val (.long xx), .second, .val (.ref a1), .val (.long we), .second, .val (.long ce), .second, .val (.int he), .val (.int (1 : Int32)), .val (.int (1 : Int32)), .val (.int (1 : Int32)), .unset] [(.long xx), (.int (own_bi (xx = idd + 1 ∧ ¬ idd = unf ∧ (own_itI w1 ((own_itI w2 ((0 : Int32) + (1 : Int32)) (0 : Int32)) + (1 : Int32)) (0 : Int32)) < 100)))])) _
      refine XT.lload X83.here hx rfl (hb hby at_231) rfl ?_
      show Steps p.tables e below (T83.setTop (mkF m 233 #[.val (.long u0), .second, .val (.long id0), .second, .val (.long b0), .second, .val (.long idd), .second, .val (.long byt), .second, .val (.int flg), .val (.int w1), .val (.int w2), .val (.long unf), .second, .val (.long xx), .second, .val (.ref a1), .val (.long we), .second, .val (.long ce), .second, .val (.int he), .val (.int (1 : Int32)), .val (.int (1 : Int32)), .val (.int (1 : Int32)), .unset] [(.long idd), (.long xx), (.int (own_bi (xx = idd + 1 ∧ ¬ idd = unf ∧ (own_itI w1 ((own_itI w2 ((0 : Int32) + (1 : Int32)) (0 : Int32)) + (1 : Int32)) (0 : Int32)) < 100)))])) _
      refine XT.lconst X83.here hx rfl (hb hby at_233) ?_
      show Steps p.tables e below (T83.setTop (mkF m 234 #[.val (.long u0), .second, .val (.long id0), .second, .val (.long b0), .second, .val (.long idd), .second, .val (.long byt), .second, .val (.int flg), .val (.int w1), .val (.int w2), .val (.long unf), .second, .val (.long xx), .second, .val (.ref a1), .val (.long we), .second, .val (.long ce), .second, .val (.int he), .val (.int (1 : Int32)), .val (.int (1 : Int32)), .val (.int (1 : Int32)), .unset] [(.long (1 : Int64)), (.long idd), (.long xx), (.int (own_bi (xx = idd + 1 ∧ ¬ idd = unf ∧ (own_itI w1 ((own_itI w2 ((0 : Int32) + (1 : Int32)) (0 : Int32)) + (1 : Int32)) (0 : Int32)) < 100)))])) _
      refine XT.ladd X83.here hx rfl (hb hby at_234) rfl ?_
      show Steps p.tables e below (T83.setTop (mkF m 235 #[.val (.long u0), .second, .val (.long id0), .second, .val (.long b0), .second, .val (.long idd), .second, .val (.long byt), .second, .val (.int flg), .val (.int w1), .val (.int w2), .val (.long unf), .second, .val (.long xx), .second, .val (.ref a1), .val (.long we), .second, .val (.long ce), .second, .val (.int he), .val (.int (1 : Int32)), .val (.int (1 : Int32)), .val (.int (1 : Int32)), .unset] [(.long (idd + (1 : Int64))), (.long xx), (.int (own_bi (xx = idd + 1 ∧ ¬ idd = unf ∧ (own_itI w1 ((own_itI w2 ((0 : Int32) + (1 : Int32)) (0 : Int32)) + (1 : Int32)) (0 : Int32)) < 100)))])) _
      refine XT.lcmp X83.here hx rfl (hb hby at_235) rfl ?_
      show Steps p.tables e below (T83.setTop (mkF m 236 #[.val (.long u0), .second, .val (.long id0), .second, .val (.long b0), .second, .val (.long idd), .second, .val (.long byt), .second, .val (.int flg), .val (.int w1), .val (.int w2), .val (.long unf), .second, .val (.long xx), .second, .val (.ref a1), .val (.long we), .second, .val (.long ce), .second, .val (.int he), .val (.int (1 : Int32)), .val (.int (1 : Int32)), .val (.int (1 : Int32)), .unset] [(.int (XT.cmpL xx (idd + (1 : Int64)))), (.int (own_bi (xx = idd + 1 ∧ ¬ idd = unf ∧ (own_itI w1 ((own_itI w2 ((0 : Int32) + (1 : Int32)) (0 : Int32)) + (1 : Int32)) (0 : Int32)) < 100)))])) _
      exact k
    by_cases hc236 : xx = (idd + (1 : Int64))
    · skip
      have pre87 : ∀ t, Steps p.tables e below (T83.setTop (mkF m 244 #[.val (.long u0), .second, .val (.long id0), .second, .val (.long b0), .second, .val (.long idd), .second, .val (.long byt), .second, .val (.int flg), .val (.int w1), .val (.int w2), .val (.long unf), .second, .val (.long xx), .second, .val (.ref a1), .val (.long we), .second, .val (.long ce), .second, .val (.int he), .val (.int (1 : Int32)), .val (.int (1 : Int32)), .val (.int (1 : Int32)), .unset] [(.int (XT.cmpL idd unf)), (.int (own_bi (xx = idd + 1 ∧ ¬ idd = unf ∧ (own_itI w1 ((own_itI w2 ((0 : Int32) + (1 : Int32)) (0 : Int32)) + (1 : Int32)) (0 : Int32)) < 100)))])) t → Steps p.tables e below (s₁.setTop (entryFrame m #[(.long u0), (.long id0), (.long b0), (.long idd), (.long byt), (.int flg)] maxLocals)) t := by
        intro t k
        refine pre86 t ?_
        refine XS.ifNo X83.here hx rfl (hb hby at_236) rfl (XT.ll_ne_f hc236) ?_
        show Steps p.tables e below (T83.setTop (mkF m 239 #[.val (.long u0), .second, .val (.long id0), .second, .val (.long b0), .second, .val (.long idd), .second, .val (.long byt), .second, .val (.int flg), .val (.int w1), .val (.int w2), .val (.long unf), .second, .val (.long xx), .second, .val (.ref a1), .val (.long we), .second, .val (.long ce), .second, .val (.int he), .val (.int (1 : Int32)), .val (.int (1 : Int32)), .val (.int (1 : Int32)), .unset] [(.int (own_bi (xx = idd + 1 ∧ ¬ idd = unf ∧ (own_itI w1 ((own_itI w2 ((0 : Int32) + (1 : Int32)) (0 : Int32)) + (1 : Int32)) (0 : Int32)) < 100)))])) _
        refine XT.lload X83.here hx rfl (hb hby at_239) rfl ?_
        show Steps p.tables e below (T83.setTop (mkF m 241 #[.val (.long u0), .second, .val (.long id0), .second, .val (.long b0), .second, .val (.long idd), .second, .val (.long byt), .second, .val (.int flg), .val (.int w1), .val (.int w2), .val (.long unf), .second, .val (.long xx), .second, .val (.ref a1), .val (.long we), .second, .val (.long ce), .second, .val (.int he), .val (.int (1 : Int32)), .val (.int (1 : Int32)), .val (.int (1 : Int32)), .unset] [(.long idd), (.int (own_bi (xx = idd + 1 ∧ ¬ idd = unf ∧ (own_itI w1 ((own_itI w2 ((0 : Int32) + (1 : Int32)) (0 : Int32)) + (1 : Int32)) (0 : Int32)) < 100)))])) _
        refine XT.lload X83.here hx rfl (hb hby at_241) rfl ?_
        show Steps p.tables e below (T83.setTop (mkF m 243 #[.val (.long u0), .second, .val (.long id0), .second, .val (.long b0), .second, .val (.long idd), .second, .val (.long byt), .second, .val (.int flg), .val (.int w1), .val (.int w2), .val (.long unf), .second, .val (.long xx), .second, .val (.ref a1), .val (.long we), .second, .val (.long ce), .second, .val (.int he), .val (.int (1 : Int32)), .val (.int (1 : Int32)), .val (.int (1 : Int32)), .unset] [(.long unf), (.long idd), (.int (own_bi (xx = idd + 1 ∧ ¬ idd = unf ∧ (own_itI w1 ((own_itI w2 ((0 : Int32) + (1 : Int32)) (0 : Int32)) + (1 : Int32)) (0 : Int32)) < 100)))])) _
        refine XT.lcmp X83.here hx rfl (hb hby at_243) rfl ?_
        show Steps p.tables e below (T83.setTop (mkF m 244 #[.val (.long u0), .second, .val (.long id0), .second, .val (.long b0), .second, .val (.long idd), .second, .val (.long byt), .second, .val (.int flg), .val (.int w1), .val (.int w2), .val (.long unf), .second, .val (.long xx), .second, .val (.ref a1), .val (.long we), .second, .val (.long ce), .second, .val (.int he), .val (.int (1 : Int32)), .val (.int (1 : Int32)), .val (.int (1 : Int32)), .unset] [(.int (XT.cmpL idd unf)), (.int (own_bi (xx = idd + 1 ∧ ¬ idd = unf ∧ (own_itI w1 ((own_itI w2 ((0 : Int32) + (1 : Int32)) (0 : Int32)) + (1 : Int32)) (0 : Int32)) < 100)))])) _
        exact k
      by_cases hc244 : idd = unf
      · skip
        have pre88 : ∀ t, Steps p.tables e below (T83.setTop (mkF m 252 #[.val (.long u0), .second, .val (.long id0), .second, .val (.long b0), .second, .val (.long idd), .second, .val (.long byt), .second, .val (.int flg), .val (.int w1), .val (.int w2), .val (.long unf), .second, .val (.long xx), .second, .val (.ref a1), .val (.long we), .second, .val (.long ce), .second, .val (.int he), .val (.int (1 : Int32)), .val (.int (1 : Int32)), .val (.int (1 : Int32)), .unset] [(.int (0 : Int32)), (.int (own_bi (xx = idd + 1 ∧ ¬ idd = unf ∧ (own_itI w1 ((own_itI w2 ((0 : Int32) + (1 : Int32)) (0 : Int32)) + (1 : Int32)) (0 : Int32)) < 100)))])) t → Steps p.tables e below (s₁.setTop (entryFrame m #[(.long u0), (.long id0), (.long b0), (.long idd), (.long byt), (.int flg)] maxLocals)) t := by
          intro t k
          refine pre87 t ?_
          refine XS.ifYes X83.here hx rfl (pc0 := 244) (pc' := 251) rfl (hb hby at_244) rfl (XT.ll_eq_t hc244) (by decide) (by decide) ?_
          show Steps p.tables e below (T83.setTop (mkF m 251 #[.val (.long u0), .second, .val (.long id0), .second, .val (.long b0), .second, .val (.long idd), .second, .val (.long byt), .second, .val (.int flg), .val (.int w1), .val (.int w2), .val (.long unf), .second, .val (.long xx), .second, .val (.ref a1), .val (.long we), .second, .val (.long ce), .second, .val (.int he), .val (.int (1 : Int32)), .val (.int (1 : Int32)), .val (.int (1 : Int32)), .unset] [(.int (own_bi (xx = idd + 1 ∧ ¬ idd = unf ∧ (own_itI w1 ((own_itI w2 ((0 : Int32) + (1 : Int32)) (0 : Int32)) + (1 : Int32)) (0 : Int32)) < 100)))])) _
          refine XS.iconst X83.here hx rfl (hb hby at_251) ?_
          show Steps p.tables e below (T83.setTop (mkF m 252 #[.val (.long u0), .second, .val (.long id0), .second, .val (.long b0), .second, .val (.long idd), .second, .val (.long byt), .second, .val (.int flg), .val (.int w1), .val (.int w2), .val (.long unf), .second, .val (.long xx), .second, .val (.ref a1), .val (.long we), .second, .val (.long ce), .second, .val (.int he), .val (.int (1 : Int32)), .val (.int (1 : Int32)), .val (.int (1 : Int32)), .unset] [(.int (0 : Int32)), (.int (own_bi (xx = idd + 1 ∧ ¬ idd = unf ∧ (own_itI w1 ((own_itI w2 ((0 : Int32) + (1 : Int32)) (0 : Int32)) + (1 : Int32)) (0 : Int32)) < 100)))])) _
          exact k
        exact ⟨(0 : Int32), _, _, X83, N83, heq83, (by first | (simp [own_bi, hc236, hc244]; done) | contradiction), pre88⟩
      · skip
        have pre89 : ∀ t, Steps p.tables e below (T83.setTop (mkF m 252 #[.val (.long u0), .second, .val (.long id0), .second, .val (.long b0), .second, .val (.long idd), .second, .val (.long byt), .second, .val (.int flg), .val (.int w1), .val (.int w2), .val (.long unf), .second, .val (.long xx), .second, .val (.ref a1), .val (.long we), .second, .val (.long ce), .second, .val (.int he), .val (.int (1 : Int32)), .val (.int (1 : Int32)), .val (.int (1 : Int32)), .unset] [(.int (1 : Int32)), (.int (own_bi (xx = idd + 1 ∧ ¬ idd = unf ∧ (own_itI w1 ((own_itI w2 ((0 : Int32) + (1 : Int32)) (0 : Int32)) + (1 : Int32)) (0 : Int32)) < 100)))])) t → Steps p.tables e below (s₁.setTop (entryFrame m #[(.long u0), (.long id0), (.long b0), (.long idd), (.long byt), (.int flg)] maxLocals)) t := by
          intro t k
          refine pre87 t ?_
          refine XS.ifNo X83.here hx rfl (hb hby at_244) rfl (XT.ll_eq_f hc244) ?_
          show Steps p.tables e below (T83.setTop (mkF m 247 #[.val (.long u0), .second, .val (.long id0), .second, .val (.long b0), .second, .val (.long idd), .second, .val (.long byt), .second, .val (.int flg), .val (.int w1), .val (.int w2), .val (.long unf), .second, .val (.long xx), .second, .val (.ref a1), .val (.long we), .second, .val (.long ce), .second, .val (.int he), .val (.int (1 : Int32)), .val (.int (1 : Int32)), .val (.int (1 : Int32)), .unset] [(.int (own_bi (xx = idd + 1 ∧ ¬ idd = unf ∧ (own_itI w1 ((own_itI w2 ((0 : Int32) + (1 : Int32)) (0 : Int32)) + (1 : Int32)) (0 : Int32)) < 100)))])) _
          refine XS.iconst X83.here hx rfl (hb hby at_247) ?_
          show Steps p.tables e below (T83.setTop (mkF m 248 #[.val (.long u0), .second, .val (.long id0), .second, .val (.long b0), .second, .val (.long idd), .second, .val (.long byt), .second, .val (.int flg), .val (.int w1), .val (.int w2), .val (.long unf), .second, .val (.long xx), .second, .val (.ref a1), .val (.long we), .second, .val (.long ce), .second, .val (.int he), .val (.int (1 : Int32)), .val (.int (1 : Int32)), .val (.int (1 : Int32)), .unset] [(.int (1 : Int32)), (.int (own_bi (xx = idd + 1 ∧ ¬ idd = unf ∧ (own_itI w1 ((own_itI w2 ((0 : Int32) + (1 : Int32)) (0 : Int32)) + (1 : Int32)) (0 : Int32)) < 100)))])) _
          refine XS.goto X83.here hx rfl (pc0 := 248) (pc' := 252) rfl (hb hby at_248) (by decide) (by decide) ?_
          show Steps p.tables e below (T83.setTop (mkF m 252 #[.val (.long u0), .second, .val (.long id0), .second, .val (.long b0), .second, .val (.long idd), .second, .val (.long byt), .second, .val (.int flg), .val (.int w1), .val (.int w2), .val (.long unf), .second, .val (.long xx), .second, .val (.ref a1), .val (.long we), .second, .val (.long ce), .second, .val (.int he), .val (.int (1 : Int32)), .val (.int (1 : Int32)), .val (.int (1 : Int32)), .unset] [(.int (1 : Int32)), (.int (own_bi (xx = idd + 1 ∧ ¬ idd = unf ∧ (own_itI w1 ((own_itI w2 ((0 : Int32) + (1 : Int32)) (0 : Int32)) + (1 : Int32)) (0 : Int32)) < 100)))])) _
          exact k
        exact ⟨(1 : Int32), _, _, X83, N83, heq83, (by first | (simp [own_bi, hc236, hc244]; done) | contradiction), pre89⟩
    · skip
      have pre90 : ∀ t, Steps p.tables e below (T83.setTop (mkF m 252 #[.val (.long u0), .second, .val (.long id0), .second, .val (.long b0), .second, .val (.long idd), .second, .val (.long byt), .second, .val (.int flg), .val (.int w1), .val (.int w2), .val (.long unf), .second, .val (.long xx), .second, .val (.ref a1), .val (.long we), .second, .val (.long ce), .second, .val (.int he), .val (.int (1 : Int32)), .val (.int (1 : Int32)), .val (.int (1 : Int32)), .unset] [(.int (0 : Int32)), (.int (own_bi (xx = idd + 1 ∧ ¬ idd = unf ∧ (own_itI w1 ((own_itI w2 ((0 : Int32) + (1 : Int32)) (0 : Int32)) + (1 : Int32)) (0 : Int32)) < 100)))])) t → Steps p.tables e below (s₁.setTop (entryFrame m #[(.long u0), (.long id0), (.long b0), (.long idd), (.long byt), (.int flg)] maxLocals)) t := by
        intro t k
        refine pre86 t ?_
        refine XS.ifYes X83.here hx rfl (pc0 := 236) (pc' := 251) rfl (hb hby at_236) rfl (XT.ll_ne_t hc236) (by decide) (by decide) ?_
        show Steps p.tables e below (T83.setTop (mkF m 251 #[.val (.long u0), .second, .val (.long id0), .second, .val (.long b0), .second, .val (.long idd), .second, .val (.long byt), .second, .val (.int flg), .val (.int w1), .val (.int w2), .val (.long unf), .second, .val (.long xx), .second, .val (.ref a1), .val (.long we), .second, .val (.long ce), .second, .val (.int he), .val (.int (1 : Int32)), .val (.int (1 : Int32)), .val (.int (1 : Int32)), .unset] [(.int (own_bi (xx = idd + 1 ∧ ¬ idd = unf ∧ (own_itI w1 ((own_itI w2 ((0 : Int32) + (1 : Int32)) (0 : Int32)) + (1 : Int32)) (0 : Int32)) < 100)))])) _
        refine XS.iconst X83.here hx rfl (hb hby at_251) ?_
        show Steps p.tables e below (T83.setTop (mkF m 252 #[.val (.long u0), .second, .val (.long id0), .second, .val (.long b0), .second, .val (.long idd), .second, .val (.long byt), .second, .val (.int flg), .val (.int w1), .val (.int w2), .val (.long unf), .second, .val (.long xx), .second, .val (.ref a1), .val (.long we), .second, .val (.long ce), .second, .val (.int he), .val (.int (1 : Int32)), .val (.int (1 : Int32)), .val (.int (1 : Int32)), .unset] [(.int (0 : Int32)), (.int (own_bi (xx = idd + 1 ∧ ¬ idd = unf ∧ (own_itI w1 ((own_itI w2 ((0 : Int32) + (1 : Int32)) (0 : Int32)) + (1 : Int32)) (0 : Int32)) < 100)))])) _
        exact k
      exact ⟨(0 : Int32), _, _, X83, N83, heq83, (by first | (simp [own_bi, hc236]; done) | contradiction), pre90⟩
  obtain ⟨e3, T85, Lo85, X85, N85, e85, he3, pre85⟩ := mrg85
  have pre91 : ∀ t, Steps p.tables e below (T85.setTop (mkF m 287 #[.val (.long u0), .second, .val (.long id0), .second, .val (.long b0), .second, .val (.long idd), .second, .val (.long byt), .second, .val (.int flg), .val (.int w1), .val (.int w2), .val (.long unf), .second, .val (.long xx), .second, .val (.ref a1), .val (.long we), .second, .val (.long ce), .second, .val (.int he), .val (.int (1 : Int32)), .val (.int (1 : Int32)), .val (.int (1 : Int32)), .val (.int (1 : Int32))] [(.int (1 : Int32))])) t → Steps p.tables e below (s₁.setTop (entryFrame m #[(.long u0), (.long id0), (.long b0), (.long idd), (.long byt), (.int flg)] maxLocals)) t := by
    intro t k
    refine pre85 t ?_
    refine XS.icmpNo X85.here hx rfl (hb hby at_252) rfl (XT.ii_ne_f (by rw [he3]; exact own_bi_eq ⟨fun q => ⟨q.1, q.2.1⟩, fun q => ⟨q.1, q.2, hch⟩⟩)) ?_
    show Steps p.tables e below (T85.setTop (mkF m 255 #[.val (.long u0), .second, .val (.long id0), .second, .val (.long b0), .second, .val (.long idd), .second, .val (.long byt), .second, .val (.int flg), .val (.int w1), .val (.int w2), .val (.long unf), .second, .val (.long xx), .second, .val (.ref a1), .val (.long we), .second, .val (.long ce), .second, .val (.int he), .val (.int (1 : Int32)), .val (.int (1 : Int32)), .val (.int (1 : Int32)), .unset] [])) _
    refine XS.iconst X85.here hx rfl (hb hby at_255) ?_
    show Steps p.tables e below (T85.setTop (mkF m 256 #[.val (.long u0), .second, .val (.long id0), .second, .val (.long b0), .second, .val (.long idd), .second, .val (.long byt), .second, .val (.int flg), .val (.int w1), .val (.int w2), .val (.long unf), .second, .val (.long xx), .second, .val (.ref a1), .val (.long we), .second, .val (.long ce), .second, .val (.int he), .val (.int (1 : Int32)), .val (.int (1 : Int32)), .val (.int (1 : Int32)), .unset] [(.int (1 : Int32))])) _
    refine XS.goto X85.here hx rfl (pc0 := 256) (pc' := 260) rfl (hb hby at_256) (by decide) (by decide) ?_
    show Steps p.tables e below (T85.setTop (mkF m 260 #[.val (.long u0), .second, .val (.long id0), .second, .val (.long b0), .second, .val (.long idd), .second, .val (.long byt), .second, .val (.int flg), .val (.int w1), .val (.int w2), .val (.long unf), .second, .val (.long xx), .second, .val (.ref a1), .val (.long we), .second, .val (.long ce), .second, .val (.int he), .val (.int (1 : Int32)), .val (.int (1 : Int32)), .val (.int (1 : Int32)), .unset] [(.int (1 : Int32))])) _
    refine XS.istore X85.here hx rfl (hb hby at_260) rfl (l' := #[.val (.long u0), .second, .val (.long id0), .second, .val (.long b0), .second, .val (.long idd), .second, .val (.long byt), .second, .val (.int flg), .val (.int w1), .val (.int w2), .val (.long unf), .second, .val (.long xx), .second, .val (.ref a1), .val (.long we), .second, .val (.long ce), .second, .val (.int he), .val (.int (1 : Int32)), .val (.int (1 : Int32)), .val (.int (1 : Int32)), .val (.int (1 : Int32))]) rfl ?_
    show Steps p.tables e below (T85.setTop (mkF m 262 #[.val (.long u0), .second, .val (.long id0), .second, .val (.long b0), .second, .val (.long idd), .second, .val (.long byt), .second, .val (.int flg), .val (.int w1), .val (.int w2), .val (.long unf), .second, .val (.long xx), .second, .val (.ref a1), .val (.long we), .second, .val (.long ce), .second, .val (.int he), .val (.int (1 : Int32)), .val (.int (1 : Int32)), .val (.int (1 : Int32)), .val (.int (1 : Int32))] [])) _
    refine XS.iload X85.here hx rfl (hb hby at_262) rfl ?_
    show Steps p.tables e below (T85.setTop (mkF m 264 #[.val (.long u0), .second, .val (.long id0), .second, .val (.long b0), .second, .val (.long idd), .second, .val (.long byt), .second, .val (.int flg), .val (.int w1), .val (.int w2), .val (.long unf), .second, .val (.long xx), .second, .val (.ref a1), .val (.long we), .second, .val (.long ce), .second, .val (.int he), .val (.int (1 : Int32)), .val (.int (1 : Int32)), .val (.int (1 : Int32)), .val (.int (1 : Int32))] [(.int (1 : Int32))])) _
    refine XS.ifNo X85.here hx rfl (hb hby at_264) rfl (XT.i0_eq_f (by decide)) ?_
    show Steps p.tables e below (T85.setTop (mkF m 267 #[.val (.long u0), .second, .val (.long id0), .second, .val (.long b0), .second, .val (.long idd), .second, .val (.long byt), .second, .val (.int flg), .val (.int w1), .val (.int w2), .val (.long unf), .second, .val (.long xx), .second, .val (.ref a1), .val (.long we), .second, .val (.long ce), .second, .val (.int he), .val (.int (1 : Int32)), .val (.int (1 : Int32)), .val (.int (1 : Int32)), .val (.int (1 : Int32))] [])) _
    refine XS.iload X85.here hx rfl (hb hby at_267) rfl ?_
    show Steps p.tables e below (T85.setTop (mkF m 269 #[.val (.long u0), .second, .val (.long id0), .second, .val (.long b0), .second, .val (.long idd), .second, .val (.long byt), .second, .val (.int flg), .val (.int w1), .val (.int w2), .val (.long unf), .second, .val (.long xx), .second, .val (.ref a1), .val (.long we), .second, .val (.long ce), .second, .val (.int he), .val (.int (1 : Int32)), .val (.int (1 : Int32)), .val (.int (1 : Int32)), .val (.int (1 : Int32))] [(.int (1 : Int32))])) _
    refine XS.ifNo X85.here hx rfl (hb hby at_269) rfl (XT.i0_eq_f (by decide)) ?_
    show Steps p.tables e below (T85.setTop (mkF m 272 #[.val (.long u0), .second, .val (.long id0), .second, .val (.long b0), .second, .val (.long idd), .second, .val (.long byt), .second, .val (.int flg), .val (.int w1), .val (.int w2), .val (.long unf), .second, .val (.long xx), .second, .val (.ref a1), .val (.long we), .second, .val (.long ce), .second, .val (.int he), .val (.int (1 : Int32)), .val (.int (1 : Int32)), .val (.int (1 : Int32)), .val (.int (1 : Int32))] [])) _
    refine XS.iload X85.here hx rfl (hb hby at_272) rfl ?_
    show Steps p.tables e below (T85.setTop (mkF m 274 #[.val (.long u0), .second, .val (.long id0), .second, .val (.long b0), .second, .val (.long idd), .second, .val (.long byt), .second, .val (.int flg), .val (.int w1), .val (.int w2), .val (.long unf), .second, .val (.long xx), .second, .val (.ref a1), .val (.long we), .second, .val (.long ce), .second, .val (.int he), .val (.int (1 : Int32)), .val (.int (1 : Int32)), .val (.int (1 : Int32)), .val (.int (1 : Int32))] [(.int (1 : Int32))])) _
    refine XS.ifNo X85.here hx rfl (hb hby at_274) rfl (XT.i0_eq_f (by decide)) ?_
    show Steps p.tables e below (T85.setTop (mkF m 277 #[.val (.long u0), .second, .val (.long id0), .second, .val (.long b0), .second, .val (.long idd), .second, .val (.long byt), .second, .val (.int flg), .val (.int w1), .val (.int w2), .val (.long unf), .second, .val (.long xx), .second, .val (.ref a1), .val (.long we), .second, .val (.long ce), .second, .val (.int he), .val (.int (1 : Int32)), .val (.int (1 : Int32)), .val (.int (1 : Int32)), .val (.int (1 : Int32))] [])) _
    refine XS.iload X85.here hx rfl (hb hby at_277) rfl ?_
    show Steps p.tables e below (T85.setTop (mkF m 279 #[.val (.long u0), .second, .val (.long id0), .second, .val (.long b0), .second, .val (.long idd), .second, .val (.long byt), .second, .val (.int flg), .val (.int w1), .val (.int w2), .val (.long unf), .second, .val (.long xx), .second, .val (.ref a1), .val (.long we), .second, .val (.long ce), .second, .val (.int he), .val (.int (1 : Int32)), .val (.int (1 : Int32)), .val (.int (1 : Int32)), .val (.int (1 : Int32))] [(.int (1 : Int32))])) _
    refine XS.ifNo X85.here hx rfl (hb hby at_279) rfl (XT.i0_eq_f (by decide)) ?_
    show Steps p.tables e below (T85.setTop (mkF m 282 #[.val (.long u0), .second, .val (.long id0), .second, .val (.long b0), .second, .val (.long idd), .second, .val (.long byt), .second, .val (.int flg), .val (.int w1), .val (.int w2), .val (.long unf), .second, .val (.long xx), .second, .val (.ref a1), .val (.long we), .second, .val (.long ce), .second, .val (.int he), .val (.int (1 : Int32)), .val (.int (1 : Int32)), .val (.int (1 : Int32)), .val (.int (1 : Int32))] [])) _
    refine XS.iconst X85.here hx rfl (hb hby at_282) ?_
    show Steps p.tables e below (T85.setTop (mkF m 283 #[.val (.long u0), .second, .val (.long id0), .second, .val (.long b0), .second, .val (.long idd), .second, .val (.long byt), .second, .val (.int flg), .val (.int w1), .val (.int w2), .val (.long unf), .second, .val (.long xx), .second, .val (.ref a1), .val (.long we), .second, .val (.long ce), .second, .val (.int he), .val (.int (1 : Int32)), .val (.int (1 : Int32)), .val (.int (1 : Int32)), .val (.int (1 : Int32))] [(.int (1 : Int32))])) _
    refine XS.goto X85.here hx rfl (pc0 := 283) (pc' := 287) rfl (hb hby at_283) (by decide) (by decide) ?_
    show Steps p.tables e below (T85.setTop (mkF m 287 #[.val (.long u0), .second, .val (.long id0), .second, .val (.long b0), .second, .val (.long idd), .second, .val (.long byt), .second, .val (.int flg), .val (.int w1), .val (.int w2), .val (.long unf), .second, .val (.long xx), .second, .val (.ref a1), .val (.long we), .second, .val (.long ce), .second, .val (.int he), .val (.int (1 : Int32)), .val (.int (1 : Int32)), .val (.int (1 : Int32)), .val (.int (1 : Int32))] [(.int (1 : Int32))])) _
    exact k
  obtain ⟨fs, hr, hrun, hended, hW, hsame⟩ := X85.leave (v := some (.int (1 : Int32))) (fun h => by rw [Bd.returns] at h; cases h)
  refine ⟨_, _, pre91 _ ?_, hrun, hended, _, _, rfl, ?_, ⟨_, rfl⟩, hW, hsame.mono (by decide) (by decide)⟩
  · exact retOut X85 hx Bd.returns rfl (Or.inl ⟨rfl, by simp, _, rfl⟩) (hb hby at_287) hr
  · show Qlaw Z u0 id0 b0 idd byt flg h0 n0 _ T85.heap _
    rw [e85]
    exact ⟨rfl, N85⟩
set_option maxRecDepth 65536 in
set_option maxHeartbeats 40000000 in
theorem comes_1 {Post : Tables → Env → Array Value → State → Outcome → State → Prop} (hpost : ∀ tb e args s v u, (limb_1_1.after args s (.returned v) u = true ∧ limb_1_2.after args s (.returned v) u = true ∧ True) → FrameEnd s (.returned v) u (Jvm.fieldLocs frame_1_writes args s ++ Jvm.arrayLocs frame_1_arrays args s ++ Jvm.staticLocs frame_1_statics s) 16 128 → Post tb e args s (.returned v) u) :
    ArmFor flags0 classFile x code maxLocals ret World_1 tables_1 room_1 Calls_1 rest_1 Pre_1 Post := by
  intro l hfl _ _ p e ha hc hk s m args below hf hA hF happ hP
  obtain ⟨hcalls, hrest, hpre⟩ := hP
  obtain ⟨-, -, -, hnamed, -, -, -, hat⟩ := (Spec.applies_iff hf).mp happ
  obtain ⟨hg, hn⟩ := and_e (Cond.before_iff.mp (show (Jvm.Cond.and given_1 narrow_1).before args s = true from hpre))
  obtain ⟨gc, g0⟩ := and_e hg
  obtain ⟨w0, w1, w2, w3, w4, w5, rfl⟩ : ∃ w0 w1 w2 w3 w4 w5 : Value, args = #[w0, w1, w2, w3, w4, w5] := by
    have hs : args.size = 6 := by simpa [Cond.value, given_1] using gc
    obtain ⟨L⟩ := args
    match L, hs with
    | [w0, w1, w2, w3, w4, w5], _ => exact ⟨w0, w1, w2, w3, w4, w5, rfl⟩
  have hw := fun d (hd : d ∈ tables_1) => atoms_spec (ws := Jvm.Cond.code x code maxLocals ret :: tables_1) hat d (List.mem_cons_of_mem _ hd)
  have hfit : Fit s := fun {y c} hc i hi => by
    obtain ⟨ha, rfl⟩ := Array.getElem?_eq_some_iff.mp hc
    have q := List.all_eq_true.mp ((Array.all_eq_true_iff_forall_mem.mp hF) _ (Array.getElem_mem ha)) i (List.mem_range.mpr hi)
    simpa [Array.getElem?_eq_getElem hi] using q
  obtain ⟨ga0, gb0⟩ := and_e g0
  obtain ⟨i0, ei0⟩ := isL_v ga0
  obtain rfl : w0 = (.long i0) := Option.some.inj ei0
  obtain ⟨ga1, gb1⟩ := and_e gb0
  obtain ⟨i1, ei1⟩ := isL_v ga1
  obtain rfl : w1 = (.long i1) := Option.some.inj ei1
  obtain ⟨ga2, gb2⟩ := and_e gb1
  obtain ⟨i2, ei2⟩ := isL_v ga2
  obtain rfl : w2 = (.long i2) := Option.some.inj ei2
  obtain ⟨ga3, gb3⟩ := and_e gb2
  obtain ⟨i3, ei3⟩ := isL_v ga3
  obtain rfl : w3 = (.long i3) := Option.some.inj ei3
  obtain ⟨ga4, gb4⟩ := and_e gb3
  obtain ⟨i4, ei4⟩ := isL_v ga4
  obtain rfl : w4 = (.long i4) := Option.some.inj ei4
  obtain ⟨i5, ei5⟩ := is_v gb4
  obtain rfl : w5 = (.int i5) := Option.some.inj ei5
  obtain ⟨n, o, h1, h2, h3, _, L, rfl, ⟨rfl, N⟩, hq⟩ := rmlaw l s _ hw tables_1 i0 i1 i2 i3 i4 i5 s.heap s.heap.size (Nat.le_refl _)  p e ha hc hk s m _ below hf ((Spec.applies_iff_loose hf).mp happ).1 ⟨rfl, State.Warmed39.refl s, rfl⟩ trivial
  refine ⟨n, _, h1, h2, h3, hpost _ _ _ _ _ _ ⟨Cond.after_iff.mpr rfl, Cond.after_iff.mpr (eq_i res_at (Term.int_eval (1)) rfl), trivial⟩ ⟨hq.1, hq.2.1, (hq.2.2.sift fun y hy => Or.inr (N y hy)).mono (by decide) (by decide)⟩⟩
theorem main_1_1 : Claimed_1_1 := comes_1 fun _ _ _ _ _ _ h hF => ⟨h.1, hF⟩
theorem main_1_2 : Claimed_1_2 := comes_1 fun _ _ _ _ _ _ h hF => ⟨h.2.1, hF⟩
end Jvm.Pilot.@@N@@
namespace Jvm.Pilot.@@N@@
open Jvm Jvm.ClassFile Sem Op Lib Jvm.Free Jvm.Stand Jvm.Pilot.@@N@@.Jvm.D
/-! MADE BY PROGRAM (witnessworld.py) out of the Statement's table words and the real class files: 9 classes; the members and pool entries that the words name. The judged class is class 1, her method 1. -/
namespace start1
open Jvm.ClassFile
def u (s : String) : CpInfo := .utf8 (stringToUtf16 s)
/-- a pool by its gaps: so many unusable entries, then the entry; so many at the end -/
def gap : Nat → List CpInfo → List CpInfo
  | 0, r => r
  | n + 1, r => .unusable :: gap n r
def poolList (es : List (Nat × CpInfo)) (last : Nat) : List CpInfo := es.foldr (fun e r => gap e.1 (e.2 :: r)) (gap last [])
def pool (es : List (Nat × CpInfo)) (last : Nat) : Array CpInfo := ⟨poolList es last⟩
def fileOf (pool : Array CpInfo) (this : Nat) (attrs : Array Attribute := #[]) (ms : Array MethodInfo := #[]) (fl : Nat := 33) (sup : Nat := 0) (ifs : Array Nat := #[]) (fds : Array FieldInfo := #[]) : ClassFile where
  minorVersion := 0
  majorVersion := 65
  constantPool := pool
  accessFlags := fl
  thisClass := this
  superClass := sup
  interfaces := ifs
  fields := fds
  methods := ms
  attributes := attrs
def plain (name : String) (sup : Option ClassId) : Class where
  name := name
  kind := .ordinary
  loader := none
  accessFlags := 33
  super := sup
  interfaces := #[]
  cf := none
  fields := #[]
  methods := #[]
  instanceTypes := #[]
  staticTypes := #[]
  resolved := #[]
  callSites := []
  init := .initialized
  statics := none
  mirror := none

def pool0 : Array CpInfo := pool [(5, u "<init>"), (0, u "()V"), (1, .class_ 10), (1, u "java/lang/Object")] 113

def k0c0 : Code := { maxStack := 0, maxLocals := 1, code := object_method_1_code, exceptionTable := #[], attributes := #[] }
def k0m0 : Method := { name := "<init>", desc := "()V", sig := { parameters := [], returnType := none }, accessFlags := 1, code := some k0c0 }
/-- java/lang/Object -/
def k0 : Class := { plain "java/lang/Object" none with
  accessFlags := 33
  interfaces := #[]
  cf := some (fileOf pool0 8 #[] #[{ accessFlags := 1, nameIndex := 5, descriptorIndex := 6, attributes := #[] }] 33 0 #[] #[])
  fields := #[]
  methods := #[k0m0]
  instanceTypes := #[]
  staticTypes := #[]
  resolved := Array.replicate 124 none
  statics := none }

def pool1 : Array CpInfo := pool [(2, .class_ 4), (1, u "java/lang/Object"), (0, u "<init>"), (0, u "()V"), (0, .class_ 8), (0, u "com/example/sluice/sluice/checkpoint/ChainAccount"), (0, .methodref 7 10), (0, .nameAndType 5 11), (0, u "(J)V"), (0, .methodref 7 13), (0, .nameAndType 14 15), (0, u "stored"), (0, u "(JJZ)V"), (0, .methodref 7 17), (0, .nameAndType 18 19), (0, u "left"), (0, u "()J"), (0, .methodref 7 21), (0, .nameAndType 22 23), (0, u "noChanges"), (0, u "()Z"), (0, .methodref 7 25), (0, .nameAndType 26 27), (0, u "mayChange"), (0, u "(J)Z"), (0, .class_ 29), (0, u "com/example/sluice/sluice/checkpoint/ChainAccountStoredPinLaw"), (2, u "law"), (0, u "(JJJJJI)Z")] 3

def k1m0 : Method := { name := "<init>", desc := "()V", sig := { parameters := [], returnType := none }, accessFlags := 1, code := none }
def k1c1 : Code := { maxStack := 7, maxLocals := 27, code := code, exceptionTable := #[], attributes := #[] }
def k1m1 : Method := { name := "law", desc := "(JJJJJI)Z", sig := { parameters := [.long, .long, .long, .long, .long, .int], returnType := some .boolean }, accessFlags := 9, code := some k1c1 }
/-- com/example/sluice/sluice/checkpoint/ChainAccountStoredPinLaw -/
def k1 : Class := { plain "com/example/sluice/sluice/checkpoint/ChainAccountStoredPinLaw" (some 0) with
  accessFlags := 49
  interfaces := #[]
  cf := some (fileOf pool1 28 #[] #[{ accessFlags := 1, nameIndex := 5, descriptorIndex := 6, attributes := #[] }, { accessFlags := 9, nameIndex := 32, descriptorIndex := 33, attributes := #[] }] 49 2 #[] #[])
  fields := #[]
  methods := #[k1m0, k1m1]
  instanceTypes := #[]
  staticTypes := #[]
  resolved := Array.replicate 37 none
  statics := none }

def pool2 : Array CpInfo := pool [(1, .methodref 2 3), (0, .class_ 4), (0, .nameAndType 5 6), (0, u "java/lang/Object"), (0, u "<init>"), (0, u "()V"), (0, .fieldref 8 9), (0, .class_ 10), (0, .nameAndType 11 12), (0, u "com/example/sluice/sluice/checkpoint/ChainAccount"), (0, u "unfollowed"), (0, u "J"), (0, .fieldref 8 14), (0, .nameAndType 15 12), (0, u "lastId"), (0, .fieldref 8 17), (0, .nameAndType 18 19), (0, u "changes"), (0, u "I"), (0, .fieldref 8 21), (0, .nameAndType 22 12), (0, u "wholeBytes"), (0, .fieldref 8 24), (0, .nameAndType 25 12), (0, u "changesBytes"), (0, u "MOST_CHANGES"), (2, u "(J)V"), (2, u "mayChange"), (0, u "(J)Z"), (1, u "noChanges"), (0, u "()Z"), (0, u "left"), (0, u "()J"), (0, u "stored"), (0, u "(JJZ)V")] 2

def k2c0 : Code := { maxStack := 3, maxLocals := 3, code := prog_41_method_1_code, exceptionTable := #[], attributes := #[] }
def k2m0 : Method := { name := "<init>", desc := "(J)V", sig := { parameters := [.long], returnType := none }, accessFlags := 0, code := some k2c0 }
def k2c1 : Code := { maxStack := 6, maxLocals := 3, code := prog_41_method_2_code, exceptionTable := #[], attributes := #[] }
def k2m1 : Method := { name := "mayChange", desc := "(J)Z", sig := { parameters := [.long], returnType := some .boolean }, accessFlags := 0, code := some k2c1 }
def k2c2 : Code := { maxStack := 1, maxLocals := 1, code := prog_41_method_3_code, exceptionTable := #[], attributes := #[] }
def k2m2 : Method := { name := "noChanges", desc := "()Z", sig := { parameters := [], returnType := some .boolean }, accessFlags := 0, code := some k2c2 }
def k2c3 : Code := { maxStack := 4, maxLocals := 1, code := prog_41_method_4_code, exceptionTable := #[], attributes := #[] }
def k2m3 : Method := { name := "left", desc := "()J", sig := { parameters := [], returnType := some .long }, accessFlags := 0, code := some k2c3 }
def k2c4 : Code := { maxStack := 5, maxLocals := 6, code := prog_41_method_5_code, exceptionTable := #[], attributes := #[] }
def k2m4 : Method := { name := "stored", desc := "(JJZ)V", sig := { parameters := [.long, .long, .boolean], returnType := none }, accessFlags := 0, code := some k2c4 }
/-- com/example/sluice/sluice/checkpoint/ChainAccount -/
def k2 : Class := { plain "com/example/sluice/sluice/checkpoint/ChainAccount" (some 0) with
  accessFlags := 48
  interfaces := #[]
  cf := some (fileOf pool2 8 #[] #[{ accessFlags := 0, nameIndex := 5, descriptorIndex := 29, attributes := #[] }, { accessFlags := 0, nameIndex := 32, descriptorIndex := 33, attributes := #[] }, { accessFlags := 0, nameIndex := 35, descriptorIndex := 36, attributes := #[] }, { accessFlags := 0, nameIndex := 37, descriptorIndex := 38, attributes := #[] }, { accessFlags := 0, nameIndex := 39, descriptorIndex := 40, attributes := #[] }] 48 2 #[] #[{ accessFlags := 24, nameIndex := 26, descriptorIndex := 19, attributes := #[] }, { accessFlags := 18, nameIndex := 11, descriptorIndex := 12, attributes := #[] }, { accessFlags := 2, nameIndex := 15, descriptorIndex := 12, attributes := #[] }, { accessFlags := 2, nameIndex := 22, descriptorIndex := 12, attributes := #[] }, { accessFlags := 2, nameIndex := 25, descriptorIndex := 12, attributes := #[] }, { accessFlags := 2, nameIndex := 18, descriptorIndex := 19, attributes := #[] }])
  fields := #[{ name := "MOST_CHANGES", type := .int, accessFlags := 24, slot := 0, constantValue := 0 }, { name := "unfollowed", type := .long, accessFlags := 18, slot := 0, constantValue := 0 }, { name := "lastId", type := .long, accessFlags := 2, slot := 1, constantValue := 0 }, { name := "wholeBytes", type := .long, accessFlags := 2, slot := 2, constantValue := 0 }, { name := "changesBytes", type := .long, accessFlags := 2, slot := 3, constantValue := 0 }, { name := "changes", type := .int, accessFlags := 2, slot := 4, constantValue := 0 }]
  methods := #[k2m0, k2m1, k2m2, k2m3, k2m4]
  instanceTypes := #[.long, .long, .long, .long, .int]
  staticTypes := #[.int]
  resolved := Array.replicate 43 none
  statics := none }

def pool3 : Array CpInfo := pool [(1, u "java/lang/Cloneable"), (0, .class_ 1), (0, u "java/lang/Object"), (0, .class_ 3)] 3

/-- java/lang/Cloneable -/
def k3 : Class := { plain "java/lang/Cloneable" (some 0) with
  accessFlags := 1537
  interfaces := #[]
  cf := some (fileOf pool3 2 #[] #[] 1537 4 #[] #[])
  fields := #[]
  methods := #[]
  instanceTypes := #[]
  staticTypes := #[]
  resolved := Array.replicate 8 none
  statics := none }

def pool4 : Array CpInfo := pool [(1, u "java/io/Serializable"), (0, .class_ 1), (0, u "java/lang/Object"), (0, .class_ 3)] 3

/-- java/io/Serializable -/
def k4 : Class := { plain "java/io/Serializable" (some 0) with
  accessFlags := 1537
  interfaces := #[]
  cf := some (fileOf pool4 2 #[] #[] 1537 4 #[] #[])
  fields := #[]
  methods := #[]
  instanceTypes := #[]
  staticTypes := #[]
  resolved := Array.replicate 8 none
  statics := none }

/-- the primitive byte -/
def k5 : Class := { plain "byte" none with kind := .primitive 'B', accessFlags := 0x411 }
/-- [B -/
def k6 : Class := { plain "[B" (some 0) with kind := .array 5 .byte, interfaces := #[3, 4], accessFlags := 1041 }

/-- the primitive int -/
def k7 : Class := { plain "int" none with kind := .primitive 'I', accessFlags := 0x411 }
/-- [I -/
def k8 : Class := { plain "[I" (some 0) with kind := .array 7 .int, interfaces := #[3, 4], accessFlags := 1041 }

def heap : Heap := #[]
def classes : Array Class := #[k0, k1, k2, k3, k4, k5, k6, k7, k8]
def interned : List (Array UInt16 × Addr) := []
def slotsUsed : Nat := 0
def theMethod : MethodId := ⟨1, 1⟩
def args0 : Array Value := #[.long 1, .long 2, .long 3, .long 4, .long 5, .int 6]
def aboutOver (below : List Frame) : State where
  vm := { classes := classes, interned := interned.toArray }
  heap := heap
  slotsUsed := slotsUsed
  threads := #[{ frames := .invoking theMethod args0 :: below }]
def below0 : List Frame := [.native { method := ⟨0, 0⟩, args := #[] }]
def about1 : State := aboutOver below0
def p0 : Program := .bare "" "" ""
def e0 : Env := launch0.env 0 0 0
theorem w_frames : about1.frames = Frame.invoking theMethod args0 :: below0 := rfl
set_option maxRecDepth 65536 in
theorem w_args : argsFit about1.vm theMethod args0 = true := by decide +kernel
set_option maxRecDepth 65536 in
theorem w_heap : heapFits about1 = true := by decide +kernel
set_option maxRecDepth 65536 in
theorem w_runnable : about1.curStatus? = some .runnable := by decide +kernel
set_option maxRecDepth 65536 in
theorem w_alone : about1.alone = true := by decide +kernel
set_option maxRecDepth 65536 in
theorem w_named : about1.methodNamed? x = some theMethod := by decide +kernel
set_option maxRecDepth 65536 in
theorem w_hears : about1.hears theMethod below0 = true := by decide +kernel
set_option maxRecDepth 65536 in
theorem w_ripe : about1.ripe theMethod args0 below0 = true := by decide +kernel
theorem w_running : about1.status = .running := rfl
set_option maxRecDepth 65536 in
theorem w_room : about1.hasRoom e0.platform room_1 = true :=
  launch0.hasRoom_least _ room_1 (by decide +kernel) (by decide +kernel) (by decide +kernel) (by decide +kernel) (by decide +kernel) (by decide +kernel)
theorem allAtoms_all (ts : List Jvm.Cond) (a : Array Jvm.Value) (st : Jvm.State) : (allAtoms ts).before a st = ts.all (fun c => c.before a st) := by
  induction ts with
  | nil => rfl
  | cons c t ih =>
    show (Jvm.Cond.and c (allAtoms t)).before a st = _
    rw [Jvm.Cond.before_and, ih, List.all_cons]
def words1 : List Jvm.Cond := Jvm.Cond.code x code maxLocals ret :: tables_1
/-- a 'code' word, met by the world's own term for the bytes: nothing is compared byte by byte -/
theorem code_word {y : MethodName} {bytes : ByteArray} {mx : Nat} {rt : Option FieldType} {a : Array Value} {s : State} {m : MethodId} {meth : Method} {c : Code} (h1 : s.methodNamed? y = some m) (h2 : s.vm.method? m = some meth) (h3 : meth.code = some c) (h4 : c.code = bytes)
    (h5 : (c.maxLocals == mx && c.exceptionTable.isEmpty && decide (c.maxStack ≤ mostOperands) && decide (meth.sig.returnType = rt) && !meth.locks && decide (parseMethodDescriptor y.desc = some meth.sig)) = true) : (Jvm.Cond.code y bytes mx rt).before a s = true := by
  simp only [Bool.and_eq_true, beq_iff_eq, Bool.not_eq_true', decide_eq_true_eq] at h5
  obtain ⟨⟨⟨⟨⟨g1, g2⟩, g3⟩, g4⟩, g5⟩, g6⟩ := h5
  simp [Cond.before, Cond.holds, Cond.value, h1, h2, h3, h4, g1, g2, g3, g4, g5, g6]
def isCode : Jvm.Cond → Bool
  | .code _ _ _ _ => true
  | _ => false
theorem all_split {L : List Jvm.Cond} {P : Jvm.Cond → Bool} (h1 : L.all (fun c => isCode c || P c) = true) (h2 : ∀ c ∈ L.filter isCode, P c = true) : L.all P = true := by
  refine List.all_eq_true.mpr fun c hc => ?_
  have h := List.all_eq_true.mp h1 c hc
  rcases Bool.eq_false_or_eq_true (isCode c) with hi | hi
  · exact h2 c (List.mem_filter.mpr ⟨hc, hi⟩)
  · simpa [hi] using h
set_option maxRecDepth 65536 in
theorem w_c0 : (Jvm.Cond.code x code maxLocals ret).before args0 about1 = true := code_word (m := ⟨1, 1⟩) (meth := k1m1) (c := k1c1) (by decide +kernel) rfl rfl rfl (by decide +kernel)
set_option maxRecDepth 65536 in
theorem w_c1 : (Jvm.Cond.code ({ cls := "com/example/sluice/sluice/checkpoint/ChainAccount", name := "<init>", desc := "(J)V" } : Jvm.MethodName) prog_41_method_1_code (3 : Nat) (Option.none : Option Jvm.ClassFile.FieldType)).before args0 about1 = true := code_word (m := ⟨2, 0⟩) (meth := k2m0) (c := k2c0) (by decide +kernel) rfl rfl rfl (by decide +kernel)
set_option maxRecDepth 65536 in
theorem w_c2 : (Jvm.Cond.code ({ cls := "java/lang/Object", name := "<init>", desc := "()V" } : Jvm.MethodName) object_method_1_code (1 : Nat) (Option.none : Option Jvm.ClassFile.FieldType)).before args0 about1 = true := code_word (m := ⟨0, 0⟩) (meth := k0m0) (c := k0c0) (by decide +kernel) rfl rfl rfl (by decide +kernel)
set_option maxRecDepth 65536 in
theorem w_c3 : (Jvm.Cond.code ({ cls := "com/example/sluice/sluice/checkpoint/ChainAccount", name := "stored", desc := "(JJZ)V" } : Jvm.MethodName) prog_41_method_5_code (6 : Nat) (Option.none : Option Jvm.ClassFile.FieldType)).before args0 about1 = true := code_word (m := ⟨2, 4⟩) (meth := k2m4) (c := k2c4) (by decide +kernel) rfl rfl rfl (by decide +kernel)
set_option maxRecDepth 65536 in
theorem w_c4 : (Jvm.Cond.code ({ cls := "com/example/sluice/sluice/checkpoint/ChainAccount", name := "left", desc := "()J" } : Jvm.MethodName) prog_41_method_4_code (1 : Nat) (Option.some Jvm.ClassFile.FieldType.long)).before args0 about1 = true := code_word (m := ⟨2, 3⟩) (meth := k2m3) (c := k2c3) (by decide +kernel) rfl rfl rfl (by decide +kernel)
set_option maxRecDepth 65536 in
theorem w_c5 : (Jvm.Cond.code ({ cls := "com/example/sluice/sluice/checkpoint/ChainAccount", name := "noChanges", desc := "()Z" } : Jvm.MethodName) prog_41_method_3_code (1 : Nat) (Option.some Jvm.ClassFile.FieldType.boolean)).before args0 about1 = true := code_word (m := ⟨2, 2⟩) (meth := k2m2) (c := k2c2) (by decide +kernel) rfl rfl rfl (by decide +kernel)
set_option maxRecDepth 65536 in
theorem w_c6 : (Jvm.Cond.code ({ cls := "com/example/sluice/sluice/checkpoint/ChainAccount", name := "mayChange", desc := "(J)Z" } : Jvm.MethodName) prog_41_method_2_code (3 : Nat) (Option.some Jvm.ClassFile.FieldType.boolean)).before args0 about1 = true := code_word (m := ⟨2, 1⟩) (meth := k2m1) (c := k2c1) (by decide +kernel) rfl rfl rfl (by decide +kernel)
def codes1 : List Jvm.Cond := [Jvm.Cond.code x code maxLocals ret, Jvm.Cond.code ({ cls := "com/example/sluice/sluice/checkpoint/ChainAccount", name := "<init>", desc := "(J)V" } : Jvm.MethodName) prog_41_method_1_code (3 : Nat) (Option.none : Option Jvm.ClassFile.FieldType), Jvm.Cond.code ({ cls := "java/lang/Object", name := "<init>", desc := "()V" } : Jvm.MethodName) object_method_1_code (1 : Nat) (Option.none : Option Jvm.ClassFile.FieldType), Jvm.Cond.code ({ cls := "com/example/sluice/sluice/checkpoint/ChainAccount", name := "stored", desc := "(JJZ)V" } : Jvm.MethodName) prog_41_method_5_code (6 : Nat) (Option.none : Option Jvm.ClassFile.FieldType), Jvm.Cond.code ({ cls := "com/example/sluice/sluice/checkpoint/ChainAccount", name := "left", desc := "()J" } : Jvm.MethodName) prog_41_method_4_code (1 : Nat) (Option.some Jvm.ClassFile.FieldType.long), Jvm.Cond.code ({ cls := "com/example/sluice/sluice/checkpoint/ChainAccount", name := "noChanges", desc := "()Z" } : Jvm.MethodName) prog_41_method_3_code (1 : Nat) (Option.some Jvm.ClassFile.FieldType.boolean), Jvm.Cond.code ({ cls := "com/example/sluice/sluice/checkpoint/ChainAccount", name := "mayChange", desc := "(J)Z" } : Jvm.MethodName) prog_41_method_2_code (3 : Nat) (Option.some Jvm.ClassFile.FieldType.boolean)]
set_option maxRecDepth 65536 in
theorem codes_eq : words1.filter isCode = codes1 := rfl
theorem w_codes : ∀ c ∈ words1.filter isCode, c.before args0 about1 = true := by
  rw [codes_eq]
  intro c hc
  simp only [codes1, List.mem_cons, List.not_mem_nil, or_false] at hc
  rcases hc with rfl | rfl | rfl | rfl | rfl | rfl | rfl
  · exact w_c0
  · exact w_c1
  · exact w_c2
  · exact w_c3
  · exact w_c4
  · exact w_c5
  · exact w_c6
set_option maxRecDepth 65536 in
theorem w_t1 : (words1.take 24).all (fun c => isCode c || c.before args0 about1) = true := by decide +kernel
set_option maxRecDepth 65536 in
theorem w_t2 : (words1.drop 24).all (fun c => isCode c || c.before args0 about1) = true := by decide +kernel
theorem w_tables : (allAtoms (Jvm.Cond.code x code maxLocals ret :: tables_1)).before args0 about1 = true := by
  rw [allAtoms_all]
  show words1.all (fun c => c.before args0 about1) = true
  refine all_split ?_ w_codes
  rw [← List.take_append_drop 24 words1, List.all_append, w_t1, w_t2]
  rfl
set_option maxRecDepth 65536 in
theorem w_case : (Jvm.Cond.and given_1 narrow_1).before args0 about1 = true := by decide +kernel
theorem w_applies : (headSpec (Jvm.Cond.code x code maxLocals ret :: tables_1) room_1).applies x e0.platform about1 = true :=
  (Spec.applies_iff w_frames).mpr ⟨w_running, w_runnable, w_alone, w_named, w_hears, w_ripe, w_room, w_tables⟩
theorem atStart : AtStart classFile x code maxLocals ret World_1 tables_1 room_1 Calls_1 rest_1 Pre_1 launch0 p0 e0 about1 theMethod args0 below0 :=
  ⟨lists_1, trivial, launch0.admits_env _ _ _, launch0.least_env, fairChoices_fair.cas, fairChoices_fair.clock, w_frames, w_args, w_heap, w_applies, trivial, trivial, w_case⟩
end start1
theorem witness_1 : WitnessClaimed_1 := ⟨start1.p0, start1.e0, start1.about1, start1.theMethod, start1.args0, start1.below0, start1.atStart⟩
end Jvm.Pilot.@@N@@
