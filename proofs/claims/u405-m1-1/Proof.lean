import JvmDerived
import JvmDerived.Pilot.@@N@@Statement
import JvmDerived.Pilot.@@N@@Code
set_option linter.unusedVariables false
set_option linter.unusedSimpArgs false
namespace Jvm.Pilot.@@N@@
open Jvm Jvm.ClassFile Sem Op Lib Jvm.Free Jvm.Stand Jvm.LawKit Jvm.RoadKit Bundle Jvm.Pilot.@@N@@.Jvm.D
def own_bi (P : Prop) [Decidable P] : Int32 := if P then 1 else 0
theorem own_bi_t {P : Prop} [Decidable P] (h : P) : own_bi P = 1 := if_pos h
theorem own_bi_f {P : Prop} [Decidable P] (h : ¬ P) : own_bi P = 0 := if_neg h
theorem own_bi_01 (P : Prop) [Decidable P] : own_bi P = 0 ∨ own_bi P = 1 := by by_cases h : P <;> simp [own_bi, h]
theorem own_bi_eq {P Q : Prop} [Decidable P] [Decidable Q] (h : P ↔ Q) : own_bi P = own_bi Q := by by_cases q : P <;> simp [own_bi, q, ← h]
theorem own_bi_iff (P : Prop) [Decidable P] : own_bi P = 1 ↔ P := by by_cases q : P <;> simp [own_bi, q]
theorem own_bi_ne (P : Prop) [Decidable P] : own_bi P = 0 ↔ ¬ P := by by_cases q : P <;> simp [own_bi, q]
theorem own_ofNat {n : Nat} (h : n < 2147483648) : (Int32.ofNat n).toInt = (n : Int) := len_toInt h
theorem own_narZ {z : Int32} (h : z = 0 ∨ z = 1) : narrow .boolean (.int z) = .int z := by rcases h with rfl | rfl <;> rfl
theorem own_fitZ {z : Int32} (h : z = 0 ∨ z = 1) : fits .boolean (.int z) = true := by rcases h with rfl | rfl <;> rfl
theorem own_ns {Z : State} {a0 : Array Value} {O K : String} {n : Nat} (w : (Jvm.Cond.noSuperclass O).before a0 Z = true) (wi : (Jvm.Cond.instantiable K n).before a0 Z = true) (hn : O ≠ K) : NS Z O K := by
  obtain ⟨oc, ok, a1, a2, a3, -, -⟩ := Cond.noSuperclass_spec w
  obtain ⟨kc, kk, b1, -⟩ := Cond.instantiable_spec wi
  have hne : oc ≠ kc := ids_ne a1 b1 hn
  refine ⟨oc, kc, a1, b1, fun fuel => ?_⟩
  rcases fuel with _ | f
  · rfl
  · simp [Vm.isSubclassAux, hne, a2, a3]
theorem own_no {Z : State} {a0 : Array Value} {C S K : String} {n : Nat} (w : (Jvm.Cond.superclass C S).before a0 Z = true) (wi : (Jvm.Cond.instantiable K n).before a0 Z = true) (ns : NS Z C K) (hn : C ≠ K) : ∃ c t, Z.vm.findClass C = some c ∧ Z.vm.findClass K = some t ∧ Z.vm.assignable c t = false := by
  obtain ⟨c, t, a1, a2, a3⟩ := ns
  obtain ⟨sc, ck, sk, -, b2, -, -, b5, -, -⟩ := Cond.superclass_spec a1 w
  obtain ⟨t', tk, d1, d2, d3, d4, -⟩ := Cond.instantiable_spec wi
  cases a2.symm.trans d1
  have hne : c ≠ t := ids_ne a1 a2 hn
  have d5 : tk.isInterface = false := (Bool.or_eq_false_iff.mp d4).1
  refine ⟨c, t, a1, a2, ?_⟩
  show Z.vm.assignableAux (255 + 1) c t = false
  simp [Vm.assignableAux, Vm.isSubclass, hne, b2, d2, b5, d3, d5, a3]
theorem own_jj {p : Int64} (h1 : ¬ p < (-128 : Int64)) (h2 : ¬ (127 : Int64) < p) : ¬ (p.toInt32 + (128 : Int32)) < 0 ∧ (p.toInt32 + (128 : Int32)) < (256 : Int32) := by
  rw [Int64.lt_iff_toInt_lt] at h1 h2
  have e1 : (-128 : Int64).toInt = -128 := rfl
  have e2 : (127 : Int64).toInt = 127 := rfl
  rw [e1] at h1; rw [e2] at h2
  have q1 := c_l2i p
  have q2 := c_iadd p.toInt32 128
  have q3 := rng32 p.toInt32
  have q4 := rng32 (p.toInt32 + 128)
  have e3 : (128 : Int32).toInt = 128 := rfl
  rw [e3] at q2
  rw [Int32.lt_iff_toInt_lt, Int32.lt_iff_toInt_lt]
  show ¬ _ < (0 : Int) ∧ _ < (256 : Int)
  omega
theorem own_sub {Z : State} {args : Array Value} {j : Int32} (hj : ¬ j < 0) : (Term.sub (Term.index 0) (Term.int (128 : Int32))).eval args Z none [j.toNatClampNeg] Z = some (.int (j - 128)) := by
  have a := idx_at (args := args) (s := Z) (first := Z) (o := none) hj
  simp [Term.eval] at a ⊢
  simp [a]
theorem own_len {args : Array Value} {s : State} {t : Term} {a : Addr} {c : Cell} {ty : FieldType} {n : Int32} (h : (Term.length t).eval args s none [] s = some (.int n)) (ht : t.eval args s none [] s = some (.ref a)) (A : Arr s s.heap a c ty) : c.slots.size < 2 ^ 31 ∧ c.slots.size.toInt32 = n := by
  have ha : s.arrayAt? a = some c := A.fin (Vm.Alike.refl _)
  simpa [Term.eval, ht, ha] using h
theorem own_eqI {args : Array Value} {s : State} {t : Term} {n : Int32} (h : (Jvm.Cond.eq t (Term.int n)).value args s none s [] = some true) : t.eval args s none [] s = some (.int n) := by
  obtain ⟨x, y, hx, hy, k1, k2⟩ := cmp_v (Or.inl h)
  cases Option.some.inj (hy.symm.trans (show (Term.int n).eval args s none [] s = some (.int n) from rfl))
  obtain ⟨z, rfl⟩ := k2
  have q : z = n := by simpa [Cond.value, hx, hy] using h
  rw [hx, q]
theorem own_eqJ {args : Array Value} {s : State} {t : Term} {n : Int64} (h : (Jvm.Cond.eq t (Term.long n)).value args s none s [] = some true) : t.eval args s none [] s = some (.long n) := by
  obtain ⟨x, y, hx, hy, k1, k2⟩ := cmp_v (Or.inl h)
  cases Option.some.inj (hy.symm.trans (show (Term.long n).eval args s none [] s = some (.long n) from rfl))
  obtain ⟨z, rfl⟩ := k2
  have q : z = n := by simpa [Cond.value, hx, hy] using h
  rw [hx, q]
theorem pn_2 : plainName "java/lang/Record" = true := by first | (simp [plainName, overriddenIn]; done) | decide +kernel
theorem d2_0 : decode jdk_30_method_1_code 0 = .ok (.aload_n 0, 1) := by decide +kernel
theorem d2_1 : decode jdk_30_method_1_code 1 = .ok (.invokespecial 1, 3) := by decide +kernel
theorem d2_4 : decode jdk_30_method_1_code 4 = .ok (.return_, 1) := by decide +kernel
theorem ef_2 (m : MethodId) (a1 : Addr) : entryFrame m #[(.ref a1)] 1 = mkF m 0 #[.val (.ref a1)] [] := by first | (simp [entryFrame, mkF, argsToLocals, Value.category]; done) | rfl
def Q2 (Z : State) (a1 : Addr) (h0 : Heap) (n0 : Nat) (v : Option Value) (h : Heap) (L : List Loc) : Prop := v = none ∧ Fr n0 L ∧ h = h0
set_option maxRecDepth 65536 in
set_option maxHeartbeats 40000000 in
theorem rm2 (l : Launch) (Z : State) (a0 : Array Value) (hw : ∀ d ∈ tables_1, d.before a0 Z = true) (ws : List Jvm.Cond) (a1 : Addr) (h0 : Heap) (n0 : Nat) (Z0 : n0 ≤ h0.size) :
    MetFree l (⟨"java/lang/Record", "<init>", "()V"⟩ : MethodName) (head1 (Jvm.Cond.code (⟨"java/lang/Record", "<init>", "()V"⟩ : MethodName) jdk_30_method_1_code 1 none :: ws) ({ frames := 1, cells := 0, slots := 0, locals := 12 } : Room)) (fun a U => a = #[(.ref a1)] ∧ Z.Warmed39 U.vm ∧ U.heap = h0) (fun _ _ _ _ _ => True) (fun _ U o U' => ∃ v L, o = .returned v ∧ Q2 Z a1 h0 n0 v U'.heap L ∧ FrameEnd U o U' L ({ frames := 1, cells := 0, slots := 0, locals := 12 } : Room).cells ({ frames := 1, cells := 0, slots := 0, locals := 12 } : Room).slots) := by
  refine MetFree.of_bodySF (plainFor_of_name pn_2) hisR ?_
  intro p e s m args below meth c s₁ Bd hml0 hP hK
  obtain ⟨rfl, hZ, hh⟩ := hP
  have hx := Bd.exec
  have hby := Bd.bytes
  have hml : c.maxLocals = 1 := hml0
  have hown : s.vm.findClass "java/lang/Record" = some m.cls := findClass_of_methodNamed Bd.named
  have hnm := (name_of_methodNamed Bd.named Bd.method).1
  have X0 : Stand p l e ({ frames := 1, cells := 0, slots := 0, locals := 12 } : Room) s m #[(.ref a1)] below meth c s₁ [] 0 0 := Stand.of_body Bd
  have e0 : s₁.heap = h0 := by rw [← hh, Bd.state]; rfl
  have N0 := Fr.nil n0
  have pre0 : ∀ t, Steps p.tables e below (s₁.setTop (mkF m 0 #[.val (.ref a1)] [])) t → Steps p.tables e below (s₁.setTop (entryFrame m #[(.ref a1)] 1)) t := fun t k => castTop (ef_2 m a1) k
  have pre1 : ∀ t, Steps p.tables e below (s₁.setTop (mkF m 1 #[.val (.ref a1)] [(.ref a1)])) t → Steps p.tables e below (s₁.setTop (entryFrame m #[(.ref a1)] 1)) t := by
    intro t k
    refine pre0 t ?_
    refine XS.aloadN X0.here hx rfl (hb hby d2_0) rfl rfl ?_
    show Steps p.tables e below (s₁.setTop (mkF m 1 #[.val (.ref a1)] [(.ref a1)])) _
    exact k
  obtain ⟨T2, X2, e2, st2⟩ := initO X0 hx hZ hown (hw _ (List.mem_of_getElem? (i := 11) rfl)) (hw _ (List.mem_of_getElem? (i := 12) rfl)) (hw _ (List.mem_of_getElem? (i := 13) rfl)) e0 (g := (mkF m 1 #[.val (.ref a1)] [(.ref a1)])) rfl (by rw [hml]; rfl) rfl (hb hby d2_1) (by decide) (W := 0) (by show 2 * 0 + _ ≤ _; exact Nat.le_of_eq rfl) (by decide)
  have pre3 : ∀ t, Steps p.tables e below (T2.setTop (mkF m 4 #[.val (.ref a1)] [])) t → Steps p.tables e below (s₁.setTop (entryFrame m #[(.ref a1)] 1)) t := fun t k => pre1 t (st2 t k)
  obtain ⟨fs, hr, hrun, hended, hW, hsame⟩ := X2.leave (v := none) (fun _ => rfl)
  refine ⟨_, _, pre3 _ ?_, hrun, hended, _, _, rfl, ?_, ⟨_, rfl⟩, hW, hsame.mono (by decide) (by decide)⟩
  · exact X2.returnOut hx Bd.returns (hb hby d2_4) hr
  · show Q2 Z a1 h0 n0 _ T2.heap _
    rw [e2]
    exact ⟨rfl, N0, rfl⟩
theorem pn_7 : plainName "java/lang/Number" = true := by first | (simp [plainName, overriddenIn]; done) | decide +kernel
theorem d7_0 : decode jdk_18_method_1_code 0 = .ok (.aload_n 0, 1) := by decide +kernel
theorem d7_1 : decode jdk_18_method_1_code 1 = .ok (.invokespecial 1, 3) := by decide +kernel
theorem d7_4 : decode jdk_18_method_1_code 4 = .ok (.return_, 1) := by decide +kernel
theorem ef_7 (m : MethodId) (a1 : Addr) : entryFrame m #[(.ref a1)] 1 = mkF m 0 #[.val (.ref a1)] [] := by first | (simp [entryFrame, mkF, argsToLocals, Value.category]; done) | rfl
def Q7 (Z : State) (a1 : Addr) (h0 : Heap) (n0 : Nat) (v : Option Value) (h : Heap) (L : List Loc) : Prop := v = none ∧ Fr n0 L ∧ h = h0
set_option maxRecDepth 65536 in
set_option maxHeartbeats 40000000 in
theorem rm7 (l : Launch) (Z : State) (a0 : Array Value) (hw : ∀ d ∈ tables_1, d.before a0 Z = true) (ws : List Jvm.Cond) (a1 : Addr) (h0 : Heap) (n0 : Nat) (Z0 : n0 ≤ h0.size) :
    MetFree l (⟨"java/lang/Number", "<init>", "()V"⟩ : MethodName) (head1 (Jvm.Cond.code (⟨"java/lang/Number", "<init>", "()V"⟩ : MethodName) jdk_18_method_1_code 1 none :: ws) ({ frames := 1, cells := 0, slots := 0, locals := 12 } : Room)) (fun a U => a = #[(.ref a1)] ∧ Z.Warmed39 U.vm ∧ U.heap = h0) (fun _ _ _ _ _ => True) (fun _ U o U' => ∃ v L, o = .returned v ∧ Q7 Z a1 h0 n0 v U'.heap L ∧ FrameEnd U o U' L ({ frames := 1, cells := 0, slots := 0, locals := 12 } : Room).cells ({ frames := 1, cells := 0, slots := 0, locals := 12 } : Room).slots) := by
  refine MetFree.of_bodySF (plainFor_of_name pn_7) hisR ?_
  intro p e s m args below meth c s₁ Bd hml0 hP hK
  obtain ⟨rfl, hZ, hh⟩ := hP
  have hx := Bd.exec
  have hby := Bd.bytes
  have hml : c.maxLocals = 1 := hml0
  have hown : s.vm.findClass "java/lang/Number" = some m.cls := findClass_of_methodNamed Bd.named
  have hnm := (name_of_methodNamed Bd.named Bd.method).1
  have X0 : Stand p l e ({ frames := 1, cells := 0, slots := 0, locals := 12 } : Room) s m #[(.ref a1)] below meth c s₁ [] 0 0 := Stand.of_body Bd
  have e0 : s₁.heap = h0 := by rw [← hh, Bd.state]; rfl
  have N0 := Fr.nil n0
  have pre0 : ∀ t, Steps p.tables e below (s₁.setTop (mkF m 0 #[.val (.ref a1)] [])) t → Steps p.tables e below (s₁.setTop (entryFrame m #[(.ref a1)] 1)) t := fun t k => castTop (ef_7 m a1) k
  have pre1 : ∀ t, Steps p.tables e below (s₁.setTop (mkF m 1 #[.val (.ref a1)] [(.ref a1)])) t → Steps p.tables e below (s₁.setTop (entryFrame m #[(.ref a1)] 1)) t := by
    intro t k
    refine pre0 t ?_
    refine XS.aloadN X0.here hx rfl (hb hby d7_0) rfl rfl ?_
    show Steps p.tables e below (s₁.setTop (mkF m 1 #[.val (.ref a1)] [(.ref a1)])) _
    exact k
  obtain ⟨T2, X2, e2, st2⟩ := initO X0 hx hZ hown (hw _ (List.mem_of_getElem? (i := 50) rfl)) (hw _ (List.mem_of_getElem? (i := 12) rfl)) (hw _ (List.mem_of_getElem? (i := 13) rfl)) e0 (g := (mkF m 1 #[.val (.ref a1)] [(.ref a1)])) rfl (by rw [hml]; rfl) rfl (hb hby d7_1) (by decide) (W := 0) (by show 2 * 0 + _ ≤ _; exact Nat.le_of_eq rfl) (by decide)
  have pre3 : ∀ t, Steps p.tables e below (T2.setTop (mkF m 4 #[.val (.ref a1)] [])) t → Steps p.tables e below (s₁.setTop (entryFrame m #[(.ref a1)] 1)) t := fun t k => pre1 t (st2 t k)
  obtain ⟨fs, hr, hrun, hended, hW, hsame⟩ := X2.leave (v := none) (fun _ => rfl)
  refine ⟨_, _, pre3 _ ?_, hrun, hended, _, _, rfl, ?_, ⟨_, rfl⟩, hW, hsame.mono (by decide) (by decide)⟩
  · exact X2.returnOut hx Bd.returns (hb hby d7_4) hr
  · show Q7 Z a1 h0 n0 _ T2.heap _
    rw [e2]
    exact ⟨rfl, N0, rfl⟩
theorem pd_sup1 : parseMethodDescriptor "()V" = some ⟨[], none⟩ := by decide +kernel
theorem pn_1 : plainName "com/example/sluice/sluice/checkpoint/CheckpointNames$ChainFile" = true := by first | (simp [plainName, overriddenIn]; done) | decide +kernel
theorem d1_0 : decode prog_55_method_1_code 0 = .ok (.aload_n 0, 1) := by decide +kernel
theorem d1_1 : decode prog_55_method_1_code 1 = .ok (.invokespecial 3, 3) := by decide +kernel
theorem d1_4 : decode prog_55_method_1_code 4 = .ok (.aload_n 0, 1) := by decide +kernel
theorem d1_5 : decode prog_55_method_1_code 5 = .ok (.lload_n 1, 1) := by decide +kernel
theorem d1_6 : decode prog_55_method_1_code 6 = .ok (.putfield 9, 3) := by decide +kernel
theorem d1_9 : decode prog_55_method_1_code 9 = .ok (.aload_n 0, 1) := by decide +kernel
theorem d1_10 : decode prog_55_method_1_code 10 = .ok (.iload_n 3, 1) := by decide +kernel
theorem d1_11 : decode prog_55_method_1_code 11 = .ok (.putfield 15, 3) := by decide +kernel
theorem d1_14 : decode prog_55_method_1_code 14 = .ok (.aload_n 0, 1) := by decide +kernel
theorem d1_15 : decode prog_55_method_1_code 15 = .ok (.iload 4, 2) := by decide +kernel
theorem d1_17 : decode prog_55_method_1_code 17 = .ok (.putfield 19, 3) := by decide +kernel
theorem d1_20 : decode prog_55_method_1_code 20 = .ok (.return_, 1) := by decide +kernel
theorem ef_1 (m : MethodId) (a1 : Addr) (p1 : Int64) (p2 : Int32) (p3 : Int32) : entryFrame m #[(.ref a1), (.long p1), (.int p2), (.int p3)] 5 = mkF m 0 #[.val (.ref a1), .val (.long p1), .second, .val (.int p2), .val (.int p3)] [] := by first | (simp [entryFrame, mkF, argsToLocals, Value.category]; done) | rfl
def Q1 (Z : State) (a1 : Addr) (p1 : Int64) (p2 : Int32) (p3 : Int32) (h0 : Heap) (n0 : Nat) (v : Option Value) (h : Heap) (L : List Loc) : Prop := v = none ∧ Fr n0 L ∧ Keep h0 h [a1] ∧ Fld Z h a1 "com/example/sluice/sluice/checkpoint/CheckpointNames$ChainFile" "id" "J" (.long p1) ∧ Fld Z h a1 "com/example/sluice/sluice/checkpoint/CheckpointNames$ChainFile" "part" "I" (.int p2) ∧ Fld Z h a1 "com/example/sluice/sluice/checkpoint/CheckpointNames$ChainFile" "changes" "Z" (.int p3)
set_option maxRecDepth 65536 in
set_option maxHeartbeats 40000000 in
theorem rm1 (l : Launch) (Z : State) (a0 : Array Value) (hw : ∀ d ∈ tables_1, d.before a0 Z = true) (ws : List Jvm.Cond) (a1 : Addr) (p1 : Int64) (p2 : Int32) (p3 : Int32) (h0 : Heap) (n0 : Nat) (Z0 : n0 ≤ h0.size) (E1 : Exa Z h0 a1 "com/example/sluice/sluice/checkpoint/CheckpointNames$ChainFile") (ga1 : n0 ≤ a1) (z3 : p3 = 0 ∨ p3 = 1) (Fd0 : Fld Z h0 a1 "com/example/sluice/sluice/checkpoint/CheckpointNames$ChainFile" "id" "J" (.long (0 : Int64))) (Fd1 : Fld Z h0 a1 "com/example/sluice/sluice/checkpoint/CheckpointNames$ChainFile" "part" "I" (.int (0 : Int32))) (Fd2 : Fld Z h0 a1 "com/example/sluice/sluice/checkpoint/CheckpointNames$ChainFile" "changes" "Z" (.int (0 : Int32))) :
    MetFree l (⟨"com/example/sluice/sluice/checkpoint/CheckpointNames$ChainFile", "<init>", "(JIZ)V"⟩ : MethodName) (head1 (Jvm.Cond.code (⟨"com/example/sluice/sluice/checkpoint/CheckpointNames$ChainFile", "<init>", "(JIZ)V"⟩ : MethodName) prog_55_method_1_code 5 none :: ws) ({ frames := 2, cells := 0, slots := 0, locals := 24 } : Room)) (fun a U => a = #[(.ref a1), (.long p1), (.int p2), (.int p3)] ∧ Z.Warmed39 U.vm ∧ U.heap = h0) (fun _ _ _ _ _ => True) (fun _ U o U' => ∃ v L, o = .returned v ∧ Q1 Z a1 p1 p2 p3 h0 n0 v U'.heap L ∧ FrameEnd U o U' L ({ frames := 2, cells := 0, slots := 0, locals := 24 } : Room).cells ({ frames := 2, cells := 0, slots := 0, locals := 24 } : Room).slots) := by
  refine MetFree.of_bodySF (plainFor_of_name pn_1) hisR ?_
  intro p e s m args below meth c s₁ Bd hml0 hP hK
  obtain ⟨rfl, hZ, hh⟩ := hP
  have hx := Bd.exec
  have hby := Bd.bytes
  have hml : c.maxLocals = 5 := hml0
  have hown : s.vm.findClass "com/example/sluice/sluice/checkpoint/CheckpointNames$ChainFile" = some m.cls := findClass_of_methodNamed Bd.named
  have hnm := (name_of_methodNamed Bd.named Bd.method).1
  have X0 : Stand p l e ({ frames := 2, cells := 0, slots := 0, locals := 24 } : Room) s m #[(.ref a1), (.long p1), (.int p2), (.int p3)] below meth c s₁ [] 0 0 := Stand.of_body Bd
  have e0 : s₁.heap = h0 := by rw [← hh, Bd.state]; rfl
  have N0 := Fr.nil n0
  have pre0 : ∀ t, Steps p.tables e below (s₁.setTop (mkF m 0 #[.val (.ref a1), .val (.long p1), .second, .val (.int p2), .val (.int p3)] [])) t → Steps p.tables e below (s₁.setTop (entryFrame m #[(.ref a1), (.long p1), (.int p2), (.int p3)] 5)) t := fun t k => castTop (ef_1 m a1 p1 p2 p3) k
  have pre2 : ∀ t, Steps p.tables e below (s₁.setTop (mkF m 1 #[.val (.ref a1), .val (.long p1), .second, .val (.int p2), .val (.int p3)] [(.ref a1)])) t → Steps p.tables e below (s₁.setTop (entryFrame m #[(.ref a1), (.long p1), (.int p2), (.int p3)] 5)) t := by
    intro t k
    refine pre0 t ?_
    refine XS.aloadN X0.here hx rfl (hb hby d1_0) rfl rfl ?_
    show Steps p.tables e below (s₁.setTop (mkF m 1 #[.val (.ref a1), .val (.long p1), .second, .val (.int p2), .val (.int p3)] [(.ref a1)])) _
    exact k
  have K1 : Keep h0 h0 [a1] := (Keep.refl h0 [a1])
  obtain ⟨_, _, ⟨T3, L3, k3, n3⟩, -, X3, ⟨Lc3, hQ3, l3, y3, z3⟩, st3⟩ := X0.specialBack hx (y := (⟨"java/lang/Record", "<init>", "()V"⟩ : MethodName)) rfl hown (mvT hZ (hw _ (List.mem_of_getElem? (i := 6) rfl))) (mvT hZ (hw _ (List.mem_of_getElem? (i := 7) rfl))) (mvT hZ (hw _ (List.mem_of_getElem? (i := 10) rfl))) (by decide) (backOf (W := 0) (rm2 l Z a0 hw [] a1 h0 n0 Z0) hZ (hw _ (List.mem_of_getElem? (i := 10) rfl)) (hw _ (List.mem_of_getElem? (i := 9) rfl)) (by decide) (by decide)) (g := (mkF m 1 #[.val (.ref a1), .val (.long p1), .second, .val (.int p2), .val (.int p3)] [(.ref a1)])) rfl (by rw [hml]; rfl) (Steps.refl _) (a := a1) (argsL := []) (rest := []) (lenOf pd_sup1 rfl) rfl (by show 2 * 0 + _ ≤ _; exact Nat.le_of_eq rfl) (hb hby d1_1) (fun _ _ => ⟨rfl, e0, (by decide : 0 + 0 ≤ _), (by decide : 0 + 0 ≤ _)⟩)
  dsimp only [Pt.U, Pt.locs, Pt.cells, Pt.slots] at X3 l3 y3 z3 st3 hQ3
  subst l3 y3 z3
  obtain ⟨rfl, Nq3, heq3⟩ := hQ3
  have N3 := Fr.app N0 Nq3
  have pre4 : ∀ t, Steps p.tables e below (T3.setTop (mkF m 4 #[.val (.ref a1), .val (.long p1), .second, .val (.int p2), .val (.int p3)] [])) t → Steps p.tables e below (s₁.setTop (entryFrame m #[(.ref a1), (.long p1), (.int p2), (.int p3)] 5)) t := fun t k => pre2 t (st3.trans k)
  have pre6 : ∀ t, Steps p.tables e below (T3.setTop (mkF m 6 #[.val (.ref a1), .val (.long p1), .second, .val (.int p2), .val (.int p3)] [(.long p1), (.ref a1)])) t → Steps p.tables e below (s₁.setTop (entryFrame m #[(.ref a1), (.long p1), (.int p2), (.int p3)] 5)) t := by
    intro t k
    refine pre4 t ?_
    refine XS.aloadN X3.here hx rfl (hb hby d1_4) rfl rfl ?_
    show Steps p.tables e below (T3.setTop (mkF m 5 #[.val (.ref a1), .val (.long p1), .second, .val (.int p2), .val (.int p3)] [(.ref a1)])) _
    refine XT.lloadN X3.here hx rfl (hb hby d1_5) rfl ?_
    show Steps p.tables e below (T3.setTop (mkF m 6 #[.val (.ref a1), .val (.long p1), .second, .val (.int p2), .val (.int p3)] [(.long p1), (.ref a1)])) _
    exact k
  obtain ⟨T7, h7, X7, e7, W7, st7⟩ := putF X3 hx hZ hown (host := "") (Or.inl (hw _ (List.mem_of_getElem? (i := 14) rfl))) Via.refl heq3 Fd0 E1 (Or.inr ⟨(hw _ (List.mem_of_getElem? (i := 15) rfl)), rfl, hnm⟩) (hw _ (List.mem_of_getElem? (i := 1) rfl)) (ty := .long) (by decide) rfl rfl (g := (mkF m 6 #[.val (.ref a1), .val (.long p1), .second, .val (.int p2), .val (.int p3)] [(.long p1), (.ref a1)])) rfl rfl (hb hby d1_6)
  have N7 := Fr.snoc X7 N3 ga1
  have pre8 : ∀ t, Steps p.tables e below (T7.setTop (mkF m 9 #[.val (.ref a1), .val (.long p1), .second, .val (.int p2), .val (.int p3)] [])) t → Steps p.tables e below (s₁.setTop (entryFrame m #[(.ref a1), (.long p1), (.int p2), (.int p3)] 5)) t := fun t k => pre6 t (st7 t k)
  have F9_0 : Fld Z h7 a1 "com/example/sluice/sluice/checkpoint/CheckpointNames$ChainFile" "id" "J" (.long p1) := (Fd0.same W7)
  have F9_1 : Fld Z h7 a1 "com/example/sluice/sluice/checkpoint/CheckpointNames$ChainFile" "part" "I" (.int (0 : Int32)) := (Fd1.other W7 (Or.inr (slot_ne (Or.inr (hw _ (List.mem_of_getElem? (i := 17) rfl))) (Or.inr (hw _ (List.mem_of_getElem? (i := 15) rfl))) (by decide) (t := .int) (t' := .long) (by decide) (by decide))))
  have F9_2 : Fld Z h7 a1 "com/example/sluice/sluice/checkpoint/CheckpointNames$ChainFile" "changes" "Z" (.int (0 : Int32)) := (Fd2.other W7 (Or.inr (slot_ne (Or.inr (hw _ (List.mem_of_getElem? (i := 19) rfl))) (Or.inr (hw _ (List.mem_of_getElem? (i := 15) rfl))) (by decide) (t := .boolean) (t' := .long) (by decide) (by decide))))
  have E9_0 : Exa Z h7 a1 "com/example/sluice/sluice/checkpoint/CheckpointNames$ChainFile" := (E1.wr W7)
  have K9 : Keep h0 h7 [a1] := (K1.wr W7 (Or.inl (List.mem_of_getElem? (i := 0) rfl)))
  have Z9 : n0 ≤ h7.size := (Nat.le_trans Z0 (Nat.le_of_eq W7.size.symm))
  have pre11 : ∀ t, Steps p.tables e below (T7.setTop (mkF m 11 #[.val (.ref a1), .val (.long p1), .second, .val (.int p2), .val (.int p3)] [(.int p2), (.ref a1)])) t → Steps p.tables e below (s₁.setTop (entryFrame m #[(.ref a1), (.long p1), (.int p2), (.int p3)] 5)) t := by
    intro t k
    refine pre8 t ?_
    refine XS.aloadN X7.here hx rfl (hb hby d1_9) rfl rfl ?_
    show Steps p.tables e below (T7.setTop (mkF m 10 #[.val (.ref a1), .val (.long p1), .second, .val (.int p2), .val (.int p3)] [(.ref a1)])) _
    refine XS.iloadN X7.here hx rfl (hb hby d1_10) rfl ?_
    show Steps p.tables e below (T7.setTop (mkF m 11 #[.val (.ref a1), .val (.long p1), .second, .val (.int p2), .val (.int p3)] [(.int p2), (.ref a1)])) _
    exact k
  obtain ⟨T12, h12, X12, e12, W12, st12⟩ := putF X7 hx hZ hown (host := "") (Or.inl (hw _ (List.mem_of_getElem? (i := 16) rfl))) Via.refl e7 F9_1 E9_0 (Or.inr ⟨(hw _ (List.mem_of_getElem? (i := 17) rfl)), rfl, hnm⟩) (hw _ (List.mem_of_getElem? (i := 1) rfl)) (ty := .int) (by decide) rfl rfl (g := (mkF m 11 #[.val (.ref a1), .val (.long p1), .second, .val (.int p2), .val (.int p3)] [(.int p2), (.ref a1)])) rfl rfl (hb hby d1_11)
  have N12 := Fr.snoc X12 N7 ga1
  have pre13 : ∀ t, Steps p.tables e below (T12.setTop (mkF m 14 #[.val (.ref a1), .val (.long p1), .second, .val (.int p2), .val (.int p3)] [])) t → Steps p.tables e below (s₁.setTop (entryFrame m #[(.ref a1), (.long p1), (.int p2), (.int p3)] 5)) t := fun t k => pre11 t (st12 t k)
  have F14_0 : Fld Z h12 a1 "com/example/sluice/sluice/checkpoint/CheckpointNames$ChainFile" "id" "J" (.long p1) := (F9_0.other W12 (Or.inr (slot_ne (Or.inr (hw _ (List.mem_of_getElem? (i := 15) rfl))) (Or.inr (hw _ (List.mem_of_getElem? (i := 17) rfl))) (by decide) (t := .long) (t' := .int) (by decide) (by decide))))
  have F14_1 : Fld Z h12 a1 "com/example/sluice/sluice/checkpoint/CheckpointNames$ChainFile" "part" "I" (.int p2) := (F9_1.same W12)
  have F14_2 : Fld Z h12 a1 "com/example/sluice/sluice/checkpoint/CheckpointNames$ChainFile" "changes" "Z" (.int (0 : Int32)) := (F9_2.other W12 (Or.inr (slot_ne (Or.inr (hw _ (List.mem_of_getElem? (i := 19) rfl))) (Or.inr (hw _ (List.mem_of_getElem? (i := 17) rfl))) (by decide) (t := .boolean) (t' := .int) (by decide) (by decide))))
  have E14_0 : Exa Z h12 a1 "com/example/sluice/sluice/checkpoint/CheckpointNames$ChainFile" := (E9_0.wr W12)
  have K14 : Keep h0 h12 [a1] := (K9.wr W12 (Or.inl (List.mem_of_getElem? (i := 0) rfl)))
  have Z14 : n0 ≤ h12.size := (Nat.le_trans Z9 (Nat.le_of_eq W12.size.symm))
  have pre16 : ∀ t, Steps p.tables e below (T12.setTop (mkF m 17 #[.val (.ref a1), .val (.long p1), .second, .val (.int p2), .val (.int p3)] [(.int p3), (.ref a1)])) t → Steps p.tables e below (s₁.setTop (entryFrame m #[(.ref a1), (.long p1), (.int p2), (.int p3)] 5)) t := by
    intro t k
    refine pre13 t ?_
    refine XS.aloadN X12.here hx rfl (hb hby d1_14) rfl rfl ?_
    show Steps p.tables e below (T12.setTop (mkF m 15 #[.val (.ref a1), .val (.long p1), .second, .val (.int p2), .val (.int p3)] [(.ref a1)])) _
    refine XS.iload X12.here hx rfl (hb hby d1_15) rfl ?_
    show Steps p.tables e below (T12.setTop (mkF m 17 #[.val (.ref a1), .val (.long p1), .second, .val (.int p2), .val (.int p3)] [(.int p3), (.ref a1)])) _
    exact k
  obtain ⟨T17, h17, X17, e17, W17, st17⟩ := putF X12 hx hZ hown (host := "") (Or.inl (hw _ (List.mem_of_getElem? (i := 18) rfl))) Via.refl e12 F14_2 E14_0 (Or.inr ⟨(hw _ (List.mem_of_getElem? (i := 19) rfl)), rfl, hnm⟩) (hw _ (List.mem_of_getElem? (i := 1) rfl)) (ty := .boolean) (by decide) (own_narZ z3) (own_fitZ z3) (g := (mkF m 17 #[.val (.ref a1), .val (.long p1), .second, .val (.int p2), .val (.int p3)] [(.int p3), (.ref a1)])) rfl rfl (hb hby d1_17)
  have N17 := Fr.snoc X17 N12 ga1
  have pre18 : ∀ t, Steps p.tables e below (T17.setTop (mkF m 20 #[.val (.ref a1), .val (.long p1), .second, .val (.int p2), .val (.int p3)] [])) t → Steps p.tables e below (s₁.setTop (entryFrame m #[(.ref a1), (.long p1), (.int p2), (.int p3)] 5)) t := fun t k => pre16 t (st17 t k)
  have F19_0 : Fld Z h17 a1 "com/example/sluice/sluice/checkpoint/CheckpointNames$ChainFile" "id" "J" (.long p1) := (F14_0.other W17 (Or.inr (slot_ne (Or.inr (hw _ (List.mem_of_getElem? (i := 15) rfl))) (Or.inr (hw _ (List.mem_of_getElem? (i := 19) rfl))) (by decide) (t := .long) (t' := .boolean) (by decide) (by decide))))
  have F19_1 : Fld Z h17 a1 "com/example/sluice/sluice/checkpoint/CheckpointNames$ChainFile" "part" "I" (.int p2) := (F14_1.other W17 (Or.inr (slot_ne (Or.inr (hw _ (List.mem_of_getElem? (i := 17) rfl))) (Or.inr (hw _ (List.mem_of_getElem? (i := 19) rfl))) (by decide) (t := .int) (t' := .boolean) (by decide) (by decide))))
  have F19_2 : Fld Z h17 a1 "com/example/sluice/sluice/checkpoint/CheckpointNames$ChainFile" "changes" "Z" (.int p3) := (F14_2.same W17)
  have E19_0 : Exa Z h17 a1 "com/example/sluice/sluice/checkpoint/CheckpointNames$ChainFile" := (E14_0.wr W17)
  have K19 : Keep h0 h17 [a1] := (K14.wr W17 (Or.inl (List.mem_of_getElem? (i := 0) rfl)))
  have Z19 : n0 ≤ h17.size := (Nat.le_trans Z14 (Nat.le_of_eq W17.size.symm))
  obtain ⟨fs, hr, hrun, hended, hW, hsame⟩ := X17.leave (v := none) (fun _ => rfl)
  refine ⟨_, _, pre18 _ ?_, hrun, hended, _, _, rfl, ?_, ⟨_, rfl⟩, hW, hsame.mono (by decide) (by decide)⟩
  · exact X17.returnOut hx Bd.returns (hb hby d1_20) hr
  · show Q1 Z a1 p1 p2 p3 h0 n0 _ T17.heap _
    rw [e17]
    exact ⟨rfl, N17, K19, F19_0, F19_1, F19_2⟩
theorem pd_sup6 : parseMethodDescriptor "()V" = some ⟨[], none⟩ := by decide +kernel
theorem pn_6 : plainName "java/lang/Long" = true := by first | (simp [plainName, overriddenIn]; done) | decide +kernel
theorem d6_0 : decode jdk_35_method_26_code 0 = .ok (.aload_n 0, 1) := by decide +kernel
theorem d6_1 : decode jdk_35_method_26_code 1 = .ok (.invokespecial 270, 3) := by decide +kernel
theorem d6_4 : decode jdk_35_method_26_code 4 = .ok (.aload_n 0, 1) := by decide +kernel
theorem d6_5 : decode jdk_35_method_26_code 5 = .ok (.lload_n 1, 1) := by decide +kernel
theorem d6_6 : decode jdk_35_method_26_code 6 = .ok (.putfield 273, 3) := by decide +kernel
theorem d6_9 : decode jdk_35_method_26_code 9 = .ok (.return_, 1) := by decide +kernel
theorem ef_6 (m : MethodId) (a1 : Addr) (p1 : Int64) : entryFrame m #[(.ref a1), (.long p1)] 3 = mkF m 0 #[.val (.ref a1), .val (.long p1), .second] [] := by first | (simp [entryFrame, mkF, argsToLocals, Value.category]; done) | rfl
def Q6 (Z : State) (a1 : Addr) (p1 : Int64) (h0 : Heap) (n0 : Nat) (v : Option Value) (h : Heap) (L : List Loc) : Prop := v = none ∧ Fr n0 L ∧ Keep h0 h [a1] ∧ Fld Z h a1 "java/lang/Long" "value" "J" (.long p1)
set_option maxRecDepth 65536 in
set_option maxHeartbeats 40000000 in
theorem rm6 (l : Launch) (Z : State) (a0 : Array Value) (hw : ∀ d ∈ tables_1, d.before a0 Z = true) (ws : List Jvm.Cond) (a1 : Addr) (p1 : Int64) (h0 : Heap) (n0 : Nat) (Z0 : n0 ≤ h0.size) (E1 : Exa Z h0 a1 "java/lang/Long") (ga1 : n0 ≤ a1) (Fd0 : Fld Z h0 a1 "java/lang/Long" "value" "J" (.long (0 : Int64))) :
    MetFree l (⟨"java/lang/Long", "<init>", "(J)V"⟩ : MethodName) (head1 (Jvm.Cond.code (⟨"java/lang/Long", "<init>", "(J)V"⟩ : MethodName) jdk_35_method_26_code 3 none :: ws) ({ frames := 2, cells := 0, slots := 0, locals := 24 } : Room)) (fun a U => a = #[(.ref a1), (.long p1)] ∧ Z.Warmed39 U.vm ∧ U.heap = h0) (fun _ _ _ _ _ => True) (fun _ U o U' => ∃ v L, o = .returned v ∧ Q6 Z a1 p1 h0 n0 v U'.heap L ∧ FrameEnd U o U' L ({ frames := 2, cells := 0, slots := 0, locals := 24 } : Room).cells ({ frames := 2, cells := 0, slots := 0, locals := 24 } : Room).slots) := by
  refine MetFree.of_bodySF (plainFor_of_name pn_6) hisR ?_
  intro p e s m args below meth c s₁ Bd hml0 hP hK
  obtain ⟨rfl, hZ, hh⟩ := hP
  have hx := Bd.exec
  have hby := Bd.bytes
  have hml : c.maxLocals = 3 := hml0
  have hown : s.vm.findClass "java/lang/Long" = some m.cls := findClass_of_methodNamed Bd.named
  have hnm := (name_of_methodNamed Bd.named Bd.method).1
  have X0 : Stand p l e ({ frames := 2, cells := 0, slots := 0, locals := 24 } : Room) s m #[(.ref a1), (.long p1)] below meth c s₁ [] 0 0 := Stand.of_body Bd
  have e0 : s₁.heap = h0 := by rw [← hh, Bd.state]; rfl
  have N0 := Fr.nil n0
  have pre0 : ∀ t, Steps p.tables e below (s₁.setTop (mkF m 0 #[.val (.ref a1), .val (.long p1), .second] [])) t → Steps p.tables e below (s₁.setTop (entryFrame m #[(.ref a1), (.long p1)] 3)) t := fun t k => castTop (ef_6 m a1 p1) k
  have pre2 : ∀ t, Steps p.tables e below (s₁.setTop (mkF m 1 #[.val (.ref a1), .val (.long p1), .second] [(.ref a1)])) t → Steps p.tables e below (s₁.setTop (entryFrame m #[(.ref a1), (.long p1)] 3)) t := by
    intro t k
    refine pre0 t ?_
    refine XS.aloadN X0.here hx rfl (hb hby d6_0) rfl rfl ?_
    show Steps p.tables e below (s₁.setTop (mkF m 1 #[.val (.ref a1), .val (.long p1), .second] [(.ref a1)])) _
    exact k
  have K1 : Keep h0 h0 [a1] := (Keep.refl h0 [a1])
  obtain ⟨_, _, ⟨T3, L3, k3, n3⟩, -, X3, ⟨Lc3, hQ3, l3, y3, z3⟩, st3⟩ := X0.specialBack hx (y := (⟨"java/lang/Number", "<init>", "()V"⟩ : MethodName)) rfl hown (mvT hZ (hw _ (List.mem_of_getElem? (i := 44) rfl))) (mvT hZ (hw _ (List.mem_of_getElem? (i := 45) rfl))) (mvT hZ (hw _ (List.mem_of_getElem? (i := 49) rfl))) (by decide) (backOf (W := 0) (rm7 l Z a0 hw [] a1 h0 n0 Z0) hZ (hw _ (List.mem_of_getElem? (i := 49) rfl)) (hw _ (List.mem_of_getElem? (i := 48) rfl)) (by decide) (by decide)) (g := (mkF m 1 #[.val (.ref a1), .val (.long p1), .second] [(.ref a1)])) rfl (by rw [hml]; rfl) (Steps.refl _) (a := a1) (argsL := []) (rest := []) (lenOf pd_sup6 rfl) rfl (by show 2 * 0 + _ ≤ _; exact Nat.le_of_eq rfl) (hb hby d6_1) (fun _ _ => ⟨rfl, e0, (by decide : 0 + 0 ≤ _), (by decide : 0 + 0 ≤ _)⟩)
  dsimp only [Pt.U, Pt.locs, Pt.cells, Pt.slots] at X3 l3 y3 z3 st3 hQ3
  subst l3 y3 z3
  obtain ⟨rfl, Nq3, heq3⟩ := hQ3
  have N3 := Fr.app N0 Nq3
  have pre4 : ∀ t, Steps p.tables e below (T3.setTop (mkF m 4 #[.val (.ref a1), .val (.long p1), .second] [])) t → Steps p.tables e below (s₁.setTop (entryFrame m #[(.ref a1), (.long p1)] 3)) t := fun t k => pre2 t (st3.trans k)
  have pre6 : ∀ t, Steps p.tables e below (T3.setTop (mkF m 6 #[.val (.ref a1), .val (.long p1), .second] [(.long p1), (.ref a1)])) t → Steps p.tables e below (s₁.setTop (entryFrame m #[(.ref a1), (.long p1)] 3)) t := by
    intro t k
    refine pre4 t ?_
    refine XS.aloadN X3.here hx rfl (hb hby d6_4) rfl rfl ?_
    show Steps p.tables e below (T3.setTop (mkF m 5 #[.val (.ref a1), .val (.long p1), .second] [(.ref a1)])) _
    refine XT.lloadN X3.here hx rfl (hb hby d6_5) rfl ?_
    show Steps p.tables e below (T3.setTop (mkF m 6 #[.val (.ref a1), .val (.long p1), .second] [(.long p1), (.ref a1)])) _
    exact k
  obtain ⟨T7, h7, X7, e7, W7, st7⟩ := putF X3 hx hZ hown (host := "") (Or.inl (hw _ (List.mem_of_getElem? (i := 51) rfl))) Via.refl heq3 Fd0 E1 (Or.inr ⟨(hw _ (List.mem_of_getElem? (i := 52) rfl)), rfl, hnm⟩) (hw _ (List.mem_of_getElem? (i := 39) rfl)) (ty := .long) (by decide) rfl rfl (g := (mkF m 6 #[.val (.ref a1), .val (.long p1), .second] [(.long p1), (.ref a1)])) rfl rfl (hb hby d6_6)
  have N7 := Fr.snoc X7 N3 ga1
  have pre8 : ∀ t, Steps p.tables e below (T7.setTop (mkF m 9 #[.val (.ref a1), .val (.long p1), .second] [])) t → Steps p.tables e below (s₁.setTop (entryFrame m #[(.ref a1), (.long p1)] 3)) t := fun t k => pre6 t (st7 t k)
  have F9_0 : Fld Z h7 a1 "java/lang/Long" "value" "J" (.long p1) := (Fd0.same W7)
  have E9_0 : Exa Z h7 a1 "java/lang/Long" := (E1.wr W7)
  have K9 : Keep h0 h7 [a1] := (K1.wr W7 (Or.inl (List.mem_of_getElem? (i := 0) rfl)))
  have Z9 : n0 ≤ h7.size := (Nat.le_trans Z0 (Nat.le_of_eq W7.size.symm))
  obtain ⟨fs, hr, hrun, hended, hW, hsame⟩ := X7.leave (v := none) (fun _ => rfl)
  refine ⟨_, _, pre8 _ ?_, hrun, hended, _, _, rfl, ?_, ⟨_, rfl⟩, hW, hsame.mono (by decide) (by decide)⟩
  · exact X7.returnOut hx Bd.returns (hb hby d6_9) hr
  · show Q6 Z a1 p1 h0 n0 _ T7.heap _
    rw [e7]
    exact ⟨rfl, N7, K9, F9_0⟩
theorem pn_4 : plainName "com/example/sluice/sluice/checkpoint/CheckpointNames$ChainFile" = true := by first | (simp [plainName, overriddenIn]; done) | decide +kernel
theorem d4_0 : decode prog_55_method_3_code 0 = .ok (.aload_n 1, 1) := by decide +kernel
theorem d4_1 : decode prog_55_method_3_code 1 = .ok (.instanceof 10, 3) := by decide +kernel
theorem d4_4 : decode prog_55_method_3_code 4 = .ok (.ifCond .eq 46, 3) := by decide +kernel
theorem d4_7 : decode prog_55_method_3_code 7 = .ok (.aload_n 1, 1) := by decide +kernel
theorem d4_8 : decode prog_55_method_3_code 8 = .ok (.checkcast 10, 3) := by decide +kernel
theorem d4_11 : decode prog_55_method_3_code 11 = .ok (.astore_n 2, 1) := by decide +kernel
theorem d4_12 : decode prog_55_method_3_code 12 = .ok (.aload_n 2, 1) := by decide +kernel
theorem d4_13 : decode prog_55_method_3_code 13 = .ok (.getfield 9, 3) := by decide +kernel
theorem d4_16 : decode prog_55_method_3_code 16 = .ok (.aload_n 0, 1) := by decide +kernel
theorem d4_17 : decode prog_55_method_3_code 17 = .ok (.getfield 9, 3) := by decide +kernel
theorem d4_20 : decode prog_55_method_3_code 20 = .ok (.lcmp, 1) := by decide +kernel
theorem d4_21 : decode prog_55_method_3_code 21 = .ok (.ifCond .ne 29, 3) := by decide +kernel
theorem d4_24 : decode prog_55_method_3_code 24 = .ok (.aload_n 2, 1) := by decide +kernel
theorem d4_25 : decode prog_55_method_3_code 25 = .ok (.getfield 15, 3) := by decide +kernel
theorem d4_28 : decode prog_55_method_3_code 28 = .ok (.aload_n 0, 1) := by decide +kernel
theorem d4_29 : decode prog_55_method_3_code 29 = .ok (.getfield 15, 3) := by decide +kernel
theorem d4_32 : decode prog_55_method_3_code 32 = .ok (.if_icmp .ne 18, 3) := by decide +kernel
theorem d4_35 : decode prog_55_method_3_code 35 = .ok (.aload_n 2, 1) := by decide +kernel
theorem d4_36 : decode prog_55_method_3_code 36 = .ok (.getfield 19, 3) := by decide +kernel
theorem d4_39 : decode prog_55_method_3_code 39 = .ok (.aload_n 0, 1) := by decide +kernel
theorem d4_40 : decode prog_55_method_3_code 40 = .ok (.getfield 19, 3) := by decide +kernel
theorem d4_43 : decode prog_55_method_3_code 43 = .ok (.if_icmp .ne 7, 3) := by decide +kernel
theorem d4_46 : decode prog_55_method_3_code 46 = .ok (.iconst 1, 1) := by decide +kernel
theorem d4_47 : decode prog_55_method_3_code 47 = .ok (.goto 4, 3) := by decide +kernel
theorem d4_50 : decode prog_55_method_3_code 50 = .ok (.iconst 0, 1) := by decide +kernel
theorem d4_51 : decode prog_55_method_3_code 51 = .ok (.ireturn, 1) := by decide +kernel
theorem ef_4f (m : MethodId) (a1 : Addr) (a2 : Addr) : entryFrame m #[(.ref a1), (.ref a2)] 3 = mkF m 0 #[.val (.ref a1), .val (.ref a2), .unset] [] := by first | (simp [entryFrame, mkF, argsToLocals, Value.category]; done) | rfl
def Q4f (Z : State) (a1 : Addr) (a2 : Addr) (q1 : Int64) (q2 : Int32) (q3 : Int32) (r1 : Int64) (r2 : Int32) (r3 : Int32) (h0 : Heap) (n0 : Nat) (v : Option Value) (h : Heap) (L : List Loc) : Prop := v = some (.int (own_bi (r1 = q1 ∧ r2 = q2 ∧ r3 = q3))) ∧ Fr n0 L ∧ h = h0
set_option maxRecDepth 65536 in
set_option maxHeartbeats 40000000 in
theorem rm4f (l : Launch) (Z : State) (a0 : Array Value) (hw : ∀ d ∈ tables_1, d.before a0 Z = true) (ws : List Jvm.Cond) (a1 : Addr) (a2 : Addr) (q1 : Int64) (q2 : Int32) (q3 : Int32) (r1 : Int64) (r2 : Int32) (r3 : Int32) (h0 : Heap) (n0 : Nat) (Z0 : n0 ≤ h0.size) (E2 : Exa Z h0 a2 "com/example/sluice/sluice/checkpoint/CheckpointNames$ChainFile") (F1 : Fld Z h0 a1 "com/example/sluice/sluice/checkpoint/CheckpointNames$ChainFile" "id" "J" (.long q1)) (F2 : Fld Z h0 a1 "com/example/sluice/sluice/checkpoint/CheckpointNames$ChainFile" "part" "I" (.int q2)) (F3 : Fld Z h0 a1 "com/example/sluice/sluice/checkpoint/CheckpointNames$ChainFile" "changes" "Z" (.int q3)) (G1 : Fld Z h0 a2 "com/example/sluice/sluice/checkpoint/CheckpointNames$ChainFile" "id" "J" (.long r1)) (G2 : Fld Z h0 a2 "com/example/sluice/sluice/checkpoint/CheckpointNames$ChainFile" "part" "I" (.int r2)) (G3 : Fld Z h0 a2 "com/example/sluice/sluice/checkpoint/CheckpointNames$ChainFile" "changes" "Z" (.int r3)) :
    MetFree l (⟨"com/example/sluice/sluice/checkpoint/CheckpointNames$ChainFile", "equals", "(Ljava/lang/Object;)Z"⟩ : MethodName) (head1 (Jvm.Cond.code (⟨"com/example/sluice/sluice/checkpoint/CheckpointNames$ChainFile", "equals", "(Ljava/lang/Object;)Z"⟩ : MethodName) prog_55_method_3_code 3 (some .boolean) :: ws) ({ frames := 0, cells := 0, slots := 0, locals := 0 } : Room)) (fun a U => a = #[(.ref a1), (.ref a2)] ∧ Z.Warmed39 U.vm ∧ U.heap = h0) (fun _ _ _ _ _ => True) (fun _ U o U' => ∃ v L, o = .returned v ∧ Q4f Z a1 a2 q1 q2 q3 r1 r2 r3 h0 n0 v U'.heap L ∧ FrameEnd U o U' L ({ frames := 0, cells := 0, slots := 0, locals := 0 } : Room).cells ({ frames := 0, cells := 0, slots := 0, locals := 0 } : Room).slots) := by
  refine MetFree.of_bodySF (plainFor_of_name pn_4) hisR ?_
  intro p e s m args below meth c s₁ Bd hml0 hP hK
  obtain ⟨rfl, hZ, hh⟩ := hP
  have hx := Bd.exec
  have hby := Bd.bytes
  have hml : c.maxLocals = 3 := hml0
  have hown : s.vm.findClass "com/example/sluice/sluice/checkpoint/CheckpointNames$ChainFile" = some m.cls := findClass_of_methodNamed Bd.named
  have hnm := (name_of_methodNamed Bd.named Bd.method).1
  have X0 : Stand p l e ({ frames := 0, cells := 0, slots := 0, locals := 0 } : Room) s m #[(.ref a1), (.ref a2)] below meth c s₁ [] 0 0 := Stand.of_body Bd
  have e0 : s₁.heap = h0 := by rw [← hh, Bd.state]; rfl
  have N0 := Fr.nil n0
  have pre0 : ∀ t, Steps p.tables e below (s₁.setTop (mkF m 0 #[.val (.ref a1), .val (.ref a2), .unset] [])) t → Steps p.tables e below (s₁.setTop (entryFrame m #[(.ref a1), (.ref a2)] 3)) t := fun t k => castTop (ef_4f m a1 a2) k
  have pre2 : ∀ t, Steps p.tables e below (s₁.setTop (mkF m 1 #[.val (.ref a1), .val (.ref a2), .unset] [(.ref a2)])) t → Steps p.tables e below (s₁.setTop (entryFrame m #[(.ref a1), (.ref a2)] 3)) t := by
    intro t k
    refine pre0 t ?_
    refine XS.aloadN X0.here hx rfl (hb hby d4_0) rfl rfl ?_
    show Steps p.tables e below (s₁.setTop (mkF m 1 #[.val (.ref a1), .val (.ref a2), .unset] [(.ref a2)])) _
    exact k
  obtain ⟨T3, X3, e3, st3⟩ := instY X0 hx hZ hown (hw _ (List.mem_of_getElem? (i := 25) rfl)) e0 (Ins.self E2) (g := (mkF m 1 #[.val (.ref a1), .val (.ref a2), .unset] [(.ref a2)])) rfl rfl (hb hby d4_1)
  have pre4 : ∀ t, Steps p.tables e below (T3.setTop (mkF m 4 #[.val (.ref a1), .val (.ref a2), .unset] [(.int (1 : Int32))])) t → Steps p.tables e below (s₁.setTop (entryFrame m #[(.ref a1), (.ref a2)] 3)) t := fun t k => pre2 t (st3 t k)
  have pre6 : ∀ t, Steps p.tables e below (T3.setTop (mkF m 8 #[.val (.ref a1), .val (.ref a2), .unset] [(.ref a2)])) t → Steps p.tables e below (s₁.setTop (entryFrame m #[(.ref a1), (.ref a2)] 3)) t := by
    intro t k
    refine pre4 t ?_
    refine XS.ifNo X3.here hx rfl (hb hby d4_4) rfl (XT.i0_eq_f (by decide)) ?_
    show Steps p.tables e below (T3.setTop (mkF m 7 #[.val (.ref a1), .val (.ref a2), .unset] [])) _
    refine XS.aloadN X3.here hx rfl (hb hby d4_7) rfl rfl ?_
    show Steps p.tables e below (T3.setTop (mkF m 8 #[.val (.ref a1), .val (.ref a2), .unset] [(.ref a2)])) _
    exact k
  obtain ⟨T7, X7, e7, st7⟩ := castY X3 hx hZ hown (hw _ (List.mem_of_getElem? (i := 25) rfl)) e3 (Ins.self E2) (g := (mkF m 8 #[.val (.ref a1), .val (.ref a2), .unset] [(.ref a2)])) rfl rfl (hb hby d4_8)
  have pre8 : ∀ t, Steps p.tables e below (T7.setTop (mkF m 11 #[.val (.ref a1), .val (.ref a2), .unset] [(.ref a2)])) t → Steps p.tables e below (s₁.setTop (entryFrame m #[(.ref a1), (.ref a2)] 3)) t := fun t k => pre6 t (st7 t k)
  have pre9 : ∀ t, Steps p.tables e below (T7.setTop (mkF m 13 #[.val (.ref a1), .val (.ref a2), .val (.ref a2)] [(.ref a2)])) t → Steps p.tables e below (s₁.setTop (entryFrame m #[(.ref a1), (.ref a2)] 3)) t := by
    intro t k
    refine pre8 t ?_
    refine XS.astoreN X7.here hx rfl (hb hby d4_11) rfl rfl (l' := #[.val (.ref a1), .val (.ref a2), .val (.ref a2)]) rfl ?_
    show Steps p.tables e below (T7.setTop (mkF m 12 #[.val (.ref a1), .val (.ref a2), .val (.ref a2)] [])) _
    refine XS.aloadN X7.here hx rfl (hb hby d4_12) rfl rfl ?_
    show Steps p.tables e below (T7.setTop (mkF m 13 #[.val (.ref a1), .val (.ref a2), .val (.ref a2)] [(.ref a2)])) _
    exact k
  obtain ⟨T10, X10, e10, st10⟩ := getF X7 hx hZ hown (host := "") (Or.inl (hw _ (List.mem_of_getElem? (i := 14) rfl))) Via.refl e7 G1 (g := (mkF m 13 #[.val (.ref a1), .val (.ref a2), .val (.ref a2)] [(.ref a2)])) rfl rfl (hb hby d4_13)
  have pre11 : ∀ t, Steps p.tables e below (T10.setTop (mkF m 16 #[.val (.ref a1), .val (.ref a2), .val (.ref a2)] [(.long r1)])) t → Steps p.tables e below (s₁.setTop (entryFrame m #[(.ref a1), (.ref a2)] 3)) t := fun t k => pre9 t (st10 t k)
  have pre12 : ∀ t, Steps p.tables e below (T10.setTop (mkF m 17 #[.val (.ref a1), .val (.ref a2), .val (.ref a2)] [(.ref a1), (.long r1)])) t → Steps p.tables e below (s₁.setTop (entryFrame m #[(.ref a1), (.ref a2)] 3)) t := by
    intro t k
    refine pre11 t ?_
    refine XS.aloadN X10.here hx rfl (hb hby d4_16) rfl rfl ?_
    show Steps p.tables e below (T10.setTop (mkF m 17 #[.val (.ref a1), .val (.ref a2), .val (.ref a2)] [(.ref a1), (.long r1)])) _
    exact k
  obtain ⟨T13, X13, e13, st13⟩ := getF X10 hx hZ hown (host := "") (Or.inl (hw _ (List.mem_of_getElem? (i := 14) rfl))) Via.refl e10 F1 (g := (mkF m 17 #[.val (.ref a1), .val (.ref a2), .val (.ref a2)] [(.ref a1), (.long r1)])) rfl rfl (hb hby d4_17)
  have pre14 : ∀ t, Steps p.tables e below (T13.setTop (mkF m 20 #[.val (.ref a1), .val (.ref a2), .val (.ref a2)] [(.long q1), (.long r1)])) t → Steps p.tables e below (s₁.setTop (entryFrame m #[(.ref a1), (.ref a2)] 3)) t := fun t k => pre12 t (st13 t k)
  have pre15 : ∀ t, Steps p.tables e below (T13.setTop (mkF m 21 #[.val (.ref a1), .val (.ref a2), .val (.ref a2)] [(.int (XT.cmpL r1 q1))])) t → Steps p.tables e below (s₁.setTop (entryFrame m #[(.ref a1), (.ref a2)] 3)) t := by
    intro t k
    refine pre14 t ?_
    refine XT.lcmp X13.here hx rfl (hb hby d4_20) rfl ?_
    show Steps p.tables e below (T13.setTop (mkF m 21 #[.val (.ref a1), .val (.ref a2), .val (.ref a2)] [(.int (XT.cmpL r1 q1))])) _
    exact k
  have mrg16 : ∃ (b : Int32) (T16 : State) (Lo16 : List Loc), Stand p l e ({ frames := 0, cells := 0, slots := 0, locals := 0 } : Room) s m #[(.ref a1), (.ref a2)] below meth c T16 Lo16 0 0 ∧ Fr n0 Lo16 ∧ T16.heap = h0 ∧ (b = own_bi (r1 = q1 ∧ r2 = q2 ∧ r3 = q3)) ∧ ∀ t, Steps p.tables e below (T16.setTop (mkF m 51 #[.val (.ref a1), .val (.ref a2), .val (.ref a2)] [(.int b)])) t → Steps p.tables e below (s₁.setTop (entryFrame m #[(.ref a1), (.ref a2)] 3)) t := by
    by_cases hc21 : r1 = q1
    · skip
      have pre17 : ∀ t, Steps p.tables e below (T13.setTop (mkF m 25 #[.val (.ref a1), .val (.ref a2), .val (.ref a2)] [(.ref a2)])) t → Steps p.tables e below (s₁.setTop (entryFrame m #[(.ref a1), (.ref a2)] 3)) t := by
        intro t k
        refine pre15 t ?_
        refine XS.ifNo X13.here hx rfl (hb hby d4_21) rfl (XT.ll_ne_f hc21) ?_
        show Steps p.tables e below (T13.setTop (mkF m 24 #[.val (.ref a1), .val (.ref a2), .val (.ref a2)] [])) _
        refine XS.aloadN X13.here hx rfl (hb hby d4_24) rfl rfl ?_
        show Steps p.tables e below (T13.setTop (mkF m 25 #[.val (.ref a1), .val (.ref a2), .val (.ref a2)] [(.ref a2)])) _
        exact k
      obtain ⟨T18, X18, e18, st18⟩ := getF X13 hx hZ hown (host := "") (Or.inl (hw _ (List.mem_of_getElem? (i := 16) rfl))) Via.refl e13 G2 (g := (mkF m 25 #[.val (.ref a1), .val (.ref a2), .val (.ref a2)] [(.ref a2)])) rfl rfl (hb hby d4_25)
      have pre19 : ∀ t, Steps p.tables e below (T18.setTop (mkF m 28 #[.val (.ref a1), .val (.ref a2), .val (.ref a2)] [(.int r2)])) t → Steps p.tables e below (s₁.setTop (entryFrame m #[(.ref a1), (.ref a2)] 3)) t := fun t k => pre17 t (st18 t k)
      have pre20 : ∀ t, Steps p.tables e below (T18.setTop (mkF m 29 #[.val (.ref a1), .val (.ref a2), .val (.ref a2)] [(.ref a1), (.int r2)])) t → Steps p.tables e below (s₁.setTop (entryFrame m #[(.ref a1), (.ref a2)] 3)) t := by
        intro t k
        refine pre19 t ?_
        refine XS.aloadN X18.here hx rfl (hb hby d4_28) rfl rfl ?_
        show Steps p.tables e below (T18.setTop (mkF m 29 #[.val (.ref a1), .val (.ref a2), .val (.ref a2)] [(.ref a1), (.int r2)])) _
        exact k
      obtain ⟨T21, X21, e21, st21⟩ := getF X18 hx hZ hown (host := "") (Or.inl (hw _ (List.mem_of_getElem? (i := 16) rfl))) Via.refl e18 F2 (g := (mkF m 29 #[.val (.ref a1), .val (.ref a2), .val (.ref a2)] [(.ref a1), (.int r2)])) rfl rfl (hb hby d4_29)
      have pre22 : ∀ t, Steps p.tables e below (T21.setTop (mkF m 32 #[.val (.ref a1), .val (.ref a2), .val (.ref a2)] [(.int q2), (.int r2)])) t → Steps p.tables e below (s₁.setTop (entryFrame m #[(.ref a1), (.ref a2)] 3)) t := fun t k => pre20 t (st21 t k)
      by_cases hc32 : r2 = q2
      · skip
        have pre23 : ∀ t, Steps p.tables e below (T21.setTop (mkF m 36 #[.val (.ref a1), .val (.ref a2), .val (.ref a2)] [(.ref a2)])) t → Steps p.tables e below (s₁.setTop (entryFrame m #[(.ref a1), (.ref a2)] 3)) t := by
          intro t k
          refine pre22 t ?_
          refine XS.icmpNo X21.here hx rfl (hb hby d4_32) rfl (XT.ii_ne_f hc32) ?_
          show Steps p.tables e below (T21.setTop (mkF m 35 #[.val (.ref a1), .val (.ref a2), .val (.ref a2)] [])) _
          refine XS.aloadN X21.here hx rfl (hb hby d4_35) rfl rfl ?_
          show Steps p.tables e below (T21.setTop (mkF m 36 #[.val (.ref a1), .val (.ref a2), .val (.ref a2)] [(.ref a2)])) _
          exact k
        obtain ⟨T24, X24, e24, st24⟩ := getF X21 hx hZ hown (host := "") (Or.inl (hw _ (List.mem_of_getElem? (i := 18) rfl))) Via.refl e21 G3 (g := (mkF m 36 #[.val (.ref a1), .val (.ref a2), .val (.ref a2)] [(.ref a2)])) rfl rfl (hb hby d4_36)
        have pre25 : ∀ t, Steps p.tables e below (T24.setTop (mkF m 39 #[.val (.ref a1), .val (.ref a2), .val (.ref a2)] [(.int r3)])) t → Steps p.tables e below (s₁.setTop (entryFrame m #[(.ref a1), (.ref a2)] 3)) t := fun t k => pre23 t (st24 t k)
        have pre26 : ∀ t, Steps p.tables e below (T24.setTop (mkF m 40 #[.val (.ref a1), .val (.ref a2), .val (.ref a2)] [(.ref a1), (.int r3)])) t → Steps p.tables e below (s₁.setTop (entryFrame m #[(.ref a1), (.ref a2)] 3)) t := by
          intro t k
          refine pre25 t ?_
          refine XS.aloadN X24.here hx rfl (hb hby d4_39) rfl rfl ?_
          show Steps p.tables e below (T24.setTop (mkF m 40 #[.val (.ref a1), .val (.ref a2), .val (.ref a2)] [(.ref a1), (.int r3)])) _
          exact k
        obtain ⟨T27, X27, e27, st27⟩ := getF X24 hx hZ hown (host := "") (Or.inl (hw _ (List.mem_of_getElem? (i := 18) rfl))) Via.refl e24 F3 (g := (mkF m 40 #[.val (.ref a1), .val (.ref a2), .val (.ref a2)] [(.ref a1), (.int r3)])) rfl rfl (hb hby d4_40)
        have pre28 : ∀ t, Steps p.tables e below (T27.setTop (mkF m 43 #[.val (.ref a1), .val (.ref a2), .val (.ref a2)] [(.int q3), (.int r3)])) t → Steps p.tables e below (s₁.setTop (entryFrame m #[(.ref a1), (.ref a2)] 3)) t := fun t k => pre26 t (st27 t k)
        by_cases hc43 : r3 = q3
        · skip
          have pre29 : ∀ t, Steps p.tables e below (T27.setTop (mkF m 51 #[.val (.ref a1), .val (.ref a2), .val (.ref a2)] [(.int (1 : Int32))])) t → Steps p.tables e below (s₁.setTop (entryFrame m #[(.ref a1), (.ref a2)] 3)) t := by
            intro t k
            refine pre28 t ?_
            refine XS.icmpNo X27.here hx rfl (hb hby d4_43) rfl (XT.ii_ne_f hc43) ?_
            show Steps p.tables e below (T27.setTop (mkF m 46 #[.val (.ref a1), .val (.ref a2), .val (.ref a2)] [])) _
            refine XS.iconst X27.here hx rfl (hb hby d4_46) ?_
            show Steps p.tables e below (T27.setTop (mkF m 47 #[.val (.ref a1), .val (.ref a2), .val (.ref a2)] [(.int (1 : Int32))])) _
            refine XS.goto X27.here hx rfl (pc0 := 47) (pc' := 51) rfl (hb hby d4_47) (by decide) (by decide) ?_
            show Steps p.tables e below (T27.setTop (mkF m 51 #[.val (.ref a1), .val (.ref a2), .val (.ref a2)] [(.int (1 : Int32))])) _
            exact k
          exact ⟨(1 : Int32), _, _, X27, N0, e27, (by first | exact (own_bi_t hc43).symm | exact (own_bi_f hc43).symm | (simp [own_bi, hc21, hc32, hc43]; done) | contradiction), pre29⟩
        · skip
          have pre30 : ∀ t, Steps p.tables e below (T27.setTop (mkF m 51 #[.val (.ref a1), .val (.ref a2), .val (.ref a2)] [(.int (0 : Int32))])) t → Steps p.tables e below (s₁.setTop (entryFrame m #[(.ref a1), (.ref a2)] 3)) t := by
            intro t k
            refine pre28 t ?_
            refine XS.icmpYes X27.here hx rfl (pc0 := 43) (pc' := 50) rfl (hb hby d4_43) rfl (XT.ii_ne_t hc43) (by decide) (by decide) ?_
            show Steps p.tables e below (T27.setTop (mkF m 50 #[.val (.ref a1), .val (.ref a2), .val (.ref a2)] [])) _
            refine XS.iconst X27.here hx rfl (hb hby d4_50) ?_
            show Steps p.tables e below (T27.setTop (mkF m 51 #[.val (.ref a1), .val (.ref a2), .val (.ref a2)] [(.int (0 : Int32))])) _
            exact k
          exact ⟨(0 : Int32), _, _, X27, N0, e27, (by first | exact (own_bi_t hc43).symm | exact (own_bi_f hc43).symm | (simp [own_bi, hc21, hc32, hc43]; done) | contradiction), pre30⟩
      · skip
        have pre31 : ∀ t, Steps p.tables e below (T21.setTop (mkF m 51 #[.val (.ref a1), .val (.ref a2), .val (.ref a2)] [(.int (0 : Int32))])) t → Steps p.tables e below (s₁.setTop (entryFrame m #[(.ref a1), (.ref a2)] 3)) t := by
          intro t k
          refine pre22 t ?_
          refine XS.icmpYes X21.here hx rfl (pc0 := 32) (pc' := 50) rfl (hb hby d4_32) rfl (XT.ii_ne_t hc32) (by decide) (by decide) ?_
          show Steps p.tables e below (T21.setTop (mkF m 50 #[.val (.ref a1), .val (.ref a2), .val (.ref a2)] [])) _
          refine XS.iconst X21.here hx rfl (hb hby d4_50) ?_
          show Steps p.tables e below (T21.setTop (mkF m 51 #[.val (.ref a1), .val (.ref a2), .val (.ref a2)] [(.int (0 : Int32))])) _
          exact k
        exact ⟨(0 : Int32), _, _, X21, N0, e21, (by first | exact (own_bi_t hc32).symm | exact (own_bi_f hc32).symm | (simp [own_bi, hc21, hc32]; done) | contradiction), pre31⟩
    · skip
      have pre32 : ∀ t, Steps p.tables e below (T13.setTop (mkF m 51 #[.val (.ref a1), .val (.ref a2), .val (.ref a2)] [(.int (0 : Int32))])) t → Steps p.tables e below (s₁.setTop (entryFrame m #[(.ref a1), (.ref a2)] 3)) t := by
        intro t k
        refine pre15 t ?_
        refine XS.ifYes X13.here hx rfl (pc0 := 21) (pc' := 50) rfl (hb hby d4_21) rfl (XT.ll_ne_t hc21) (by decide) (by decide) ?_
        show Steps p.tables e below (T13.setTop (mkF m 50 #[.val (.ref a1), .val (.ref a2), .val (.ref a2)] [])) _
        refine XS.iconst X13.here hx rfl (hb hby d4_50) ?_
        show Steps p.tables e below (T13.setTop (mkF m 51 #[.val (.ref a1), .val (.ref a2), .val (.ref a2)] [(.int (0 : Int32))])) _
        exact k
      exact ⟨(0 : Int32), _, _, X13, N0, e13, (by first | exact (own_bi_t hc21).symm | exact (own_bi_f hc21).symm | (simp [own_bi, hc21]; done) | contradiction), pre32⟩
  obtain ⟨b, T16, Lo16, X16, N16, e16, hb, pre16⟩ := mrg16
  subst hb
  obtain ⟨fs, hr, hrun, hended, hW, hsame⟩ := X16.leave (v := some (.int (own_bi (r1 = q1 ∧ r2 = q2 ∧ r3 = q3)))) (fun h => by rw [Bd.returns] at h; cases h)
  refine ⟨_, _, pre16 _ ?_, hrun, hended, _, _, rfl, ?_, ⟨_, rfl⟩, hW, hsame.mono (by decide) (by decide)⟩
  · exact retOut X16 hx Bd.returns (own_narZ (own_bi_01 _)) (Or.inl ⟨rfl, by simp, _, rfl⟩) (hb hby d4_51) hr
  · show Q4f Z a1 a2 q1 q2 q3 r1 r2 r3 h0 n0 _ T16.heap _
    rw [e16]
    exact ⟨rfl, N16, rfl⟩
theorem ef_4n (m : MethodId) (a1 : Addr) : entryFrame m #[(.ref a1), .null] 3 = mkF m 0 #[.val (.ref a1), .val .null, .unset] [] := by first | (simp [entryFrame, mkF, argsToLocals, Value.category]; done) | rfl
def Q4n (Z : State) (a1 : Addr) (h0 : Heap) (n0 : Nat) (v : Option Value) (h : Heap) (L : List Loc) : Prop := v = some (.int (0 : Int32)) ∧ Fr n0 L ∧ h = h0
set_option maxRecDepth 65536 in
set_option maxHeartbeats 40000000 in
theorem rm4n (l : Launch) (Z : State) (a0 : Array Value) (hw : ∀ d ∈ tables_1, d.before a0 Z = true) (ws : List Jvm.Cond) (a1 : Addr) (h0 : Heap) (n0 : Nat) (Z0 : n0 ≤ h0.size) :
    MetFree l (⟨"com/example/sluice/sluice/checkpoint/CheckpointNames$ChainFile", "equals", "(Ljava/lang/Object;)Z"⟩ : MethodName) (head1 (Jvm.Cond.code (⟨"com/example/sluice/sluice/checkpoint/CheckpointNames$ChainFile", "equals", "(Ljava/lang/Object;)Z"⟩ : MethodName) prog_55_method_3_code 3 (some .boolean) :: ws) ({ frames := 0, cells := 0, slots := 0, locals := 0 } : Room)) (fun a U => a = #[(.ref a1), .null] ∧ Z.Warmed39 U.vm ∧ U.heap = h0) (fun _ _ _ _ _ => True) (fun _ U o U' => ∃ v L, o = .returned v ∧ Q4n Z a1 h0 n0 v U'.heap L ∧ FrameEnd U o U' L ({ frames := 0, cells := 0, slots := 0, locals := 0 } : Room).cells ({ frames := 0, cells := 0, slots := 0, locals := 0 } : Room).slots) := by
  refine MetFree.of_bodySF (plainFor_of_name pn_4) hisR ?_
  intro p e s m args below meth c s₁ Bd hml0 hP hK
  obtain ⟨rfl, hZ, hh⟩ := hP
  have hx := Bd.exec
  have hby := Bd.bytes
  have hml : c.maxLocals = 3 := hml0
  have hown : s.vm.findClass "com/example/sluice/sluice/checkpoint/CheckpointNames$ChainFile" = some m.cls := findClass_of_methodNamed Bd.named
  have hnm := (name_of_methodNamed Bd.named Bd.method).1
  have X0 : Stand p l e ({ frames := 0, cells := 0, slots := 0, locals := 0 } : Room) s m #[(.ref a1), .null] below meth c s₁ [] 0 0 := Stand.of_body Bd
  have e0 : s₁.heap = h0 := by rw [← hh, Bd.state]; rfl
  have N0 := Fr.nil n0
  have pre0 : ∀ t, Steps p.tables e below (s₁.setTop (mkF m 0 #[.val (.ref a1), .val .null, .unset] [])) t → Steps p.tables e below (s₁.setTop (entryFrame m #[(.ref a1), .null] 3)) t := fun t k => castTop (ef_4n m a1) k
  have pre1 : ∀ t, Steps p.tables e below (s₁.setTop (mkF m 1 #[.val (.ref a1), .val .null, .unset] [.null])) t → Steps p.tables e below (s₁.setTop (entryFrame m #[(.ref a1), .null] 3)) t := by
    intro t k
    refine pre0 t ?_
    refine XS.aloadN X0.here hx rfl (hb hby d4_0) rfl rfl ?_
    show Steps p.tables e below (s₁.setTop (mkF m 1 #[.val (.ref a1), .val .null, .unset] [.null])) _
    exact k
  have pre2 : ∀ t, Steps p.tables e below (s₁.setTop (mkF m 51 #[.val (.ref a1), .val .null, .unset] [(.int (0 : Int32))])) t → Steps p.tables e below (s₁.setTop (entryFrame m #[(.ref a1), .null] 3)) t := by
    intro t k
    refine pre1 t ?_
    refine Jvm.Stand.instanceofNull X0 hx (index := 10) (g := (mkF m 1 #[.val (.ref a1), .val .null, .unset] [.null])) rfl (rest := []) rfl (hb hby d4_1) _ ?_
    show Steps p.tables e below (s₁.setTop (mkF m 4 #[.val (.ref a1), .val .null, .unset] [(.int (0 : Int32))])) _
    refine XS.ifYes X0.here hx rfl (pc0 := 4) (pc' := 50) rfl (hb hby d4_4) rfl (XT.i0_eq_t rfl) (by decide) (by decide) ?_
    show Steps p.tables e below (s₁.setTop (mkF m 50 #[.val (.ref a1), .val .null, .unset] [])) _
    refine XS.iconst X0.here hx rfl (hb hby d4_50) ?_
    show Steps p.tables e below (s₁.setTop (mkF m 51 #[.val (.ref a1), .val .null, .unset] [(.int (0 : Int32))])) _
    exact k
  obtain ⟨fs, hr, hrun, hended, hW, hsame⟩ := X0.leave (v := some (.int (0 : Int32))) (fun h => by rw [Bd.returns] at h; cases h)
  refine ⟨_, _, pre2 _ ?_, hrun, hended, _, _, rfl, ?_, ⟨_, rfl⟩, hW, hsame.mono (by decide) (by decide)⟩
  · exact retOut X0 hx Bd.returns rfl (Or.inl ⟨rfl, by simp, _, rfl⟩) (hb hby d4_51) hr
  · show Q4n Z a1 h0 n0 _ s₁.heap _
    rw [e0]
    exact ⟨rfl, N0, rfl⟩
theorem ef_4o (m : MethodId) (a1 : Addr) (a2 : Addr) : entryFrame m #[(.ref a1), (.ref a2)] 3 = mkF m 0 #[.val (.ref a1), .val (.ref a2), .unset] [] := by first | (simp [entryFrame, mkF, argsToLocals, Value.category]; done) | rfl
def Q4o (Z : State) (a1 : Addr) (a2 : Addr) (h0 : Heap) (n0 : Nat) (v : Option Value) (h : Heap) (L : List Loc) : Prop := v = some (.int (0 : Int32)) ∧ Fr n0 L ∧ h = h0
set_option maxRecDepth 65536 in
set_option maxHeartbeats 40000000 in
theorem rm4o (l : Launch) (Z : State) (a0 : Array Value) (hw : ∀ d ∈ tables_1, d.before a0 Z = true) (ws : List Jvm.Cond) (a1 : Addr) (a2 : Addr) (h0 : Heap) (n0 : Nat) (Z0 : n0 ≤ h0.size) (E2 : Exa Z h0 a2 "java/lang/Long") :
    MetFree l (⟨"com/example/sluice/sluice/checkpoint/CheckpointNames$ChainFile", "equals", "(Ljava/lang/Object;)Z"⟩ : MethodName) (head1 (Jvm.Cond.code (⟨"com/example/sluice/sluice/checkpoint/CheckpointNames$ChainFile", "equals", "(Ljava/lang/Object;)Z"⟩ : MethodName) prog_55_method_3_code 3 (some .boolean) :: ws) ({ frames := 0, cells := 0, slots := 0, locals := 0 } : Room)) (fun a U => a = #[(.ref a1), (.ref a2)] ∧ Z.Warmed39 U.vm ∧ U.heap = h0) (fun _ _ _ _ _ => True) (fun _ U o U' => ∃ v L, o = .returned v ∧ Q4o Z a1 a2 h0 n0 v U'.heap L ∧ FrameEnd U o U' L ({ frames := 0, cells := 0, slots := 0, locals := 0 } : Room).cells ({ frames := 0, cells := 0, slots := 0, locals := 0 } : Room).slots) := by
  refine MetFree.of_bodySF (plainFor_of_name pn_4) hisR ?_
  intro p e s m args below meth c s₁ Bd hml0 hP hK
  obtain ⟨rfl, hZ, hh⟩ := hP
  have hx := Bd.exec
  have hby := Bd.bytes
  have hml : c.maxLocals = 3 := hml0
  have hown : s.vm.findClass "com/example/sluice/sluice/checkpoint/CheckpointNames$ChainFile" = some m.cls := findClass_of_methodNamed Bd.named
  have hnm := (name_of_methodNamed Bd.named Bd.method).1
  have X0 : Stand p l e ({ frames := 0, cells := 0, slots := 0, locals := 0 } : Room) s m #[(.ref a1), (.ref a2)] below meth c s₁ [] 0 0 := Stand.of_body Bd
  have e0 : s₁.heap = h0 := by rw [← hh, Bd.state]; rfl
  have N0 := Fr.nil n0
  have pre0 : ∀ t, Steps p.tables e below (s₁.setTop (mkF m 0 #[.val (.ref a1), .val (.ref a2), .unset] [])) t → Steps p.tables e below (s₁.setTop (entryFrame m #[(.ref a1), (.ref a2)] 3)) t := fun t k => castTop (ef_4o m a1 a2) k
  have pre2 : ∀ t, Steps p.tables e below (s₁.setTop (mkF m 1 #[.val (.ref a1), .val (.ref a2), .unset] [(.ref a2)])) t → Steps p.tables e below (s₁.setTop (entryFrame m #[(.ref a1), (.ref a2)] 3)) t := by
    intro t k
    refine pre0 t ?_
    refine XS.aloadN X0.here hx rfl (hb hby d4_0) rfl rfl ?_
    show Steps p.tables e below (s₁.setTop (mkF m 1 #[.val (.ref a1), .val (.ref a2), .unset] [(.ref a2)])) _
    exact k
  obtain ⟨T3, X3, e3, st3⟩ := instNo X0 hx hZ hown (hw _ (List.mem_of_getElem? (i := 25) rfl)) e0 E2 (own_no (hw _ (List.mem_of_getElem? (i := 35) rfl)) (hw _ (List.mem_of_getElem? (i := 1) rfl)) (NS.step (hw _ (List.mem_of_getElem? (i := 35) rfl)) (NS.step (hw _ (List.mem_of_getElem? (i := 36) rfl)) (own_ns (hw _ (List.mem_of_getElem? (i := 37) rfl)) (hw _ (List.mem_of_getElem? (i := 1) rfl)) (by decide)) (by decide)) (by decide)) (by decide)) (g := (mkF m 1 #[.val (.ref a1), .val (.ref a2), .unset] [(.ref a2)])) rfl rfl (hb hby d4_1)
  have pre4 : ∀ t, Steps p.tables e below (T3.setTop (mkF m 4 #[.val (.ref a1), .val (.ref a2), .unset] [(.int (0 : Int32))])) t → Steps p.tables e below (s₁.setTop (entryFrame m #[(.ref a1), (.ref a2)] 3)) t := fun t k => pre2 t (st3 t k)
  have pre5 : ∀ t, Steps p.tables e below (T3.setTop (mkF m 51 #[.val (.ref a1), .val (.ref a2), .unset] [(.int (0 : Int32))])) t → Steps p.tables e below (s₁.setTop (entryFrame m #[(.ref a1), (.ref a2)] 3)) t := by
    intro t k
    refine pre4 t ?_
    refine XS.ifYes X3.here hx rfl (pc0 := 4) (pc' := 50) rfl (hb hby d4_4) rfl (XT.i0_eq_t rfl) (by decide) (by decide) ?_
    show Steps p.tables e below (T3.setTop (mkF m 50 #[.val (.ref a1), .val (.ref a2), .unset] [])) _
    refine XS.iconst X3.here hx rfl (hb hby d4_50) ?_
    show Steps p.tables e below (T3.setTop (mkF m 51 #[.val (.ref a1), .val (.ref a2), .unset] [(.int (0 : Int32))])) _
    exact k
  obtain ⟨fs, hr, hrun, hended, hW, hsame⟩ := X3.leave (v := some (.int (0 : Int32))) (fun h => by rw [Bd.returns] at h; cases h)
  refine ⟨_, _, pre5 _ ?_, hrun, hended, _, _, rfl, ?_, ⟨_, rfl⟩, hW, hsame.mono (by decide) (by decide)⟩
  · exact retOut X3 hx Bd.returns rfl (Or.inl ⟨rfl, by simp, _, rfl⟩) (hb hby d4_51) hr
  · show Q4o Z a1 a2 h0 n0 _ T3.heap _
    rw [e3]
    exact ⟨rfl, N0, rfl⟩
theorem pd_li : parseMethodDescriptor "(J)V" = some ⟨[.long], none⟩ := by decide +kernel
theorem pn_5 : plainName "java/lang/Long" = true := by first | (simp [plainName, overriddenIn]; done) | decide +kernel
theorem d5_0 : decode jdk_35_method_24_code 0 = .ok (.sipush 128, 3) := by decide +kernel
theorem d5_3 : decode jdk_35_method_24_code 3 = .ok (.istore_n 2, 1) := by decide +kernel
theorem d5_4 : decode jdk_35_method_24_code 4 = .ok (.lload_n 0, 1) := by decide +kernel
theorem d5_5 : decode jdk_35_method_24_code 5 = .ok (.ldc2_w 230, 3) := by decide +kernel
theorem d5_8 : decode jdk_35_method_24_code 8 = .ok (.lcmp, 1) := by decide +kernel
theorem d5_9 : decode jdk_35_method_24_code 9 = .ok (.ifCond .lt 22, 3) := by decide +kernel
theorem d5_12 : decode jdk_35_method_24_code 12 = .ok (.lload_n 0, 1) := by decide +kernel
theorem d5_13 : decode jdk_35_method_24_code 13 = .ok (.ldc2_w 232, 3) := by decide +kernel
theorem d5_16 : decode jdk_35_method_24_code 16 = .ok (.lcmp, 1) := by decide +kernel
theorem d5_17 : decode jdk_35_method_24_code 17 = .ok (.ifCond .gt 14, 3) := by decide +kernel
theorem d5_20 : decode jdk_35_method_24_code 20 = .ok (.getstatic 234, 3) := by decide +kernel
theorem d5_23 : decode jdk_35_method_24_code 23 = .ok (.lload_n 0, 1) := by decide +kernel
theorem d5_24 : decode jdk_35_method_24_code 24 = .ok (.l2i, 1) := by decide +kernel
theorem d5_25 : decode jdk_35_method_24_code 25 = .ok (.sipush 128, 3) := by decide +kernel
theorem d5_28 : decode jdk_35_method_24_code 28 = .ok (.iadd, 1) := by decide +kernel
theorem d5_29 : decode jdk_35_method_24_code 29 = .ok (.aaload, 1) := by decide +kernel
theorem d5_30 : decode jdk_35_method_24_code 30 = .ok (.areturn, 1) := by decide +kernel
theorem d5_31 : decode jdk_35_method_24_code 31 = .ok (.new 1, 3) := by decide +kernel
theorem d5_34 : decode jdk_35_method_24_code 34 = .ok (.dup, 1) := by decide +kernel
theorem d5_35 : decode jdk_35_method_24_code 35 = .ok (.lload_n 0, 1) := by decide +kernel
theorem d5_36 : decode jdk_35_method_24_code 36 = .ok (.invokespecial 240, 3) := by decide +kernel
theorem d5_39 : decode jdk_35_method_24_code 39 = .ok (.areturn, 1) := by decide +kernel
theorem ef_5 (m : MethodId) (p1 : Int64) : entryFrame m #[(.long p1)] 3 = mkF m 0 #[.val (.long p1), .second, .unset] [] := by first | (simp [entryFrame, mkF, argsToLocals, Value.category]; done) | rfl
def Q5 (Z : State) (p1 : Int64) (ca : Addr) (cl : Cell) (h0 : Heap) (n0 : Nat) (v : Option Value) (h : Heap) (L : List Loc) : Prop := ∃ b : Addr, v = some (.ref b) ∧ Fr n0 L ∧ Keep h0 h [] ∧ Exa Z h b "java/lang/Long"
set_option maxRecDepth 65536 in
set_option maxHeartbeats 40000000 in
theorem rm5 (l : Launch) (Z : State) (a0 : Array Value) (hw : ∀ d ∈ tables_1, d.before a0 Z = true) (ws : List Jvm.Cond) (p1 : Int64) (ca : Addr) (cl : Cell) (h0 : Heap) (n0 : Nat) (Z0 : n0 ≤ h0.size) (OL : Old Z n0 h0) (SC : Sta Z Z.heap "java/lang/Long$LongCache" "cache" "[Ljava/lang/Long;" (.ref ca)) (BX : Bxs Z ca cl "java/lang/Long" "J" (256 : Int32) (fun j => .long (j - 128).toInt64)) :
    MetFree l (⟨"java/lang/Long", "valueOf", "(J)Ljava/lang/Long;"⟩ : MethodName) (head1 (Jvm.Cond.code (⟨"java/lang/Long", "valueOf", "(J)Ljava/lang/Long;"⟩ : MethodName) jdk_35_method_24_code 3 (some (.object "java/lang/Long")) :: ws) ({ frames := 3, cells := 1, slots := 1, locals := 39 } : Room)) (fun a U => a = #[(.long p1)] ∧ Z.Warmed39 U.vm ∧ U.heap = h0) (fun _ _ _ _ _ => True) (fun _ U o U' => ∃ v L, o = .returned v ∧ Q5 Z p1 ca cl h0 n0 v U'.heap L ∧ FrameEnd U o U' L ({ frames := 3, cells := 1, slots := 1, locals := 39 } : Room).cells ({ frames := 3, cells := 1, slots := 1, locals := 39 } : Room).slots) := by
  refine MetFree.of_bodySF (plainFor_of_name pn_5) hisR ?_
  intro p e s m args below meth c s₁ Bd hml0 hP hK
  obtain ⟨rfl, hZ, hh⟩ := hP
  have hx := Bd.exec
  have hby := Bd.bytes
  have hml : c.maxLocals = 3 := hml0
  have hown : s.vm.findClass "java/lang/Long" = some m.cls := findClass_of_methodNamed Bd.named
  have hnm := (name_of_methodNamed Bd.named Bd.method).1
  have X0 : Stand p l e ({ frames := 3, cells := 1, slots := 1, locals := 39 } : Room) s m #[(.long p1)] below meth c s₁ [] 0 0 := Stand.of_body Bd
  have e0 : s₁.heap = h0 := by rw [← hh, Bd.state]; rfl
  have N0 := Fr.nil n0
  have pre0 : ∀ t, Steps p.tables e below (s₁.setTop (mkF m 0 #[.val (.long p1), .second, .unset] [])) t → Steps p.tables e below (s₁.setTop (entryFrame m #[(.long p1)] 3)) t := fun t k => castTop (ef_5 m p1) k
  have pre1 : ∀ t, Steps p.tables e below (s₁.setTop (mkF m 9 #[.val (.long p1), .second, .val (.int (128 : Int32))] [(.int (XT.cmpL p1 (-128 : Int64)))])) t → Steps p.tables e below (s₁.setTop (entryFrame m #[(.long p1)] 3)) t := by
    intro t k
    refine pre0 t ?_
    refine XS.sipush X0.here hx rfl (hb hby d5_0) ?_
    show Steps p.tables e below (s₁.setTop (mkF m 3 #[.val (.long p1), .second, .unset] [(.int (128 : Int32))])) _
    refine XS.istoreN X0.here hx rfl (hb hby d5_3) rfl (l' := #[.val (.long p1), .second, .val (.int (128 : Int32))]) rfl ?_
    show Steps p.tables e below (s₁.setTop (mkF m 4 #[.val (.long p1), .second, .val (.int (128 : Int32))] [])) _
    refine XT.lloadN X0.here hx rfl (hb hby d5_4) rfl ?_
    show Steps p.tables e below (s₁.setTop (mkF m 5 #[.val (.long p1), .second, .val (.int (128 : Int32))] [(.long p1)])) _
    refine Stand.ldc2J X0 hx hown (mvT hZ (hw _ (List.mem_of_getElem? (i := 31) rfl))) rfl (hb hby d5_5) ?_
    show Steps p.tables e below (s₁.setTop (mkF m 8 #[.val (.long p1), .second, .val (.int (128 : Int32))] [(.long (-128 : Int64)), (.long p1)])) _
    refine XT.lcmp X0.here hx rfl (hb hby d5_8) rfl ?_
    show Steps p.tables e below (s₁.setTop (mkF m 9 #[.val (.long p1), .second, .val (.int (128 : Int32))] [(.int (XT.cmpL p1 (-128 : Int64)))])) _
    exact k
  by_cases hs1 : p1 < (-128 : Int64)
  · skip
    have pre3 : ∀ t, Steps p.tables e below (s₁.setTop (mkF m 31 #[.val (.long p1), .second, .val (.int (128 : Int32))] [])) t → Steps p.tables e below (s₁.setTop (entryFrame m #[(.long p1)] 3)) t := by
      intro t k
      refine pre1 t ?_
      refine XS.ifYes X0.here hx rfl (pc0 := 9) (pc' := 31) rfl (hb hby d5_9) rfl (XT.ll_lt_t hs1) (by decide) (by decide) ?_
      show Steps p.tables e below (s₁.setTop (mkF m 31 #[.val (.long p1), .second, .val (.int (128 : Int32))] [])) _
      exact k
    have K2 : Keep h0 h0 [] := (Keep.refl h0 [])
    obtain ⟨T4, h4, X4, e4, E4, A4, D4, -, st4⟩ := newO X0 hx hZ hown (hw _ (List.mem_of_getElem? (i := 38) rfl)) (hw _ (List.mem_of_getElem? (i := 39) rfl)) (hw _ (List.mem_of_getElem? (i := 29) rfl)) e0 (g := (mkF m 31 #[.val (.long p1), .second, .val (.int (128 : Int32))] [])) rfl (hb hby d5_31) (by decide) (by decide)
    obtain ⟨b, gz4⟩ : ∃ z, z = h0.size := ⟨_, rfl⟩
    rw [← gz4] at A4 D4 st4
    have g_b : n0 ≤ b := Nat.le_trans Z0 (Nat.le_of_eq gz4.symm)
    have s_b : h0.size ≤ b := Nat.le_trans K2.1 (Nat.le_of_eq gz4.symm)
    have F_value_b : Fld Z h4 b "java/lang/Long" "value" "J" (.long (0 : Int64)) := D4 (Or.inr (hw _ (List.mem_of_getElem? (i := 52) rfl))) (ty := .long) (by decide)
    have pre5 : ∀ t, Steps p.tables e below (T4.setTop (mkF m 34 #[.val (.long p1), .second, .val (.int (128 : Int32))] [(.ref b)])) t → Steps p.tables e below (s₁.setTop (entryFrame m #[(.long p1)] 3)) t := fun t k => pre3 t (st4 t k)
    have K6 : Keep h0 h4 [] := (K2.ext E4)
    have Z6 : n0 ≤ h4.size := (Nat.le_trans Z0 E4.1)
    have O6 : Old Z n0 h4 := (OL.ext E4)
    have pre8 : ∀ t, Steps p.tables e below (T4.setTop (mkF m 36 #[.val (.long p1), .second, .val (.int (128 : Int32))] [(.long p1), (.ref b), (.ref b)])) t → Steps p.tables e below (s₁.setTop (entryFrame m #[(.long p1)] 3)) t := by
      intro t k
      refine pre5 t ?_
      refine XS.dup X4.here hx rfl (hb hby d5_34) rfl rfl ?_
      show Steps p.tables e below (T4.setTop (mkF m 35 #[.val (.long p1), .second, .val (.int (128 : Int32))] [(.ref b), (.ref b)])) _
      refine XT.lloadN X4.here hx rfl (hb hby d5_35) rfl ?_
      show Steps p.tables e below (T4.setTop (mkF m 36 #[.val (.long p1), .second, .val (.int (128 : Int32))] [(.long p1), (.ref b), (.ref b)])) _
      exact k
    obtain ⟨_, _, ⟨T10, L10, k10, n10⟩, -, X10, ⟨Lc10, hQ10, l10, y10, z10⟩, st10⟩ := X4.specialBack hx (y := (⟨"java/lang/Long", "<init>", "(J)V"⟩ : MethodName)) rfl hown (mvT hZ (hw _ (List.mem_of_getElem? (i := 40) rfl))) (mvT hZ (hw _ (List.mem_of_getElem? (i := 41) rfl))) (mvT hZ (hw _ (List.mem_of_getElem? (i := 43) rfl))) (by decide) (backOf (W := 1) (rm6 l Z a0 hw [] b p1 h4 n0 Z6 A4 g_b  F_value_b) hZ (hw _ (List.mem_of_getElem? (i := 43) rfl)) (hw _ (List.mem_of_getElem? (i := 29) rfl)) (by decide) (by decide)) (g := (mkF m 36 #[.val (.long p1), .second, .val (.int (128 : Int32))] [(.long p1), (.ref b), (.ref b)])) rfl (by rw [hml]; rfl) (Steps.refl _) (a := b) (argsL := [(.long p1)]) (rest := [(.ref b)]) (lenOf pd_li rfl) rfl (by show 2 * 0 + _ ≤ _; exact Nat.le_of_eq rfl) (hb hby d5_36) (fun _ _ => ⟨rfl, e4, (by decide : 1 + 0 ≤ _), (by decide : 1 + 0 ≤ _)⟩)
    dsimp only [Pt.U, Pt.locs, Pt.cells, Pt.slots] at X10 l10 y10 z10 st10 hQ10
    subst l10 y10 z10
    obtain ⟨rfl, Nq10, Kq10, Fx0_10⟩ := hQ10
    have N10 := Fr.app N0 Nq10
    have pre11 : ∀ t, Steps p.tables e below (T10.setTop (mkF m 39 #[.val (.long p1), .second, .val (.int (128 : Int32))] [(.ref b)])) t → Steps p.tables e below (s₁.setTop (entryFrame m #[(.long p1)] 3)) t := fun t k => pre8 t (st10.trans k)
    obtain ⟨h10, e10⟩ : ∃ z, T10.heap = z := ⟨_, rfl⟩
    rw [e10] at Kq10 Fx0_10
    have E12_0 : Exa Z h10 b "java/lang/Long" := (A4.keep Kq10)
    have K12 : Keep h0 h10 [] := (K6.trans Kq10 (allS (P := fun x => x ∈ [] ∨ h0.size ≤ x) (Or.inr s_b) all0))
    have Z12 : n0 ≤ h10.size := (Nat.le_trans Z6 Kq10.1)
    have O12 : Old Z n0 h10 := (O6.keep Kq10 (allS (P := fun x => n0 ≤ x) g_b all0))
    obtain ⟨fs, hr, hrun, hended, hW, hsame⟩ := X10.leave (v := some (.ref b)) (fun h => by rw [Bd.returns] at h; cases h)
    refine ⟨_, _, pre11 _ ?_, hrun, hended, _, _, rfl, ?_, ⟨_, rfl⟩, hW, hsame.mono (by decide) (by decide)⟩
    · exact retOut X10 hx Bd.returns rfl (Or.inr (Or.inr (Or.inr (Or.inr ⟨rfl, rfl, rfl⟩)))) (hb hby d5_39) hr
    · show Q5 Z p1 ca cl h0 n0 _ T10.heap _
      rw [e10]
      exact ⟨b, rfl, N10, K12, E12_0⟩
  · skip
    have pre15 : ∀ t, Steps p.tables e below (s₁.setTop (mkF m 17 #[.val (.long p1), .second, .val (.int (128 : Int32))] [(.int (XT.cmpL p1 (127 : Int64)))])) t → Steps p.tables e below (s₁.setTop (entryFrame m #[(.long p1)] 3)) t := by
      intro t k
      refine pre1 t ?_
      refine XS.ifNo X0.here hx rfl (hb hby d5_9) rfl (XT.ll_lt_f hs1) ?_
      show Steps p.tables e below (s₁.setTop (mkF m 12 #[.val (.long p1), .second, .val (.int (128 : Int32))] [])) _
      refine XT.lloadN X0.here hx rfl (hb hby d5_12) rfl ?_
      show Steps p.tables e below (s₁.setTop (mkF m 13 #[.val (.long p1), .second, .val (.int (128 : Int32))] [(.long p1)])) _
      refine Stand.ldc2J X0 hx hown (mvT hZ (hw _ (List.mem_of_getElem? (i := 32) rfl))) rfl (hb hby d5_13) ?_
      show Steps p.tables e below (s₁.setTop (mkF m 16 #[.val (.long p1), .second, .val (.int (128 : Int32))] [(.long (127 : Int64)), (.long p1)])) _
      refine XT.lcmp X0.here hx rfl (hb hby d5_16) rfl ?_
      show Steps p.tables e below (s₁.setTop (mkF m 17 #[.val (.long p1), .second, .val (.int (128 : Int32))] [(.int (XT.cmpL p1 (127 : Int64)))])) _
      exact k
    by_cases hs2 : (127 : Int64) < p1
    · skip
      have pre17 : ∀ t, Steps p.tables e below (s₁.setTop (mkF m 31 #[.val (.long p1), .second, .val (.int (128 : Int32))] [])) t → Steps p.tables e below (s₁.setTop (entryFrame m #[(.long p1)] 3)) t := by
        intro t k
        refine pre15 t ?_
        refine XS.ifYes X0.here hx rfl (pc0 := 17) (pc' := 31) rfl (hb hby d5_17) rfl (XT.ll_gt_t hs2) (by decide) (by decide) ?_
        show Steps p.tables e below (s₁.setTop (mkF m 31 #[.val (.long p1), .second, .val (.int (128 : Int32))] [])) _
        exact k
      have K16 : Keep h0 h0 [] := (Keep.refl h0 [])
      obtain ⟨T18, h18, X18, e18, E18, A18, D18, -, st18⟩ := newO X0 hx hZ hown (hw _ (List.mem_of_getElem? (i := 38) rfl)) (hw _ (List.mem_of_getElem? (i := 39) rfl)) (hw _ (List.mem_of_getElem? (i := 29) rfl)) e0 (g := (mkF m 31 #[.val (.long p1), .second, .val (.int (128 : Int32))] [])) rfl (hb hby d5_31) (by decide) (by decide)
      obtain ⟨b, gz18⟩ : ∃ z, z = h0.size := ⟨_, rfl⟩
      rw [← gz18] at A18 D18 st18
      have g_b : n0 ≤ b := Nat.le_trans Z0 (Nat.le_of_eq gz18.symm)
      have s_b : h0.size ≤ b := Nat.le_trans K16.1 (Nat.le_of_eq gz18.symm)
      have F_value_b : Fld Z h18 b "java/lang/Long" "value" "J" (.long (0 : Int64)) := D18 (Or.inr (hw _ (List.mem_of_getElem? (i := 52) rfl))) (ty := .long) (by decide)
      have pre19 : ∀ t, Steps p.tables e below (T18.setTop (mkF m 34 #[.val (.long p1), .second, .val (.int (128 : Int32))] [(.ref b)])) t → Steps p.tables e below (s₁.setTop (entryFrame m #[(.long p1)] 3)) t := fun t k => pre17 t (st18 t k)
      have K20 : Keep h0 h18 [] := (K16.ext E18)
      have Z20 : n0 ≤ h18.size := (Nat.le_trans Z0 E18.1)
      have O20 : Old Z n0 h18 := (OL.ext E18)
      have pre22 : ∀ t, Steps p.tables e below (T18.setTop (mkF m 36 #[.val (.long p1), .second, .val (.int (128 : Int32))] [(.long p1), (.ref b), (.ref b)])) t → Steps p.tables e below (s₁.setTop (entryFrame m #[(.long p1)] 3)) t := by
        intro t k
        refine pre19 t ?_
        refine XS.dup X18.here hx rfl (hb hby d5_34) rfl rfl ?_
        show Steps p.tables e below (T18.setTop (mkF m 35 #[.val (.long p1), .second, .val (.int (128 : Int32))] [(.ref b), (.ref b)])) _
        refine XT.lloadN X18.here hx rfl (hb hby d5_35) rfl ?_
        show Steps p.tables e below (T18.setTop (mkF m 36 #[.val (.long p1), .second, .val (.int (128 : Int32))] [(.long p1), (.ref b), (.ref b)])) _
        exact k
      obtain ⟨_, _, ⟨T24, L24, k24, n24⟩, -, X24, ⟨Lc24, hQ24, l24, y24, z24⟩, st24⟩ := X18.specialBack hx (y := (⟨"java/lang/Long", "<init>", "(J)V"⟩ : MethodName)) rfl hown (mvT hZ (hw _ (List.mem_of_getElem? (i := 40) rfl))) (mvT hZ (hw _ (List.mem_of_getElem? (i := 41) rfl))) (mvT hZ (hw _ (List.mem_of_getElem? (i := 43) rfl))) (by decide) (backOf (W := 1) (rm6 l Z a0 hw [] b p1 h18 n0 Z20 A18 g_b  F_value_b) hZ (hw _ (List.mem_of_getElem? (i := 43) rfl)) (hw _ (List.mem_of_getElem? (i := 29) rfl)) (by decide) (by decide)) (g := (mkF m 36 #[.val (.long p1), .second, .val (.int (128 : Int32))] [(.long p1), (.ref b), (.ref b)])) rfl (by rw [hml]; rfl) (Steps.refl _) (a := b) (argsL := [(.long p1)]) (rest := [(.ref b)]) (lenOf pd_li rfl) rfl (by show 2 * 0 + _ ≤ _; exact Nat.le_of_eq rfl) (hb hby d5_36) (fun _ _ => ⟨rfl, e18, (by decide : 1 + 0 ≤ _), (by decide : 1 + 0 ≤ _)⟩)
      dsimp only [Pt.U, Pt.locs, Pt.cells, Pt.slots] at X24 l24 y24 z24 st24 hQ24
      subst l24 y24 z24
      obtain ⟨rfl, Nq24, Kq24, Fx0_24⟩ := hQ24
      have N24 := Fr.app N0 Nq24
      have pre25 : ∀ t, Steps p.tables e below (T24.setTop (mkF m 39 #[.val (.long p1), .second, .val (.int (128 : Int32))] [(.ref b)])) t → Steps p.tables e below (s₁.setTop (entryFrame m #[(.long p1)] 3)) t := fun t k => pre22 t (st24.trans k)
      obtain ⟨h24, e24⟩ : ∃ z, T24.heap = z := ⟨_, rfl⟩
      rw [e24] at Kq24 Fx0_24
      have E26_0 : Exa Z h24 b "java/lang/Long" := (A18.keep Kq24)
      have K26 : Keep h0 h24 [] := (K20.trans Kq24 (allS (P := fun x => x ∈ [] ∨ h0.size ≤ x) (Or.inr s_b) all0))
      have Z26 : n0 ≤ h24.size := (Nat.le_trans Z20 Kq24.1)
      have O26 : Old Z n0 h24 := (O20.keep Kq24 (allS (P := fun x => n0 ≤ x) g_b all0))
      obtain ⟨fs, hr, hrun, hended, hW, hsame⟩ := X24.leave (v := some (.ref b)) (fun h => by rw [Bd.returns] at h; cases h)
      refine ⟨_, _, pre25 _ ?_, hrun, hended, _, _, rfl, ?_, ⟨_, rfl⟩, hW, hsame.mono (by decide) (by decide)⟩
      · exact retOut X24 hx Bd.returns rfl (Or.inr (Or.inr (Or.inr (Or.inr ⟨rfl, rfl, rfl⟩)))) (hb hby d5_39) hr
      · show Q5 Z p1 ca cl h0 n0 _ T24.heap _
        rw [e24]
        exact ⟨b, rfl, N24, K26, E26_0⟩
    · skip
      have pre30 : ∀ t, Steps p.tables e below (s₁.setTop (mkF m 20 #[.val (.long p1), .second, .val (.int (128 : Int32))] [])) t → Steps p.tables e below (s₁.setTop (entryFrame m #[(.long p1)] 3)) t := by
        intro t k
        refine pre15 t ?_
        refine XS.ifNo X0.here hx rfl (hb hby d5_17) rfl (XT.ll_gt_f hs2) ?_
        show Steps p.tables e below (s₁.setTop (mkF m 20 #[.val (.long p1), .second, .val (.int (128 : Int32))] [])) _
        exact k
      have K29 : Keep h0 h0 [] := (Keep.refl h0 [])
      obtain ⟨T31, X31, e31, st31⟩ := getS (host := "") X0 hx hZ hown (hw _ (List.mem_of_getElem? (i := 33) rfl)) Via.refl e0 (SC.ext OL.2) (g := (mkF m 20 #[.val (.long p1), .second, .val (.int (128 : Int32))] [])) rfl (hb hby d5_20)
      have pre32 : ∀ t, Steps p.tables e below (T31.setTop (mkF m 23 #[.val (.long p1), .second, .val (.int (128 : Int32))] [(.ref ca)])) t → Steps p.tables e below (s₁.setTop (entryFrame m #[(.long p1)] 3)) t := fun t k => pre30 t (st31 t k)
      have pre34 : ∀ t, Steps p.tables e below (T31.setTop (mkF m 29 #[.val (.long p1), .second, .val (.int (128 : Int32))] [(.int ((p1.toInt32) + (128 : Int32))), (.ref ca)])) t → Steps p.tables e below (s₁.setTop (entryFrame m #[(.long p1)] 3)) t := by
        intro t k
        refine pre32 t ?_
        refine XT.lloadN X31.here hx rfl (hb hby d5_23) rfl ?_
        show Steps p.tables e below (T31.setTop (mkF m 24 #[.val (.long p1), .second, .val (.int (128 : Int32))] [(.long p1), (.ref ca)])) _
        refine XT.l2i X31.here hx rfl (hb hby d5_24) rfl ?_
        show Steps p.tables e below (T31.setTop (mkF m 25 #[.val (.long p1), .second, .val (.int (128 : Int32))] [(.int (p1.toInt32)), (.ref ca)])) _
        refine XS.sipush X31.here hx rfl (hb hby d5_25) ?_
        show Steps p.tables e below (T31.setTop (mkF m 28 #[.val (.long p1), .second, .val (.int (128 : Int32))] [(.int (128 : Int32)), (.int (p1.toInt32)), (.ref ca)])) _
        refine XS.iadd X31.here hx rfl (hb hby d5_28) rfl ?_
        show Steps p.tables e below (T31.setTop (mkF m 29 #[.val (.long p1), .second, .val (.int (128 : Int32))] [(.int ((p1.toInt32) + (128 : Int32))), (.ref ca)])) _
        exact k
      obtain ⟨Ar, Szc, hz0⟩ := BX.ext OL.2
      have hin : ¬ (((p1.toInt32) + (128 : Int32)) < 0 ∨ cl.slots.size ≤ (((p1.toInt32) + (128 : Int32)) : Int32).toNatClampNeg) := inb_of Szc (own_jj hs1 hs2)
      obtain ⟨b, hat, Eb, -⟩ := BX.2.2.2 _ hin
      have pre35 : ∀ t, Steps p.tables e below (T31.setTop (mkF m 30 #[.val (.long p1), .second, .val (.int (128 : Int32))] [(.ref b)])) t → Steps p.tables e below (s₁.setTop (entryFrame m #[(.long p1)] 3)) t := by
        intro t k
        refine pre34 t ?_
        refine X31.aaload hx (j := ((p1.toInt32) + (128 : Int32))) (v := (.ref b)) (by rw [e31]; exact Ar.1) (State.isArrayOf_alike hZ.alike Ar.2.1) rfl Ar.2.2 hin hat (g := (mkF m 29 #[.val (.long p1), .second, .val (.int (128 : Int32))] [(.int ((p1.toInt32) + (128 : Int32))), (.ref ca)])) rfl rfl (hb hby d5_29) _ ?_
        show Steps p.tables e below (T31.setTop (mkF m 30 #[.val (.long p1), .second, .val (.int (128 : Int32))] [(.ref b)])) _
        exact k
      obtain ⟨fs, hr, hrun, hended, hW, hsame⟩ := X31.leave (v := some (.ref b)) (fun h => by rw [Bd.returns] at h; cases h)
      refine ⟨_, _, pre35 _ ?_, hrun, hended, _, _, rfl, ?_, ⟨_, rfl⟩, hW, hsame.mono (by decide) (by decide)⟩
      · exact retOut X31 hx Bd.returns rfl (Or.inr (Or.inr (Or.inr (Or.inr ⟨rfl, rfl, rfl⟩)))) (hb hby d5_30) hr
      · show Q5 Z p1 ca cl h0 n0 _ T31.heap _
        rw [e31]
        exact ⟨b, rfl, N0, K29, (Eb.ext OL.2)⟩
theorem pd_ini : parseMethodDescriptor "(JIZ)V" = some ⟨[.long, .int, .boolean], none⟩ := by decide +kernel
theorem pd_eq : parseMethodDescriptor "(Ljava/lang/Object;)Z" = some ⟨[(.object "java/lang/Object")], some .boolean⟩ := by decide +kernel
theorem pd_vo : parseMethodDescriptor "(J)Ljava/lang/Long;" = some ⟨[.long], some (.object "java/lang/Long")⟩ := by decide +kernel
theorem pn_law : plainName "com/example/sluice/sluice/checkpoint/ChainFileEqualsPinLaw" = true := by first | (simp [plainName, overriddenIn]; done) | decide +kernel
theorem ef_law (m : MethodId) (id1 : Int64) (pt1 : Int32) (id2 : Int64) (pt2 : Int32) (flg : Int32) : entryFrame m #[(.long id1), (.int pt1), (.long id2), (.int pt2), (.int flg)] maxLocals = mkF m 0 #[.val (.long id1), .second, .val (.int pt1), .val (.long id2), .second, .val (.int pt2), .val (.int flg), .unset, .unset, .unset, .unset, .unset, .unset, .unset, .unset, .unset] [] := by first | (simp [entryFrame, mkF, argsToLocals, Value.category, maxLocals]; done) | rfl
def Qlaw (Z : State) (id1 : Int64) (pt1 : Int32) (id2 : Int64) (pt2 : Int32) (flg : Int32) (ca : Addr) (cl : Cell) (h0 : Heap) (n0 : Nat) (v : Option Value) (h : Heap) (L : List Loc) : Prop := v = some (.int (1 : Int32)) ∧ Fr n0 L
set_option maxRecDepth 65536 in
set_option maxHeartbeats 40000000 in
theorem rmlaw (l : Launch) (Z : State) (a0 : Array Value) (hw : ∀ d ∈ tables_1, d.before a0 Z = true) (ws : List Jvm.Cond) (id1 : Int64) (pt1 : Int32) (id2 : Int64) (pt2 : Int32) (flg : Int32) (ca : Addr) (cl : Cell) (h0 : Heap) (n0 : Nat) (Z0 : n0 ≤ h0.size) (OL : Old Z n0 h0) (SC : Sta Z Z.heap "java/lang/Long$LongCache" "cache" "[Ljava/lang/Long;" (.ref ca)) (BX : Bxs Z ca cl "java/lang/Long" "J" (256 : Int32) (fun j => .long (j - 128).toInt64)) :
    MetFree l x (head1 (Jvm.Cond.code x code maxLocals ret :: ws) room_1) (fun a U => a = #[(.long id1), (.int pt1), (.long id2), (.int pt2), (.int flg)] ∧ Z.Warmed39 U.vm ∧ U.heap = h0) (fun _ _ _ _ _ => True) (fun _ U o U' => ∃ v L, o = .returned v ∧ Qlaw Z id1 pt1 id2 pt2 flg ca cl h0 n0 v U'.heap L ∧ FrameEnd U o U' L room_1.cells room_1.slots) := by
  refine MetFree.of_bodySF (plainFor_of_name pn_law) hisR ?_
  intro p e s m args below meth c s₁ Bd hml0 hP hK
  obtain ⟨rfl, hZ, hh⟩ := hP
  have hx := Bd.exec
  have hby := Bd.bytes
  have hml : c.maxLocals = 16 := hml0
  have hown : s.vm.findClass "com/example/sluice/sluice/checkpoint/ChainFileEqualsPinLaw" = some m.cls := findClass_of_methodNamed Bd.named
  have hnm := (name_of_methodNamed Bd.named Bd.method).1
  have X0 : Stand p l e room_1 s m #[(.long id1), (.int pt1), (.long id2), (.int pt2), (.int flg)] below meth c s₁ [] 0 0 := Stand.of_body Bd
  have e0 : s₁.heap = h0 := by rw [← hh, Bd.state]; rfl
  have N0 := Fr.nil n0
  have pre0 : ∀ t, Steps p.tables e below (s₁.setTop (mkF m 0 #[.val (.long id1), .second, .val (.int pt1), .val (.long id2), .second, .val (.int pt2), .val (.int flg), .unset, .unset, .unset, .unset, .unset, .unset, .unset, .unset, .unset] [])) t → Steps p.tables e below (s₁.setTop (entryFrame m #[(.long id1), (.int pt1), (.long id2), (.int pt2), (.int flg)] maxLocals)) t := fun t k => castTop (ef_law m id1 pt1 id2 pt2 flg) k
  have mrg1 : ∃ (c1 : Int32) (T1 : State) (Lo1 : List Loc), Stand p l e room_1 s m #[(.long id1), (.int pt1), (.long id2), (.int pt2), (.int flg)] below meth c T1 Lo1 0 0 ∧ Fr n0 Lo1 ∧ T1.heap = h0 ∧ (c1 = 0 ∨ c1 = 1) ∧ ∀ t, Steps p.tables e below (T1.setTop (mkF m 12 #[.val (.long id1), .second, .val (.int pt1), .val (.long id2), .second, .val (.int pt2), .val (.int flg), .unset, .unset, .unset, .unset, .unset, .unset, .unset, .unset, .unset] [(.int c1)])) t → Steps p.tables e below (s₁.setTop (entryFrame m #[(.long id1), (.int pt1), (.long id2), (.int pt2), (.int flg)] maxLocals)) t := by
    have pre2 : ∀ t, Steps p.tables e below (s₁.setTop (mkF m 4 #[.val (.long id1), .second, .val (.int pt1), .val (.long id2), .second, .val (.int pt2), .val (.int flg), .unset, .unset, .unset, .unset, .unset, .unset, .unset, .unset, .unset] [(.int (flg &&& (1 : Int32)))])) t → Steps p.tables e below (s₁.setTop (entryFrame m #[(.long id1), (.int pt1), (.long id2), (.int pt2), (.int flg)] maxLocals)) t := by
      intro t k
      refine pre0 t ?_
      refine XS.iload X0.here hx rfl (hb hby at_0) rfl ?_
      show Steps p.tables e below (s₁.setTop (mkF m 2 #[.val (.long id1), .second, .val (.int pt1), .val (.long id2), .second, .val (.int pt2), .val (.int flg), .unset, .unset, .unset, .unset, .unset, .unset, .unset, .unset, .unset] [(.int flg)])) _
      refine XS.iconst X0.here hx rfl (hb hby at_2) ?_
      show Steps p.tables e below (s₁.setTop (mkF m 3 #[.val (.long id1), .second, .val (.int pt1), .val (.long id2), .second, .val (.int pt2), .val (.int flg), .unset, .unset, .unset, .unset, .unset, .unset, .unset, .unset, .unset] [(.int (1 : Int32)), (.int flg)])) _
      refine XS.iand X0.here hx rfl (hb hby at_3) rfl ?_
      show Steps p.tables e below (s₁.setTop (mkF m 4 #[.val (.long id1), .second, .val (.int pt1), .val (.long id2), .second, .val (.int pt2), .val (.int flg), .unset, .unset, .unset, .unset, .unset, .unset, .unset, .unset, .unset] [(.int (flg &&& (1 : Int32)))])) _
      exact k
    by_cases hc4 : (flg &&& (1 : Int32)) = (0 : Int32)
    · skip
      have pre3 : ∀ t, Steps p.tables e below (s₁.setTop (mkF m 12 #[.val (.long id1), .second, .val (.int pt1), .val (.long id2), .second, .val (.int pt2), .val (.int flg), .unset, .unset, .unset, .unset, .unset, .unset, .unset, .unset, .unset] [(.int (0 : Int32))])) t → Steps p.tables e below (s₁.setTop (entryFrame m #[(.long id1), (.int pt1), (.long id2), (.int pt2), (.int flg)] maxLocals)) t := by
        intro t k
        refine pre2 t ?_
        refine XS.ifYes X0.here hx rfl (pc0 := 4) (pc' := 11) rfl (hb hby at_4) rfl (XT.i0_eq_t hc4) (by decide) (by decide) ?_
        show Steps p.tables e below (s₁.setTop (mkF m 11 #[.val (.long id1), .second, .val (.int pt1), .val (.long id2), .second, .val (.int pt2), .val (.int flg), .unset, .unset, .unset, .unset, .unset, .unset, .unset, .unset, .unset] [])) _
        refine XS.iconst X0.here hx rfl (hb hby at_11) ?_
        show Steps p.tables e below (s₁.setTop (mkF m 12 #[.val (.long id1), .second, .val (.int pt1), .val (.long id2), .second, .val (.int pt2), .val (.int flg), .unset, .unset, .unset, .unset, .unset, .unset, .unset, .unset, .unset] [(.int (0 : Int32))])) _
        exact k
      exact ⟨(0 : Int32), _, _, X0, N0, e0, (by simp), pre3⟩
    · skip
      have pre4 : ∀ t, Steps p.tables e below (s₁.setTop (mkF m 12 #[.val (.long id1), .second, .val (.int pt1), .val (.long id2), .second, .val (.int pt2), .val (.int flg), .unset, .unset, .unset, .unset, .unset, .unset, .unset, .unset, .unset] [(.int (1 : Int32))])) t → Steps p.tables e below (s₁.setTop (entryFrame m #[(.long id1), (.int pt1), (.long id2), (.int pt2), (.int flg)] maxLocals)) t := by
        intro t k
        refine pre2 t ?_
        refine XS.ifNo X0.here hx rfl (hb hby at_4) rfl (XT.i0_eq_f hc4) ?_
        show Steps p.tables e below (s₁.setTop (mkF m 7 #[.val (.long id1), .second, .val (.int pt1), .val (.long id2), .second, .val (.int pt2), .val (.int flg), .unset, .unset, .unset, .unset, .unset, .unset, .unset, .unset, .unset] [])) _
        refine XS.iconst X0.here hx rfl (hb hby at_7) ?_
        show Steps p.tables e below (s₁.setTop (mkF m 8 #[.val (.long id1), .second, .val (.int pt1), .val (.long id2), .second, .val (.int pt2), .val (.int flg), .unset, .unset, .unset, .unset, .unset, .unset, .unset, .unset, .unset] [(.int (1 : Int32))])) _
        refine XS.goto X0.here hx rfl (pc0 := 8) (pc' := 12) rfl (hb hby at_8) (by decide) (by decide) ?_
        show Steps p.tables e below (s₁.setTop (mkF m 12 #[.val (.long id1), .second, .val (.int pt1), .val (.long id2), .second, .val (.int pt2), .val (.int flg), .unset, .unset, .unset, .unset, .unset, .unset, .unset, .unset, .unset] [(.int (1 : Int32))])) _
        exact k
      exact ⟨(1 : Int32), _, _, X0, N0, e0, (by simp), pre4⟩
  obtain ⟨c1, T1, Lo1, X1, N1, e1, hc1, pre1⟩ := mrg1
  have pre5 : ∀ t, Steps p.tables e below (T1.setTop (mkF m 14 #[.val (.long id1), .second, .val (.int pt1), .val (.long id2), .second, .val (.int pt2), .val (.int flg), .val (.int c1), .unset, .unset, .unset, .unset, .unset, .unset, .unset, .unset] [])) t → Steps p.tables e below (s₁.setTop (entryFrame m #[(.long id1), (.int pt1), (.long id2), (.int pt2), (.int flg)] maxLocals)) t := by
    intro t k
    refine pre1 t ?_
    refine XS.istore X1.here hx rfl (hb hby at_12) rfl (l' := #[.val (.long id1), .second, .val (.int pt1), .val (.long id2), .second, .val (.int pt2), .val (.int flg), .val (.int c1), .unset, .unset, .unset, .unset, .unset, .unset, .unset, .unset]) rfl ?_
    show Steps p.tables e below (T1.setTop (mkF m 14 #[.val (.long id1), .second, .val (.int pt1), .val (.long id2), .second, .val (.int pt2), .val (.int flg), .val (.int c1), .unset, .unset, .unset, .unset, .unset, .unset, .unset, .unset] [])) _
    exact k
  have mrg6 : ∃ (c2 : Int32) (T6 : State) (Lo6 : List Loc), Stand p l e room_1 s m #[(.long id1), (.int pt1), (.long id2), (.int pt2), (.int flg)] below meth c T6 Lo6 0 0 ∧ Fr n0 Lo6 ∧ T6.heap = h0 ∧ (c2 = 0 ∨ c2 = 1) ∧ ∀ t, Steps p.tables e below (T6.setTop (mkF m 26 #[.val (.long id1), .second, .val (.int pt1), .val (.long id2), .second, .val (.int pt2), .val (.int flg), .val (.int c1), .unset, .unset, .unset, .unset, .unset, .unset, .unset, .unset] [(.int c2)])) t → Steps p.tables e below (s₁.setTop (entryFrame m #[(.long id1), (.int pt1), (.long id2), (.int pt2), (.int flg)] maxLocals)) t := by
    have pre7 : ∀ t, Steps p.tables e below (T1.setTop (mkF m 18 #[.val (.long id1), .second, .val (.int pt1), .val (.long id2), .second, .val (.int pt2), .val (.int flg), .val (.int c1), .unset, .unset, .unset, .unset, .unset, .unset, .unset, .unset] [(.int (flg &&& (2 : Int32)))])) t → Steps p.tables e below (s₁.setTop (entryFrame m #[(.long id1), (.int pt1), (.long id2), (.int pt2), (.int flg)] maxLocals)) t := by
      intro t k
      refine pre5 t ?_
      refine XS.iload X1.here hx rfl (hb hby at_14) rfl ?_
      show Steps p.tables e below (T1.setTop (mkF m 16 #[.val (.long id1), .second, .val (.int pt1), .val (.long id2), .second, .val (.int pt2), .val (.int flg), .val (.int c1), .unset, .unset, .unset, .unset, .unset, .unset, .unset, .unset] [(.int flg)])) _
      refine XS.iconst X1.here hx rfl (hb hby at_16) ?_
      show Steps p.tables e below (T1.setTop (mkF m 17 #[.val (.long id1), .second, .val (.int pt1), .val (.long id2), .second, .val (.int pt2), .val (.int flg), .val (.int c1), .unset, .unset, .unset, .unset, .unset, .unset, .unset, .unset] [(.int (2 : Int32)), (.int flg)])) _
      refine XS.iand X1.here hx rfl (hb hby at_17) rfl ?_
      show Steps p.tables e below (T1.setTop (mkF m 18 #[.val (.long id1), .second, .val (.int pt1), .val (.long id2), .second, .val (.int pt2), .val (.int flg), .val (.int c1), .unset, .unset, .unset, .unset, .unset, .unset, .unset, .unset] [(.int (flg &&& (2 : Int32)))])) _
      exact k
    by_cases hc18 : (flg &&& (2 : Int32)) = (0 : Int32)
    · skip
      have pre8 : ∀ t, Steps p.tables e below (T1.setTop (mkF m 26 #[.val (.long id1), .second, .val (.int pt1), .val (.long id2), .second, .val (.int pt2), .val (.int flg), .val (.int c1), .unset, .unset, .unset, .unset, .unset, .unset, .unset, .unset] [(.int (0 : Int32))])) t → Steps p.tables e below (s₁.setTop (entryFrame m #[(.long id1), (.int pt1), (.long id2), (.int pt2), (.int flg)] maxLocals)) t := by
        intro t k
        refine pre7 t ?_
        refine XS.ifYes X1.here hx rfl (pc0 := 18) (pc' := 25) rfl (hb hby at_18) rfl (XT.i0_eq_t hc18) (by decide) (by decide) ?_
        show Steps p.tables e below (T1.setTop (mkF m 25 #[.val (.long id1), .second, .val (.int pt1), .val (.long id2), .second, .val (.int pt2), .val (.int flg), .val (.int c1), .unset, .unset, .unset, .unset, .unset, .unset, .unset, .unset] [])) _
        refine XS.iconst X1.here hx rfl (hb hby at_25) ?_
        show Steps p.tables e below (T1.setTop (mkF m 26 #[.val (.long id1), .second, .val (.int pt1), .val (.long id2), .second, .val (.int pt2), .val (.int flg), .val (.int c1), .unset, .unset, .unset, .unset, .unset, .unset, .unset, .unset] [(.int (0 : Int32))])) _
        exact k
      exact ⟨(0 : Int32), _, _, X1, N1, e1, (by simp), pre8⟩
    · skip
      have pre9 : ∀ t, Steps p.tables e below (T1.setTop (mkF m 26 #[.val (.long id1), .second, .val (.int pt1), .val (.long id2), .second, .val (.int pt2), .val (.int flg), .val (.int c1), .unset, .unset, .unset, .unset, .unset, .unset, .unset, .unset] [(.int (1 : Int32))])) t → Steps p.tables e below (s₁.setTop (entryFrame m #[(.long id1), (.int pt1), (.long id2), (.int pt2), (.int flg)] maxLocals)) t := by
        intro t k
        refine pre7 t ?_
        refine XS.ifNo X1.here hx rfl (hb hby at_18) rfl (XT.i0_eq_f hc18) ?_
        show Steps p.tables e below (T1.setTop (mkF m 21 #[.val (.long id1), .second, .val (.int pt1), .val (.long id2), .second, .val (.int pt2), .val (.int flg), .val (.int c1), .unset, .unset, .unset, .unset, .unset, .unset, .unset, .unset] [])) _
        refine XS.iconst X1.here hx rfl (hb hby at_21) ?_
        show Steps p.tables e below (T1.setTop (mkF m 22 #[.val (.long id1), .second, .val (.int pt1), .val (.long id2), .second, .val (.int pt2), .val (.int flg), .val (.int c1), .unset, .unset, .unset, .unset, .unset, .unset, .unset, .unset] [(.int (1 : Int32))])) _
        refine XS.goto X1.here hx rfl (pc0 := 22) (pc' := 26) rfl (hb hby at_22) (by decide) (by decide) ?_
        show Steps p.tables e below (T1.setTop (mkF m 26 #[.val (.long id1), .second, .val (.int pt1), .val (.long id2), .second, .val (.int pt2), .val (.int flg), .val (.int c1), .unset, .unset, .unset, .unset, .unset, .unset, .unset, .unset] [(.int (1 : Int32))])) _
        exact k
      exact ⟨(1 : Int32), _, _, X1, N1, e1, (by simp), pre9⟩
  obtain ⟨c2, T6, Lo6, X6, N6, e6, hc2, pre6⟩ := mrg6
  have pre10 : ∀ t, Steps p.tables e below (T6.setTop (mkF m 28 #[.val (.long id1), .second, .val (.int pt1), .val (.long id2), .second, .val (.int pt2), .val (.int flg), .val (.int c1), .val (.int c2), .unset, .unset, .unset, .unset, .unset, .unset, .unset] [])) t → Steps p.tables e below (s₁.setTop (entryFrame m #[(.long id1), (.int pt1), (.long id2), (.int pt2), (.int flg)] maxLocals)) t := by
    intro t k
    refine pre6 t ?_
    refine XS.istore X6.here hx rfl (hb hby at_26) rfl (l' := #[.val (.long id1), .second, .val (.int pt1), .val (.long id2), .second, .val (.int pt2), .val (.int flg), .val (.int c1), .val (.int c2), .unset, .unset, .unset, .unset, .unset, .unset, .unset]) rfl ?_
    show Steps p.tables e below (T6.setTop (mkF m 28 #[.val (.long id1), .second, .val (.int pt1), .val (.long id2), .second, .val (.int pt2), .val (.int flg), .val (.int c1), .val (.int c2), .unset, .unset, .unset, .unset, .unset, .unset, .unset] [])) _
    exact k
  have mrg11 : ∃ (idb : Int64) (T11 : State) (Lo11 : List Loc), Stand p l e room_1 s m #[(.long id1), (.int pt1), (.long id2), (.int pt2), (.int flg)] below meth c T11 Lo11 0 0 ∧ Fr n0 Lo11 ∧ T11.heap = h0 ∧ (True) ∧ ∀ t, Steps p.tables e below (T11.setTop (mkF m 40 #[.val (.long id1), .second, .val (.int pt1), .val (.long id2), .second, .val (.int pt2), .val (.int flg), .val (.int c1), .val (.int c2), .unset, .unset, .unset, .unset, .unset, .unset, .unset] [(.long idb)])) t → Steps p.tables e below (s₁.setTop (entryFrame m #[(.long id1), (.int pt1), (.long id2), (.int pt2), (.int flg)] maxLocals)) t := by
    have pre12 : ∀ t, Steps p.tables e below (T6.setTop (mkF m 32 #[.val (.long id1), .second, .val (.int pt1), .val (.long id2), .second, .val (.int pt2), .val (.int flg), .val (.int c1), .val (.int c2), .unset, .unset, .unset, .unset, .unset, .unset, .unset] [(.int (flg &&& (4 : Int32)))])) t → Steps p.tables e below (s₁.setTop (entryFrame m #[(.long id1), (.int pt1), (.long id2), (.int pt2), (.int flg)] maxLocals)) t := by
      intro t k
      refine pre10 t ?_
      refine XS.iload X6.here hx rfl (hb hby at_28) rfl ?_
      show Steps p.tables e below (T6.setTop (mkF m 30 #[.val (.long id1), .second, .val (.int pt1), .val (.long id2), .second, .val (.int pt2), .val (.int flg), .val (.int c1), .val (.int c2), .unset, .unset, .unset, .unset, .unset, .unset, .unset] [(.int flg)])) _
      refine XS.iconst X6.here hx rfl (hb hby at_30) ?_
      show Steps p.tables e below (T6.setTop (mkF m 31 #[.val (.long id1), .second, .val (.int pt1), .val (.long id2), .second, .val (.int pt2), .val (.int flg), .val (.int c1), .val (.int c2), .unset, .unset, .unset, .unset, .unset, .unset, .unset] [(.int (4 : Int32)), (.int flg)])) _
      refine XS.iand X6.here hx rfl (hb hby at_31) rfl ?_
      show Steps p.tables e below (T6.setTop (mkF m 32 #[.val (.long id1), .second, .val (.int pt1), .val (.long id2), .second, .val (.int pt2), .val (.int flg), .val (.int c1), .val (.int c2), .unset, .unset, .unset, .unset, .unset, .unset, .unset] [(.int (flg &&& (4 : Int32)))])) _
      exact k
    by_cases hc32 : (flg &&& (4 : Int32)) = (0 : Int32)
    · skip
      have pre13 : ∀ t, Steps p.tables e below (T6.setTop (mkF m 40 #[.val (.long id1), .second, .val (.int pt1), .val (.long id2), .second, .val (.int pt2), .val (.int flg), .val (.int c1), .val (.int c2), .unset, .unset, .unset, .unset, .unset, .unset, .unset] [(.long id2)])) t → Steps p.tables e below (s₁.setTop (entryFrame m #[(.long id1), (.int pt1), (.long id2), (.int pt2), (.int flg)] maxLocals)) t := by
        intro t k
        refine pre12 t ?_
        refine XS.ifYes X6.here hx rfl (pc0 := 32) (pc' := 39) rfl (hb hby at_32) rfl (XT.i0_eq_t hc32) (by decide) (by decide) ?_
        show Steps p.tables e below (T6.setTop (mkF m 39 #[.val (.long id1), .second, .val (.int pt1), .val (.long id2), .second, .val (.int pt2), .val (.int flg), .val (.int c1), .val (.int c2), .unset, .unset, .unset, .unset, .unset, .unset, .unset] [])) _
        refine XT.lloadN X6.here hx rfl (hb hby at_39) rfl ?_
        show Steps p.tables e below (T6.setTop (mkF m 40 #[.val (.long id1), .second, .val (.int pt1), .val (.long id2), .second, .val (.int pt2), .val (.int flg), .val (.int c1), .val (.int c2), .unset, .unset, .unset, .unset, .unset, .unset, .unset] [(.long id2)])) _
        exact k
      exact ⟨id2, _, _, X6, N6, e6, (by trivial), pre13⟩
    · skip
      have pre14 : ∀ t, Steps p.tables e below (T6.setTop (mkF m 40 #[.val (.long id1), .second, .val (.int pt1), .val (.long id2), .second, .val (.int pt2), .val (.int flg), .val (.int c1), .val (.int c2), .unset, .unset, .unset, .unset, .unset, .unset, .unset] [(.long id1)])) t → Steps p.tables e below (s₁.setTop (entryFrame m #[(.long id1), (.int pt1), (.long id2), (.int pt2), (.int flg)] maxLocals)) t := by
        intro t k
        refine pre12 t ?_
        refine XS.ifNo X6.here hx rfl (hb hby at_32) rfl (XT.i0_eq_f hc32) ?_
        show Steps p.tables e below (T6.setTop (mkF m 35 #[.val (.long id1), .second, .val (.int pt1), .val (.long id2), .second, .val (.int pt2), .val (.int flg), .val (.int c1), .val (.int c2), .unset, .unset, .unset, .unset, .unset, .unset, .unset] [])) _
        refine XT.lloadN X6.here hx rfl (hb hby at_35) rfl ?_
        show Steps p.tables e below (T6.setTop (mkF m 36 #[.val (.long id1), .second, .val (.int pt1), .val (.long id2), .second, .val (.int pt2), .val (.int flg), .val (.int c1), .val (.int c2), .unset, .unset, .unset, .unset, .unset, .unset, .unset] [(.long id1)])) _
        refine XS.goto X6.here hx rfl (pc0 := 36) (pc' := 40) rfl (hb hby at_36) (by decide) (by decide) ?_
        show Steps p.tables e below (T6.setTop (mkF m 40 #[.val (.long id1), .second, .val (.int pt1), .val (.long id2), .second, .val (.int pt2), .val (.int flg), .val (.int c1), .val (.int c2), .unset, .unset, .unset, .unset, .unset, .unset, .unset] [(.long id1)])) _
        exact k
      exact ⟨id1, _, _, X6, N6, e6, (by trivial), pre14⟩
  obtain ⟨idb, T11, Lo11, X11, N11, e11, hidb, pre11⟩ := mrg11
  have pre15 : ∀ t, Steps p.tables e below (T11.setTop (mkF m 42 #[.val (.long id1), .second, .val (.int pt1), .val (.long id2), .second, .val (.int pt2), .val (.int flg), .val (.int c1), .val (.int c2), .val (.long idb), .second, .unset, .unset, .unset, .unset, .unset] [])) t → Steps p.tables e below (s₁.setTop (entryFrame m #[(.long id1), (.int pt1), (.long id2), (.int pt2), (.int flg)] maxLocals)) t := by
    intro t k
    refine pre11 t ?_
    refine XT.lstore X11.here hx rfl (hb hby at_40) rfl (l' := #[.val (.long id1), .second, .val (.int pt1), .val (.long id2), .second, .val (.int pt2), .val (.int flg), .val (.int c1), .val (.int c2), .val (.long idb), .second, .unset, .unset, .unset, .unset, .unset]) rfl ?_
    show Steps p.tables e below (T11.setTop (mkF m 42 #[.val (.long id1), .second, .val (.int pt1), .val (.long id2), .second, .val (.int pt2), .val (.int flg), .val (.int c1), .val (.int c2), .val (.long idb), .second, .unset, .unset, .unset, .unset, .unset] [])) _
    exact k
  have mrg16 : ∃ (ptb : Int32) (T16 : State) (Lo16 : List Loc), Stand p l e room_1 s m #[(.long id1), (.int pt1), (.long id2), (.int pt2), (.int flg)] below meth c T16 Lo16 0 0 ∧ Fr n0 Lo16 ∧ T16.heap = h0 ∧ (True) ∧ ∀ t, Steps p.tables e below (T16.setTop (mkF m 56 #[.val (.long id1), .second, .val (.int pt1), .val (.long id2), .second, .val (.int pt2), .val (.int flg), .val (.int c1), .val (.int c2), .val (.long idb), .second, .unset, .unset, .unset, .unset, .unset] [(.int ptb)])) t → Steps p.tables e below (s₁.setTop (entryFrame m #[(.long id1), (.int pt1), (.long id2), (.int pt2), (.int flg)] maxLocals)) t := by
    have pre17 : ∀ t, Steps p.tables e below (T11.setTop (mkF m 47 #[.val (.long id1), .second, .val (.int pt1), .val (.long id2), .second, .val (.int pt2), .val (.int flg), .val (.int c1), .val (.int c2), .val (.long idb), .second, .unset, .unset, .unset, .unset, .unset] [(.int (flg &&& (8 : Int32)))])) t → Steps p.tables e below (s₁.setTop (entryFrame m #[(.long id1), (.int pt1), (.long id2), (.int pt2), (.int flg)] maxLocals)) t := by
      intro t k
      refine pre15 t ?_
      refine XS.iload X11.here hx rfl (hb hby at_42) rfl ?_
      show Steps p.tables e below (T11.setTop (mkF m 44 #[.val (.long id1), .second, .val (.int pt1), .val (.long id2), .second, .val (.int pt2), .val (.int flg), .val (.int c1), .val (.int c2), .val (.long idb), .second, .unset, .unset, .unset, .unset, .unset] [(.int flg)])) _
      refine XS.bipush X11.here hx rfl (hb hby at_44) ?_
      show Steps p.tables e below (T11.setTop (mkF m 46 #[.val (.long id1), .second, .val (.int pt1), .val (.long id2), .second, .val (.int pt2), .val (.int flg), .val (.int c1), .val (.int c2), .val (.long idb), .second, .unset, .unset, .unset, .unset, .unset] [(.int (8 : Int32)), (.int flg)])) _
      refine XS.iand X11.here hx rfl (hb hby at_46) rfl ?_
      show Steps p.tables e below (T11.setTop (mkF m 47 #[.val (.long id1), .second, .val (.int pt1), .val (.long id2), .second, .val (.int pt2), .val (.int flg), .val (.int c1), .val (.int c2), .val (.long idb), .second, .unset, .unset, .unset, .unset, .unset] [(.int (flg &&& (8 : Int32)))])) _
      exact k
    by_cases hc47 : (flg &&& (8 : Int32)) = (0 : Int32)
    · skip
      have pre18 : ∀ t, Steps p.tables e below (T11.setTop (mkF m 56 #[.val (.long id1), .second, .val (.int pt1), .val (.long id2), .second, .val (.int pt2), .val (.int flg), .val (.int c1), .val (.int c2), .val (.long idb), .second, .unset, .unset, .unset, .unset, .unset] [(.int pt2)])) t → Steps p.tables e below (s₁.setTop (entryFrame m #[(.long id1), (.int pt1), (.long id2), (.int pt2), (.int flg)] maxLocals)) t := by
        intro t k
        refine pre17 t ?_
        refine XS.ifYes X11.here hx rfl (pc0 := 47) (pc' := 54) rfl (hb hby at_47) rfl (XT.i0_eq_t hc47) (by decide) (by decide) ?_
        show Steps p.tables e below (T11.setTop (mkF m 54 #[.val (.long id1), .second, .val (.int pt1), .val (.long id2), .second, .val (.int pt2), .val (.int flg), .val (.int c1), .val (.int c2), .val (.long idb), .second, .unset, .unset, .unset, .unset, .unset] [])) _
        refine XS.iload X11.here hx rfl (hb hby at_54) rfl ?_
        show Steps p.tables e below (T11.setTop (mkF m 56 #[.val (.long id1), .second, .val (.int pt1), .val (.long id2), .second, .val (.int pt2), .val (.int flg), .val (.int c1), .val (.int c2), .val (.long idb), .second, .unset, .unset, .unset, .unset, .unset] [(.int pt2)])) _
        exact k
      exact ⟨pt2, _, _, X11, N11, e11, (by trivial), pre18⟩
    · skip
      have pre19 : ∀ t, Steps p.tables e below (T11.setTop (mkF m 56 #[.val (.long id1), .second, .val (.int pt1), .val (.long id2), .second, .val (.int pt2), .val (.int flg), .val (.int c1), .val (.int c2), .val (.long idb), .second, .unset, .unset, .unset, .unset, .unset] [(.int pt1)])) t → Steps p.tables e below (s₁.setTop (entryFrame m #[(.long id1), (.int pt1), (.long id2), (.int pt2), (.int flg)] maxLocals)) t := by
        intro t k
        refine pre17 t ?_
        refine XS.ifNo X11.here hx rfl (hb hby at_47) rfl (XT.i0_eq_f hc47) ?_
        show Steps p.tables e below (T11.setTop (mkF m 50 #[.val (.long id1), .second, .val (.int pt1), .val (.long id2), .second, .val (.int pt2), .val (.int flg), .val (.int c1), .val (.int c2), .val (.long idb), .second, .unset, .unset, .unset, .unset, .unset] [])) _
        refine XS.iloadN X11.here hx rfl (hb hby at_50) rfl ?_
        show Steps p.tables e below (T11.setTop (mkF m 51 #[.val (.long id1), .second, .val (.int pt1), .val (.long id2), .second, .val (.int pt2), .val (.int flg), .val (.int c1), .val (.int c2), .val (.long idb), .second, .unset, .unset, .unset, .unset, .unset] [(.int pt1)])) _
        refine XS.goto X11.here hx rfl (pc0 := 51) (pc' := 56) rfl (hb hby at_51) (by decide) (by decide) ?_
        show Steps p.tables e below (T11.setTop (mkF m 56 #[.val (.long id1), .second, .val (.int pt1), .val (.long id2), .second, .val (.int pt2), .val (.int flg), .val (.int c1), .val (.int c2), .val (.long idb), .second, .unset, .unset, .unset, .unset, .unset] [(.int pt1)])) _
        exact k
      exact ⟨pt1, _, _, X11, N11, e11, (by trivial), pre19⟩
  obtain ⟨ptb, T16, Lo16, X16, N16, e16, hptb, pre16⟩ := mrg16
  have pre21 : ∀ t, Steps p.tables e below (T16.setTop (mkF m 58 #[.val (.long id1), .second, .val (.int pt1), .val (.long id2), .second, .val (.int pt2), .val (.int flg), .val (.int c1), .val (.int c2), .val (.long idb), .second, .val (.int ptb), .unset, .unset, .unset, .unset] [])) t → Steps p.tables e below (s₁.setTop (entryFrame m #[(.long id1), (.int pt1), (.long id2), (.int pt2), (.int flg)] maxLocals)) t := by
    intro t k
    refine pre16 t ?_
    refine XS.istore X16.here hx rfl (hb hby at_56) rfl (l' := #[.val (.long id1), .second, .val (.int pt1), .val (.long id2), .second, .val (.int pt2), .val (.int flg), .val (.int c1), .val (.int c2), .val (.long idb), .second, .val (.int ptb), .unset, .unset, .unset, .unset]) rfl ?_
    show Steps p.tables e below (T16.setTop (mkF m 58 #[.val (.long id1), .second, .val (.int pt1), .val (.long id2), .second, .val (.int pt2), .val (.int flg), .val (.int c1), .val (.int c2), .val (.long idb), .second, .val (.int ptb), .unset, .unset, .unset, .unset] [])) _
    exact k
  obtain ⟨T22, h22, X22, e22, E22, A22, D22, -, st22⟩ := newO X16 hx hZ hown (hw _ (List.mem_of_getElem? (i := 0) rfl)) (hw _ (List.mem_of_getElem? (i := 1) rfl)) (hw _ (List.mem_of_getElem? (i := 2) rfl)) e16 (g := (mkF m 58 #[.val (.long id1), .second, .val (.int pt1), .val (.long id2), .second, .val (.int pt2), .val (.int flg), .val (.int c1), .val (.int c2), .val (.long idb), .second, .val (.int ptb), .unset, .unset, .unset, .unset] [])) rfl (hb hby at_58) (by decide) (by decide)
  obtain ⟨b1, gz22⟩ : ∃ z, z = h0.size := ⟨_, rfl⟩
  rw [← gz22] at A22 D22 st22
  have g_b1 : n0 ≤ b1 := Nat.le_trans Z0 (Nat.le_of_eq gz22.symm)
  have F_id_b1 : Fld Z h22 b1 "com/example/sluice/sluice/checkpoint/CheckpointNames$ChainFile" "id" "J" (.long (0 : Int64)) := D22 (Or.inr (hw _ (List.mem_of_getElem? (i := 15) rfl))) (ty := .long) (by decide)
  have F_part_b1 : Fld Z h22 b1 "com/example/sluice/sluice/checkpoint/CheckpointNames$ChainFile" "part" "I" (.int (0 : Int32)) := D22 (Or.inr (hw _ (List.mem_of_getElem? (i := 17) rfl))) (ty := .int) (by decide)
  have F_changes_b1 : Fld Z h22 b1 "com/example/sluice/sluice/checkpoint/CheckpointNames$ChainFile" "changes" "Z" (.int (0 : Int32)) := D22 (Or.inr (hw _ (List.mem_of_getElem? (i := 19) rfl))) (ty := .boolean) (by decide)
  have pre23 : ∀ t, Steps p.tables e below (T22.setTop (mkF m 61 #[.val (.long id1), .second, .val (.int pt1), .val (.long id2), .second, .val (.int pt2), .val (.int flg), .val (.int c1), .val (.int c2), .val (.long idb), .second, .val (.int ptb), .unset, .unset, .unset, .unset] [(.ref b1)])) t → Steps p.tables e below (s₁.setTop (entryFrame m #[(.long id1), (.int pt1), (.long id2), (.int pt2), (.int flg)] maxLocals)) t := fun t k => pre21 t (st22 t k)
  have Z24 : n0 ≤ h22.size := (Nat.le_trans Z0 E22.1)
  have O24 : Old Z n0 h22 := (OL.ext E22)
  have pre26 : ∀ t, Steps p.tables e below (T22.setTop (mkF m 66 #[.val (.long id1), .second, .val (.int pt1), .val (.long id2), .second, .val (.int pt2), .val (.int flg), .val (.int c1), .val (.int c2), .val (.long idb), .second, .val (.int ptb), .unset, .unset, .unset, .unset] [(.int c1), (.int pt1), (.long id1), (.ref b1), (.ref b1)])) t → Steps p.tables e below (s₁.setTop (entryFrame m #[(.long id1), (.int pt1), (.long id2), (.int pt2), (.int flg)] maxLocals)) t := by
    intro t k
    refine pre23 t ?_
    refine XS.dup X22.here hx rfl (hb hby at_61) rfl rfl ?_
    show Steps p.tables e below (T22.setTop (mkF m 62 #[.val (.long id1), .second, .val (.int pt1), .val (.long id2), .second, .val (.int pt2), .val (.int flg), .val (.int c1), .val (.int c2), .val (.long idb), .second, .val (.int ptb), .unset, .unset, .unset, .unset] [(.ref b1), (.ref b1)])) _
    refine XT.lloadN X22.here hx rfl (hb hby at_62) rfl ?_
    show Steps p.tables e below (T22.setTop (mkF m 63 #[.val (.long id1), .second, .val (.int pt1), .val (.long id2), .second, .val (.int pt2), .val (.int flg), .val (.int c1), .val (.int c2), .val (.long idb), .second, .val (.int ptb), .unset, .unset, .unset, .unset] [(.long id1), (.ref b1), (.ref b1)])) _
    refine XS.iloadN X22.here hx rfl (hb hby at_63) rfl ?_
    show Steps p.tables e below (T22.setTop (mkF m 64 #[.val (.long id1), .second, .val (.int pt1), .val (.long id2), .second, .val (.int pt2), .val (.int flg), .val (.int c1), .val (.int c2), .val (.long idb), .second, .val (.int ptb), .unset, .unset, .unset, .unset] [(.int pt1), (.long id1), (.ref b1), (.ref b1)])) _
    refine XS.iload X22.here hx rfl (hb hby at_64) rfl ?_
    show Steps p.tables e below (T22.setTop (mkF m 66 #[.val (.long id1), .second, .val (.int pt1), .val (.long id2), .second, .val (.int pt2), .val (.int flg), .val (.int c1), .val (.int c2), .val (.long idb), .second, .val (.int ptb), .unset, .unset, .unset, .unset] [(.int c1), (.int pt1), (.long id1), (.ref b1), (.ref b1)])) _
    exact k
  obtain ⟨_, _, ⟨T28, L28, k28, n28⟩, -, X28, ⟨Lc28, hQ28, l28, y28, z28⟩, st28⟩ := X22.specialBack hx (y := (⟨"com/example/sluice/sluice/checkpoint/CheckpointNames$ChainFile", "<init>", "(JIZ)V"⟩ : MethodName)) rfl hown (mvT hZ (hw _ (List.mem_of_getElem? (i := 3) rfl))) (mvT hZ (hw _ (List.mem_of_getElem? (i := 4) rfl))) (mvT hZ (hw _ (List.mem_of_getElem? (i := 5) rfl))) (by decide) (backOf (W := 1) (rm1 l Z a0 hw [] b1 id1 pt1 c1 h22 n0 Z24 A22 g_b1 hc1 F_id_b1 F_part_b1 F_changes_b1) hZ (hw _ (List.mem_of_getElem? (i := 5) rfl)) (hw _ (List.mem_of_getElem? (i := 2) rfl)) (by decide) (by decide)) (g := (mkF m 66 #[.val (.long id1), .second, .val (.int pt1), .val (.long id2), .second, .val (.int pt2), .val (.int flg), .val (.int c1), .val (.int c2), .val (.long idb), .second, .val (.int ptb), .unset, .unset, .unset, .unset] [(.int c1), (.int pt1), (.long id1), (.ref b1), (.ref b1)])) rfl (by rw [hml]; rfl) (Steps.refl _) (a := b1) (argsL := [(.long id1), (.int pt1), (.int c1)]) (rest := [(.ref b1)]) (lenOf pd_ini rfl) rfl (by show 2 * 0 + _ ≤ _; exact Nat.le_of_eq rfl) (hb hby at_66) (fun _ _ => ⟨rfl, e22, (by decide : 1 + 0 ≤ _), (by decide : 3 + 0 ≤ _)⟩)
  dsimp only [Pt.U, Pt.locs, Pt.cells, Pt.slots] at X28 l28 y28 z28 st28 hQ28
  subst l28 y28 z28
  obtain ⟨rfl, Nq28, Kq28, Fx0_28, Fx1_28, Fx2_28⟩ := hQ28
  have N28 := Fr.app N16 Nq28
  have pre29 : ∀ t, Steps p.tables e below (T28.setTop (mkF m 69 #[.val (.long id1), .second, .val (.int pt1), .val (.long id2), .second, .val (.int pt2), .val (.int flg), .val (.int c1), .val (.int c2), .val (.long idb), .second, .val (.int ptb), .unset, .unset, .unset, .unset] [(.ref b1)])) t → Steps p.tables e below (s₁.setTop (entryFrame m #[(.long id1), (.int pt1), (.long id2), (.int pt2), (.int flg)] maxLocals)) t := fun t k => pre26 t (st28.trans k)
  obtain ⟨h28, e28⟩ : ∃ z, T28.heap = z := ⟨_, rfl⟩
  rw [e28] at Kq28 Fx0_28 Fx1_28 Fx2_28
  have E30_0 : Exa Z h28 b1 "com/example/sluice/sluice/checkpoint/CheckpointNames$ChainFile" := (A22.keep Kq28)
  have Z30 : n0 ≤ h28.size := (Nat.le_trans Z24 Kq28.1)
  have O30 : Old Z n0 h28 := (O24.keep Kq28 (allS (P := fun x => n0 ≤ x) g_b1 all0))
  have pre32 : ∀ t, Steps p.tables e below (T28.setTop (mkF m 71 #[.val (.long id1), .second, .val (.int pt1), .val (.long id2), .second, .val (.int pt2), .val (.int flg), .val (.int c1), .val (.int c2), .val (.long idb), .second, .val (.int ptb), .val (.ref b1), .unset, .unset, .unset] [])) t → Steps p.tables e below (s₁.setTop (entryFrame m #[(.long id1), (.int pt1), (.long id2), (.int pt2), (.int flg)] maxLocals)) t := by
    intro t k
    refine pre29 t ?_
    refine XS.astore X28.here hx rfl (hb hby at_69) rfl rfl (l' := #[.val (.long id1), .second, .val (.int pt1), .val (.long id2), .second, .val (.int pt2), .val (.int flg), .val (.int c1), .val (.int c2), .val (.long idb), .second, .val (.int ptb), .val (.ref b1), .unset, .unset, .unset]) rfl ?_
    show Steps p.tables e below (T28.setTop (mkF m 71 #[.val (.long id1), .second, .val (.int pt1), .val (.long id2), .second, .val (.int pt2), .val (.int flg), .val (.int c1), .val (.int c2), .val (.long idb), .second, .val (.int ptb), .val (.ref b1), .unset, .unset, .unset] [])) _
    exact k
  obtain ⟨T33, h33, X33, e33, E33, A33, D33, -, st33⟩ := newO X28 hx hZ hown (hw _ (List.mem_of_getElem? (i := 0) rfl)) (hw _ (List.mem_of_getElem? (i := 1) rfl)) (hw _ (List.mem_of_getElem? (i := 2) rfl)) e28 (g := (mkF m 71 #[.val (.long id1), .second, .val (.int pt1), .val (.long id2), .second, .val (.int pt2), .val (.int flg), .val (.int c1), .val (.int c2), .val (.long idb), .second, .val (.int ptb), .val (.ref b1), .unset, .unset, .unset] [])) rfl (hb hby at_71) (by decide) (by decide)
  obtain ⟨b2, gz33⟩ : ∃ z, z = h28.size := ⟨_, rfl⟩
  rw [← gz33] at A33 D33 st33
  have g_b2 : n0 ≤ b2 := Nat.le_trans Z30 (Nat.le_of_eq gz33.symm)
  have ne_b1_b2 : b1 ≠ b2 := by rw [gz33]; exact Nat.ne_of_lt Fx0_28.lt
  have F_id_b2 : Fld Z h33 b2 "com/example/sluice/sluice/checkpoint/CheckpointNames$ChainFile" "id" "J" (.long (0 : Int64)) := D33 (Or.inr (hw _ (List.mem_of_getElem? (i := 15) rfl))) (ty := .long) (by decide)
  have F_part_b2 : Fld Z h33 b2 "com/example/sluice/sluice/checkpoint/CheckpointNames$ChainFile" "part" "I" (.int (0 : Int32)) := D33 (Or.inr (hw _ (List.mem_of_getElem? (i := 17) rfl))) (ty := .int) (by decide)
  have F_changes_b2 : Fld Z h33 b2 "com/example/sluice/sluice/checkpoint/CheckpointNames$ChainFile" "changes" "Z" (.int (0 : Int32)) := D33 (Or.inr (hw _ (List.mem_of_getElem? (i := 19) rfl))) (ty := .boolean) (by decide)
  have pre34 : ∀ t, Steps p.tables e below (T33.setTop (mkF m 74 #[.val (.long id1), .second, .val (.int pt1), .val (.long id2), .second, .val (.int pt2), .val (.int flg), .val (.int c1), .val (.int c2), .val (.long idb), .second, .val (.int ptb), .val (.ref b1), .unset, .unset, .unset] [(.ref b2)])) t → Steps p.tables e below (s₁.setTop (entryFrame m #[(.long id1), (.int pt1), (.long id2), (.int pt2), (.int flg)] maxLocals)) t := fun t k => pre32 t (st33 t k)
  have F35_0 : Fld Z h33 b1 "com/example/sluice/sluice/checkpoint/CheckpointNames$ChainFile" "id" "J" (.long id1) := (Fx0_28.ext E33)
  have F35_1 : Fld Z h33 b1 "com/example/sluice/sluice/checkpoint/CheckpointNames$ChainFile" "part" "I" (.int pt1) := (Fx1_28.ext E33)
  have F35_2 : Fld Z h33 b1 "com/example/sluice/sluice/checkpoint/CheckpointNames$ChainFile" "changes" "Z" (.int c1) := (Fx2_28.ext E33)
  have E35_0 : Exa Z h33 b1 "com/example/sluice/sluice/checkpoint/CheckpointNames$ChainFile" := (E30_0.ext E33)
  have Z35 : n0 ≤ h33.size := (Nat.le_trans Z30 E33.1)
  have O35 : Old Z n0 h33 := (O30.ext E33)
  have pre37 : ∀ t, Steps p.tables e below (T33.setTop (mkF m 81 #[.val (.long id1), .second, .val (.int pt1), .val (.long id2), .second, .val (.int pt2), .val (.int flg), .val (.int c1), .val (.int c2), .val (.long idb), .second, .val (.int ptb), .val (.ref b1), .unset, .unset, .unset] [(.int c2), (.int ptb), (.long idb), (.ref b2), (.ref b2)])) t → Steps p.tables e below (s₁.setTop (entryFrame m #[(.long id1), (.int pt1), (.long id2), (.int pt2), (.int flg)] maxLocals)) t := by
    intro t k
    refine pre34 t ?_
    refine XS.dup X33.here hx rfl (hb hby at_74) rfl rfl ?_
    show Steps p.tables e below (T33.setTop (mkF m 75 #[.val (.long id1), .second, .val (.int pt1), .val (.long id2), .second, .val (.int pt2), .val (.int flg), .val (.int c1), .val (.int c2), .val (.long idb), .second, .val (.int ptb), .val (.ref b1), .unset, .unset, .unset] [(.ref b2), (.ref b2)])) _
    refine XT.lload X33.here hx rfl (hb hby at_75) rfl ?_
    show Steps p.tables e below (T33.setTop (mkF m 77 #[.val (.long id1), .second, .val (.int pt1), .val (.long id2), .second, .val (.int pt2), .val (.int flg), .val (.int c1), .val (.int c2), .val (.long idb), .second, .val (.int ptb), .val (.ref b1), .unset, .unset, .unset] [(.long idb), (.ref b2), (.ref b2)])) _
    refine XS.iload X33.here hx rfl (hb hby at_77) rfl ?_
    show Steps p.tables e below (T33.setTop (mkF m 79 #[.val (.long id1), .second, .val (.int pt1), .val (.long id2), .second, .val (.int pt2), .val (.int flg), .val (.int c1), .val (.int c2), .val (.long idb), .second, .val (.int ptb), .val (.ref b1), .unset, .unset, .unset] [(.int ptb), (.long idb), (.ref b2), (.ref b2)])) _
    refine XS.iload X33.here hx rfl (hb hby at_79) rfl ?_
    show Steps p.tables e below (T33.setTop (mkF m 81 #[.val (.long id1), .second, .val (.int pt1), .val (.long id2), .second, .val (.int pt2), .val (.int flg), .val (.int c1), .val (.int c2), .val (.long idb), .second, .val (.int ptb), .val (.ref b1), .unset, .unset, .unset] [(.int c2), (.int ptb), (.long idb), (.ref b2), (.ref b2)])) _
    exact k
  obtain ⟨_, _, ⟨T39, L39, k39, n39⟩, -, X39, ⟨Lc39, hQ39, l39, y39, z39⟩, st39⟩ := X33.specialBack hx (y := (⟨"com/example/sluice/sluice/checkpoint/CheckpointNames$ChainFile", "<init>", "(JIZ)V"⟩ : MethodName)) rfl hown (mvT hZ (hw _ (List.mem_of_getElem? (i := 3) rfl))) (mvT hZ (hw _ (List.mem_of_getElem? (i := 4) rfl))) (mvT hZ (hw _ (List.mem_of_getElem? (i := 5) rfl))) (by decide) (backOf (W := 1) (rm1 l Z a0 hw [] b2 idb ptb c2 h33 n0 Z35 A33 g_b2 hc2 F_id_b2 F_part_b2 F_changes_b2) hZ (hw _ (List.mem_of_getElem? (i := 5) rfl)) (hw _ (List.mem_of_getElem? (i := 2) rfl)) (by decide) (by decide)) (g := (mkF m 81 #[.val (.long id1), .second, .val (.int pt1), .val (.long id2), .second, .val (.int pt2), .val (.int flg), .val (.int c1), .val (.int c2), .val (.long idb), .second, .val (.int ptb), .val (.ref b1), .unset, .unset, .unset] [(.int c2), (.int ptb), (.long idb), (.ref b2), (.ref b2)])) rfl (by rw [hml]; rfl) (Steps.refl _) (a := b2) (argsL := [(.long idb), (.int ptb), (.int c2)]) (rest := [(.ref b2)]) (lenOf pd_ini rfl) rfl (by show 2 * 0 + _ ≤ _; exact Nat.le_of_eq rfl) (hb hby at_81) (fun _ _ => ⟨rfl, e33, (by decide : 2 + 0 ≤ _), (by decide : 6 + 0 ≤ _)⟩)
  dsimp only [Pt.U, Pt.locs, Pt.cells, Pt.slots] at X39 l39 y39 z39 st39 hQ39
  subst l39 y39 z39
  obtain ⟨rfl, Nq39, Kq39, Fx0_39, Fx1_39, Fx2_39⟩ := hQ39
  have N39 := Fr.app N28 Nq39
  have pre40 : ∀ t, Steps p.tables e below (T39.setTop (mkF m 84 #[.val (.long id1), .second, .val (.int pt1), .val (.long id2), .second, .val (.int pt2), .val (.int flg), .val (.int c1), .val (.int c2), .val (.long idb), .second, .val (.int ptb), .val (.ref b1), .unset, .unset, .unset] [(.ref b2)])) t → Steps p.tables e below (s₁.setTop (entryFrame m #[(.long id1), (.int pt1), (.long id2), (.int pt2), (.int flg)] maxLocals)) t := fun t k => pre37 t (st39.trans k)
  obtain ⟨h39, e39⟩ : ∃ z, T39.heap = z := ⟨_, rfl⟩
  rw [e39] at Kq39 Fx0_39 Fx1_39 Fx2_39
  have F41_0 : Fld Z h39 b1 "com/example/sluice/sluice/checkpoint/CheckpointNames$ChainFile" "id" "J" (.long id1) := (F35_0.keep Kq39 (ninS ne_b1_b2 nin0))
  have F41_1 : Fld Z h39 b1 "com/example/sluice/sluice/checkpoint/CheckpointNames$ChainFile" "part" "I" (.int pt1) := (F35_1.keep Kq39 (ninS ne_b1_b2 nin0))
  have F41_2 : Fld Z h39 b1 "com/example/sluice/sluice/checkpoint/CheckpointNames$ChainFile" "changes" "Z" (.int c1) := (F35_2.keep Kq39 (ninS ne_b1_b2 nin0))
  have E41_0 : Exa Z h39 b1 "com/example/sluice/sluice/checkpoint/CheckpointNames$ChainFile" := (E35_0.keep Kq39)
  have E41_1 : Exa Z h39 b2 "com/example/sluice/sluice/checkpoint/CheckpointNames$ChainFile" := (A33.keep Kq39)
  have Z41 : n0 ≤ h39.size := (Nat.le_trans Z35 Kq39.1)
  have O41 : Old Z n0 h39 := (O35.keep Kq39 (allS (P := fun x => n0 ≤ x) g_b2 all0))
  have pre42 : ∀ t, Steps p.tables e below (T39.setTop (mkF m 86 #[.val (.long id1), .second, .val (.int pt1), .val (.long id2), .second, .val (.int pt2), .val (.int flg), .val (.int c1), .val (.int c2), .val (.long idb), .second, .val (.int ptb), .val (.ref b1), .val (.ref b2), .unset, .unset] [])) t → Steps p.tables e below (s₁.setTop (entryFrame m #[(.long id1), (.int pt1), (.long id2), (.int pt2), (.int flg)] maxLocals)) t := by
    intro t k
    refine pre40 t ?_
    refine XS.astore X39.here hx rfl (hb hby at_84) rfl rfl (l' := #[.val (.long id1), .second, .val (.int pt1), .val (.long id2), .second, .val (.int pt2), .val (.int flg), .val (.int c1), .val (.int c2), .val (.long idb), .second, .val (.int ptb), .val (.ref b1), .val (.ref b2), .unset, .unset]) rfl ?_
    show Steps p.tables e below (T39.setTop (mkF m 86 #[.val (.long id1), .second, .val (.int pt1), .val (.long id2), .second, .val (.int pt2), .val (.int flg), .val (.int c1), .val (.int c2), .val (.long idb), .second, .val (.int ptb), .val (.ref b1), .val (.ref b2), .unset, .unset] [])) _
    exact k
  have mrg43 : ∃ (ex : Int32) (T43 : State) (Lo43 : List Loc), Stand p l e room_1 s m #[(.long id1), (.int pt1), (.long id2), (.int pt2), (.int flg)] below meth c T43 Lo43 2 6 ∧ Fr n0 Lo43 ∧ T43.heap = h39 ∧ (ex = own_bi (id1 = idb ∧ pt1 = ptb ∧ c1 = c2)) ∧ ∀ t, Steps p.tables e below (T43.setTop (mkF m 111 #[.val (.long id1), .second, .val (.int pt1), .val (.long id2), .second, .val (.int pt2), .val (.int flg), .val (.int c1), .val (.int c2), .val (.long idb), .second, .val (.int ptb), .val (.ref b1), .val (.ref b2), .unset, .unset] [(.int ex)])) t → Steps p.tables e below (s₁.setTop (entryFrame m #[(.long id1), (.int pt1), (.long id2), (.int pt2), (.int flg)] maxLocals)) t := by
    have pre44 : ∀ t, Steps p.tables e below (T39.setTop (mkF m 90 #[.val (.long id1), .second, .val (.int pt1), .val (.long id2), .second, .val (.int pt2), .val (.int flg), .val (.int c1), .val (.int c2), .val (.long idb), .second, .val (.int ptb), .val (.ref b1), .val (.ref b2), .unset, .unset] [(.int (XT.cmpL id1 idb))])) t → Steps p.tables e below (s₁.setTop (entryFrame m #[(.long id1), (.int pt1), (.long id2), (.int pt2), (.int flg)] maxLocals)) t := by
      intro t k
      refine pre42 t ?_
      refine XT.lloadN X39.here hx rfl (hb hby at_86) rfl ?_
      show Steps p.tables e below (T39.setTop (mkF m 87 #[.val (.long id1), .second, .val (.int pt1), .val (.long id2), .second, .val (.int pt2), .val (.int flg), .val (.int c1), .val (.int c2), .val (.long idb), .second, .val (.int ptb), .val (.ref b1), .val (.ref b2), .unset, .unset] [(.long id1)])) _
      refine XT.lload X39.here hx rfl (hb hby at_87) rfl ?_
      show Steps p.tables e below (T39.setTop (mkF m 89 #[.val (.long id1), .second, .val (.int pt1), .val (.long id2), .second, .val (.int pt2), .val (.int flg), .val (.int c1), .val (.int c2), .val (.long idb), .second, .val (.int ptb), .val (.ref b1), .val (.ref b2), .unset, .unset] [(.long idb), (.long id1)])) _
      refine XT.lcmp X39.here hx rfl (hb hby at_89) rfl ?_
      show Steps p.tables e below (T39.setTop (mkF m 90 #[.val (.long id1), .second, .val (.int pt1), .val (.long id2), .second, .val (.int pt2), .val (.int flg), .val (.int c1), .val (.int c2), .val (.long idb), .second, .val (.int ptb), .val (.ref b1), .val (.ref b2), .unset, .unset] [(.int (XT.cmpL id1 idb))])) _
      exact k
    by_cases hc90 : id1 = idb
    · skip
      have pre45 : ∀ t, Steps p.tables e below (T39.setTop (mkF m 96 #[.val (.long id1), .second, .val (.int pt1), .val (.long id2), .second, .val (.int pt2), .val (.int flg), .val (.int c1), .val (.int c2), .val (.long idb), .second, .val (.int ptb), .val (.ref b1), .val (.ref b2), .unset, .unset] [(.int ptb), (.int pt1)])) t → Steps p.tables e below (s₁.setTop (entryFrame m #[(.long id1), (.int pt1), (.long id2), (.int pt2), (.int flg)] maxLocals)) t := by
        intro t k
        refine pre44 t ?_
        refine XS.ifNo X39.here hx rfl (hb hby at_90) rfl (XT.ll_ne_f hc90) ?_
        show Steps p.tables e below (T39.setTop (mkF m 93 #[.val (.long id1), .second, .val (.int pt1), .val (.long id2), .second, .val (.int pt2), .val (.int flg), .val (.int c1), .val (.int c2), .val (.long idb), .second, .val (.int ptb), .val (.ref b1), .val (.ref b2), .unset, .unset] [])) _
        refine XS.iloadN X39.here hx rfl (hb hby at_93) rfl ?_
        show Steps p.tables e below (T39.setTop (mkF m 94 #[.val (.long id1), .second, .val (.int pt1), .val (.long id2), .second, .val (.int pt2), .val (.int flg), .val (.int c1), .val (.int c2), .val (.long idb), .second, .val (.int ptb), .val (.ref b1), .val (.ref b2), .unset, .unset] [(.int pt1)])) _
        refine XS.iload X39.here hx rfl (hb hby at_94) rfl ?_
        show Steps p.tables e below (T39.setTop (mkF m 96 #[.val (.long id1), .second, .val (.int pt1), .val (.long id2), .second, .val (.int pt2), .val (.int flg), .val (.int c1), .val (.int c2), .val (.long idb), .second, .val (.int ptb), .val (.ref b1), .val (.ref b2), .unset, .unset] [(.int ptb), (.int pt1)])) _
        exact k
      by_cases hc96 : pt1 = ptb
      · skip
        have pre46 : ∀ t, Steps p.tables e below (T39.setTop (mkF m 103 #[.val (.long id1), .second, .val (.int pt1), .val (.long id2), .second, .val (.int pt2), .val (.int flg), .val (.int c1), .val (.int c2), .val (.long idb), .second, .val (.int ptb), .val (.ref b1), .val (.ref b2), .unset, .unset] [(.int c2), (.int c1)])) t → Steps p.tables e below (s₁.setTop (entryFrame m #[(.long id1), (.int pt1), (.long id2), (.int pt2), (.int flg)] maxLocals)) t := by
          intro t k
          refine pre45 t ?_
          refine XS.icmpNo X39.here hx rfl (hb hby at_96) rfl (XT.ii_ne_f hc96) ?_
          show Steps p.tables e below (T39.setTop (mkF m 99 #[.val (.long id1), .second, .val (.int pt1), .val (.long id2), .second, .val (.int pt2), .val (.int flg), .val (.int c1), .val (.int c2), .val (.long idb), .second, .val (.int ptb), .val (.ref b1), .val (.ref b2), .unset, .unset] [])) _
          refine XS.iload X39.here hx rfl (hb hby at_99) rfl ?_
          show Steps p.tables e below (T39.setTop (mkF m 101 #[.val (.long id1), .second, .val (.int pt1), .val (.long id2), .second, .val (.int pt2), .val (.int flg), .val (.int c1), .val (.int c2), .val (.long idb), .second, .val (.int ptb), .val (.ref b1), .val (.ref b2), .unset, .unset] [(.int c1)])) _
          refine XS.iload X39.here hx rfl (hb hby at_101) rfl ?_
          show Steps p.tables e below (T39.setTop (mkF m 103 #[.val (.long id1), .second, .val (.int pt1), .val (.long id2), .second, .val (.int pt2), .val (.int flg), .val (.int c1), .val (.int c2), .val (.long idb), .second, .val (.int ptb), .val (.ref b1), .val (.ref b2), .unset, .unset] [(.int c2), (.int c1)])) _
          exact k
        by_cases hc103 : c1 = c2
        · skip
          have pre47 : ∀ t, Steps p.tables e below (T39.setTop (mkF m 111 #[.val (.long id1), .second, .val (.int pt1), .val (.long id2), .second, .val (.int pt2), .val (.int flg), .val (.int c1), .val (.int c2), .val (.long idb), .second, .val (.int ptb), .val (.ref b1), .val (.ref b2), .unset, .unset] [(.int (1 : Int32))])) t → Steps p.tables e below (s₁.setTop (entryFrame m #[(.long id1), (.int pt1), (.long id2), (.int pt2), (.int flg)] maxLocals)) t := by
            intro t k
            refine pre46 t ?_
            refine XS.icmpNo X39.here hx rfl (hb hby at_103) rfl (XT.ii_ne_f hc103) ?_
            show Steps p.tables e below (T39.setTop (mkF m 106 #[.val (.long id1), .second, .val (.int pt1), .val (.long id2), .second, .val (.int pt2), .val (.int flg), .val (.int c1), .val (.int c2), .val (.long idb), .second, .val (.int ptb), .val (.ref b1), .val (.ref b2), .unset, .unset] [])) _
            refine XS.iconst X39.here hx rfl (hb hby at_106) ?_
            show Steps p.tables e below (T39.setTop (mkF m 107 #[.val (.long id1), .second, .val (.int pt1), .val (.long id2), .second, .val (.int pt2), .val (.int flg), .val (.int c1), .val (.int c2), .val (.long idb), .second, .val (.int ptb), .val (.ref b1), .val (.ref b2), .unset, .unset] [(.int (1 : Int32))])) _
            refine XS.goto X39.here hx rfl (pc0 := 107) (pc' := 111) rfl (hb hby at_107) (by decide) (by decide) ?_
            show Steps p.tables e below (T39.setTop (mkF m 111 #[.val (.long id1), .second, .val (.int pt1), .val (.long id2), .second, .val (.int pt2), .val (.int flg), .val (.int c1), .val (.int c2), .val (.long idb), .second, .val (.int ptb), .val (.ref b1), .val (.ref b2), .unset, .unset] [(.int (1 : Int32))])) _
            exact k
          exact ⟨(1 : Int32), _, _, X39, N39, e39, (by first | exact (own_bi_t hc103).symm | exact (own_bi_f hc103).symm | (simp [own_bi, hc90, hc96, hc103]; done) | contradiction), pre47⟩
        · skip
          have pre48 : ∀ t, Steps p.tables e below (T39.setTop (mkF m 111 #[.val (.long id1), .second, .val (.int pt1), .val (.long id2), .second, .val (.int pt2), .val (.int flg), .val (.int c1), .val (.int c2), .val (.long idb), .second, .val (.int ptb), .val (.ref b1), .val (.ref b2), .unset, .unset] [(.int (0 : Int32))])) t → Steps p.tables e below (s₁.setTop (entryFrame m #[(.long id1), (.int pt1), (.long id2), (.int pt2), (.int flg)] maxLocals)) t := by
            intro t k
            refine pre46 t ?_
            refine XS.icmpYes X39.here hx rfl (pc0 := 103) (pc' := 110) rfl (hb hby at_103) rfl (XT.ii_ne_t hc103) (by decide) (by decide) ?_
            show Steps p.tables e below (T39.setTop (mkF m 110 #[.val (.long id1), .second, .val (.int pt1), .val (.long id2), .second, .val (.int pt2), .val (.int flg), .val (.int c1), .val (.int c2), .val (.long idb), .second, .val (.int ptb), .val (.ref b1), .val (.ref b2), .unset, .unset] [])) _
            refine XS.iconst X39.here hx rfl (hb hby at_110) ?_
            show Steps p.tables e below (T39.setTop (mkF m 111 #[.val (.long id1), .second, .val (.int pt1), .val (.long id2), .second, .val (.int pt2), .val (.int flg), .val (.int c1), .val (.int c2), .val (.long idb), .second, .val (.int ptb), .val (.ref b1), .val (.ref b2), .unset, .unset] [(.int (0 : Int32))])) _
            exact k
          exact ⟨(0 : Int32), _, _, X39, N39, e39, (by first | exact (own_bi_t hc103).symm | exact (own_bi_f hc103).symm | (simp [own_bi, hc90, hc96, hc103]; done) | contradiction), pre48⟩
      · skip
        have pre49 : ∀ t, Steps p.tables e below (T39.setTop (mkF m 111 #[.val (.long id1), .second, .val (.int pt1), .val (.long id2), .second, .val (.int pt2), .val (.int flg), .val (.int c1), .val (.int c2), .val (.long idb), .second, .val (.int ptb), .val (.ref b1), .val (.ref b2), .unset, .unset] [(.int (0 : Int32))])) t → Steps p.tables e below (s₁.setTop (entryFrame m #[(.long id1), (.int pt1), (.long id2), (.int pt2), (.int flg)] maxLocals)) t := by
          intro t k
          refine pre45 t ?_
          refine XS.icmpYes X39.here hx rfl (pc0 := 96) (pc' := 110) rfl (hb hby at_96) rfl (XT.ii_ne_t hc96) (by decide) (by decide) ?_
          show Steps p.tables e below (T39.setTop (mkF m 110 #[.val (.long id1), .second, .val (.int pt1), .val (.long id2), .second, .val (.int pt2), .val (.int flg), .val (.int c1), .val (.int c2), .val (.long idb), .second, .val (.int ptb), .val (.ref b1), .val (.ref b2), .unset, .unset] [])) _
          refine XS.iconst X39.here hx rfl (hb hby at_110) ?_
          show Steps p.tables e below (T39.setTop (mkF m 111 #[.val (.long id1), .second, .val (.int pt1), .val (.long id2), .second, .val (.int pt2), .val (.int flg), .val (.int c1), .val (.int c2), .val (.long idb), .second, .val (.int ptb), .val (.ref b1), .val (.ref b2), .unset, .unset] [(.int (0 : Int32))])) _
          exact k
        exact ⟨(0 : Int32), _, _, X39, N39, e39, (by first | exact (own_bi_t hc96).symm | exact (own_bi_f hc96).symm | (simp [own_bi, hc90, hc96]; done) | contradiction), pre49⟩
    · skip
      have pre50 : ∀ t, Steps p.tables e below (T39.setTop (mkF m 111 #[.val (.long id1), .second, .val (.int pt1), .val (.long id2), .second, .val (.int pt2), .val (.int flg), .val (.int c1), .val (.int c2), .val (.long idb), .second, .val (.int ptb), .val (.ref b1), .val (.ref b2), .unset, .unset] [(.int (0 : Int32))])) t → Steps p.tables e below (s₁.setTop (entryFrame m #[(.long id1), (.int pt1), (.long id2), (.int pt2), (.int flg)] maxLocals)) t := by
        intro t k
        refine pre44 t ?_
        refine XS.ifYes X39.here hx rfl (pc0 := 90) (pc' := 110) rfl (hb hby at_90) rfl (XT.ll_ne_t hc90) (by decide) (by decide) ?_
        show Steps p.tables e below (T39.setTop (mkF m 110 #[.val (.long id1), .second, .val (.int pt1), .val (.long id2), .second, .val (.int pt2), .val (.int flg), .val (.int c1), .val (.int c2), .val (.long idb), .second, .val (.int ptb), .val (.ref b1), .val (.ref b2), .unset, .unset] [])) _
        refine XS.iconst X39.here hx rfl (hb hby at_110) ?_
        show Steps p.tables e below (T39.setTop (mkF m 111 #[.val (.long id1), .second, .val (.int pt1), .val (.long id2), .second, .val (.int pt2), .val (.int flg), .val (.int c1), .val (.int c2), .val (.long idb), .second, .val (.int ptb), .val (.ref b1), .val (.ref b2), .unset, .unset] [(.int (0 : Int32))])) _
        exact k
      exact ⟨(0 : Int32), _, _, X39, N39, e39, (by first | exact (own_bi_t hc90).symm | exact (own_bi_f hc90).symm | (simp [own_bi, hc90]; done) | contradiction), pre50⟩
  obtain ⟨ex, T43, Lo43, X43, N43, e43, hex, pre43⟩ := mrg43
  have pre52 : ∀ t, Steps p.tables e below (T43.setTop (mkF m 117 #[.val (.long id1), .second, .val (.int pt1), .val (.long id2), .second, .val (.int pt2), .val (.int flg), .val (.int c1), .val (.int c2), .val (.long idb), .second, .val (.int ptb), .val (.ref b1), .val (.ref b2), .val (.int ex), .unset] [(.ref b2), (.ref b1)])) t → Steps p.tables e below (s₁.setTop (entryFrame m #[(.long id1), (.int pt1), (.long id2), (.int pt2), (.int flg)] maxLocals)) t := by
    intro t k
    refine pre43 t ?_
    refine XS.istore X43.here hx rfl (hb hby at_111) rfl (l' := #[.val (.long id1), .second, .val (.int pt1), .val (.long id2), .second, .val (.int pt2), .val (.int flg), .val (.int c1), .val (.int c2), .val (.long idb), .second, .val (.int ptb), .val (.ref b1), .val (.ref b2), .val (.int ex), .unset]) rfl ?_
    show Steps p.tables e below (T43.setTop (mkF m 113 #[.val (.long id1), .second, .val (.int pt1), .val (.long id2), .second, .val (.int pt2), .val (.int flg), .val (.int c1), .val (.int c2), .val (.long idb), .second, .val (.int ptb), .val (.ref b1), .val (.ref b2), .val (.int ex), .unset] [])) _
    refine XS.aload X43.here hx rfl (hb hby at_113) rfl rfl ?_
    show Steps p.tables e below (T43.setTop (mkF m 115 #[.val (.long id1), .second, .val (.int pt1), .val (.long id2), .second, .val (.int pt2), .val (.int flg), .val (.int c1), .val (.int c2), .val (.long idb), .second, .val (.int ptb), .val (.ref b1), .val (.ref b2), .val (.int ex), .unset] [(.ref b1)])) _
    refine XS.aload X43.here hx rfl (hb hby at_115) rfl rfl ?_
    show Steps p.tables e below (T43.setTop (mkF m 117 #[.val (.long id1), .second, .val (.int pt1), .val (.long id2), .second, .val (.int pt2), .val (.int flg), .val (.int c1), .val (.int c2), .val (.long idb), .second, .val (.int ptb), .val (.ref b1), .val (.ref b2), .val (.int ex), .unset] [(.ref b2), (.ref b1)])) _
    exact k
  obtain ⟨cq54, kq54, q54a, q54b, q54c⟩ := isOf hZ e43 E41_0
  obtain ⟨_, _, ⟨T54, L54, k54, n54⟩, -, X54, ⟨Lc54, hQ54, l54, y54, z54⟩, st54⟩ := X43.virtualBack hx (y := (⟨"com/example/sluice/sluice/checkpoint/CheckpointNames$ChainFile", "equals", "(Ljava/lang/Object;)Z"⟩ : MethodName)) (z := (⟨"com/example/sluice/sluice/checkpoint/CheckpointNames$ChainFile", "equals", "(Ljava/lang/Object;)Z"⟩ : MethodName)) hown (mvT hZ (hw _ (List.mem_of_getElem? (i := 20) rfl))) (mvT hZ (hw _ (List.mem_of_getElem? (i := 21) rfl))) (notFace_of_selects (args := #[]) (mvT hZ (hw _ (List.mem_of_getElem? (i := 23) rfl)))) (mvT hZ (hw _ (List.mem_of_getElem? (i := 23) rfl))) (mvT hZ (hw _ (List.mem_of_getElem? (i := 22) rfl))) (by decide) (backOf (W := 0) (rm4f l Z a0 hw [] b1 b2 id1 pt1 c1 idb ptb c2 h39 n0 Z41 E41_1 F41_0 F41_1 F41_2 Fx0_39 Fx1_39 Fx2_39) hZ (hw _ (List.mem_of_getElem? (i := 24) rfl)) (hw _ (List.mem_of_getElem? (i := 2) rfl)) (by decide) (by decide)) q54a q54c (g := (mkF m 117 #[.val (.long id1), .second, .val (.int pt1), .val (.long id2), .second, .val (.int pt2), .val (.int flg), .val (.int c1), .val (.int c2), .val (.long idb), .second, .val (.int ptb), .val (.ref b1), .val (.ref b2), .val (.int ex), .unset] [(.ref b2), (.ref b1)])) rfl (by rw [hml]; rfl) (Steps.refl _) (argsL := [(.ref b2)]) (rest := []) (lenOf pd_eq rfl) rfl (by show 2 * 0 + _ ≤ _; exact Nat.le_of_eq rfl) (hb hby at_117) (fun _ _ => ⟨rfl, e43, (by decide : 2 + 0 ≤ _), (by decide : 6 + 0 ≤ _)⟩)
  dsimp only [Pt.U, Pt.locs, Pt.cells, Pt.slots] at X54 l54 y54 z54 st54 hQ54
  subst l54 y54 z54
  obtain ⟨rfl, Nq54, heq54⟩ := hQ54
  have N54 := Fr.app N43 Nq54
  have pre55 : ∀ t, Steps p.tables e below (T54.setTop (mkF m 120 #[.val (.long id1), .second, .val (.int pt1), .val (.long id2), .second, .val (.int pt2), .val (.int flg), .val (.int c1), .val (.int c2), .val (.long idb), .second, .val (.int ptb), .val (.ref b1), .val (.ref b2), .val (.int ex), .unset] [(.int (own_bi (idb = id1 ∧ ptb = pt1 ∧ c2 = c1)))])) t → Steps p.tables e below (s₁.setTop (entryFrame m #[(.long id1), (.int pt1), (.long id2), (.int pt2), (.int flg)] maxLocals)) t := fun t k => pre52 t (st54.trans k)
  have pre57 : ∀ t, Steps p.tables e below (T54.setTop (mkF m 129 #[.val (.long id1), .second, .val (.int pt1), .val (.long id2), .second, .val (.int pt2), .val (.int flg), .val (.int c1), .val (.int c2), .val (.long idb), .second, .val (.int ptb), .val (.ref b1), .val (.ref b2), .val (.int ex), .unset] [(.ref b1), (.ref b2)])) t → Steps p.tables e below (s₁.setTop (entryFrame m #[(.long id1), (.int pt1), (.long id2), (.int pt2), (.int flg)] maxLocals)) t := by
    intro t k
    refine pre55 t ?_
    refine XS.iload X54.here hx rfl (hb hby at_120) rfl ?_
    show Steps p.tables e below (T54.setTop (mkF m 122 #[.val (.long id1), .second, .val (.int pt1), .val (.long id2), .second, .val (.int pt2), .val (.int flg), .val (.int c1), .val (.int c2), .val (.long idb), .second, .val (.int ptb), .val (.ref b1), .val (.ref b2), .val (.int ex), .unset] [(.int ex), (.int (own_bi (idb = id1 ∧ ptb = pt1 ∧ c2 = c1)))])) _
    refine XS.icmpNo X54.here hx rfl (hb hby at_122) rfl (XT.ii_ne_f (by rw [hex]; exact own_bi_eq ⟨fun q => ⟨q.1.symm, q.2.1.symm, q.2.2.symm⟩, fun q => ⟨q.1.symm, q.2.1.symm, q.2.2.symm⟩⟩)) ?_
    show Steps p.tables e below (T54.setTop (mkF m 125 #[.val (.long id1), .second, .val (.int pt1), .val (.long id2), .second, .val (.int pt2), .val (.int flg), .val (.int c1), .val (.int c2), .val (.long idb), .second, .val (.int ptb), .val (.ref b1), .val (.ref b2), .val (.int ex), .unset] [])) _
    refine XS.aload X54.here hx rfl (hb hby at_125) rfl rfl ?_
    show Steps p.tables e below (T54.setTop (mkF m 127 #[.val (.long id1), .second, .val (.int pt1), .val (.long id2), .second, .val (.int pt2), .val (.int flg), .val (.int c1), .val (.int c2), .val (.long idb), .second, .val (.int ptb), .val (.ref b1), .val (.ref b2), .val (.int ex), .unset] [(.ref b2)])) _
    refine XS.aload X54.here hx rfl (hb hby at_127) rfl rfl ?_
    show Steps p.tables e below (T54.setTop (mkF m 129 #[.val (.long id1), .second, .val (.int pt1), .val (.long id2), .second, .val (.int pt2), .val (.int flg), .val (.int c1), .val (.int c2), .val (.long idb), .second, .val (.int ptb), .val (.ref b1), .val (.ref b2), .val (.int ex), .unset] [(.ref b1), (.ref b2)])) _
    exact k
  obtain ⟨cq59, kq59, q59a, q59b, q59c⟩ := isOf hZ heq54 E41_1
  obtain ⟨_, _, ⟨T59, L59, k59, n59⟩, -, X59, ⟨Lc59, hQ59, l59, y59, z59⟩, st59⟩ := X54.virtualBack hx (y := (⟨"com/example/sluice/sluice/checkpoint/CheckpointNames$ChainFile", "equals", "(Ljava/lang/Object;)Z"⟩ : MethodName)) (z := (⟨"com/example/sluice/sluice/checkpoint/CheckpointNames$ChainFile", "equals", "(Ljava/lang/Object;)Z"⟩ : MethodName)) hown (mvT hZ (hw _ (List.mem_of_getElem? (i := 20) rfl))) (mvT hZ (hw _ (List.mem_of_getElem? (i := 21) rfl))) (notFace_of_selects (args := #[]) (mvT hZ (hw _ (List.mem_of_getElem? (i := 23) rfl)))) (mvT hZ (hw _ (List.mem_of_getElem? (i := 23) rfl))) (mvT hZ (hw _ (List.mem_of_getElem? (i := 22) rfl))) (by decide) (backOf (W := 0) (rm4f l Z a0 hw [] b2 b1 idb ptb c2 id1 pt1 c1 h39 n0 Z41 E41_0 Fx0_39 Fx1_39 Fx2_39 F41_0 F41_1 F41_2) hZ (hw _ (List.mem_of_getElem? (i := 24) rfl)) (hw _ (List.mem_of_getElem? (i := 2) rfl)) (by decide) (by decide)) q59a q59c (g := (mkF m 129 #[.val (.long id1), .second, .val (.int pt1), .val (.long id2), .second, .val (.int pt2), .val (.int flg), .val (.int c1), .val (.int c2), .val (.long idb), .second, .val (.int ptb), .val (.ref b1), .val (.ref b2), .val (.int ex), .unset] [(.ref b1), (.ref b2)])) rfl (by rw [hml]; rfl) (Steps.refl _) (argsL := [(.ref b1)]) (rest := []) (lenOf pd_eq rfl) rfl (by show 2 * 0 + _ ≤ _; exact Nat.le_of_eq rfl) (hb hby at_129) (fun _ _ => ⟨rfl, heq54, (by decide : 2 + 0 ≤ _), (by decide : 6 + 0 ≤ _)⟩)
  dsimp only [Pt.U, Pt.locs, Pt.cells, Pt.slots] at X59 l59 y59 z59 st59 hQ59
  subst l59 y59 z59
  obtain ⟨rfl, Nq59, heq59⟩ := hQ59
  have N59 := Fr.app N54 Nq59
  have pre60 : ∀ t, Steps p.tables e below (T59.setTop (mkF m 132 #[.val (.long id1), .second, .val (.int pt1), .val (.long id2), .second, .val (.int pt2), .val (.int flg), .val (.int c1), .val (.int c2), .val (.long idb), .second, .val (.int ptb), .val (.ref b1), .val (.ref b2), .val (.int ex), .unset] [(.int (own_bi (id1 = idb ∧ pt1 = ptb ∧ c1 = c2)))])) t → Steps p.tables e below (s₁.setTop (entryFrame m #[(.long id1), (.int pt1), (.long id2), (.int pt2), (.int flg)] maxLocals)) t := fun t k => pre57 t (st59.trans k)
  have pre62 : ∀ t, Steps p.tables e below (T59.setTop (mkF m 153 #[.val (.long id1), .second, .val (.int pt1), .val (.long id2), .second, .val (.int pt2), .val (.int flg), .val (.int c1), .val (.int c2), .val (.long idb), .second, .val (.int ptb), .val (.ref b1), .val (.ref b2), .val (.int ex), .val (.int (1 : Int32))] [(.ref b1), (.ref b1)])) t → Steps p.tables e below (s₁.setTop (entryFrame m #[(.long id1), (.int pt1), (.long id2), (.int pt2), (.int flg)] maxLocals)) t := by
    intro t k
    refine pre60 t ?_
    refine XS.iload X59.here hx rfl (hb hby at_132) rfl ?_
    show Steps p.tables e below (T59.setTop (mkF m 134 #[.val (.long id1), .second, .val (.int pt1), .val (.long id2), .second, .val (.int pt2), .val (.int flg), .val (.int c1), .val (.int c2), .val (.long idb), .second, .val (.int ptb), .val (.ref b1), .val (.ref b2), .val (.int ex), .unset] [(.int ex), (.int (own_bi (id1 = idb ∧ pt1 = ptb ∧ c1 = c2)))])) _
    refine XS.icmpNo X59.here hx rfl (hb hby at_134) rfl (XT.ii_ne_f hex.symm) ?_
    show Steps p.tables e below (T59.setTop (mkF m 137 #[.val (.long id1), .second, .val (.int pt1), .val (.long id2), .second, .val (.int pt2), .val (.int flg), .val (.int c1), .val (.int c2), .val (.long idb), .second, .val (.int ptb), .val (.ref b1), .val (.ref b2), .val (.int ex), .unset] [])) _
    refine XS.iconst X59.here hx rfl (hb hby at_137) ?_
    show Steps p.tables e below (T59.setTop (mkF m 138 #[.val (.long id1), .second, .val (.int pt1), .val (.long id2), .second, .val (.int pt2), .val (.int flg), .val (.int c1), .val (.int c2), .val (.long idb), .second, .val (.int ptb), .val (.ref b1), .val (.ref b2), .val (.int ex), .unset] [(.int (1 : Int32))])) _
    refine XS.goto X59.here hx rfl (pc0 := 138) (pc' := 142) rfl (hb hby at_138) (by decide) (by decide) ?_
    show Steps p.tables e below (T59.setTop (mkF m 142 #[.val (.long id1), .second, .val (.int pt1), .val (.long id2), .second, .val (.int pt2), .val (.int flg), .val (.int c1), .val (.int c2), .val (.long idb), .second, .val (.int ptb), .val (.ref b1), .val (.ref b2), .val (.int ex), .unset] [(.int (1 : Int32))])) _
    refine XS.istore X59.here hx rfl (hb hby at_142) rfl (l' := #[.val (.long id1), .second, .val (.int pt1), .val (.long id2), .second, .val (.int pt2), .val (.int flg), .val (.int c1), .val (.int c2), .val (.long idb), .second, .val (.int ptb), .val (.ref b1), .val (.ref b2), .val (.int ex), .val (.int (1 : Int32))]) rfl ?_
    show Steps p.tables e below (T59.setTop (mkF m 144 #[.val (.long id1), .second, .val (.int pt1), .val (.long id2), .second, .val (.int pt2), .val (.int flg), .val (.int c1), .val (.int c2), .val (.long idb), .second, .val (.int ptb), .val (.ref b1), .val (.ref b2), .val (.int ex), .val (.int (1 : Int32))] [])) _
    refine XS.iload X59.here hx rfl (hb hby at_144) rfl ?_
    show Steps p.tables e below (T59.setTop (mkF m 146 #[.val (.long id1), .second, .val (.int pt1), .val (.long id2), .second, .val (.int pt2), .val (.int flg), .val (.int c1), .val (.int c2), .val (.long idb), .second, .val (.int ptb), .val (.ref b1), .val (.ref b2), .val (.int ex), .val (.int (1 : Int32))] [(.int (1 : Int32))])) _
    refine XS.ifNo X59.here hx rfl (hb hby at_146) rfl (XT.i0_eq_f (by decide)) ?_
    show Steps p.tables e below (T59.setTop (mkF m 149 #[.val (.long id1), .second, .val (.int pt1), .val (.long id2), .second, .val (.int pt2), .val (.int flg), .val (.int c1), .val (.int c2), .val (.long idb), .second, .val (.int ptb), .val (.ref b1), .val (.ref b2), .val (.int ex), .val (.int (1 : Int32))] [])) _
    refine XS.aload X59.here hx rfl (hb hby at_149) rfl rfl ?_
    show Steps p.tables e below (T59.setTop (mkF m 151 #[.val (.long id1), .second, .val (.int pt1), .val (.long id2), .second, .val (.int pt2), .val (.int flg), .val (.int c1), .val (.int c2), .val (.long idb), .second, .val (.int ptb), .val (.ref b1), .val (.ref b2), .val (.int ex), .val (.int (1 : Int32))] [(.ref b1)])) _
    refine XS.aload X59.here hx rfl (hb hby at_151) rfl rfl ?_
    show Steps p.tables e below (T59.setTop (mkF m 153 #[.val (.long id1), .second, .val (.int pt1), .val (.long id2), .second, .val (.int pt2), .val (.int flg), .val (.int c1), .val (.int c2), .val (.long idb), .second, .val (.int ptb), .val (.ref b1), .val (.ref b2), .val (.int ex), .val (.int (1 : Int32))] [(.ref b1), (.ref b1)])) _
    exact k
  obtain ⟨cq64, kq64, q64a, q64b, q64c⟩ := isOf hZ heq59 E41_0
  obtain ⟨_, _, ⟨T64, L64, k64, n64⟩, -, X64, ⟨Lc64, hQ64, l64, y64, z64⟩, st64⟩ := X59.virtualBack hx (y := (⟨"com/example/sluice/sluice/checkpoint/CheckpointNames$ChainFile", "equals", "(Ljava/lang/Object;)Z"⟩ : MethodName)) (z := (⟨"com/example/sluice/sluice/checkpoint/CheckpointNames$ChainFile", "equals", "(Ljava/lang/Object;)Z"⟩ : MethodName)) hown (mvT hZ (hw _ (List.mem_of_getElem? (i := 20) rfl))) (mvT hZ (hw _ (List.mem_of_getElem? (i := 21) rfl))) (notFace_of_selects (args := #[]) (mvT hZ (hw _ (List.mem_of_getElem? (i := 23) rfl)))) (mvT hZ (hw _ (List.mem_of_getElem? (i := 23) rfl))) (mvT hZ (hw _ (List.mem_of_getElem? (i := 22) rfl))) (by decide) (backOf (W := 0) (rm4f l Z a0 hw [] b1 b1 id1 pt1 c1 id1 pt1 c1 h39 n0 Z41 E41_0 F41_0 F41_1 F41_2 F41_0 F41_1 F41_2) hZ (hw _ (List.mem_of_getElem? (i := 24) rfl)) (hw _ (List.mem_of_getElem? (i := 2) rfl)) (by decide) (by decide)) q64a q64c (g := (mkF m 153 #[.val (.long id1), .second, .val (.int pt1), .val (.long id2), .second, .val (.int pt2), .val (.int flg), .val (.int c1), .val (.int c2), .val (.long idb), .second, .val (.int ptb), .val (.ref b1), .val (.ref b2), .val (.int ex), .val (.int (1 : Int32))] [(.ref b1), (.ref b1)])) rfl (by rw [hml]; rfl) (Steps.refl _) (argsL := [(.ref b1)]) (rest := []) (lenOf pd_eq rfl) rfl (by show 2 * 0 + _ ≤ _; exact Nat.le_of_eq rfl) (hb hby at_153) (fun _ _ => ⟨rfl, heq59, (by decide : 2 + 0 ≤ _), (by decide : 6 + 0 ≤ _)⟩)
  dsimp only [Pt.U, Pt.locs, Pt.cells, Pt.slots] at X64 l64 y64 z64 st64 hQ64
  subst l64 y64 z64
  obtain ⟨rfl, Nq64, heq64⟩ := hQ64
  have N64 := Fr.app N59 Nq64
  have pre65 : ∀ t, Steps p.tables e below (T64.setTop (mkF m 156 #[.val (.long id1), .second, .val (.int pt1), .val (.long id2), .second, .val (.int pt2), .val (.int flg), .val (.int c1), .val (.int c2), .val (.long idb), .second, .val (.int ptb), .val (.ref b1), .val (.ref b2), .val (.int ex), .val (.int (1 : Int32))] [(.int (own_bi (id1 = id1 ∧ pt1 = pt1 ∧ c1 = c1)))])) t → Steps p.tables e below (s₁.setTop (entryFrame m #[(.long id1), (.int pt1), (.long id2), (.int pt2), (.int flg)] maxLocals)) t := fun t k => pre62 t (st64.trans k)
  have pre67 : ∀ t, Steps p.tables e below (T64.setTop (mkF m 174 #[.val (.long id1), .second, .val (.int pt1), .val (.long id2), .second, .val (.int pt2), .val (.int flg), .val (.int c1), .val (.int c2), .val (.long idb), .second, .val (.int ptb), .val (.ref b1), .val (.ref b2), .val (.int ex), .val (.int (1 : Int32))] [.null, (.ref b1)])) t → Steps p.tables e below (s₁.setTop (entryFrame m #[(.long id1), (.int pt1), (.long id2), (.int pt2), (.int flg)] maxLocals)) t := by
    intro t k
    refine pre65 t ?_
    refine XS.ifNo X64.here hx rfl (hb hby at_156) rfl (XT.i0_eq_f (by rw [own_bi_t ⟨rfl, rfl, rfl⟩]; decide)) ?_
    show Steps p.tables e below (T64.setTop (mkF m 159 #[.val (.long id1), .second, .val (.int pt1), .val (.long id2), .second, .val (.int pt2), .val (.int flg), .val (.int c1), .val (.int c2), .val (.long idb), .second, .val (.int ptb), .val (.ref b1), .val (.ref b2), .val (.int ex), .val (.int (1 : Int32))] [])) _
    refine XS.iconst X64.here hx rfl (hb hby at_159) ?_
    show Steps p.tables e below (T64.setTop (mkF m 160 #[.val (.long id1), .second, .val (.int pt1), .val (.long id2), .second, .val (.int pt2), .val (.int flg), .val (.int c1), .val (.int c2), .val (.long idb), .second, .val (.int ptb), .val (.ref b1), .val (.ref b2), .val (.int ex), .val (.int (1 : Int32))] [(.int (1 : Int32))])) _
    refine XS.goto X64.here hx rfl (pc0 := 160) (pc' := 164) rfl (hb hby at_160) (by decide) (by decide) ?_
    show Steps p.tables e below (T64.setTop (mkF m 164 #[.val (.long id1), .second, .val (.int pt1), .val (.long id2), .second, .val (.int pt2), .val (.int flg), .val (.int c1), .val (.int c2), .val (.long idb), .second, .val (.int ptb), .val (.ref b1), .val (.ref b2), .val (.int ex), .val (.int (1 : Int32))] [(.int (1 : Int32))])) _
    refine XS.istore X64.here hx rfl (hb hby at_164) rfl (l' := #[.val (.long id1), .second, .val (.int pt1), .val (.long id2), .second, .val (.int pt2), .val (.int flg), .val (.int c1), .val (.int c2), .val (.long idb), .second, .val (.int ptb), .val (.ref b1), .val (.ref b2), .val (.int ex), .val (.int (1 : Int32))]) rfl ?_
    show Steps p.tables e below (T64.setTop (mkF m 166 #[.val (.long id1), .second, .val (.int pt1), .val (.long id2), .second, .val (.int pt2), .val (.int flg), .val (.int c1), .val (.int c2), .val (.long idb), .second, .val (.int ptb), .val (.ref b1), .val (.ref b2), .val (.int ex), .val (.int (1 : Int32))] [])) _
    refine XS.iload X64.here hx rfl (hb hby at_166) rfl ?_
    show Steps p.tables e below (T64.setTop (mkF m 168 #[.val (.long id1), .second, .val (.int pt1), .val (.long id2), .second, .val (.int pt2), .val (.int flg), .val (.int c1), .val (.int c2), .val (.long idb), .second, .val (.int ptb), .val (.ref b1), .val (.ref b2), .val (.int ex), .val (.int (1 : Int32))] [(.int (1 : Int32))])) _
    refine XS.ifNo X64.here hx rfl (hb hby at_168) rfl (XT.i0_eq_f (by decide)) ?_
    show Steps p.tables e below (T64.setTop (mkF m 171 #[.val (.long id1), .second, .val (.int pt1), .val (.long id2), .second, .val (.int pt2), .val (.int flg), .val (.int c1), .val (.int c2), .val (.long idb), .second, .val (.int ptb), .val (.ref b1), .val (.ref b2), .val (.int ex), .val (.int (1 : Int32))] [])) _
    refine XS.aload X64.here hx rfl (hb hby at_171) rfl rfl ?_
    show Steps p.tables e below (T64.setTop (mkF m 173 #[.val (.long id1), .second, .val (.int pt1), .val (.long id2), .second, .val (.int pt2), .val (.int flg), .val (.int c1), .val (.int c2), .val (.long idb), .second, .val (.int ptb), .val (.ref b1), .val (.ref b2), .val (.int ex), .val (.int (1 : Int32))] [(.ref b1)])) _
    refine XS.aconstNull X64.here hx rfl (hb hby at_173) ?_
    show Steps p.tables e below (T64.setTop (mkF m 174 #[.val (.long id1), .second, .val (.int pt1), .val (.long id2), .second, .val (.int pt2), .val (.int flg), .val (.int c1), .val (.int c2), .val (.long idb), .second, .val (.int ptb), .val (.ref b1), .val (.ref b2), .val (.int ex), .val (.int (1 : Int32))] [.null, (.ref b1)])) _
    exact k
  obtain ⟨cq69, kq69, q69a, q69b, q69c⟩ := isOf hZ heq64 E41_0
  obtain ⟨_, _, ⟨T69, L69, k69, n69⟩, -, X69, ⟨Lc69, hQ69, l69, y69, z69⟩, st69⟩ := X64.virtualBack hx (y := (⟨"com/example/sluice/sluice/checkpoint/CheckpointNames$ChainFile", "equals", "(Ljava/lang/Object;)Z"⟩ : MethodName)) (z := (⟨"com/example/sluice/sluice/checkpoint/CheckpointNames$ChainFile", "equals", "(Ljava/lang/Object;)Z"⟩ : MethodName)) hown (mvT hZ (hw _ (List.mem_of_getElem? (i := 20) rfl))) (mvT hZ (hw _ (List.mem_of_getElem? (i := 21) rfl))) (notFace_of_selects (args := #[]) (mvT hZ (hw _ (List.mem_of_getElem? (i := 23) rfl)))) (mvT hZ (hw _ (List.mem_of_getElem? (i := 23) rfl))) (mvT hZ (hw _ (List.mem_of_getElem? (i := 22) rfl))) (by decide) (backOf (W := 0) (rm4n l Z a0 hw [] b1 h39 n0 Z41) hZ (hw _ (List.mem_of_getElem? (i := 24) rfl)) (hw _ (List.mem_of_getElem? (i := 2) rfl)) (by decide) (by decide)) q69a q69c (g := (mkF m 174 #[.val (.long id1), .second, .val (.int pt1), .val (.long id2), .second, .val (.int pt2), .val (.int flg), .val (.int c1), .val (.int c2), .val (.long idb), .second, .val (.int ptb), .val (.ref b1), .val (.ref b2), .val (.int ex), .val (.int (1 : Int32))] [.null, (.ref b1)])) rfl (by rw [hml]; rfl) (Steps.refl _) (argsL := [.null]) (rest := []) (lenOf pd_eq rfl) rfl (by show 2 * 0 + _ ≤ _; exact Nat.le_of_eq rfl) (hb hby at_174) (fun _ _ => ⟨rfl, heq64, (by decide : 2 + 0 ≤ _), (by decide : 6 + 0 ≤ _)⟩)
  dsimp only [Pt.U, Pt.locs, Pt.cells, Pt.slots] at X69 l69 y69 z69 st69 hQ69
  subst l69 y69 z69
  obtain ⟨rfl, Nq69, heq69⟩ := hQ69
  have N69 := Fr.app N64 Nq69
  have pre70 : ∀ t, Steps p.tables e below (T69.setTop (mkF m 177 #[.val (.long id1), .second, .val (.int pt1), .val (.long id2), .second, .val (.int pt2), .val (.int flg), .val (.int c1), .val (.int c2), .val (.long idb), .second, .val (.int ptb), .val (.ref b1), .val (.ref b2), .val (.int ex), .val (.int (1 : Int32))] [(.int (0 : Int32))])) t → Steps p.tables e below (s₁.setTop (entryFrame m #[(.long id1), (.int pt1), (.long id2), (.int pt2), (.int flg)] maxLocals)) t := fun t k => pre67 t (st69.trans k)
  have pre72 : ∀ t, Steps p.tables e below (T69.setTop (mkF m 195 #[.val (.long id1), .second, .val (.int pt1), .val (.long id2), .second, .val (.int pt2), .val (.int flg), .val (.int c1), .val (.int c2), .val (.long idb), .second, .val (.int ptb), .val (.ref b1), .val (.ref b2), .val (.int ex), .val (.int (1 : Int32))] [(.long id1), (.ref b1)])) t → Steps p.tables e below (s₁.setTop (entryFrame m #[(.long id1), (.int pt1), (.long id2), (.int pt2), (.int flg)] maxLocals)) t := by
    intro t k
    refine pre70 t ?_
    refine XS.ifNo X69.here hx rfl (hb hby at_177) rfl (XT.i0_ne_f rfl) ?_
    show Steps p.tables e below (T69.setTop (mkF m 180 #[.val (.long id1), .second, .val (.int pt1), .val (.long id2), .second, .val (.int pt2), .val (.int flg), .val (.int c1), .val (.int c2), .val (.long idb), .second, .val (.int ptb), .val (.ref b1), .val (.ref b2), .val (.int ex), .val (.int (1 : Int32))] [])) _
    refine XS.iconst X69.here hx rfl (hb hby at_180) ?_
    show Steps p.tables e below (T69.setTop (mkF m 181 #[.val (.long id1), .second, .val (.int pt1), .val (.long id2), .second, .val (.int pt2), .val (.int flg), .val (.int c1), .val (.int c2), .val (.long idb), .second, .val (.int ptb), .val (.ref b1), .val (.ref b2), .val (.int ex), .val (.int (1 : Int32))] [(.int (1 : Int32))])) _
    refine XS.goto X69.here hx rfl (pc0 := 181) (pc' := 185) rfl (hb hby at_181) (by decide) (by decide) ?_
    show Steps p.tables e below (T69.setTop (mkF m 185 #[.val (.long id1), .second, .val (.int pt1), .val (.long id2), .second, .val (.int pt2), .val (.int flg), .val (.int c1), .val (.int c2), .val (.long idb), .second, .val (.int ptb), .val (.ref b1), .val (.ref b2), .val (.int ex), .val (.int (1 : Int32))] [(.int (1 : Int32))])) _
    refine XS.istore X69.here hx rfl (hb hby at_185) rfl (l' := #[.val (.long id1), .second, .val (.int pt1), .val (.long id2), .second, .val (.int pt2), .val (.int flg), .val (.int c1), .val (.int c2), .val (.long idb), .second, .val (.int ptb), .val (.ref b1), .val (.ref b2), .val (.int ex), .val (.int (1 : Int32))]) rfl ?_
    show Steps p.tables e below (T69.setTop (mkF m 187 #[.val (.long id1), .second, .val (.int pt1), .val (.long id2), .second, .val (.int pt2), .val (.int flg), .val (.int c1), .val (.int c2), .val (.long idb), .second, .val (.int ptb), .val (.ref b1), .val (.ref b2), .val (.int ex), .val (.int (1 : Int32))] [])) _
    refine XS.iload X69.here hx rfl (hb hby at_187) rfl ?_
    show Steps p.tables e below (T69.setTop (mkF m 189 #[.val (.long id1), .second, .val (.int pt1), .val (.long id2), .second, .val (.int pt2), .val (.int flg), .val (.int c1), .val (.int c2), .val (.long idb), .second, .val (.int ptb), .val (.ref b1), .val (.ref b2), .val (.int ex), .val (.int (1 : Int32))] [(.int (1 : Int32))])) _
    refine XS.ifNo X69.here hx rfl (hb hby at_189) rfl (XT.i0_eq_f (by decide)) ?_
    show Steps p.tables e below (T69.setTop (mkF m 192 #[.val (.long id1), .second, .val (.int pt1), .val (.long id2), .second, .val (.int pt2), .val (.int flg), .val (.int c1), .val (.int c2), .val (.long idb), .second, .val (.int ptb), .val (.ref b1), .val (.ref b2), .val (.int ex), .val (.int (1 : Int32))] [])) _
    refine XS.aload X69.here hx rfl (hb hby at_192) rfl rfl ?_
    show Steps p.tables e below (T69.setTop (mkF m 194 #[.val (.long id1), .second, .val (.int pt1), .val (.long id2), .second, .val (.int pt2), .val (.int flg), .val (.int c1), .val (.int c2), .val (.long idb), .second, .val (.int ptb), .val (.ref b1), .val (.ref b2), .val (.int ex), .val (.int (1 : Int32))] [(.ref b1)])) _
    refine XT.lloadN X69.here hx rfl (hb hby at_194) rfl ?_
    show Steps p.tables e below (T69.setTop (mkF m 195 #[.val (.long id1), .second, .val (.int pt1), .val (.long id2), .second, .val (.int pt2), .val (.int flg), .val (.int c1), .val (.int c2), .val (.long idb), .second, .val (.int ptb), .val (.ref b1), .val (.ref b2), .val (.int ex), .val (.int (1 : Int32))] [(.long id1), (.ref b1)])) _
    exact k
  obtain ⟨_, _, ⟨T74, L74, k74, n74⟩, -, X74, ⟨Lc74, hQ74, l74, y74, z74⟩, st74⟩ := Jvm.LawKit.callS X69 hx (y := (⟨"java/lang/Long", "valueOf", "(J)Ljava/lang/Long;"⟩ : MethodName)) hown (mvT hZ (hw _ (List.mem_of_getElem? (i := 27) rfl))) (mvT hZ (hw _ (List.mem_of_getElem? (i := 28) rfl))) (mvT hZ (hw _ (List.mem_of_getElem? (i := 29) rfl))) (mvT hZ (hw _ (List.mem_of_getElem? (i := 30) rfl))) (by decide) (backOf (W := 1) (rm5 l Z a0 hw [] id1 ca cl h39 n0 Z41 O41 SC BX) hZ (hw _ (List.mem_of_getElem? (i := 30) rfl)) (hw _ (List.mem_of_getElem? (i := 29) rfl)) (by decide) (by decide)) (g := (mkF m 195 #[.val (.long id1), .second, .val (.int pt1), .val (.long id2), .second, .val (.int pt2), .val (.int flg), .val (.int c1), .val (.int c2), .val (.long idb), .second, .val (.int ptb), .val (.ref b1), .val (.ref b2), .val (.int ex), .val (.int (1 : Int32))] [(.long id1), (.ref b1)])) rfl (by rw [hml]; rfl) (argsL := [(.long id1)]) (rest := [(.ref b1)]) (lenOf pd_vo rfl) rfl (by show 2 * 0 + _ ≤ _; exact Nat.le_of_eq rfl) (hb hby at_195) (fun _ _ => ⟨rfl, heq69, (by decide : 2 + 1 ≤ _), (by decide : 6 + 1 ≤ _)⟩)
  dsimp only [Pt.U, Pt.locs, Pt.cells, Pt.slots] at X74 l74 y74 z74 st74 hQ74
  subst l74 y74 z74
  obtain ⟨b3, rfl, Nq74, Kq74, Eq74⟩ := hQ74
  have N74 := Fr.app N69 Nq74
  have pre75 : ∀ t, Steps p.tables e below (T74.setTop (mkF m 198 #[.val (.long id1), .second, .val (.int pt1), .val (.long id2), .second, .val (.int pt2), .val (.int flg), .val (.int c1), .val (.int c2), .val (.long idb), .second, .val (.int ptb), .val (.ref b1), .val (.ref b2), .val (.int ex), .val (.int (1 : Int32))] [(.ref b3), (.ref b1)])) t → Steps p.tables e below (s₁.setTop (entryFrame m #[(.long id1), (.int pt1), (.long id2), (.int pt2), (.int flg)] maxLocals)) t := fun t k => pre72 t (st74 t k)
  obtain ⟨h74, e74⟩ : ∃ z, T74.heap = z := ⟨_, rfl⟩
  rw [e74] at Kq74 Eq74
  have F76_0 : Fld Z h74 b1 "com/example/sluice/sluice/checkpoint/CheckpointNames$ChainFile" "id" "J" (.long id1) := (F41_0.keep Kq74 nin0)
  have F76_1 : Fld Z h74 b1 "com/example/sluice/sluice/checkpoint/CheckpointNames$ChainFile" "part" "I" (.int pt1) := (F41_1.keep Kq74 nin0)
  have F76_2 : Fld Z h74 b1 "com/example/sluice/sluice/checkpoint/CheckpointNames$ChainFile" "changes" "Z" (.int c1) := (F41_2.keep Kq74 nin0)
  have F76_3 : Fld Z h74 b2 "com/example/sluice/sluice/checkpoint/CheckpointNames$ChainFile" "id" "J" (.long idb) := (Fx0_39.keep Kq74 nin0)
  have F76_4 : Fld Z h74 b2 "com/example/sluice/sluice/checkpoint/CheckpointNames$ChainFile" "part" "I" (.int ptb) := (Fx1_39.keep Kq74 nin0)
  have F76_5 : Fld Z h74 b2 "com/example/sluice/sluice/checkpoint/CheckpointNames$ChainFile" "changes" "Z" (.int c2) := (Fx2_39.keep Kq74 nin0)
  have E76_0 : Exa Z h74 b1 "com/example/sluice/sluice/checkpoint/CheckpointNames$ChainFile" := (E41_0.keep Kq74)
  have E76_1 : Exa Z h74 b2 "com/example/sluice/sluice/checkpoint/CheckpointNames$ChainFile" := (E41_1.keep Kq74)
  have Z76 : n0 ≤ h74.size := (Nat.le_trans Z41 Kq74.1)
  have O76 : Old Z n0 h74 := (O41.keep Kq74 all0)
  obtain ⟨cq78, kq78, q78a, q78b, q78c⟩ := isOf hZ e74 E76_0
  obtain ⟨_, _, ⟨T78, L78, k78, n78⟩, -, X78, ⟨Lc78, hQ78, l78, y78, z78⟩, st78⟩ := X74.virtualBack hx (y := (⟨"com/example/sluice/sluice/checkpoint/CheckpointNames$ChainFile", "equals", "(Ljava/lang/Object;)Z"⟩ : MethodName)) (z := (⟨"com/example/sluice/sluice/checkpoint/CheckpointNames$ChainFile", "equals", "(Ljava/lang/Object;)Z"⟩ : MethodName)) hown (mvT hZ (hw _ (List.mem_of_getElem? (i := 20) rfl))) (mvT hZ (hw _ (List.mem_of_getElem? (i := 21) rfl))) (notFace_of_selects (args := #[]) (mvT hZ (hw _ (List.mem_of_getElem? (i := 23) rfl)))) (mvT hZ (hw _ (List.mem_of_getElem? (i := 23) rfl))) (mvT hZ (hw _ (List.mem_of_getElem? (i := 22) rfl))) (by decide) (backOf (W := 0) (rm4o l Z a0 hw [] b1 b3 h74 n0 Z76 Eq74) hZ (hw _ (List.mem_of_getElem? (i := 24) rfl)) (hw _ (List.mem_of_getElem? (i := 2) rfl)) (by decide) (by decide)) q78a q78c (g := (mkF m 198 #[.val (.long id1), .second, .val (.int pt1), .val (.long id2), .second, .val (.int pt2), .val (.int flg), .val (.int c1), .val (.int c2), .val (.long idb), .second, .val (.int ptb), .val (.ref b1), .val (.ref b2), .val (.int ex), .val (.int (1 : Int32))] [(.ref b3), (.ref b1)])) rfl (by rw [hml]; rfl) (Steps.refl _) (argsL := [(.ref b3)]) (rest := []) (lenOf pd_eq rfl) rfl (by show 2 * 0 + _ ≤ _; exact Nat.le_of_eq rfl) (hb hby at_198) (fun _ _ => ⟨rfl, e74, (by decide : 3 + 0 ≤ _), (by decide : 7 + 0 ≤ _)⟩)
  dsimp only [Pt.U, Pt.locs, Pt.cells, Pt.slots] at X78 l78 y78 z78 st78 hQ78
  subst l78 y78 z78
  obtain ⟨rfl, Nq78, heq78⟩ := hQ78
  have N78 := Fr.app N74 Nq78
  have pre79 : ∀ t, Steps p.tables e below (T78.setTop (mkF m 201 #[.val (.long id1), .second, .val (.int pt1), .val (.long id2), .second, .val (.int pt2), .val (.int flg), .val (.int c1), .val (.int c2), .val (.long idb), .second, .val (.int ptb), .val (.ref b1), .val (.ref b2), .val (.int ex), .val (.int (1 : Int32))] [(.int (0 : Int32))])) t → Steps p.tables e below (s₁.setTop (entryFrame m #[(.long id1), (.int pt1), (.long id2), (.int pt2), (.int flg)] maxLocals)) t := fun t k => pre75 t (st78.trans k)
  have pre80 : ∀ t, Steps p.tables e below (T78.setTop (mkF m 213 #[.val (.long id1), .second, .val (.int pt1), .val (.long id2), .second, .val (.int pt2), .val (.int flg), .val (.int c1), .val (.int c2), .val (.long idb), .second, .val (.int ptb), .val (.ref b1), .val (.ref b2), .val (.int ex), .val (.int (1 : Int32))] [(.int (1 : Int32))])) t → Steps p.tables e below (s₁.setTop (entryFrame m #[(.long id1), (.int pt1), (.long id2), (.int pt2), (.int flg)] maxLocals)) t := by
    intro t k
    refine pre79 t ?_
    refine XS.ifNo X78.here hx rfl (hb hby at_201) rfl (XT.i0_ne_f rfl) ?_
    show Steps p.tables e below (T78.setTop (mkF m 204 #[.val (.long id1), .second, .val (.int pt1), .val (.long id2), .second, .val (.int pt2), .val (.int flg), .val (.int c1), .val (.int c2), .val (.long idb), .second, .val (.int ptb), .val (.ref b1), .val (.ref b2), .val (.int ex), .val (.int (1 : Int32))] [])) _
    refine XS.iconst X78.here hx rfl (hb hby at_204) ?_
    show Steps p.tables e below (T78.setTop (mkF m 205 #[.val (.long id1), .second, .val (.int pt1), .val (.long id2), .second, .val (.int pt2), .val (.int flg), .val (.int c1), .val (.int c2), .val (.long idb), .second, .val (.int ptb), .val (.ref b1), .val (.ref b2), .val (.int ex), .val (.int (1 : Int32))] [(.int (1 : Int32))])) _
    refine XS.goto X78.here hx rfl (pc0 := 205) (pc' := 209) rfl (hb hby at_205) (by decide) (by decide) ?_
    show Steps p.tables e below (T78.setTop (mkF m 209 #[.val (.long id1), .second, .val (.int pt1), .val (.long id2), .second, .val (.int pt2), .val (.int flg), .val (.int c1), .val (.int c2), .val (.long idb), .second, .val (.int ptb), .val (.ref b1), .val (.ref b2), .val (.int ex), .val (.int (1 : Int32))] [(.int (1 : Int32))])) _
    refine XS.istore X78.here hx rfl (hb hby at_209) rfl (l' := #[.val (.long id1), .second, .val (.int pt1), .val (.long id2), .second, .val (.int pt2), .val (.int flg), .val (.int c1), .val (.int c2), .val (.long idb), .second, .val (.int ptb), .val (.ref b1), .val (.ref b2), .val (.int ex), .val (.int (1 : Int32))]) rfl ?_
    show Steps p.tables e below (T78.setTop (mkF m 211 #[.val (.long id1), .second, .val (.int pt1), .val (.long id2), .second, .val (.int pt2), .val (.int flg), .val (.int c1), .val (.int c2), .val (.long idb), .second, .val (.int ptb), .val (.ref b1), .val (.ref b2), .val (.int ex), .val (.int (1 : Int32))] [])) _
    refine XS.iload X78.here hx rfl (hb hby at_211) rfl ?_
    show Steps p.tables e below (T78.setTop (mkF m 213 #[.val (.long id1), .second, .val (.int pt1), .val (.long id2), .second, .val (.int pt2), .val (.int flg), .val (.int c1), .val (.int c2), .val (.long idb), .second, .val (.int ptb), .val (.ref b1), .val (.ref b2), .val (.int ex), .val (.int (1 : Int32))] [(.int (1 : Int32))])) _
    exact k
  obtain ⟨fs, hr, hrun, hended, hW, hsame⟩ := X78.leave (v := some (.int (1 : Int32))) (fun h => by rw [Bd.returns] at h; cases h)
  refine ⟨_, _, pre80 _ ?_, hrun, hended, _, _, rfl, ?_, ⟨_, rfl⟩, hW, hsame.mono (by decide) (by decide)⟩
  · exact retOut X78 hx Bd.returns rfl (Or.inl ⟨rfl, by simp, _, rfl⟩) (hb hby at_213) hr
  · show Qlaw Z id1 pt1 id2 pt2 flg ca cl h0 n0 _ T78.heap _
    rw [heq78]
    exact ⟨rfl, N78⟩
set_option maxRecDepth 65536 in
set_option maxHeartbeats 40000000 in
theorem comes_1 {Post : Tables → Env → Array Value → State → Outcome → State → Prop} (hpost : ∀ tb e args s v u, (limb_1_1.after args s (.returned v) u = true ∧ limb_1_2.after args s (.returned v) u = true ∧ True) → FrameEnd s (.returned v) u (Jvm.fieldLocs frame_1_writes args s ++ Jvm.arrayLocs frame_1_arrays args s ++ Jvm.staticLocs frame_1_statics s) 16 128 → Post tb e args s (.returned v) u) :
    ArmFor flags0 classFile x code maxLocals ret World_1 tables_1 room_1 Calls_1 rest_1 Pre_1 Post := by
  intro l hfl _ _ p e ha hc hk s m args below hf hA hF happ hP
  obtain ⟨hcalls, hrest, hpre⟩ := hP
  obtain ⟨-, -, -, hnamed, -, -, -, hat⟩ := (Spec.applies_iff hf).mp happ
  obtain ⟨hg, hn⟩ := and_e (Cond.before_iff.mp (show (Jvm.Cond.and given_1 narrow_1).before args s = true from hpre))
  obtain ⟨gc, g0⟩ := and_e hg
  obtain ⟨w0, w1, w2, w3, w4, rfl⟩ : ∃ w0 w1 w2 w3 w4 : Value, args = #[w0, w1, w2, w3, w4] := by
    have hs : args.size = 5 := by simpa [Cond.value, given_1] using gc
    obtain ⟨L⟩ := args
    match L, hs with
    | [w0, w1, w2, w3, w4], _ => exact ⟨w0, w1, w2, w3, w4, rfl⟩
  have hw := fun d (hd : d ∈ tables_1) => atoms_spec (ws := Jvm.Cond.code x code maxLocals ret :: tables_1) hat d (List.mem_cons_of_mem _ hd)
  have hfit : Fit s := fun {y c} hc i hi => by
    obtain ⟨ha, rfl⟩ := Array.getElem?_eq_some_iff.mp hc
    have q := List.all_eq_true.mp ((Array.all_eq_true_iff_forall_mem.mp hF) _ (Array.getElem_mem ha)) i (List.mem_range.mpr hi)
    simpa [Array.getElem?_eq_getElem hi] using q
  obtain ⟨ga0, gb0⟩ := and_e g0
  obtain ⟨i0, ei0⟩ := isL_v ga0
  obtain rfl : w0 = (.long i0) := Option.some.inj ei0
  obtain ⟨ga1, gb1⟩ := and_e gb0
  obtain ⟨i1, ei1⟩ := is_v ga1
  obtain rfl : w1 = (.int i1) := Option.some.inj ei1
  obtain ⟨ga2, gb2⟩ := and_e gb1
  obtain ⟨i2, ei2⟩ := isL_v ga2
  obtain rfl : w2 = (.long i2) := Option.some.inj ei2
  obtain ⟨ga3, gb3⟩ := and_e gb2
  obtain ⟨i3, ei3⟩ := is_v ga3
  obtain rfl : w3 = (.int i3) := Option.some.inj ei3
  obtain ⟨i4, ei4⟩ := is_v gb3
  obtain rfl : w4 = (.int i4) := Option.some.inj ei4
  obtain ⟨hsets, hown0⟩ := atoms_of _ (rest_1_c_eq ▸ (show rest_1_c.before _ s = true from hrest))
  obtain ⟨ca, ec⟩ := arr_v (Cond.before_iff.mp (hsets _ (List.mem_of_getElem? (i := 2) rfl)))
  obtain ⟨cl, A⟩ := Arr.start ec (Cond.before_iff.mp (hsets _ (List.mem_of_getElem? (i := 2) rfl)))
  have SC : Sta s s.heap "java/lang/Long$LongCache" "cache" "[Ljava/lang/Long;" (.ref ca) := Sta.start ec (Or.inl (hsets _ (List.mem_of_getElem? (i := 1) rfl)))
  obtain ⟨l1, l2⟩ := own_len (own_eqI (Cond.before_iff.mp (hsets _ (List.mem_of_getElem? (i := 4) rfl)))) ec A
  have BX : Bxs s ca cl "java/lang/Long" "J" (256 : Int32) (fun j => .long (j - 128).toInt64) := Bxs.start (fun _ => ec) A l1 l2 (by decide) (Cond.before_iff.mp (hsets _ (List.mem_of_getElem? (i := 5) rfl))) (fun X j hj h => eqv_l (i2l_at (own_sub hj)) h)
  obtain ⟨n, o, h1, h2, h3, _, L, rfl, ⟨rfl, N⟩, hq⟩ := rmlaw l s _ hw tables_1 i0 i1 i2 i3 i4 ca cl s.heap s.heap.size (Nat.le_refl _) (Old.start s) SC BX p e ha hc hk s m _ below hf ((Spec.applies_iff_loose hf).mp happ).1 ⟨rfl, State.Warmed39.refl s, rfl⟩ trivial
  refine ⟨n, _, h1, h2, h3, hpost _ _ _ _ _ _ ⟨Cond.after_iff.mpr rfl, Cond.after_iff.mpr (eq_i res_at (Term.int_eval (1)) rfl), trivial⟩ ⟨hq.1, hq.2.1, (hq.2.2.sift fun y hy => Or.inr (N y hy)).mono (by decide) (by decide)⟩⟩
theorem main_1_1 : Claimed_1_1 := comes_1 fun _ _ _ _ _ _ h hF => ⟨h.1, hF⟩
theorem main_1_2 : Claimed_1_2 := comes_1 fun _ _ _ _ _ _ h hF => ⟨h.2.1, hF⟩
end Jvm.Pilot.@@N@@
namespace Jvm.Pilot.@@N@@
open Jvm Jvm.ClassFile Sem Op Lib Jvm.Free Jvm.Stand Jvm.Pilot.@@N@@.Jvm.D
/-! MADE BY PROGRAM (witnessworld.py) out of the Statement's table words and the real class files: 17 classes; the members and pool entries that the words name. The judged class is class 1, her method 1. -/
namespace start1
open Jvm.ClassFile
def u (s : String) : CpInfo := .utf8 (stringToUtf16 s)
/-- a pool by its gaps: so many unusable entries, then the entry; so many at the end -/
def gap : Nat → List CpInfo → List CpInfo
  | 0, r => r
  | n + 1, r => .unusable :: gap n r
def poolList (es : List (Nat × CpInfo)) (last : Nat) : List CpInfo := es.foldr (fun e r => gap e.1 (e.2 :: r)) (gap last [])
def pool (es : List (Nat × CpInfo)) (last : Nat) : Array CpInfo := ⟨poolList es last⟩
def fileOf (pool : Array CpInfo) (this : Nat) (attrs : Array Attribute := #[]) (ms : Array MethodInfo := #[]) (fl : Nat := 33) (sup : Nat := 0) (ifs : Array Nat := #[]) (fds : Array FieldInfo := #[]) : ClassFile where
  minorVersion := 0
  majorVersion := 65
  constantPool := pool
  accessFlags := fl
  thisClass := this
  superClass := sup
  interfaces := ifs
  fields := fds
  methods := ms
  attributes := attrs
def plain (name : String) (sup : Option ClassId) : Class where
  name := name
  kind := .ordinary
  loader := none
  accessFlags := 33
  super := sup
  interfaces := #[]
  cf := none
  fields := #[]
  methods := #[]
  instanceTypes := #[]
  staticTypes := #[]
  resolved := #[]
  callSites := []
  init := .initialized
  statics := none
  mirror := none

def pool0 : Array CpInfo := pool [(5, u "<init>"), (0, u "()V"), (1, .class_ 10), (1, u "java/lang/Object")] 113

def k0c0 : Code := { maxStack := 0, maxLocals := 1, code := object_method_1_code, exceptionTable := #[], attributes := #[] }
def k0m0 : Method := { name := "<init>", desc := "()V", sig := { parameters := [], returnType := none }, accessFlags := 1, code := some k0c0 }
/-- java/lang/Object -/
def k0 : Class := { plain "java/lang/Object" none with
  accessFlags := 33
  interfaces := #[]
  cf := some (fileOf pool0 8 #[] #[{ accessFlags := 1, nameIndex := 5, descriptorIndex := 6, attributes := #[] }] 33 0 #[] #[])
  fields := #[]
  methods := #[k0m0]
  instanceTypes := #[]
  staticTypes := #[]
  resolved := Array.replicate 124 none
  statics := none }

def pool1 : Array CpInfo := pool [(2, .class_ 4), (1, u "java/lang/Object"), (0, u "<init>"), (0, u "()V"), (0, .class_ 8), (0, u "com/example/sluice/sluice/checkpoint/CheckpointNames$ChainFile"), (0, .methodref 7 10), (0, .nameAndType 5 11), (0, u "(JIZ)V"), (0, .methodref 7 13), (0, .nameAndType 14 15), (0, u "equals"), (0, u "(Ljava/lang/Object;)Z"), (0, .methodref 17 18), (0, .class_ 19), (0, .nameAndType 20 21), (0, u "java/lang/Long"), (0, u "valueOf"), (0, u "(J)Ljava/lang/Long;"), (0, .class_ 23), (0, u "com/example/sluice/sluice/checkpoint/ChainFileEqualsPinLaw"), (2, u "law"), (0, u "(JIJII)Z")] 7

def k1m0 : Method := { name := "<init>", desc := "()V", sig := { parameters := [], returnType := none }, accessFlags := 2, code := none }
def k1c1 : Code := { maxStack := 6, maxLocals := 16, code := code, exceptionTable := #[], attributes := #[] }
def k1m1 : Method := { name := "law", desc := "(JIJII)Z", sig := { parameters := [.long, .int, .long, .int, .int], returnType := some .boolean }, accessFlags := 9, code := some k1c1 }
/-- com/example/sluice/sluice/checkpoint/ChainFileEqualsPinLaw -/
def k1 : Class := { plain "com/example/sluice/sluice/checkpoint/ChainFileEqualsPinLaw" (some 0) with
  accessFlags := 49
  interfaces := #[]
  cf := some (fileOf pool1 22 #[] #[{ accessFlags := 2, nameIndex := 5, descriptorIndex := 6, attributes := #[] }, { accessFlags := 9, nameIndex := 26, descriptorIndex := 27, attributes := #[] }] 49 2 #[] #[])
  fields := #[]
  methods := #[k1m0, k1m1]
  instanceTypes := #[]
  staticTypes := #[]
  resolved := Array.replicate 35 none
  statics := none }

def pool2 : Array CpInfo := pool [(1, .methodref 2 3), (0, .class_ 4), (0, .nameAndType 5 6), (0, u "java/lang/Object"), (0, u "<init>"), (0, u "()V"), (0, .class_ 8), (0, u "java/lang/Record")] 13

def k2c0 : Code := { maxStack := 1, maxLocals := 1, code := jdk_30_method_1_code, exceptionTable := #[], attributes := #[] }
def k2m0 : Method := { name := "<init>", desc := "()V", sig := { parameters := [], returnType := none }, accessFlags := 4, code := some k2c0 }
/-- java/lang/Record -/
def k2 : Class := { plain "java/lang/Record" (some 0) with
  accessFlags := 1057
  interfaces := #[]
  cf := some (fileOf pool2 7 #[] #[{ accessFlags := 4, nameIndex := 5, descriptorIndex := 6, attributes := #[] }] 1057 2 #[] #[])
  fields := #[]
  methods := #[k2m0]
  instanceTypes := #[]
  staticTypes := #[]
  resolved := Array.replicate 22 none
  statics := none }

def pool3 : Array CpInfo := pool [(1, .class_ 2), (0, u "com/example/sluice/sluice/checkpoint/CheckpointNames"), (0, .methodref 4 5), (0, .class_ 6), (0, .nameAndType 7 8), (0, u "java/lang/Record"), (0, u "<init>"), (0, u "()V"), (0, .fieldref 10 11), (0, .class_ 12), (0, .nameAndType 13 14), (0, u "com/example/sluice/sluice/checkpoint/CheckpointNames$ChainFile"), (0, u "id"), (0, u "J"), (0, .fieldref 10 16), (0, .nameAndType 17 18), (0, u "part"), (0, u "I"), (0, .fieldref 10 20), (0, .nameAndType 21 22), (0, u "changes"), (0, u "Z"), (2, u "NAME"), (0, u "Ljava/util/regex/Pattern;"), (28, u "equals"), (0, u "(Ljava/lang/Object;)Z"), (2, u "(JIZ)V"), (73, u "POSITIONS")] 67

def k3c0 : Code := { maxStack := 3, maxLocals := 5, code := prog_55_method_1_code, exceptionTable := #[], attributes := #[] }
def k3m0 : Method := { name := "<init>", desc := "(JIZ)V", sig := { parameters := [.long, .int, .boolean], returnType := none }, accessFlags := 0, code := some k3c0 }
def k3c1 : Code := { maxStack := 4, maxLocals := 3, code := prog_55_method_3_code, exceptionTable := #[], attributes := #[] }
def k3m1 : Method := { name := "equals", desc := "(Ljava/lang/Object;)Z", sig := { parameters := [(.object "java/lang/Object")], returnType := some .boolean }, accessFlags := 1, code := some k3c1 }
/-- com/example/sluice/sluice/checkpoint/CheckpointNames$ChainFile -/
def k3 : Class := { plain "com/example/sluice/sluice/checkpoint/CheckpointNames$ChainFile" (some 2) with
  accessFlags := 48
  interfaces := #[]
  cf := some (fileOf pool3 10 #[.nestHost 1] #[{ accessFlags := 0, nameIndex := 7, descriptorIndex := 59, attributes := #[] }, { accessFlags := 1, nameIndex := 55, descriptorIndex := 56, attributes := #[] }] 48 4 #[] #[{ accessFlags := 18, nameIndex := 13, descriptorIndex := 14, attributes := #[] }, { accessFlags := 18, nameIndex := 17, descriptorIndex := 18, attributes := #[] }, { accessFlags := 18, nameIndex := 21, descriptorIndex := 22, attributes := #[] }, { accessFlags := 24, nameIndex := 133, descriptorIndex := 18, attributes := #[] }, { accessFlags := 26, nameIndex := 25, descriptorIndex := 26, attributes := #[] }])
  fields := #[{ name := "id", type := .long, accessFlags := 18, slot := 0, constantValue := 0 }, { name := "part", type := .int, accessFlags := 18, slot := 1, constantValue := 0 }, { name := "changes", type := .boolean, accessFlags := 18, slot := 2, constantValue := 0 }, { name := "POSITIONS", type := .int, accessFlags := 24, slot := 0, constantValue := 0 }, { name := "NAME", type := (.object "java/util/regex/Pattern"), accessFlags := 26, slot := 1, constantValue := 0 }]
  methods := #[k3m0, k3m1]
  instanceTypes := #[.long, .int, .boolean]
  staticTypes := #[.int, (.object "java/util/regex/Pattern")]
  resolved := Array.replicate 201 none
  statics := none }

def pool4 : Array CpInfo := pool [(1, .class_ 2), (0, u "java/io/Serializable"), (0, .class_ 4), (0, u "java/lang/Object")] 2

/-- java/io/Serializable -/
def k4 : Class := { plain "java/io/Serializable" (some 0) with
  accessFlags := 1537
  interfaces := #[]
  cf := some (fileOf pool4 1 #[] #[] 1537 3 #[] #[])
  fields := #[]
  methods := #[]
  instanceTypes := #[]
  staticTypes := #[]
  resolved := Array.replicate 7 none
  statics := none }

def pool5 : Array CpInfo := pool [(1, .methodref 2 3), (0, .class_ 4), (0, .nameAndType 5 6), (0, u "java/lang/Object"), (0, u "<init>"), (0, u "()V"), (1, .class_ 10), (1, u "java/lang/Number"), (2, .class_ 14), (0, u "java/io/Serializable"), (0, u "serialVersionUID"), (0, u "J")] 20

def k5c0 : Code := { maxStack := 1, maxLocals := 1, code := jdk_18_method_1_code, exceptionTable := #[], attributes := #[] }
def k5m0 : Method := { name := "<init>", desc := "()V", sig := { parameters := [], returnType := none }, accessFlags := 1, code := some k5c0 }
/-- java/lang/Number -/
def k5 : Class := { plain "java/lang/Number" (some 0) with
  accessFlags := 1057
  interfaces := #[4]
  cf := some (fileOf pool5 8 #[] #[{ accessFlags := 1, nameIndex := 5, descriptorIndex := 6, attributes := #[] }] 1057 2 #[13] #[{ accessFlags := 26, nameIndex := 15, descriptorIndex := 16, attributes := #[] }])
  fields := #[{ name := "serialVersionUID", type := .long, accessFlags := 26, slot := 0, constantValue := 0 }]
  methods := #[k5m0]
  instanceTypes := #[]
  staticTypes := #[.long]
  resolved := Array.replicate 37 none
  statics := none }

def pool6 : Array CpInfo := pool [(1, .class_ 2), (0, u "java/lang/Comparable"), (0, .class_ 4), (0, u "java/lang/Object")] 7

/-- java/lang/Comparable -/
def k6 : Class := { plain "java/lang/Comparable" (some 0) with
  accessFlags := 1537
  interfaces := #[]
  cf := some (fileOf pool6 1 #[] #[] 1537 3 #[] #[])
  fields := #[]
  methods := #[]
  instanceTypes := #[]
  staticTypes := #[]
  resolved := Array.replicate 12 none
  statics := none }

def pool7 : Array CpInfo := pool [(1, .class_ 2), (0, u "java/lang/constant/Constable"), (0, .class_ 4), (0, u "java/lang/Object")] 6

/-- java/lang/constant/Constable -/
def k7 : Class := { plain "java/lang/constant/Constable" (some 0) with
  accessFlags := 1537
  interfaces := #[]
  cf := some (fileOf pool7 1 #[] #[] 1537 3 #[] #[])
  fields := #[]
  methods := #[]
  instanceTypes := #[]
  staticTypes := #[]
  resolved := Array.replicate 11 none
  statics := none }

def pool8 : Array CpInfo := pool [(1, .class_ 2), (0, u "java/lang/constant/ConstantDesc"), (0, .class_ 4), (0, u "java/lang/Object")] 32

/-- java/lang/constant/ConstantDesc -/
def k8 : Class := { plain "java/lang/constant/ConstantDesc" (some 0) with
  accessFlags := 1537
  interfaces := #[]
  cf := some (fileOf pool8 1 #[] #[] 1537 3 #[] #[])
  fields := #[]
  methods := #[]
  instanceTypes := #[]
  staticTypes := #[]
  resolved := Array.replicate 37 none
  statics := none }

def pool9 : Array CpInfo := pool [(1, .class_ 2), (0, u "java/lang/Long"), (55, .nameAndType 59 60), (0, u "<init>"), (0, u "()V"), (24, u "valueOf"), (143, u "(J)Ljava/lang/Long;"), (0, .long 18446744073709551488), (1, .long 127), (1, .fieldref 235 236), (0, .class_ 237), (0, .nameAndType 238 239), (0, u "java/lang/Long$LongCache"), (0, u "cache"), (0, u "[Ljava/lang/Long;"), (0, .methodref 1 241), (0, .nameAndType 59 242), (0, u "(J)V"), (27, .methodref 271 58), (0, .class_ 272), (0, u "java/lang/Number"), (0, .fieldref 1 274), (0, .nameAndType 275 276), (0, u "value"), (0, u "J"), (84, u "TYPE"), (0, u "Ljava/lang/Class;"), (0, .class_ 364), (0, u "java/lang/Comparable"), (0, .class_ 366), (0, u "java/lang/constant/Constable"), (0, .class_ 368), (0, u "java/lang/constant/ConstantDesc"), (0, u "MIN_VALUE"), (1, u "MAX_VALUE"), (4, u "SIZE"), (0, u "I"), (1, u "BYTES"), (1, u "serialVersionUID")] 142

def k9c0 : Code := { maxStack := 4, maxLocals := 3, code := jdk_35_method_24_code, exceptionTable := #[], attributes := #[] }
def k9m0 : Method := { name := "valueOf", desc := "(J)Ljava/lang/Long;", sig := { parameters := [.long], returnType := some (.object "java/lang/Long") }, accessFlags := 9, code := some k9c0 }
def k9c1 : Code := { maxStack := 3, maxLocals := 3, code := jdk_35_method_26_code, exceptionTable := #[], attributes := #[] }
def k9m1 : Method := { name := "<init>", desc := "(J)V", sig := { parameters := [.long], returnType := none }, accessFlags := 1, code := some k9c1 }
/-- java/lang/Long -/
def k9 : Class := { plain "java/lang/Long" (some 5) with
  accessFlags := 49
  interfaces := #[6, 7, 8]
  cf := some (fileOf pool9 1 #[.nestMembers #[235]] #[{ accessFlags := 9, nameIndex := 85, descriptorIndex := 229, attributes := #[] }, { accessFlags := 1, nameIndex := 59, descriptorIndex := 242, attributes := #[] }] 49 271 #[363, 365, 367] #[{ accessFlags := 25, nameIndex := 369, descriptorIndex := 276, attributes := #[] }, { accessFlags := 25, nameIndex := 371, descriptorIndex := 276, attributes := #[] }, { accessFlags := 25, nameIndex := 361, descriptorIndex := 362, attributes := #[] }, { accessFlags := 18, nameIndex := 275, descriptorIndex := 276, attributes := #[] }, { accessFlags := 25, nameIndex := 376, descriptorIndex := 377, attributes := #[] }, { accessFlags := 25, nameIndex := 379, descriptorIndex := 377, attributes := #[] }, { accessFlags := 26, nameIndex := 381, descriptorIndex := 276, attributes := #[] }])
  fields := #[{ name := "MIN_VALUE", type := .long, accessFlags := 25, slot := 0, constantValue := 0 }, { name := "MAX_VALUE", type := .long, accessFlags := 25, slot := 1, constantValue := 0 }, { name := "TYPE", type := (.object "java/lang/Class"), accessFlags := 25, slot := 2, constantValue := 0 }, { name := "value", type := .long, accessFlags := 18, slot := 0, constantValue := 0 }, { name := "SIZE", type := .int, accessFlags := 25, slot := 3, constantValue := 0 }, { name := "BYTES", type := .int, accessFlags := 25, slot := 4, constantValue := 0 }, { name := "serialVersionUID", type := .long, accessFlags := 26, slot := 5, constantValue := 0 }]
  methods := #[k9m0, k9m1]
  instanceTypes := #[.long]
  staticTypes := #[.long, .long, (.object "java/lang/Class"), .int, .int, .long]
  resolved := Array.replicate 524 none
  statics := none }

def pool10 : Array CpInfo := pool [(2, .class_ 4), (1, u "java/lang/Object"), (0, u "<init>"), (0, u "()V"), (0, .class_ 8), (0, u "java/lang/Long"), (7, .class_ 18), (1, u "java/lang/Long$LongCache"), (0, u "$assertionsDisabled"), (0, u "Z"), (8, u "archivedCache"), (0, u "[Ljava/lang/Long;"), (7, u "cache")] 24

def k10m0 : Method := { name := "<init>", desc := "()V", sig := { parameters := [], returnType := none }, accessFlags := 2, code := none }
/-- java/lang/Long$LongCache -/
def k10 : Class := { plain "java/lang/Long$LongCache" (some 0) with
  accessFlags := 48
  interfaces := #[]
  cf := some (fileOf pool10 16 #[.nestHost 7] #[{ accessFlags := 2, nameIndex := 5, descriptorIndex := 6, attributes := #[] }] 48 2 #[] #[{ accessFlags := 24, nameIndex := 38, descriptorIndex := 30, attributes := #[] }, { accessFlags := 8, nameIndex := 29, descriptorIndex := 30, attributes := #[] }, { accessFlags := 4120, nameIndex := 19, descriptorIndex := 20, attributes := #[] }])
  fields := #[{ name := "cache", type := (.array (.object "java/lang/Long")), accessFlags := 24, slot := 0, constantValue := 0 }, { name := "archivedCache", type := (.array (.object "java/lang/Long")), accessFlags := 8, slot := 1, constantValue := 0 }, { name := "$assertionsDisabled", type := .boolean, accessFlags := 4120, slot := 2, constantValue := 0 }]
  methods := #[k10m0]
  instanceTypes := #[]
  staticTypes := #[(.array (.object "java/lang/Long")), (.array (.object "java/lang/Long")), .boolean]
  resolved := Array.replicate 63 none
  statics := some 0 }

def pool11 : Array CpInfo := pool [(1, u "java/lang/Cloneable"), (0, .class_ 1), (0, u "java/lang/Object"), (0, .class_ 3)] 3

/-- java/lang/Cloneable -/
def k11 : Class := { plain "java/lang/Cloneable" (some 0) with
  accessFlags := 1537
  interfaces := #[]
  cf := some (fileOf pool11 2 #[] #[] 1537 4 #[] #[])
  fields := #[]
  methods := #[]
  instanceTypes := #[]
  staticTypes := #[]
  resolved := Array.replicate 8 none
  statics := none }

/-- the primitive byte -/
def k12 : Class := { plain "byte" none with kind := .primitive 'B', accessFlags := 0x411 }
/-- [B -/
def k13 : Class := { plain "[B" (some 0) with kind := .array 12 .byte, interfaces := #[11, 4], accessFlags := 1041 }

/-- the primitive int -/
def k14 : Class := { plain "int" none with kind := .primitive 'I', accessFlags := 0x411 }
/-- [I -/
def k15 : Class := { plain "[I" (some 0) with kind := .array 14 .int, interfaces := #[11, 4], accessFlags := 1041 }

/-- [Ljava/lang/Long; -/
def k16 : Class := { plain "[Ljava/lang/Long;" (some 0) with kind := .array 9 (.object "java/lang/Long"), interfaces := #[11, 4], accessFlags := 1041 }

def heap : Heap := #[{ cls := 10, slots := #[.ref 1, .null, .int 0], vm := .statics 10 },
  { cls := 16, slots := #[.ref 2, .ref 3, .ref 4, .ref 5, .ref 6, .ref 7, .ref 8, .ref 9, .ref 10, .ref 11, .ref 12, .ref 13, .ref 14, .ref 15, .ref 16, .ref 17, .ref 18, .ref 19, .ref 20, .ref 21, .ref 22, .ref 23, .ref 24, .ref 25, .ref 26, .ref 27, .ref 28, .ref 29, .ref 30, .ref 31, .ref 32, .ref 33, .ref 34, .ref 35, .ref 36, .ref 37, .ref 38, .ref 39, .ref 40, .ref 41, .ref 42, .ref 43, .ref 44, .ref 45, .ref 46, .ref 47, .ref 48, .ref 49, .ref 50, .ref 51, .ref 52, .ref 53, .ref 54, .ref 55, .ref 56, .ref 57, .ref 58, .ref 59, .ref 60, .ref 61, .ref 62, .ref 63, .ref 64, .ref 65, .ref 66, .ref 67, .ref 68, .ref 69, .ref 70, .ref 71, .ref 72, .ref 73, .ref 74, .ref 75, .ref 76, .ref 77, .ref 78, .ref 79, .ref 80, .ref 81, .ref 82, .ref 83, .ref 84, .ref 85, .ref 86, .ref 87, .ref 88, .ref 89, .ref 90, .ref 91, .ref 92, .ref 93, .ref 94, .ref 95, .ref 96, .ref 97, .ref 98, .ref 99, .ref 100, .ref 101, .ref 102, .ref 103, .ref 104, .ref 105, .ref 106, .ref 107, .ref 108, .ref 109, .ref 110, .ref 111, .ref 112, .ref 113, .ref 114, .ref 115, .ref 116, .ref 117, .ref 118, .ref 119, .ref 120, .ref 121, .ref 122, .ref 123, .ref 124, .ref 125, .ref 126, .ref 127, .ref 128, .ref 129, .ref 130, .ref 131, .ref 132, .ref 133, .ref 134, .ref 135, .ref 136, .ref 137, .ref 138, .ref 139, .ref 140, .ref 141, .ref 142, .ref 143, .ref 144, .ref 145, .ref 146, .ref 147, .ref 148, .ref 149, .ref 150, .ref 151, .ref 152, .ref 153, .ref 154, .ref 155, .ref 156, .ref 157, .ref 158, .ref 159, .ref 160, .ref 161, .ref 162, .ref 163, .ref 164, .ref 165, .ref 166, .ref 167, .ref 168, .ref 169, .ref 170, .ref 171, .ref 172, .ref 173, .ref 174, .ref 175, .ref 176, .ref 177, .ref 178, .ref 179, .ref 180, .ref 181, .ref 182, .ref 183, .ref 184, .ref 185, .ref 186, .ref 187, .ref 188, .ref 189, .ref 190, .ref 191, .ref 192, .ref 193, .ref 194, .ref 195, .ref 196, .ref 197, .ref 198, .ref 199, .ref 200, .ref 201, .ref 202, .ref 203, .ref 204, .ref 205, .ref 206, .ref 207, .ref 208, .ref 209, .ref 210, .ref 211, .ref 212, .ref 213, .ref 214, .ref 215, .ref 216, .ref 217, .ref 218, .ref 219, .ref 220, .ref 221, .ref 222, .ref 223, .ref 224, .ref 225, .ref 226, .ref 227, .ref 228, .ref 229, .ref 230, .ref 231, .ref 232, .ref 233, .ref 234, .ref 235, .ref 236, .ref 237, .ref 238, .ref 239, .ref 240, .ref 241, .ref 242, .ref 243, .ref 244, .ref 245, .ref 246, .ref 247, .ref 248, .ref 249, .ref 250, .ref 251, .ref 252, .ref 253, .ref 254, .ref 255, .ref 256, .ref 257], vm := .none },
  { cls := 9, slots := #[.long (-128)], vm := .none },
  { cls := 9, slots := #[.long (-127)], vm := .none },
  { cls := 9, slots := #[.long (-126)], vm := .none },
  { cls := 9, slots := #[.long (-125)], vm := .none },
  { cls := 9, slots := #[.long (-124)], vm := .none },
  { cls := 9, slots := #[.long (-123)], vm := .none },
  { cls := 9, slots := #[.long (-122)], vm := .none },
  { cls := 9, slots := #[.long (-121)], vm := .none },
  { cls := 9, slots := #[.long (-120)], vm := .none },
  { cls := 9, slots := #[.long (-119)], vm := .none },
  { cls := 9, slots := #[.long (-118)], vm := .none },
  { cls := 9, slots := #[.long (-117)], vm := .none },
  { cls := 9, slots := #[.long (-116)], vm := .none },
  { cls := 9, slots := #[.long (-115)], vm := .none },
  { cls := 9, slots := #[.long (-114)], vm := .none },
  { cls := 9, slots := #[.long (-113)], vm := .none },
  { cls := 9, slots := #[.long (-112)], vm := .none },
  { cls := 9, slots := #[.long (-111)], vm := .none },
  { cls := 9, slots := #[.long (-110)], vm := .none },
  { cls := 9, slots := #[.long (-109)], vm := .none },
  { cls := 9, slots := #[.long (-108)], vm := .none },
  { cls := 9, slots := #[.long (-107)], vm := .none },
  { cls := 9, slots := #[.long (-106)], vm := .none },
  { cls := 9, slots := #[.long (-105)], vm := .none },
  { cls := 9, slots := #[.long (-104)], vm := .none },
  { cls := 9, slots := #[.long (-103)], vm := .none },
  { cls := 9, slots := #[.long (-102)], vm := .none },
  { cls := 9, slots := #[.long (-101)], vm := .none },
  { cls := 9, slots := #[.long (-100)], vm := .none },
  { cls := 9, slots := #[.long (-99)], vm := .none },
  { cls := 9, slots := #[.long (-98)], vm := .none },
  { cls := 9, slots := #[.long (-97)], vm := .none },
  { cls := 9, slots := #[.long (-96)], vm := .none },
  { cls := 9, slots := #[.long (-95)], vm := .none },
  { cls := 9, slots := #[.long (-94)], vm := .none },
  { cls := 9, slots := #[.long (-93)], vm := .none },
  { cls := 9, slots := #[.long (-92)], vm := .none },
  { cls := 9, slots := #[.long (-91)], vm := .none },
  { cls := 9, slots := #[.long (-90)], vm := .none },
  { cls := 9, slots := #[.long (-89)], vm := .none },
  { cls := 9, slots := #[.long (-88)], vm := .none },
  { cls := 9, slots := #[.long (-87)], vm := .none },
  { cls := 9, slots := #[.long (-86)], vm := .none },
  { cls := 9, slots := #[.long (-85)], vm := .none },
  { cls := 9, slots := #[.long (-84)], vm := .none },
  { cls := 9, slots := #[.long (-83)], vm := .none },
  { cls := 9, slots := #[.long (-82)], vm := .none },
  { cls := 9, slots := #[.long (-81)], vm := .none },
  { cls := 9, slots := #[.long (-80)], vm := .none },
  { cls := 9, slots := #[.long (-79)], vm := .none },
  { cls := 9, slots := #[.long (-78)], vm := .none },
  { cls := 9, slots := #[.long (-77)], vm := .none },
  { cls := 9, slots := #[.long (-76)], vm := .none },
  { cls := 9, slots := #[.long (-75)], vm := .none },
  { cls := 9, slots := #[.long (-74)], vm := .none },
  { cls := 9, slots := #[.long (-73)], vm := .none },
  { cls := 9, slots := #[.long (-72)], vm := .none },
  { cls := 9, slots := #[.long (-71)], vm := .none },
  { cls := 9, slots := #[.long (-70)], vm := .none },
  { cls := 9, slots := #[.long (-69)], vm := .none },
  { cls := 9, slots := #[.long (-68)], vm := .none },
  { cls := 9, slots := #[.long (-67)], vm := .none },
  { cls := 9, slots := #[.long (-66)], vm := .none },
  { cls := 9, slots := #[.long (-65)], vm := .none },
  { cls := 9, slots := #[.long (-64)], vm := .none },
  { cls := 9, slots := #[.long (-63)], vm := .none },
  { cls := 9, slots := #[.long (-62)], vm := .none },
  { cls := 9, slots := #[.long (-61)], vm := .none },
  { cls := 9, slots := #[.long (-60)], vm := .none },
  { cls := 9, slots := #[.long (-59)], vm := .none },
  { cls := 9, slots := #[.long (-58)], vm := .none },
  { cls := 9, slots := #[.long (-57)], vm := .none },
  { cls := 9, slots := #[.long (-56)], vm := .none },
  { cls := 9, slots := #[.long (-55)], vm := .none },
  { cls := 9, slots := #[.long (-54)], vm := .none },
  { cls := 9, slots := #[.long (-53)], vm := .none },
  { cls := 9, slots := #[.long (-52)], vm := .none },
  { cls := 9, slots := #[.long (-51)], vm := .none },
  { cls := 9, slots := #[.long (-50)], vm := .none },
  { cls := 9, slots := #[.long (-49)], vm := .none },
  { cls := 9, slots := #[.long (-48)], vm := .none },
  { cls := 9, slots := #[.long (-47)], vm := .none },
  { cls := 9, slots := #[.long (-46)], vm := .none },
  { cls := 9, slots := #[.long (-45)], vm := .none },
  { cls := 9, slots := #[.long (-44)], vm := .none },
  { cls := 9, slots := #[.long (-43)], vm := .none },
  { cls := 9, slots := #[.long (-42)], vm := .none },
  { cls := 9, slots := #[.long (-41)], vm := .none },
  { cls := 9, slots := #[.long (-40)], vm := .none },
  { cls := 9, slots := #[.long (-39)], vm := .none },
  { cls := 9, slots := #[.long (-38)], vm := .none },
  { cls := 9, slots := #[.long (-37)], vm := .none },
  { cls := 9, slots := #[.long (-36)], vm := .none },
  { cls := 9, slots := #[.long (-35)], vm := .none },
  { cls := 9, slots := #[.long (-34)], vm := .none },
  { cls := 9, slots := #[.long (-33)], vm := .none },
  { cls := 9, slots := #[.long (-32)], vm := .none },
  { cls := 9, slots := #[.long (-31)], vm := .none },
  { cls := 9, slots := #[.long (-30)], vm := .none },
  { cls := 9, slots := #[.long (-29)], vm := .none },
  { cls := 9, slots := #[.long (-28)], vm := .none },
  { cls := 9, slots := #[.long (-27)], vm := .none },
  { cls := 9, slots := #[.long (-26)], vm := .none },
  { cls := 9, slots := #[.long (-25)], vm := .none },
  { cls := 9, slots := #[.long (-24)], vm := .none },
  { cls := 9, slots := #[.long (-23)], vm := .none },
  { cls := 9, slots := #[.long (-22)], vm := .none },
  { cls := 9, slots := #[.long (-21)], vm := .none },
  { cls := 9, slots := #[.long (-20)], vm := .none },
  { cls := 9, slots := #[.long (-19)], vm := .none },
  { cls := 9, slots := #[.long (-18)], vm := .none },
  { cls := 9, slots := #[.long (-17)], vm := .none },
  { cls := 9, slots := #[.long (-16)], vm := .none },
  { cls := 9, slots := #[.long (-15)], vm := .none },
  { cls := 9, slots := #[.long (-14)], vm := .none },
  { cls := 9, slots := #[.long (-13)], vm := .none },
  { cls := 9, slots := #[.long (-12)], vm := .none },
  { cls := 9, slots := #[.long (-11)], vm := .none },
  { cls := 9, slots := #[.long (-10)], vm := .none },
  { cls := 9, slots := #[.long (-9)], vm := .none },
  { cls := 9, slots := #[.long (-8)], vm := .none },
  { cls := 9, slots := #[.long (-7)], vm := .none },
  { cls := 9, slots := #[.long (-6)], vm := .none },
  { cls := 9, slots := #[.long (-5)], vm := .none },
  { cls := 9, slots := #[.long (-4)], vm := .none },
  { cls := 9, slots := #[.long (-3)], vm := .none },
  { cls := 9, slots := #[.long (-2)], vm := .none },
  { cls := 9, slots := #[.long (-1)], vm := .none },
  { cls := 9, slots := #[.long (0)], vm := .none },
  { cls := 9, slots := #[.long (1)], vm := .none },
  { cls := 9, slots := #[.long (2)], vm := .none },
  { cls := 9, slots := #[.long (3)], vm := .none },
  { cls := 9, slots := #[.long (4)], vm := .none },
  { cls := 9, slots := #[.long (5)], vm := .none },
  { cls := 9, slots := #[.long (6)], vm := .none },
  { cls := 9, slots := #[.long (7)], vm := .none },
  { cls := 9, slots := #[.long (8)], vm := .none },
  { cls := 9, slots := #[.long (9)], vm := .none },
  { cls := 9, slots := #[.long (10)], vm := .none },
  { cls := 9, slots := #[.long (11)], vm := .none },
  { cls := 9, slots := #[.long (12)], vm := .none },
  { cls := 9, slots := #[.long (13)], vm := .none },
  { cls := 9, slots := #[.long (14)], vm := .none },
  { cls := 9, slots := #[.long (15)], vm := .none },
  { cls := 9, slots := #[.long (16)], vm := .none },
  { cls := 9, slots := #[.long (17)], vm := .none },
  { cls := 9, slots := #[.long (18)], vm := .none },
  { cls := 9, slots := #[.long (19)], vm := .none },
  { cls := 9, slots := #[.long (20)], vm := .none },
  { cls := 9, slots := #[.long (21)], vm := .none },
  { cls := 9, slots := #[.long (22)], vm := .none },
  { cls := 9, slots := #[.long (23)], vm := .none },
  { cls := 9, slots := #[.long (24)], vm := .none },
  { cls := 9, slots := #[.long (25)], vm := .none },
  { cls := 9, slots := #[.long (26)], vm := .none },
  { cls := 9, slots := #[.long (27)], vm := .none },
  { cls := 9, slots := #[.long (28)], vm := .none },
  { cls := 9, slots := #[.long (29)], vm := .none },
  { cls := 9, slots := #[.long (30)], vm := .none },
  { cls := 9, slots := #[.long (31)], vm := .none },
  { cls := 9, slots := #[.long (32)], vm := .none },
  { cls := 9, slots := #[.long (33)], vm := .none },
  { cls := 9, slots := #[.long (34)], vm := .none },
  { cls := 9, slots := #[.long (35)], vm := .none },
  { cls := 9, slots := #[.long (36)], vm := .none },
  { cls := 9, slots := #[.long (37)], vm := .none },
  { cls := 9, slots := #[.long (38)], vm := .none },
  { cls := 9, slots := #[.long (39)], vm := .none },
  { cls := 9, slots := #[.long (40)], vm := .none },
  { cls := 9, slots := #[.long (41)], vm := .none },
  { cls := 9, slots := #[.long (42)], vm := .none },
  { cls := 9, slots := #[.long (43)], vm := .none },
  { cls := 9, slots := #[.long (44)], vm := .none },
  { cls := 9, slots := #[.long (45)], vm := .none },
  { cls := 9, slots := #[.long (46)], vm := .none },
  { cls := 9, slots := #[.long (47)], vm := .none },
  { cls := 9, slots := #[.long (48)], vm := .none },
  { cls := 9, slots := #[.long (49)], vm := .none },
  { cls := 9, slots := #[.long (50)], vm := .none },
  { cls := 9, slots := #[.long (51)], vm := .none },
  { cls := 9, slots := #[.long (52)], vm := .none },
  { cls := 9, slots := #[.long (53)], vm := .none },
  { cls := 9, slots := #[.long (54)], vm := .none },
  { cls := 9, slots := #[.long (55)], vm := .none },
  { cls := 9, slots := #[.long (56)], vm := .none },
  { cls := 9, slots := #[.long (57)], vm := .none },
  { cls := 9, slots := #[.long (58)], vm := .none },
  { cls := 9, slots := #[.long (59)], vm := .none },
  { cls := 9, slots := #[.long (60)], vm := .none },
  { cls := 9, slots := #[.long (61)], vm := .none },
  { cls := 9, slots := #[.long (62)], vm := .none },
  { cls := 9, slots := #[.long (63)], vm := .none },
  { cls := 9, slots := #[.long (64)], vm := .none },
  { cls := 9, slots := #[.long (65)], vm := .none },
  { cls := 9, slots := #[.long (66)], vm := .none },
  { cls := 9, slots := #[.long (67)], vm := .none },
  { cls := 9, slots := #[.long (68)], vm := .none },
  { cls := 9, slots := #[.long (69)], vm := .none },
  { cls := 9, slots := #[.long (70)], vm := .none },
  { cls := 9, slots := #[.long (71)], vm := .none },
  { cls := 9, slots := #[.long (72)], vm := .none },
  { cls := 9, slots := #[.long (73)], vm := .none },
  { cls := 9, slots := #[.long (74)], vm := .none },
  { cls := 9, slots := #[.long (75)], vm := .none },
  { cls := 9, slots := #[.long (76)], vm := .none },
  { cls := 9, slots := #[.long (77)], vm := .none },
  { cls := 9, slots := #[.long (78)], vm := .none },
  { cls := 9, slots := #[.long (79)], vm := .none },
  { cls := 9, slots := #[.long (80)], vm := .none },
  { cls := 9, slots := #[.long (81)], vm := .none },
  { cls := 9, slots := #[.long (82)], vm := .none },
  { cls := 9, slots := #[.long (83)], vm := .none },
  { cls := 9, slots := #[.long (84)], vm := .none },
  { cls := 9, slots := #[.long (85)], vm := .none },
  { cls := 9, slots := #[.long (86)], vm := .none },
  { cls := 9, slots := #[.long (87)], vm := .none },
  { cls := 9, slots := #[.long (88)], vm := .none },
  { cls := 9, slots := #[.long (89)], vm := .none },
  { cls := 9, slots := #[.long (90)], vm := .none },
  { cls := 9, slots := #[.long (91)], vm := .none },
  { cls := 9, slots := #[.long (92)], vm := .none },
  { cls := 9, slots := #[.long (93)], vm := .none },
  { cls := 9, slots := #[.long (94)], vm := .none },
  { cls := 9, slots := #[.long (95)], vm := .none },
  { cls := 9, slots := #[.long (96)], vm := .none },
  { cls := 9, slots := #[.long (97)], vm := .none },
  { cls := 9, slots := #[.long (98)], vm := .none },
  { cls := 9, slots := #[.long (99)], vm := .none },
  { cls := 9, slots := #[.long (100)], vm := .none },
  { cls := 9, slots := #[.long (101)], vm := .none },
  { cls := 9, slots := #[.long (102)], vm := .none },
  { cls := 9, slots := #[.long (103)], vm := .none },
  { cls := 9, slots := #[.long (104)], vm := .none },
  { cls := 9, slots := #[.long (105)], vm := .none },
  { cls := 9, slots := #[.long (106)], vm := .none },
  { cls := 9, slots := #[.long (107)], vm := .none },
  { cls := 9, slots := #[.long (108)], vm := .none },
  { cls := 9, slots := #[.long (109)], vm := .none },
  { cls := 9, slots := #[.long (110)], vm := .none },
  { cls := 9, slots := #[.long (111)], vm := .none },
  { cls := 9, slots := #[.long (112)], vm := .none },
  { cls := 9, slots := #[.long (113)], vm := .none },
  { cls := 9, slots := #[.long (114)], vm := .none },
  { cls := 9, slots := #[.long (115)], vm := .none },
  { cls := 9, slots := #[.long (116)], vm := .none },
  { cls := 9, slots := #[.long (117)], vm := .none },
  { cls := 9, slots := #[.long (118)], vm := .none },
  { cls := 9, slots := #[.long (119)], vm := .none },
  { cls := 9, slots := #[.long (120)], vm := .none },
  { cls := 9, slots := #[.long (121)], vm := .none },
  { cls := 9, slots := #[.long (122)], vm := .none },
  { cls := 9, slots := #[.long (123)], vm := .none },
  { cls := 9, slots := #[.long (124)], vm := .none },
  { cls := 9, slots := #[.long (125)], vm := .none },
  { cls := 9, slots := #[.long (126)], vm := .none },
  { cls := 9, slots := #[.long (127)], vm := .none }]
def classes : Array Class := #[k0, k1, k2, k3, k4, k5, k6, k7, k8, k9, k10, k11, k12, k13, k14, k15, k16]
def interned : List (Array UInt16 × Addr) := []
def slotsUsed : Nat := 515
def theMethod : MethodId := ⟨1, 1⟩
def args0 : Array Value := #[.long 1000, .int 2, .long 3, .int 4, .int 5]
def aboutOver (below : List Frame) : State where
  vm := { classes := classes, interned := interned.toArray }
  heap := heap
  slotsUsed := slotsUsed
  threads := #[{ frames := .invoking theMethod args0 :: below }]
def below0 : List Frame := [.native { method := ⟨0, 0⟩, args := #[] }]
def about1 : State := aboutOver below0
def p0 : Program := .bare "" "" ""
def e0 : Env := launch0.env 0 0 0
theorem w_frames : about1.frames = Frame.invoking theMethod args0 :: below0 := rfl
set_option maxRecDepth 65536 in
theorem w_args : argsFit about1.vm theMethod args0 = true := by decide +kernel
set_option maxRecDepth 65536 in
theorem w_heap : heapFits about1 = true := by decide +kernel
set_option maxRecDepth 65536 in
theorem w_runnable : about1.curStatus? = some .runnable := by decide +kernel
set_option maxRecDepth 65536 in
theorem w_alone : about1.alone = true := by decide +kernel
set_option maxRecDepth 65536 in
theorem w_named : about1.methodNamed? x = some theMethod := by decide +kernel
set_option maxRecDepth 65536 in
theorem w_hears : about1.hears theMethod below0 = true := by decide +kernel
set_option maxRecDepth 65536 in
theorem w_ripe : about1.ripe theMethod args0 below0 = true := by decide +kernel
theorem w_running : about1.status = .running := rfl
set_option maxRecDepth 65536 in
theorem w_room : about1.hasRoom e0.platform room_1 = true :=
  launch0.hasRoom_least _ room_1 (by decide +kernel) (by decide +kernel) (by decide +kernel) (by decide +kernel) (by decide +kernel) (by decide +kernel)
theorem allAtoms_all (ts : List Jvm.Cond) (a : Array Jvm.Value) (st : Jvm.State) : (allAtoms ts).before a st = ts.all (fun c => c.before a st) := by
  induction ts with
  | nil => rfl
  | cons c t ih =>
    show (Jvm.Cond.and c (allAtoms t)).before a st = _
    rw [Jvm.Cond.before_and, ih, List.all_cons]
def words1 : List Jvm.Cond := Jvm.Cond.code x code maxLocals ret :: tables_1
/-- a 'code' word, met by the world's own term for the bytes: nothing is compared byte by byte -/
theorem code_word {y : MethodName} {bytes : ByteArray} {mx : Nat} {rt : Option FieldType} {a : Array Value} {s : State} {m : MethodId} {meth : Method} {c : Code} (h1 : s.methodNamed? y = some m) (h2 : s.vm.method? m = some meth) (h3 : meth.code = some c) (h4 : c.code = bytes)
    (h5 : (c.maxLocals == mx && c.exceptionTable.isEmpty && decide (c.maxStack ≤ mostOperands) && decide (meth.sig.returnType = rt) && !meth.locks && decide (parseMethodDescriptor y.desc = some meth.sig)) = true) : (Jvm.Cond.code y bytes mx rt).before a s = true := by
  simp only [Bool.and_eq_true, beq_iff_eq, Bool.not_eq_true', decide_eq_true_eq] at h5
  obtain ⟨⟨⟨⟨⟨g1, g2⟩, g3⟩, g4⟩, g5⟩, g6⟩ := h5
  simp [Cond.before, Cond.holds, Cond.value, h1, h2, h3, h4, g1, g2, g3, g4, g5, g6]
def isCode : Jvm.Cond → Bool
  | .code _ _ _ _ => true
  | _ => false
theorem all_split {L : List Jvm.Cond} {P : Jvm.Cond → Bool} (h1 : L.all (fun c => isCode c || P c) = true) (h2 : ∀ c ∈ L.filter isCode, P c = true) : L.all P = true := by
  refine List.all_eq_true.mpr fun c hc => ?_
  have h := List.all_eq_true.mp h1 c hc
  rcases Bool.eq_false_or_eq_true (isCode c) with hi | hi
  · exact h2 c (List.mem_filter.mpr ⟨hc, hi⟩)
  · simpa [hi] using h
set_option maxRecDepth 65536 in
theorem w_c0 : (Jvm.Cond.code x code maxLocals ret).before args0 about1 = true := code_word (m := ⟨1, 1⟩) (meth := k1m1) (c := k1c1) (by decide +kernel) rfl rfl rfl (by decide +kernel)
set_option maxRecDepth 65536 in
theorem w_c1 : (Jvm.Cond.code ({ cls := "com/example/sluice/sluice/checkpoint/CheckpointNames$ChainFile", name := "<init>", desc := "(JIZ)V" } : Jvm.MethodName) prog_55_method_1_code (5 : Nat) (Option.none : Option Jvm.ClassFile.FieldType)).before args0 about1 = true := code_word (m := ⟨3, 0⟩) (meth := k3m0) (c := k3c0) (by decide +kernel) rfl rfl rfl (by decide +kernel)
set_option maxRecDepth 65536 in
theorem w_c2 : (Jvm.Cond.code ({ cls := "java/lang/Record", name := "<init>", desc := "()V" } : Jvm.MethodName) jdk_30_method_1_code (1 : Nat) (Option.none : Option Jvm.ClassFile.FieldType)).before args0 about1 = true := code_word (m := ⟨2, 0⟩) (meth := k2m0) (c := k2c0) (by decide +kernel) rfl rfl rfl (by decide +kernel)
set_option maxRecDepth 65536 in
theorem w_c3 : (Jvm.Cond.code ({ cls := "java/lang/Object", name := "<init>", desc := "()V" } : Jvm.MethodName) object_method_1_code (1 : Nat) (Option.none : Option Jvm.ClassFile.FieldType)).before args0 about1 = true := code_word (m := ⟨0, 0⟩) (meth := k0m0) (c := k0c0) (by decide +kernel) rfl rfl rfl (by decide +kernel)
set_option maxRecDepth 65536 in
theorem w_c4 : (Jvm.Cond.code ({ cls := "com/example/sluice/sluice/checkpoint/CheckpointNames$ChainFile", name := "equals", desc := "(Ljava/lang/Object;)Z" } : Jvm.MethodName) prog_55_method_3_code (3 : Nat) (Option.some Jvm.ClassFile.FieldType.boolean)).before args0 about1 = true := code_word (m := ⟨3, 1⟩) (meth := k3m1) (c := k3c1) (by decide +kernel) rfl rfl rfl (by decide +kernel)
set_option maxRecDepth 65536 in
theorem w_c5 : (Jvm.Cond.code ({ cls := "java/lang/Long", name := "valueOf", desc := "(J)Ljava/lang/Long;" } : Jvm.MethodName) jdk_35_method_24_code (3 : Nat) (Option.some (Jvm.ClassFile.FieldType.object "java/lang/Long"))).before args0 about1 = true := code_word (m := ⟨9, 0⟩) (meth := k9m0) (c := k9c0) (by decide +kernel) rfl rfl rfl (by decide +kernel)
set_option maxRecDepth 65536 in
theorem w_c6 : (Jvm.Cond.code ({ cls := "java/lang/Long", name := "<init>", desc := "(J)V" } : Jvm.MethodName) jdk_35_method_26_code (3 : Nat) (Option.none : Option Jvm.ClassFile.FieldType)).before args0 about1 = true := code_word (m := ⟨9, 1⟩) (meth := k9m1) (c := k9c1) (by decide +kernel) rfl rfl rfl (by decide +kernel)
set_option maxRecDepth 65536 in
theorem w_c7 : (Jvm.Cond.code ({ cls := "java/lang/Number", name := "<init>", desc := "()V" } : Jvm.MethodName) jdk_18_method_1_code (1 : Nat) (Option.none : Option Jvm.ClassFile.FieldType)).before args0 about1 = true := code_word (m := ⟨5, 0⟩) (meth := k5m0) (c := k5c0) (by decide +kernel) rfl rfl rfl (by decide +kernel)
def codes1 : List Jvm.Cond := [Jvm.Cond.code x code maxLocals ret, Jvm.Cond.code ({ cls := "com/example/sluice/sluice/checkpoint/CheckpointNames$ChainFile", name := "<init>", desc := "(JIZ)V" } : Jvm.MethodName) prog_55_method_1_code (5 : Nat) (Option.none : Option Jvm.ClassFile.FieldType), Jvm.Cond.code ({ cls := "java/lang/Record", name := "<init>", desc := "()V" } : Jvm.MethodName) jdk_30_method_1_code (1 : Nat) (Option.none : Option Jvm.ClassFile.FieldType), Jvm.Cond.code ({ cls := "java/lang/Object", name := "<init>", desc := "()V" } : Jvm.MethodName) object_method_1_code (1 : Nat) (Option.none : Option Jvm.ClassFile.FieldType), Jvm.Cond.code ({ cls := "com/example/sluice/sluice/checkpoint/CheckpointNames$ChainFile", name := "equals", desc := "(Ljava/lang/Object;)Z" } : Jvm.MethodName) prog_55_method_3_code (3 : Nat) (Option.some Jvm.ClassFile.FieldType.boolean), Jvm.Cond.code ({ cls := "java/lang/Long", name := "valueOf", desc := "(J)Ljava/lang/Long;" } : Jvm.MethodName) jdk_35_method_24_code (3 : Nat) (Option.some (Jvm.ClassFile.FieldType.object "java/lang/Long")), Jvm.Cond.code ({ cls := "java/lang/Long", name := "<init>", desc := "(J)V" } : Jvm.MethodName) jdk_35_method_26_code (3 : Nat) (Option.none : Option Jvm.ClassFile.FieldType), Jvm.Cond.code ({ cls := "java/lang/Number", name := "<init>", desc := "()V" } : Jvm.MethodName) jdk_18_method_1_code (1 : Nat) (Option.none : Option Jvm.ClassFile.FieldType)]
set_option maxRecDepth 65536 in
theorem codes_eq : words1.filter isCode = codes1 := rfl
theorem w_codes : ∀ c ∈ words1.filter isCode, c.before args0 about1 = true := by
  rw [codes_eq]
  intro c hc
  simp only [codes1, List.mem_cons, List.not_mem_nil, or_false] at hc
  rcases hc with rfl | rfl | rfl | rfl | rfl | rfl | rfl | rfl
  · exact w_c0
  · exact w_c1
  · exact w_c2
  · exact w_c3
  · exact w_c4
  · exact w_c5
  · exact w_c6
  · exact w_c7
set_option maxRecDepth 65536 in
theorem w_t1 : (words1.take 24).all (fun c => isCode c || c.before args0 about1) = true := by decide +kernel
set_option maxRecDepth 65536 in
theorem w_t2 : ((words1.drop 24).take 24).all (fun c => isCode c || c.before args0 about1) = true := by decide +kernel
set_option maxRecDepth 65536 in
theorem w_t3 : ((words1.drop 24).drop 24).all (fun c => isCode c || c.before args0 about1) = true := by decide +kernel
theorem w_tables : (allAtoms (Jvm.Cond.code x code maxLocals ret :: tables_1)).before args0 about1 = true := by
  rw [allAtoms_all]
  show words1.all (fun c => c.before args0 about1) = true
  refine all_split ?_ w_codes
  rw [← List.take_append_drop 24 words1, List.all_append, w_t1, ← List.take_append_drop 24 (words1.drop 24), List.all_append, w_t2, w_t3]
  rfl
set_option maxRecDepth 65536 in
theorem w_rest : rest_1_c.before args0 about1 = true := by decide +kernel
set_option maxRecDepth 65536 in
theorem w_case : (Jvm.Cond.and given_1 narrow_1).before args0 about1 = true := by decide +kernel
theorem w_applies : (headSpec (Jvm.Cond.code x code maxLocals ret :: tables_1) room_1).applies x e0.platform about1 = true :=
  (Spec.applies_iff w_frames).mpr ⟨w_running, w_runnable, w_alone, w_named, w_hears, w_ripe, w_room, w_tables⟩
theorem atStart : AtStart classFile x code maxLocals ret World_1 tables_1 room_1 Calls_1 rest_1 Pre_1 launch0 p0 e0 about1 theMethod args0 below0 :=
  ⟨lists_1, trivial, launch0.admits_env _ _ _, launch0.least_env, fairChoices_fair.cas, fairChoices_fair.clock, w_frames, w_args, w_heap, w_applies, trivial, w_rest, w_case⟩
end start1
theorem witness_1 : WitnessClaimed_1 := ⟨start1.p0, start1.e0, start1.about1, start1.theMethod, start1.args0, start1.below0, start1.atStart⟩
end Jvm.Pilot.@@N@@
