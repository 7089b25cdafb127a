import JvmDerived
import JvmDerived.Pilot.@@N@@Statement
import JvmDerived.Pilot.@@N@@Code
set_option linter.unusedVariables false
set_option linter.unusedSimpArgs false
namespace Jvm.Pilot.@@N@@
open Jvm Jvm.ClassFile Sem Op Lib Jvm.Free Jvm.Stand Jvm.LawKit Jvm.RoadKit Bundle Jvm.Pilot.@@N@@.Jvm.D
def own_bi (P : Prop) [Decidable P] : Int32 := if P then 1 else 0
theorem own_bi_t {P : Prop} [Decidable P] (h : P) : own_bi P = 1 := if_pos h
theorem own_bi_f {P : Prop} [Decidable P] (h : ¬ P) : own_bi P = 0 := if_neg h
theorem own_bi_01 (P : Prop) [Decidable P] : own_bi P = 0 ∨ own_bi P = 1 := by by_cases h : P <;> simp [own_bi, h]
theorem own_bi_eq {P Q : Prop} [Decidable P] [Decidable Q] (h : P ↔ Q) : own_bi P = own_bi Q := by by_cases q : P <;> simp [own_bi, q, ← h]
theorem own_bi_iff (P : Prop) [Decidable P] : own_bi P = 1 ↔ P := by by_cases q : P <;> simp [own_bi, q]
theorem own_bi_ne (P : Prop) [Decidable P] : own_bi P = 0 ↔ ¬ P := by by_cases q : P <;> simp [own_bi, q]
theorem own_ofNat {n : Nat} (h : n < 2147483648) : (Int32.ofNat n).toInt = (n : Int) := len_toInt h
theorem own_narZ {z : Int32} (h : z = 0 ∨ z = 1) : narrow .boolean (.int z) = .int z := by rcases h with rfl | rfl <;> rfl
theorem own_selp {s : State} {args : Array Value} {C : String} {y z : MethodName} (h : (Jvm.Cond.selects C z z).before args s = true) (e : z.cls = y.cls) (hpriv : s.PrivateAt y) (hinst : (Jvm.Cond.instanceMethod y).before args s = true) (hy : y.cls ≠ "java/lang/invoke/MethodHandle" ∧ y.cls ≠ "java/lang/invoke/VarHandle") : (Jvm.Cond.selects y.cls y y).before args s = true := by
  obtain ⟨c, r, m, h1, h2, h3, h4, k, h5, h6⟩ := Cond.selects_spec h
  exact selects_self_of_private (e ▸ findClass_of_methodNamed h3) h5 h6 hpriv hinst hy
theorem own_eqI {args : Array Value} {s : State} {t : Term} {n : Int32} (h : (Jvm.Cond.eq t (Term.int n)).value args s none s [] = some true) : t.eval args s none [] s = some (.int n) := by
  obtain ⟨x, y, hx, hy, k1, k2⟩ := cmp_v (Or.inl h)
  cases Option.some.inj (hy.symm.trans (show (Term.int n).eval args s none [] s = some (.int n) from rfl))
  obtain ⟨z, rfl⟩ := k2
  have q : z = n := by simpa [Cond.value, hx, hy] using h
  rw [hx, q]
theorem own_eqJ {args : Array Value} {s : State} {t : Term} {n : Int64} (h : (Jvm.Cond.eq t (Term.long n)).value args s none s [] = some true) : t.eval args s none [] s = some (.long n) := by
  obtain ⟨x, y, hx, hy, k1, k2⟩ := cmp_v (Or.inl h)
  cases Option.some.inj (hy.symm.trans (show (Term.long n).eval args s none [] s = some (.long n) from rfl))
  obtain ⟨z, rfl⟩ := k2
  have q : z = n := by simpa [Cond.value, hx, hy] using h
  rw [hx, q]
theorem own_mask (v m : Int64) (k : Nat) (hk : k ≤ 63) (hm : m.toBitVec.toNat = 2 ^ k - 1) (hm' : m.toInt = (2 ^ k : Nat) - 1) : (¬ v < 0 ∧ ¬ m < v) ↔ (v &&& m) = v := by
  have q := c_maskL v m k hk hm
  rw [Int64.lt_iff_toInt_lt, Int64.lt_iff_toInt_lt, ← Int64.toInt_inj, q, hm']
  have e : (0 : Int64).toInt = 0 := rfl
  rw [e]
  have hp : 0 < ((2 ^ k : Nat) : Int) := by have := Nat.two_pow_pos k; omega
  generalize ((2 ^ k : Nat) : Int) = P at *
  constructor
  · rintro ⟨h1, h2⟩; exact Int.emod_eq_of_lt (by omega) (by omega)
  · intro h
    have a := Int.emod_nonneg v.toInt (show P ≠ 0 by omega)
    have b := Int.emod_lt_of_pos v.toInt hp
    omega
theorem own_i8 (v : Int64) : (¬ v < -128 ∧ ¬ 127 < v) ↔ v.toInt32.toInt8.toInt32.toInt64 = v := by
  rw [Int64.lt_iff_toInt_lt, Int64.lt_iff_toInt_lt, ← Int64.toInt_inj, c_i2l]
  have q1 := c_l2i v
  have q2 := c_i2b v.toInt32
  have e1 : (-128 : Int64).toInt = -128 := rfl
  have e2 : (127 : Int64).toInt = 127 := rfl
  rw [e1, e2]
  omega
theorem own_i16 (v : Int64) : (¬ v < -32768 ∧ ¬ 32767 < v) ↔ v.toInt32.toInt16.toInt32.toInt64 = v := by
  rw [Int64.lt_iff_toInt_lt, Int64.lt_iff_toInt_lt, ← Int64.toInt_inj, c_i2l]
  have q1 := c_l2i v
  have q2 := c_i2s v.toInt32
  have e1 : (-32768 : Int64).toInt = -32768 := rfl
  have e2 : (32767 : Int64).toInt = 32767 := rfl
  rw [e1, e2]
  omega
theorem own_i32 (v : Int64) : (¬ v < -2147483648 ∧ ¬ 2147483647 < v) ↔ v.toInt32.toInt64 = v := by
  rw [Int64.lt_iff_toInt_lt, Int64.lt_iff_toInt_lt, ← Int64.toInt_inj, c_i2l]
  have q1 := c_l2i v
  have q2 := rng32 v.toInt32
  have e1 : (-2147483648 : Int64).toInt = -2147483648 := rfl
  have e2 : (2147483647 : Int64).toInt = 2147483647 := rfl
  rw [e1, e2]
  omega
theorem own_fin {P Q : Prop} [Decidable P] [Decidable Q] {b ex : Int32} {n : Int32} (hn : ¬ n = 64) (hx : ex = own_bi Q) (h : P ↔ Q) : own_bi (n = 64 ∨ P) = ex := by
  rw [hx]; exact own_bi_eq ⟨fun q => h.mp (q.resolve_left hn), fun q => Or.inr (h.mpr q)⟩
theorem pn_2 : plainName "com/example/byteweave/byteweave/schema/ScalarType" = true := by first | (simp [plainName, overriddenIn]; done) | decide +kernel
theorem d2_0 : decode prog_24_method_11_code 0 = .ok (.aload_n 0, 1) := by decide +kernel
theorem d2_1 : decode prog_24_method_11_code 1 = .ok (.getfield 72, 3) := by decide +kernel
theorem d2_4 : decode prog_24_method_11_code 4 = .ok (.ifCond .ne 20, 3) := by decide +kernel
theorem d2_24 : decode prog_24_method_11_code 24 = .ok (.return_, 1) := by decide +kernel
theorem ef_2 (m : MethodId) (a1 : Addr) : entryFrame m #[(.ref a1)] 1 = mkF m 0 #[.val (.ref a1)] [] := by first | (simp [entryFrame, mkF, argsToLocals, Value.category]; done) | rfl
def Q2 (Z : State) (a1 : Addr) (q1 : Int32) (q2 : Int64) (q3 : Int64) (h0 : Heap) (n0 : Nat) (v : Option Value) (h : Heap) (L : List Loc) : Prop := v = none ∧ Fr n0 L ∧ h = h0
set_option maxRecDepth 65536 in
set_option maxHeartbeats 40000000 in
theorem rm2 (l : Launch) (Z : State) (a0 : Array Value) (hw : ∀ d ∈ tables_1, d.before a0 Z = true) (ws : List Jvm.Cond) (a1 : Addr) (q1 : Int32) (q2 : Int64) (q3 : Int64) (h0 : Heap) (n0 : Nat) (Z0 : n0 ≤ h0.size) (F1 : Fld Z h0 a1 "com/example/byteweave/byteweave/schema/ScalarType" "bits" "I" (.int q1)) (F2 : Fld Z h0 a1 "com/example/byteweave/byteweave/schema/ScalarType" "least" "J" (.long q2)) (F3 : Fld Z h0 a1 "com/example/byteweave/byteweave/schema/ScalarType" "most" "J" (.long q3)) (nz : ¬ q1 = 0) :
    MetFree l (⟨"com/example/byteweave/byteweave/schema/ScalarType", "requireInteger", "()V"⟩ : MethodName) (head1 (Jvm.Cond.code (⟨"com/example/byteweave/byteweave/schema/ScalarType", "requireInteger", "()V"⟩ : MethodName) prog_24_method_11_code 1 none :: ws) ({ frames := 0, cells := 0, slots := 0, locals := 0 } : Room)) (fun a U => a = #[(.ref a1)] ∧ Z.Warmed39 U.vm ∧ U.heap = h0) (fun _ _ _ _ _ => True) (fun _ U o U' => ∃ v L, o = .returned v ∧ Q2 Z a1 q1 q2 q3 h0 n0 v U'.heap L ∧ FrameEnd U o U' L ({ frames := 0, cells := 0, slots := 0, locals := 0 } : Room).cells ({ frames := 0, cells := 0, slots := 0, locals := 0 } : Room).slots) := by
  refine MetFree.of_bodySF (plainFor_of_name pn_2) hisR ?_
  intro p e s m args below meth c s₁ Bd hml0 hP hK
  obtain ⟨rfl, hZ, hh⟩ := hP
  have hx := Bd.exec
  have hby := Bd.bytes
  have hml : c.maxLocals = 1 := hml0
  have hown : s.vm.findClass "com/example/byteweave/byteweave/schema/ScalarType" = some m.cls := findClass_of_methodNamed Bd.named
  have hnm := (name_of_methodNamed Bd.named Bd.method).1
  have X0 : Stand p l e ({ frames := 0, cells := 0, slots := 0, locals := 0 } : Room) s m #[(.ref a1)] below meth c s₁ [] 0 0 := Stand.of_body Bd
  have e0 : s₁.heap = h0 := by rw [← hh, Bd.state]; rfl
  have N0 := Fr.nil n0
  have pre0 : ∀ t, Steps p.tables e below (s₁.setTop (mkF m 0 #[.val (.ref a1)] [])) t → Steps p.tables e below (s₁.setTop (entryFrame m #[(.ref a1)] 1)) t := fun t k => castTop (ef_2 m a1) k
  have pre1 : ∀ t, Steps p.tables e below (s₁.setTop (mkF m 1 #[.val (.ref a1)] [(.ref a1)])) t → Steps p.tables e below (s₁.setTop (entryFrame m #[(.ref a1)] 1)) t := by
    intro t k
    refine pre0 t ?_
    refine XS.aloadN X0.here hx rfl (hb hby d2_0) rfl rfl ?_
    show Steps p.tables e below (s₁.setTop (mkF m 1 #[.val (.ref a1)] [(.ref a1)])) _
    exact k
  obtain ⟨T2, X2, e2, st2⟩ := getF X0 hx hZ hown (host := "") (Or.inl (hw _ (List.mem_of_getElem? (i := 13) rfl))) Via.refl e0 F1 (g := (mkF m 1 #[.val (.ref a1)] [(.ref a1)])) rfl rfl (hb hby d2_1)
  have pre3 : ∀ t, Steps p.tables e below (T2.setTop (mkF m 4 #[.val (.ref a1)] [(.int q1)])) t → Steps p.tables e below (s₁.setTop (entryFrame m #[(.ref a1)] 1)) t := fun t k => pre1 t (st2 t k)
  have pre4 : ∀ t, Steps p.tables e below (T2.setTop (mkF m 24 #[.val (.ref a1)] [])) t → Steps p.tables e below (s₁.setTop (entryFrame m #[(.ref a1)] 1)) t := by
    intro t k
    refine pre3 t ?_
    refine XS.ifYes X2.here hx rfl (pc0 := 4) (pc' := 24) rfl (hb hby d2_4) rfl (XT.i0_ne_t nz) (by decide) (by decide) ?_
    show Steps p.tables e below (T2.setTop (mkF m 24 #[.val (.ref a1)] [])) _
    exact k
  obtain ⟨fs, hr, hrun, hended, hW, hsame⟩ := X2.leave (v := none) (fun _ => rfl)
  refine ⟨_, _, pre4 _ ?_, hrun, hended, _, _, rfl, ?_, ⟨_, rfl⟩, hW, hsame.mono (by decide) (by decide)⟩
  · exact X2.returnOut hx Bd.returns (hb hby d2_24) hr
  · show Q2 Z a1 q1 q2 q3 h0 n0 _ T2.heap _
    rw [e2]
    exact ⟨rfl, N0, rfl⟩
theorem pd_req : parseMethodDescriptor "()V" = some ⟨[], none⟩ := by decide +kernel
theorem pn_1 : plainName "com/example/byteweave/byteweave/schema/ScalarType" = true := by first | (simp [plainName, overriddenIn]; done) | decide +kernel
theorem d1_0 : decode prog_24_method_6_code 0 = .ok (.aload_n 0, 1) := by decide +kernel
theorem d1_1 : decode prog_24_method_6_code 1 = .ok (.invokevirtual 138, 3) := by decide +kernel
theorem d1_4 : decode prog_24_method_6_code 4 = .ok (.aload_n 0, 1) := by decide +kernel
theorem d1_5 : decode prog_24_method_6_code 5 = .ok (.getfield 72, 3) := by decide +kernel
theorem d1_8 : decode prog_24_method_6_code 8 = .ok (.bipush 64, 2) := by decide +kernel
theorem d1_10 : decode prog_24_method_6_code 10 = .ok (.if_icmp .ne 5, 3) := by decide +kernel
theorem d1_13 : decode prog_24_method_6_code 13 = .ok (.iconst 1, 1) := by decide +kernel
theorem d1_14 : decode prog_24_method_6_code 14 = .ok (.ireturn, 1) := by decide +kernel
theorem d1_15 : decode prog_24_method_6_code 15 = .ok (.lload_n 1, 1) := by decide +kernel
theorem d1_16 : decode prog_24_method_6_code 16 = .ok (.aload_n 0, 1) := by decide +kernel
theorem d1_17 : decode prog_24_method_6_code 17 = .ok (.getfield 107, 3) := by decide +kernel
theorem d1_20 : decode prog_24_method_6_code 20 = .ok (.lcmp, 1) := by decide +kernel
theorem d1_21 : decode prog_24_method_6_code 21 = .ok (.ifCond .lt 16, 3) := by decide +kernel
theorem d1_24 : decode prog_24_method_6_code 24 = .ok (.lload_n 1, 1) := by decide +kernel
theorem d1_25 : decode prog_24_method_6_code 25 = .ok (.aload_n 0, 1) := by decide +kernel
theorem d1_26 : decode prog_24_method_6_code 26 = .ok (.getfield 111, 3) := by decide +kernel
theorem d1_29 : decode prog_24_method_6_code 29 = .ok (.lcmp, 1) := by decide +kernel
theorem d1_30 : decode prog_24_method_6_code 30 = .ok (.ifCond .gt 7, 3) := by decide +kernel
theorem d1_33 : decode prog_24_method_6_code 33 = .ok (.iconst 1, 1) := by decide +kernel
theorem d1_34 : decode prog_24_method_6_code 34 = .ok (.goto 4, 3) := by decide +kernel
theorem d1_37 : decode prog_24_method_6_code 37 = .ok (.iconst 0, 1) := by decide +kernel
theorem d1_38 : decode prog_24_method_6_code 38 = .ok (.ireturn, 1) := by decide +kernel
theorem ef_1 (m : MethodId) (a1 : Addr) (p1 : Int64) : entryFrame m #[(.ref a1), (.long p1)] 3 = mkF m 0 #[.val (.ref a1), .val (.long p1), .second] [] := by first | (simp [entryFrame, mkF, argsToLocals, Value.category]; done) | rfl
def Q1 (Z : State) (a1 : Addr) (p1 : Int64) (q1 : Int32) (q2 : Int64) (q3 : Int64) (h0 : Heap) (n0 : Nat) (v : Option Value) (h : Heap) (L : List Loc) : Prop := v = some (.int (own_bi (q1 = 64 ∨ (¬ p1 < q2 ∧ ¬ q3 < p1)))) ∧ Fr n0 L ∧ h = h0
set_option maxRecDepth 65536 in
set_option maxHeartbeats 40000000 in
theorem rm1 (l : Launch) (Z : State) (a0 : Array Value) (hw : ∀ d ∈ tables_1, d.before a0 Z = true) (ws : List Jvm.Cond) (a1 : Addr) (p1 : Int64) (q1 : Int32) (q2 : Int64) (q3 : Int64) (h0 : Heap) (n0 : Nat) (Z0 : n0 ≤ h0.size) (E1 : Exa Z h0 a1 "com/example/byteweave/byteweave/schema/ScalarType") (F1 : Fld Z h0 a1 "com/example/byteweave/byteweave/schema/ScalarType" "bits" "I" (.int q1)) (F2 : Fld Z h0 a1 "com/example/byteweave/byteweave/schema/ScalarType" "least" "J" (.long q2)) (F3 : Fld Z h0 a1 "com/example/byteweave/byteweave/schema/ScalarType" "most" "J" (.long q3)) (nz : ¬ q1 = 0) :
    MetFree l (⟨"com/example/byteweave/byteweave/schema/ScalarType", "holds", "(J)Z"⟩ : MethodName) (head1 (Jvm.Cond.code (⟨"com/example/byteweave/byteweave/schema/ScalarType", "holds", "(J)Z"⟩ : MethodName) prog_24_method_6_code 3 (some .boolean) :: ws) ({ frames := 1, cells := 0, slots := 0, locals := 12 } : Room)) (fun a U => a = #[(.ref a1), (.long p1)] ∧ Z.Warmed39 U.vm ∧ U.heap = h0) (fun _ _ _ _ _ => True) (fun _ U o U' => ∃ v L, o = .returned v ∧ Q1 Z a1 p1 q1 q2 q3 h0 n0 v U'.heap L ∧ FrameEnd U o U' L ({ frames := 1, cells := 0, slots := 0, locals := 12 } : Room).cells ({ frames := 1, cells := 0, slots := 0, locals := 12 } : Room).slots) := by
  refine MetFree.of_bodySF (plainFor_of_name pn_1) hisR ?_
  intro p e s m args below meth c s₁ Bd hml0 hP hK
  obtain ⟨rfl, hZ, hh⟩ := hP
  have hx := Bd.exec
  have hby := Bd.bytes
  have hml : c.maxLocals = 3 := hml0
  have hown : s.vm.findClass "com/example/byteweave/byteweave/schema/ScalarType" = some m.cls := findClass_of_methodNamed Bd.named
  have hnm := (name_of_methodNamed Bd.named Bd.method).1
  have X0 : Stand p l e ({ frames := 1, cells := 0, slots := 0, locals := 12 } : Room) s m #[(.ref a1), (.long p1)] below meth c s₁ [] 0 0 := Stand.of_body Bd
  have e0 : s₁.heap = h0 := by rw [← hh, Bd.state]; rfl
  have N0 := Fr.nil n0
  have pre0 : ∀ t, Steps p.tables e below (s₁.setTop (mkF m 0 #[.val (.ref a1), .val (.long p1), .second] [])) t → Steps p.tables e below (s₁.setTop (entryFrame m #[(.ref a1), (.long p1)] 3)) t := fun t k => castTop (ef_1 m a1 p1) k
  have pre2 : ∀ t, Steps p.tables e below (s₁.setTop (mkF m 1 #[.val (.ref a1), .val (.long p1), .second] [(.ref a1)])) t → Steps p.tables e below (s₁.setTop (entryFrame m #[(.ref a1), (.long p1)] 3)) t := by
    intro t k
    refine pre0 t ?_
    refine XS.aloadN X0.here hx rfl (hb hby d1_0) rfl rfl ?_
    show Steps p.tables e below (s₁.setTop (mkF m 1 #[.val (.ref a1), .val (.long p1), .second] [(.ref a1)])) _
    exact k
  obtain ⟨cq3, hce3, hob3⟩ := E1.cell
  obtain ⟨_, _, ⟨T3, L3, k3, n3⟩, -, X3, ⟨Lc3, hQ3, l3, y3, z3⟩, st3⟩ := X0.privateBack hx (y := (⟨"com/example/byteweave/byteweave/schema/ScalarType", "requireInteger", "()V"⟩ : MethodName)) hown (mvT hZ (hw _ (List.mem_of_getElem? (i := 9) rfl))) (mvT hZ (hw _ (List.mem_of_getElem? (i := 10) rfl))) (own_selp (mvT hZ (hw _ (List.mem_of_getElem? (i := 7) rfl))) rfl (Cond.privateMethod_at (mvP hZ (hw _ (List.mem_of_getElem? (i := 11) rfl)) (args := #[]))) (mvT hZ (hw _ (List.mem_of_getElem? (i := 10) rfl))) (by decide)) (Cond.privateMethod_at (mvP hZ (hw _ (List.mem_of_getElem? (i := 11) rfl)) (args := #[]))) (mvT hZ (hw _ (List.mem_of_getElem? (i := 12) rfl))) (by decide) (backOf (W := 0) (rm2 l Z a0 hw [] a1 q1 q2 q3 h0 n0 Z0 F1 F2 F3 nz) hZ (hw _ (List.mem_of_getElem? (i := 12) rfl)) (hw _ (List.mem_of_getElem? (i := 1) rfl)) (by decide) (by decide)) (g := (mkF m 1 #[.val (.ref a1), .val (.long p1), .second] [(.ref a1)])) rfl (by rw [hml]; rfl) (Steps.refl _) (a := a1) (by rw [e0]; exact hce3) hob3 (argsL := []) (rest := []) (lenOf pd_req rfl) rfl (by show 2 * 0 + _ ≤ _; exact Nat.le_of_eq rfl) (hb hby d1_1) (fun _ _ => ⟨rfl, e0, (by decide : 0 + 0 ≤ _), (by decide : 0 + 0 ≤ _)⟩)
  dsimp only [Pt.U, Pt.locs, Pt.cells, Pt.slots] at X3 l3 y3 z3 st3 hQ3
  subst l3 y3 z3
  obtain ⟨rfl, Nq3, heq3⟩ := hQ3
  have N3 := Fr.app N0 Nq3
  have pre4 : ∀ t, Steps p.tables e below (T3.setTop (mkF m 4 #[.val (.ref a1), .val (.long p1), .second] [])) t → Steps p.tables e below (s₁.setTop (entryFrame m #[(.ref a1), (.long p1)] 3)) t := fun t k => pre2 t (st3.trans k)
  have pre5 : ∀ t, Steps p.tables e below (T3.setTop (mkF m 5 #[.val (.ref a1), .val (.long p1), .second] [(.ref a1)])) t → Steps p.tables e below (s₁.setTop (entryFrame m #[(.ref a1), (.long p1)] 3)) t := by
    intro t k
    refine pre4 t ?_
    refine XS.aloadN X3.here hx rfl (hb hby d1_4) rfl rfl ?_
    show Steps p.tables e below (T3.setTop (mkF m 5 #[.val (.ref a1), .val (.long p1), .second] [(.ref a1)])) _
    exact k
  obtain ⟨T6, X6, e6, st6⟩ := getF X3 hx hZ hown (host := "") (Or.inl (hw _ (List.mem_of_getElem? (i := 13) rfl))) Via.refl heq3 F1 (g := (mkF m 5 #[.val (.ref a1), .val (.long p1), .second] [(.ref a1)])) rfl rfl (hb hby d1_5)
  have pre7 : ∀ t, Steps p.tables e below (T6.setTop (mkF m 8 #[.val (.ref a1), .val (.long p1), .second] [(.int q1)])) t → Steps p.tables e below (s₁.setTop (entryFrame m #[(.ref a1), (.long p1)] 3)) t := fun t k => pre5 t (st6 t k)
  have pre8 : ∀ t, Steps p.tables e below (T6.setTop (mkF m 10 #[.val (.ref a1), .val (.long p1), .second] [(.int (64 : Int32)), (.int q1)])) t → Steps p.tables e below (s₁.setTop (entryFrame m #[(.ref a1), (.long p1)] 3)) t := by
    intro t k
    refine pre7 t ?_
    refine XS.bipush X6.here hx rfl (hb hby d1_8) ?_
    show Steps p.tables e below (T6.setTop (mkF m 10 #[.val (.ref a1), .val (.long p1), .second] [(.int (64 : Int32)), (.int q1)])) _
    exact k
  by_cases hs : q1 = (64 : Int32)
  · skip
    have pre9 : ∀ t, Steps p.tables e below (T6.setTop (mkF m 14 #[.val (.ref a1), .val (.long p1), .second] [(.int (1 : Int32))])) t → Steps p.tables e below (s₁.setTop (entryFrame m #[(.ref a1), (.long p1)] 3)) t := by
      intro t k
      refine pre8 t ?_
      refine XS.icmpNo X6.here hx rfl (hb hby d1_10) rfl (XT.ii_ne_f hs) ?_
      show Steps p.tables e below (T6.setTop (mkF m 13 #[.val (.ref a1), .val (.long p1), .second] [])) _
      refine XS.iconst X6.here hx rfl (hb hby d1_13) ?_
      show Steps p.tables e below (T6.setTop (mkF m 14 #[.val (.ref a1), .val (.long p1), .second] [(.int (1 : Int32))])) _
      exact k
    obtain ⟨fs, hr, hrun, hended, hW, hsame⟩ := X6.leave (v := some (.int (1 : Int32))) (fun h => by rw [Bd.returns] at h; cases h)
    refine ⟨_, _, pre9 _ ?_, hrun, hended, _, _, rfl, ?_, ⟨_, rfl⟩, hW, hsame.mono (by decide) (by decide)⟩
    · exact retOut X6 hx Bd.returns rfl (Or.inl ⟨rfl, by simp, _, rfl⟩) (hb hby d1_14) hr
    · show Q1 Z a1 p1 q1 q2 q3 h0 n0 _ T6.heap _
      rw [e6]
      exact ⟨(by rw [own_bi_t (Or.inl hs)]), N3, rfl⟩
  · skip
    have pre11 : ∀ t, Steps p.tables e below (T6.setTop (mkF m 15 #[.val (.ref a1), .val (.long p1), .second] [])) t → Steps p.tables e below (s₁.setTop (entryFrame m #[(.ref a1), (.long p1)] 3)) t := by
      intro t k
      refine pre8 t ?_
      refine XS.icmpYes X6.here hx rfl (pc0 := 10) (pc' := 15) rfl (hb hby d1_10) rfl (XT.ii_ne_t hs) (by decide) (by decide) ?_
      show Steps p.tables e below (T6.setTop (mkF m 15 #[.val (.ref a1), .val (.long p1), .second] [])) _
      exact k
    have mrg12 : ∃ (bb : Int32) (T12 : State) (Lo12 : List Loc), Stand p l e ({ frames := 1, cells := 0, slots := 0, locals := 12 } : Room) s m #[(.ref a1), (.long p1)] below meth c T12 Lo12 0 0 ∧ Fr n0 Lo12 ∧ T12.heap = h0 ∧ (bb = own_bi (¬ p1 < q2 ∧ ¬ q3 < p1)) ∧ ∀ t, Steps p.tables e below (T12.setTop (mkF m 38 #[.val (.ref a1), .val (.long p1), .second] [(.int bb)])) t → Steps p.tables e below (s₁.setTop (entryFrame m #[(.ref a1), (.long p1)] 3)) t := by
      have pre13 : ∀ t, Steps p.tables e below (T6.setTop (mkF m 17 #[.val (.ref a1), .val (.long p1), .second] [(.ref a1), (.long p1)])) t → Steps p.tables e below (s₁.setTop (entryFrame m #[(.ref a1), (.long p1)] 3)) t := by
        intro t k
        refine pre11 t ?_
        refine XT.lloadN X6.here hx rfl (hb hby d1_15) rfl ?_
        show Steps p.tables e below (T6.setTop (mkF m 16 #[.val (.ref a1), .val (.long p1), .second] [(.long p1)])) _
        refine XS.aloadN X6.here hx rfl (hb hby d1_16) rfl rfl ?_
        show Steps p.tables e below (T6.setTop (mkF m 17 #[.val (.ref a1), .val (.long p1), .second] [(.ref a1), (.long p1)])) _
        exact k
      obtain ⟨T14, X14, e14, st14⟩ := getF X6 hx hZ hown (host := "") (Or.inl (hw _ (List.mem_of_getElem? (i := 15) rfl))) Via.refl e6 F2 (g := (mkF m 17 #[.val (.ref a1), .val (.long p1), .second] [(.ref a1), (.long p1)])) rfl rfl (hb hby d1_17)
      have pre15 : ∀ t, Steps p.tables e below (T14.setTop (mkF m 20 #[.val (.ref a1), .val (.long p1), .second] [(.long q2), (.long p1)])) t → Steps p.tables e below (s₁.setTop (entryFrame m #[(.ref a1), (.long p1)] 3)) t := fun t k => pre13 t (st14 t k)
      have pre16 : ∀ t, Steps p.tables e below (T14.setTop (mkF m 21 #[.val (.ref a1), .val (.long p1), .second] [(.int (XT.cmpL p1 q2))])) t → Steps p.tables e below (s₁.setTop (entryFrame m #[(.ref a1), (.long p1)] 3)) t := by
        intro t k
        refine pre15 t ?_
        refine XT.lcmp X14.here hx rfl (hb hby d1_20) rfl ?_
        show Steps p.tables e below (T14.setTop (mkF m 21 #[.val (.ref a1), .val (.long p1), .second] [(.int (XT.cmpL p1 q2))])) _
        exact k
      by_cases hc21 : p1 < q2
      · skip
        have pre17 : ∀ t, Steps p.tables e below (T14.setTop (mkF m 38 #[.val (.ref a1), .val (.long p1), .second] [(.int (0 : Int32))])) t → Steps p.tables e below (s₁.setTop (entryFrame m #[(.ref a1), (.long p1)] 3)) t := by
          intro t k
          refine pre16 t ?_
          refine XS.ifYes X14.here hx rfl (pc0 := 21) (pc' := 37) rfl (hb hby d1_21) rfl (XT.ll_lt_t hc21) (by decide) (by decide) ?_
          show Steps p.tables e below (T14.setTop (mkF m 37 #[.val (.ref a1), .val (.long p1), .second] [])) _
          refine XS.iconst X14.here hx rfl (hb hby d1_37) ?_
          show Steps p.tables e below (T14.setTop (mkF m 38 #[.val (.ref a1), .val (.long p1), .second] [(.int (0 : Int32))])) _
          exact k
        exact ⟨(0 : Int32), _, _, X14, N3, e14, (by first | exact (own_bi_t hc21).symm | exact (own_bi_f hc21).symm | (simp [own_bi, hc21]; done) | contradiction), pre17⟩
      · skip
        have pre18 : ∀ t, Steps p.tables e below (T14.setTop (mkF m 26 #[.val (.ref a1), .val (.long p1), .second] [(.ref a1), (.long p1)])) t → Steps p.tables e below (s₁.setTop (entryFrame m #[(.ref a1), (.long p1)] 3)) t := by
          intro t k
          refine pre16 t ?_
          refine XS.ifNo X14.here hx rfl (hb hby d1_21) rfl (XT.ll_lt_f hc21) ?_
          show Steps p.tables e below (T14.setTop (mkF m 24 #[.val (.ref a1), .val (.long p1), .second] [])) _
          refine XT.lloadN X14.here hx rfl (hb hby d1_24) rfl ?_
          show Steps p.tables e below (T14.setTop (mkF m 25 #[.val (.ref a1), .val (.long p1), .second] [(.long p1)])) _
          refine XS.aloadN X14.here hx rfl (hb hby d1_25) rfl rfl ?_
          show Steps p.tables e below (T14.setTop (mkF m 26 #[.val (.ref a1), .val (.long p1), .second] [(.ref a1), (.long p1)])) _
          exact k
        obtain ⟨T19, X19, e19, st19⟩ := getF X14 hx hZ hown (host := "") (Or.inl (hw _ (List.mem_of_getElem? (i := 17) rfl))) Via.refl e14 F3 (g := (mkF m 26 #[.val (.ref a1), .val (.long p1), .second] [(.ref a1), (.long p1)])) rfl rfl (hb hby d1_26)
        have pre20 : ∀ t, Steps p.tables e below (T19.setTop (mkF m 29 #[.val (.ref a1), .val (.long p1), .second] [(.long q3), (.long p1)])) t → Steps p.tables e below (s₁.setTop (entryFrame m #[(.ref a1), (.long p1)] 3)) t := fun t k => pre18 t (st19 t k)
        have pre21 : ∀ t, Steps p.tables e below (T19.setTop (mkF m 30 #[.val (.ref a1), .val (.long p1), .second] [(.int (XT.cmpL p1 q3))])) t → Steps p.tables e below (s₁.setTop (entryFrame m #[(.ref a1), (.long p1)] 3)) t := by
          intro t k
          refine pre20 t ?_
          refine XT.lcmp X19.here hx rfl (hb hby d1_29) rfl ?_
          show Steps p.tables e below (T19.setTop (mkF m 30 #[.val (.ref a1), .val (.long p1), .second] [(.int (XT.cmpL p1 q3))])) _
          exact k
        by_cases hc30 : q3 < p1
        · skip
          have pre22 : ∀ t, Steps p.tables e below (T19.setTop (mkF m 38 #[.val (.ref a1), .val (.long p1), .second] [(.int (0 : Int32))])) t → Steps p.tables e below (s₁.setTop (entryFrame m #[(.ref a1), (.long p1)] 3)) t := by
            intro t k
            refine pre21 t ?_
            refine XS.ifYes X19.here hx rfl (pc0 := 30) (pc' := 37) rfl (hb hby d1_30) rfl (XT.ll_gt_t hc30) (by decide) (by decide) ?_
            show Steps p.tables e below (T19.setTop (mkF m 37 #[.val (.ref a1), .val (.long p1), .second] [])) _
            refine XS.iconst X19.here hx rfl (hb hby d1_37) ?_
            show Steps p.tables e below (T19.setTop (mkF m 38 #[.val (.ref a1), .val (.long p1), .second] [(.int (0 : Int32))])) _
            exact k
          exact ⟨(0 : Int32), _, _, X19, N3, e19, (by first | exact (own_bi_t hc30).symm | exact (own_bi_f hc30).symm | (simp [own_bi, hc21, hc30]; done) | contradiction), pre22⟩
        · skip
          have pre23 : ∀ t, Steps p.tables e below (T19.setTop (mkF m 38 #[.val (.ref a1), .val (.long p1), .second] [(.int (1 : Int32))])) t → Steps p.tables e below (s₁.setTop (entryFrame m #[(.ref a1), (.long p1)] 3)) t := by
            intro t k
            refine pre21 t ?_
            refine XS.ifNo X19.here hx rfl (hb hby d1_30) rfl (XT.ll_gt_f hc30) ?_
            show Steps p.tables e below (T19.setTop (mkF m 33 #[.val (.ref a1), .val (.long p1), .second] [])) _
            refine XS.iconst X19.here hx rfl (hb hby d1_33) ?_
            show Steps p.tables e below (T19.setTop (mkF m 34 #[.val (.ref a1), .val (.long p1), .second] [(.int (1 : Int32))])) _
            refine XS.goto X19.here hx rfl (pc0 := 34) (pc' := 38) rfl (hb hby d1_34) (by decide) (by decide) ?_
            show Steps p.tables e below (T19.setTop (mkF m 38 #[.val (.ref a1), .val (.long p1), .second] [(.int (1 : Int32))])) _
            exact k
          exact ⟨(1 : Int32), _, _, X19, N3, e19, (by first | exact (own_bi_t hc30).symm | exact (own_bi_f hc30).symm | (simp [own_bi, hc21, hc30]; done) | contradiction), pre23⟩
    obtain ⟨bb, T12, Lo12, X12, N12, e12, hbb, pre12⟩ := mrg12
    obtain ⟨fs, hr, hrun, hended, hW, hsame⟩ := X12.leave (v := some (.int bb)) (fun h => by rw [Bd.returns] at h; cases h)
    refine ⟨_, _, pre12 _ ?_, hrun, hended, _, _, rfl, ?_, ⟨_, rfl⟩, hW, hsame.mono (by decide) (by decide)⟩
    · exact retOut X12 hx Bd.returns (own_narZ (by rw [hbb]; exact own_bi_01 _)) (Or.inl ⟨rfl, by simp, _, rfl⟩) (hb hby d1_38) hr
    · show Q1 Z a1 p1 q1 q2 q3 h0 n0 _ T12.heap _
      rw [e12]
      exact ⟨(by rw [hbb, own_bi_eq (show (q1 = 64 ∨ (¬ p1 < q2 ∧ ¬ q3 < p1)) ↔ (¬ p1 < q2 ∧ ¬ q3 < p1) from ⟨fun q => q.resolve_left hs, Or.inr⟩)]), N12, rfl⟩
theorem pd_hol : parseMethodDescriptor "(J)Z" = some ⟨[.long], some .boolean⟩ := by decide +kernel
theorem pn_law : plainName "com/example/byteweave/byteweave/schema/ScalarTypeHoldsPinLaw" = true := by first | (simp [plainName, overriddenIn]; done) | decide +kernel
theorem ef_law (m : MethodId) (k0 : Int32) (x0 : Int64) (s0 : Int32) (md : Int32) : entryFrame m #[(.int k0), (.long x0), (.int s0), (.int md)] maxLocals = mkF m 0 #[.val (.int k0), .val (.long x0), .second, .val (.int s0), .val (.int md), .unset, .unset, .unset, .unset, .unset, .unset] [] := by first | (simp [entryFrame, mkF, argsToLocals, Value.category, maxLocals]; done) | rfl
def Qlaw (Z : State) (k0 : Int32) (x0 : Int64) (s0 : Int32) (md : Int32) (a_U8 : Addr) (a_U16 : Addr) (a_U32 : Addr) (a_U64 : Addr) (a_I8 : Addr) (a_I16 : Addr) (a_I32 : Addr) (a_I64 : Addr) (h0 : Heap) (n0 : Nat) (v : Option Value) (h : Heap) (L : List Loc) : Prop := v = some (.int (1 : Int32)) ∧ Fr n0 L
set_option maxRecDepth 65536 in
set_option maxHeartbeats 40000000 in
theorem rmlaw (l : Launch) (Z : State) (a0 : Array Value) (hw : ∀ d ∈ tables_1, d.before a0 Z = true) (ws : List Jvm.Cond) (k0 : Int32) (x0 : Int64) (s0 : Int32) (md : Int32) (a_U8 : Addr) (a_U16 : Addr) (a_U32 : Addr) (a_U64 : Addr) (a_I8 : Addr) (a_I16 : Addr) (a_I32 : Addr) (a_I64 : Addr) (h0 : Heap) (n0 : Nat) (Z0 : n0 ≤ h0.size) (S_U8 : Sta Z h0 "com/example/byteweave/byteweave/schema/ScalarType" "U8" "Lcom/example/byteweave/byteweave/schema/ScalarType;" (.ref a_U8)) (E_U8 : Exa Z h0 a_U8 "com/example/byteweave/byteweave/schema/ScalarType") (B_U8 : Fld Z h0 a_U8 "com/example/byteweave/byteweave/schema/ScalarType" "bits" "I" (.int (8 : Int32))) (L_U8 : Fld Z h0 a_U8 "com/example/byteweave/byteweave/schema/ScalarType" "least" "J" (.long (0 : Int64))) (M_U8 : Fld Z h0 a_U8 "com/example/byteweave/byteweave/schema/ScalarType" "most" "J" (.long (255 : Int64))) (S_U16 : Sta Z h0 "com/example/byteweave/byteweave/schema/ScalarType" "U16" "Lcom/example/byteweave/byteweave/schema/ScalarType;" (.ref a_U16)) (E_U16 : Exa Z h0 a_U16 "com/example/byteweave/byteweave/schema/ScalarType") (B_U16 : Fld Z h0 a_U16 "com/example/byteweave/byteweave/schema/ScalarType" "bits" "I" (.int (16 : Int32))) (L_U16 : Fld Z h0 a_U16 "com/example/byteweave/byteweave/schema/ScalarType" "least" "J" (.long (0 : Int64))) (M_U16 : Fld Z h0 a_U16 "com/example/byteweave/byteweave/schema/ScalarType" "most" "J" (.long (65535 : Int64))) (S_U32 : Sta Z h0 "com/example/byteweave/byteweave/schema/ScalarType" "U32" "Lcom/example/byteweave/byteweave/schema/ScalarType;" (.ref a_U32)) (E_U32 : Exa Z h0 a_U32 "com/example/byteweave/byteweave/schema/ScalarType") (B_U32 : Fld Z h0 a_U32 "com/example/byteweave/byteweave/schema/ScalarType" "bits" "I" (.int (32 : Int32))) (L_U32 : Fld Z h0 a_U32 "com/example/byteweave/byteweave/schema/ScalarType" "least" "J" (.long (0 : Int64))) (M_U32 : Fld Z h0 a_U32 "com/example/byteweave/byteweave/schema/ScalarType" "most" "J" (.long (4294967295 : Int64))) (S_U64 : Sta Z h0 "com/example/byteweave/byteweave/schema/ScalarType" "U64" "Lcom/example/byteweave/byteweave/schema/ScalarType;" (.ref a_U64)) (E_U64 : Exa Z h0 a_U64 "com/example/byteweave/byteweave/schema/ScalarType") (B_U64 : Fld Z h0 a_U64 "com/example/byteweave/byteweave/schema/ScalarType" "bits" "I" (.int (64 : Int32))) (L_U64 : Fld Z h0 a_U64 "com/example/byteweave/byteweave/schema/ScalarType" "least" "J" (.long (0 : Int64))) (M_U64 : Fld Z h0 a_U64 "com/example/byteweave/byteweave/schema/ScalarType" "most" "J" (.long (-1 : Int64))) (S_I8 : Sta Z h0 "com/example/byteweave/byteweave/schema/ScalarType" "I8" "Lcom/example/byteweave/byteweave/schema/ScalarType;" (.ref a_I8)) (E_I8 : Exa Z h0 a_I8 "com/example/byteweave/byteweave/schema/ScalarType") (B_I8 : Fld Z h0 a_I8 "com/example/byteweave/byteweave/schema/ScalarType" "bits" "I" (.int (8 : Int32))) (L_I8 : Fld Z h0 a_I8 "com/example/byteweave/byteweave/schema/ScalarType" "least" "J" (.long (-128 : Int64))) (M_I8 : Fld Z h0 a_I8 "com/example/byteweave/byteweave/schema/ScalarType" "most" "J" (.long (127 : Int64))) (S_I16 : Sta Z h0 "com/example/byteweave/byteweave/schema/ScalarType" "I16" "Lcom/example/byteweave/byteweave/schema/ScalarType;" (.ref a_I16)) (E_I16 : Exa Z h0 a_I16 "com/example/byteweave/byteweave/schema/ScalarType") (B_I16 : Fld Z h0 a_I16 "com/example/byteweave/byteweave/schema/ScalarType" "bits" "I" (.int (16 : Int32))) (L_I16 : Fld Z h0 a_I16 "com/example/byteweave/byteweave/schema/ScalarType" "least" "J" (.long (-32768 : Int64))) (M_I16 : Fld Z h0 a_I16 "com/example/byteweave/byteweave/schema/ScalarType" "most" "J" (.long (32767 : Int64))) (S_I32 : Sta Z h0 "com/example/byteweave/byteweave/schema/ScalarType" "I32" "Lcom/example/byteweave/byteweave/schema/ScalarType;" (.ref a_I32)) (E_I32 : Exa Z h0 a_I32 "com/example/byteweave/byteweave/schema/ScalarType") (B_I32 : Fld Z h0 a_I32 "com/example/byteweave/byteweave/schema/ScalarType" "bits" "I" (.int (32 : Int32))) (L_I32 : Fld Z h0 a_I32 "com/example/byteweave/byteweave/schema/ScalarType" "least" "J" (.long (-2147483648 : Int64))) (M_I32 : Fld Z h0 a_I32 "com/example/byteweave/byteweave/schema/ScalarType" "most" "J" (.long (2147483647 : Int64))) (S_I64 : Sta Z h0 "com/example/byteweave/byteweave/schema/ScalarType" "I64" "Lcom/example/byteweave/byteweave/schema/ScalarType;" (.ref a_I64)) (E_I64 : Exa Z h0 a_I64 "com/example/byteweave/byteweave/schema/ScalarType") (B_I64 : Fld Z h0 a_I64 "com/example/byteweave/byteweave/schema/ScalarType" "bits" "I" (.int (64 : Int32))) (L_I64 : Fld Z h0 a_I64 "com/example/byteweave/byteweave/schema/ScalarType" "least" "J" (.long (-9223372036854775808 : Int64))) (M_I64 : Fld Z h0 a_I64 "com/example/byteweave/byteweave/schema/ScalarType" "most" "J" (.long (9223372036854775807 : Int64))) :
    MetFree l x (head1 (Jvm.Cond.code x code maxLocals ret :: ws) room_1) (fun a U => a = #[(.int k0), (.long x0), (.int s0), (.int md)] ∧ Z.Warmed39 U.vm ∧ U.heap = h0) (fun _ _ _ _ _ => True) (fun _ U o U' => ∃ v L, o = .returned v ∧ Qlaw Z k0 x0 s0 md a_U8 a_U16 a_U32 a_U64 a_I8 a_I16 a_I32 a_I64 h0 n0 v U'.heap L ∧ FrameEnd U o U' L room_1.cells room_1.slots) := by
  refine MetFree.of_bodySF (plainFor_of_name pn_law) hisR ?_
  intro p e s m args below meth c s₁ Bd hml0 hP hK
  obtain ⟨rfl, hZ, hh⟩ := hP
  have hx := Bd.exec
  have hby := Bd.bytes
  have hml : c.maxLocals = 11 := hml0
  have hown : s.vm.findClass "com/example/byteweave/byteweave/schema/ScalarTypeHoldsPinLaw" = some m.cls := findClass_of_methodNamed Bd.named
  have hnm := (name_of_methodNamed Bd.named Bd.method).1
  have X0 : Stand p l e room_1 s m #[(.int k0), (.long x0), (.int s0), (.int md)] below meth c s₁ [] 0 0 := Stand.of_body Bd
  have e0 : s₁.heap = h0 := by rw [← hh, Bd.state]; rfl
  have N0 := Fr.nil n0
  have pre0 : ∀ t, Steps p.tables e below (s₁.setTop (mkF m 0 #[.val (.int k0), .val (.long x0), .second, .val (.int s0), .val (.int md), .unset, .unset, .unset, .unset, .unset, .unset] [])) t → Steps p.tables e below (s₁.setTop (entryFrame m #[(.int k0), (.long x0), (.int s0), (.int md)] maxLocals)) t := fun t k => castTop (ef_law m k0 x0 s0 md) k
  have pre1 : ∀ t, Steps p.tables e below (s₁.setTop (mkF m 6 #[.val (.int k0), .val (.long x0), .second, .val (.int s0), .val (.int md), .val (.int (md &&& (3 : Int32))), .unset, .unset, .unset, .unset, .unset] [])) t → Steps p.tables e below (s₁.setTop (entryFrame m #[(.int k0), (.long x0), (.int s0), (.int md)] maxLocals)) t := by
    intro t k
    refine pre0 t ?_
    refine XS.iload X0.here hx rfl (hb hby at_0) rfl ?_
    show Steps p.tables e below (s₁.setTop (mkF m 2 #[.val (.int k0), .val (.long x0), .second, .val (.int s0), .val (.int md), .unset, .unset, .unset, .unset, .unset, .unset] [(.int md)])) _
    refine XS.iconst X0.here hx rfl (hb hby at_2) ?_
    show Steps p.tables e below (s₁.setTop (mkF m 3 #[.val (.int k0), .val (.long x0), .second, .val (.int s0), .val (.int md), .unset, .unset, .unset, .unset, .unset, .unset] [(.int (3 : Int32)), (.int md)])) _
    refine XS.iand X0.here hx rfl (hb hby at_3) rfl ?_
    show Steps p.tables e below (s₁.setTop (mkF m 4 #[.val (.int k0), .val (.long x0), .second, .val (.int s0), .val (.int md), .unset, .unset, .unset, .unset, .unset, .unset] [(.int (md &&& (3 : Int32)))])) _
    refine XS.istore X0.here hx rfl (hb hby at_4) rfl (l' := #[.val (.int k0), .val (.long x0), .second, .val (.int s0), .val (.int md), .val (.int (md &&& (3 : Int32))), .unset, .unset, .unset, .unset, .unset]) rfl ?_
    show Steps p.tables e below (s₁.setTop (mkF m 6 #[.val (.int k0), .val (.long x0), .second, .val (.int s0), .val (.int md), .val (.int (md &&& (3 : Int32))), .unset, .unset, .unset, .unset, .unset] [])) _
    exact k
  have mrg2 : ∃ (vv : Int64) (T2 : State) (Lo2 : List Loc), Stand p l e room_1 s m #[(.int k0), (.long x0), (.int s0), (.int md)] below meth c T2 Lo2 0 0 ∧ Fr n0 Lo2 ∧ T2.heap = h0 ∧ (True) ∧ ∀ t, Steps p.tables e below (T2.setTop (mkF m 55 #[.val (.int k0), .val (.long x0), .second, .val (.int s0), .val (.int md), .val (.int (md &&& (3 : Int32))), .val (.long vv), .second, .unset, .unset, .unset] [])) t → Steps p.tables e below (s₁.setTop (entryFrame m #[(.int k0), (.long x0), (.int s0), (.int md)] maxLocals)) t := by
    have pre3 : ∀ t, Steps p.tables e below (s₁.setTop (mkF m 8 #[.val (.int k0), .val (.long x0), .second, .val (.int s0), .val (.int md), .val (.int (md &&& (3 : Int32))), .unset, .unset, .unset, .unset, .unset] [(.int (md &&& (3 : Int32)))])) t → Steps p.tables e below (s₁.setTop (entryFrame m #[(.int k0), (.long x0), (.int s0), (.int md)] maxLocals)) t := by
      intro t k
      refine pre1 t ?_
      refine XS.iload X0.here hx rfl (hb hby at_6) rfl ?_
      show Steps p.tables e below (s₁.setTop (mkF m 8 #[.val (.int k0), .val (.long x0), .second, .val (.int s0), .val (.int md), .val (.int (md &&& (3 : Int32))), .unset, .unset, .unset, .unset, .unset] [(.int (md &&& (3 : Int32)))])) _
      exact k
    by_cases hc8 : (md &&& (3 : Int32)) = (0 : Int32)
    · skip
      have pre4 : ∀ t, Steps p.tables e below (s₁.setTop (mkF m 55 #[.val (.int k0), .val (.long x0), .second, .val (.int s0), .val (.int md), .val (.int (md &&& (3 : Int32))), .val (.long x0), .second, .unset, .unset, .unset] [])) t → Steps p.tables e below (s₁.setTop (entryFrame m #[(.int k0), (.long x0), (.int s0), (.int md)] maxLocals)) t := by
        intro t k
        refine pre3 t ?_
        refine XS.ifNo X0.here hx rfl (hb hby at_8) rfl (XT.i0_ne_f hc8) ?_
        show Steps p.tables e below (s₁.setTop (mkF m 11 #[.val (.int k0), .val (.long x0), .second, .val (.int s0), .val (.int md), .val (.int (md &&& (3 : Int32))), .unset, .unset, .unset, .unset, .unset] [])) _
        refine XT.lloadN X0.here hx rfl (hb hby at_11) rfl ?_
        show Steps p.tables e below (s₁.setTop (mkF m 12 #[.val (.int k0), .val (.long x0), .second, .val (.int s0), .val (.int md), .val (.int (md &&& (3 : Int32))), .unset, .unset, .unset, .unset, .unset] [(.long x0)])) _
        refine XT.lstore X0.here hx rfl (hb hby at_12) rfl (l' := #[.val (.int k0), .val (.long x0), .second, .val (.int s0), .val (.int md), .val (.int (md &&& (3 : Int32))), .val (.long x0), .second, .unset, .unset, .unset]) rfl ?_
        show Steps p.tables e below (s₁.setTop (mkF m 14 #[.val (.int k0), .val (.long x0), .second, .val (.int s0), .val (.int md), .val (.int (md &&& (3 : Int32))), .val (.long x0), .second, .unset, .unset, .unset] [])) _
        refine XS.goto X0.here hx rfl (pc0 := 14) (pc' := 55) rfl (hb hby at_14) (by decide) (by decide) ?_
        show Steps p.tables e below (s₁.setTop (mkF m 55 #[.val (.int k0), .val (.long x0), .second, .val (.int s0), .val (.int md), .val (.int (md &&& (3 : Int32))), .val (.long x0), .second, .unset, .unset, .unset] [])) _
        exact k
      exact ⟨x0, _, _, X0, N0, e0, (by trivial), pre4⟩
    · skip
      have pre5 : ∀ t, Steps p.tables e below (s₁.setTop (mkF m 20 #[.val (.int k0), .val (.long x0), .second, .val (.int s0), .val (.int md), .val (.int (md &&& (3 : Int32))), .unset, .unset, .unset, .unset, .unset] [(.int (1 : Int32)), (.int (md &&& (3 : Int32)))])) t → Steps p.tables e below (s₁.setTop (entryFrame m #[(.int k0), (.long x0), (.int s0), (.int md)] maxLocals)) t := by
        intro t k
        refine pre3 t ?_
        refine XS.ifYes X0.here hx rfl (pc0 := 8) (pc' := 17) rfl (hb hby at_8) rfl (XT.i0_ne_t hc8) (by decide) (by decide) ?_
        show Steps p.tables e below (s₁.setTop (mkF m 17 #[.val (.int k0), .val (.long x0), .second, .val (.int s0), .val (.int md), .val (.int (md &&& (3 : Int32))), .unset, .unset, .unset, .unset, .unset] [])) _
        refine XS.iload X0.here hx rfl (hb hby at_17) rfl ?_
        show Steps p.tables e below (s₁.setTop (mkF m 19 #[.val (.int k0), .val (.long x0), .second, .val (.int s0), .val (.int md), .val (.int (md &&& (3 : Int32))), .unset, .unset, .unset, .unset, .unset] [(.int (md &&& (3 : Int32)))])) _
        refine XS.iconst X0.here hx rfl (hb hby at_19) ?_
        show Steps p.tables e below (s₁.setTop (mkF m 20 #[.val (.int k0), .val (.long x0), .second, .val (.int s0), .val (.int md), .val (.int (md &&& (3 : Int32))), .unset, .unset, .unset, .unset, .unset] [(.int (1 : Int32)), (.int (md &&& (3 : Int32)))])) _
        exact k
      by_cases hc20 : (md &&& (3 : Int32)) = (1 : Int32)
      · skip
        have pre6 : ∀ t, Steps p.tables e below (s₁.setTop (mkF m 55 #[.val (.int k0), .val (.long x0), .second, .val (.int s0), .val (.int md), .val (.int (md &&& (3 : Int32))), .val (.long (s0.toInt64)), .second, .unset, .unset, .unset] [])) t → Steps p.tables e below (s₁.setTop (entryFrame m #[(.int k0), (.long x0), (.int s0), (.int md)] maxLocals)) t := by
          intro t k
          refine pre5 t ?_
          refine XS.icmpNo X0.here hx rfl (hb hby at_20) rfl (XT.ii_ne_f hc20) ?_
          show Steps p.tables e below (s₁.setTop (mkF m 23 #[.val (.int k0), .val (.long x0), .second, .val (.int s0), .val (.int md), .val (.int (md &&& (3 : Int32))), .unset, .unset, .unset, .unset, .unset] [])) _
          refine XS.iloadN X0.here hx rfl (hb hby at_23) rfl ?_
          show Steps p.tables e below (s₁.setTop (mkF m 24 #[.val (.int k0), .val (.long x0), .second, .val (.int s0), .val (.int md), .val (.int (md &&& (3 : Int32))), .unset, .unset, .unset, .unset, .unset] [(.int s0)])) _
          refine XT.i2l X0.here hx rfl (hb hby at_24) rfl ?_
          show Steps p.tables e below (s₁.setTop (mkF m 25 #[.val (.int k0), .val (.long x0), .second, .val (.int s0), .val (.int md), .val (.int (md &&& (3 : Int32))), .unset, .unset, .unset, .unset, .unset] [(.long (s0.toInt64))])) _
          refine XT.lstore X0.here hx rfl (hb hby at_25) rfl (l' := #[.val (.int k0), .val (.long x0), .second, .val (.int s0), .val (.int md), .val (.int (md &&& (3 : Int32))), .val (.long (s0.toInt64)), .second, .unset, .unset, .unset]) rfl ?_
          show Steps p.tables e below (s₁.setTop (mkF m 27 #[.val (.int k0), .val (.long x0), .second, .val (.int s0), .val (.int md), .val (.int (md &&& (3 : Int32))), .val (.long (s0.toInt64)), .second, .unset, .unset, .unset] [])) _
          refine XS.goto X0.here hx rfl (pc0 := 27) (pc' := 55) rfl (hb hby at_27) (by decide) (by decide) ?_
          show Steps p.tables e below (s₁.setTop (mkF m 55 #[.val (.int k0), .val (.long x0), .second, .val (.int s0), .val (.int md), .val (.int (md &&& (3 : Int32))), .val (.long (s0.toInt64)), .second, .unset, .unset, .unset] [])) _
          exact k
        exact ⟨(s0.toInt64), _, _, X0, N0, e0, (by trivial), pre6⟩
      · skip
        have pre7 : ∀ t, Steps p.tables e below (s₁.setTop (mkF m 33 #[.val (.int k0), .val (.long x0), .second, .val (.int s0), .val (.int md), .val (.int (md &&& (3 : Int32))), .unset, .unset, .unset, .unset, .unset] [(.int (2 : Int32)), (.int (md &&& (3 : Int32)))])) t → Steps p.tables e below (s₁.setTop (entryFrame m #[(.int k0), (.long x0), (.int s0), (.int md)] maxLocals)) t := by
          intro t k
          refine pre5 t ?_
          refine XS.icmpYes X0.here hx rfl (pc0 := 20) (pc' := 30) rfl (hb hby at_20) rfl (XT.ii_ne_t hc20) (by decide) (by decide) ?_
          show Steps p.tables e below (s₁.setTop (mkF m 30 #[.val (.int k0), .val (.long x0), .second, .val (.int s0), .val (.int md), .val (.int (md &&& (3 : Int32))), .unset, .unset, .unset, .unset, .unset] [])) _
          refine XS.iload X0.here hx rfl (hb hby at_30) rfl ?_
          show Steps p.tables e below (s₁.setTop (mkF m 32 #[.val (.int k0), .val (.long x0), .second, .val (.int s0), .val (.int md), .val (.int (md &&& (3 : Int32))), .unset, .unset, .unset, .unset, .unset] [(.int (md &&& (3 : Int32)))])) _
          refine XS.iconst X0.here hx rfl (hb hby at_32) ?_
          show Steps p.tables e below (s₁.setTop (mkF m 33 #[.val (.int k0), .val (.long x0), .second, .val (.int s0), .val (.int md), .val (.int (md &&& (3 : Int32))), .unset, .unset, .unset, .unset, .unset] [(.int (2 : Int32)), (.int (md &&& (3 : Int32)))])) _
          exact k
        by_cases hc33 : (md &&& (3 : Int32)) = (2 : Int32)
        · skip
          have pre8 : ∀ t, Steps p.tables e below (s₁.setTop (mkF m 55 #[.val (.int k0), .val (.long x0), .second, .val (.int s0), .val (.int md), .val (.int (md &&& (3 : Int32))), .val (.long ((s0.toInt64) &&& (4294967295 : Int64))), .second, .unset, .unset, .unset] [])) t → Steps p.tables e below (s₁.setTop (entryFrame m #[(.int k0), (.long x0), (.int s0), (.int md)] maxLocals)) t := by
            intro t k
            refine pre7 t ?_
            refine XS.icmpNo X0.here hx rfl (hb hby at_33) rfl (XT.ii_ne_f hc33) ?_
            show Steps p.tables e below (s₁.setTop (mkF m 36 #[.val (.int k0), .val (.long x0), .second, .val (.int s0), .val (.int md), .val (.int (md &&& (3 : Int32))), .unset, .unset, .unset, .unset, .unset] [])) _
            refine XS.iloadN X0.here hx rfl (hb hby at_36) rfl ?_
            show Steps p.tables e below (s₁.setTop (mkF m 37 #[.val (.int k0), .val (.long x0), .second, .val (.int s0), .val (.int md), .val (.int (md &&& (3 : Int32))), .unset, .unset, .unset, .unset, .unset] [(.int s0)])) _
            refine XT.i2l X0.here hx rfl (hb hby at_37) rfl ?_
            show Steps p.tables e below (s₁.setTop (mkF m 38 #[.val (.int k0), .val (.long x0), .second, .val (.int s0), .val (.int md), .val (.int (md &&& (3 : Int32))), .unset, .unset, .unset, .unset, .unset] [(.long (s0.toInt64))])) _
            refine Stand.ldc2J X0 hx hown (mvT hZ (hw _ (List.mem_of_getElem? (i := 28) rfl))) rfl (hb hby at_38) ?_
            show Steps p.tables e below (s₁.setTop (mkF m 41 #[.val (.int k0), .val (.long x0), .second, .val (.int s0), .val (.int md), .val (.int (md &&& (3 : Int32))), .unset, .unset, .unset, .unset, .unset] [(.long (4294967295 : Int64)), (.long (s0.toInt64))])) _
            refine XT.land X0.here hx rfl (hb hby at_41) rfl ?_
            show Steps p.tables e below (s₁.setTop (mkF m 42 #[.val (.int k0), .val (.long x0), .second, .val (.int s0), .val (.int md), .val (.int (md &&& (3 : Int32))), .unset, .unset, .unset, .unset, .unset] [(.long ((s0.toInt64) &&& (4294967295 : Int64)))])) _
            refine XT.lstore X0.here hx rfl (hb hby at_42) rfl (l' := #[.val (.int k0), .val (.long x0), .second, .val (.int s0), .val (.int md), .val (.int (md &&& (3 : Int32))), .val (.long ((s0.toInt64) &&& (4294967295 : Int64))), .second, .unset, .unset, .unset]) rfl ?_
            show Steps p.tables e below (s₁.setTop (mkF m 44 #[.val (.int k0), .val (.long x0), .second, .val (.int s0), .val (.int md), .val (.int (md &&& (3 : Int32))), .val (.long ((s0.toInt64) &&& (4294967295 : Int64))), .second, .unset, .unset, .unset] [])) _
            refine XS.goto X0.here hx rfl (pc0 := 44) (pc' := 55) rfl (hb hby at_44) (by decide) (by decide) ?_
            show Steps p.tables e below (s₁.setTop (mkF m 55 #[.val (.int k0), .val (.long x0), .second, .val (.int s0), .val (.int md), .val (.int (md &&& (3 : Int32))), .val (.long ((s0.toInt64) &&& (4294967295 : Int64))), .second, .unset, .unset, .unset] [])) _
            exact k
          exact ⟨((s0.toInt64) &&& (4294967295 : Int64)), _, _, X0, N0, e0, (by trivial), pre8⟩
        · skip
          have pre9 : ∀ t, Steps p.tables e below (s₁.setTop (mkF m 55 #[.val (.int k0), .val (.long x0), .second, .val (.int s0), .val (.int md), .val (.int (md &&& (3 : Int32))), .val (.long (x0 >>> ((s0 &&& (63 : Int32)).toInt64 &&& 63))), .second, .unset, .unset, .unset] [])) t → Steps p.tables e below (s₁.setTop (entryFrame m #[(.int k0), (.long x0), (.int s0), (.int md)] maxLocals)) t := by
            intro t k
            refine pre7 t ?_
            refine XS.icmpYes X0.here hx rfl (pc0 := 33) (pc' := 47) rfl (hb hby at_33) rfl (XT.ii_ne_t hc33) (by decide) (by decide) ?_
            show Steps p.tables e below (s₁.setTop (mkF m 47 #[.val (.int k0), .val (.long x0), .second, .val (.int s0), .val (.int md), .val (.int (md &&& (3 : Int32))), .unset, .unset, .unset, .unset, .unset] [])) _
            refine XT.lloadN X0.here hx rfl (hb hby at_47) rfl ?_
            show Steps p.tables e below (s₁.setTop (mkF m 48 #[.val (.int k0), .val (.long x0), .second, .val (.int s0), .val (.int md), .val (.int (md &&& (3 : Int32))), .unset, .unset, .unset, .unset, .unset] [(.long x0)])) _
            refine XS.iloadN X0.here hx rfl (hb hby at_48) rfl ?_
            show Steps p.tables e below (s₁.setTop (mkF m 49 #[.val (.int k0), .val (.long x0), .second, .val (.int s0), .val (.int md), .val (.int (md &&& (3 : Int32))), .unset, .unset, .unset, .unset, .unset] [(.int s0), (.long x0)])) _
            refine XS.bipush X0.here hx rfl (hb hby at_49) ?_
            show Steps p.tables e below (s₁.setTop (mkF m 51 #[.val (.int k0), .val (.long x0), .second, .val (.int s0), .val (.int md), .val (.int (md &&& (3 : Int32))), .unset, .unset, .unset, .unset, .unset] [(.int (63 : Int32)), (.int s0), (.long x0)])) _
            refine XS.iand X0.here hx rfl (hb hby at_51) rfl ?_
            show Steps p.tables e below (s₁.setTop (mkF m 52 #[.val (.int k0), .val (.long x0), .second, .val (.int s0), .val (.int md), .val (.int (md &&& (3 : Int32))), .unset, .unset, .unset, .unset, .unset] [(.int (s0 &&& (63 : Int32))), (.long x0)])) _
            refine XT.lshr X0.here hx rfl (hb hby at_52) rfl ?_
            show Steps p.tables e below (s₁.setTop (mkF m 53 #[.val (.int k0), .val (.long x0), .second, .val (.int s0), .val (.int md), .val (.int (md &&& (3 : Int32))), .unset, .unset, .unset, .unset, .unset] [(.long (x0 >>> ((s0 &&& (63 : Int32)).toInt64 &&& 63)))])) _
            refine XT.lstore X0.here hx rfl (hb hby at_53) rfl (l' := #[.val (.int k0), .val (.long x0), .second, .val (.int s0), .val (.int md), .val (.int (md &&& (3 : Int32))), .val (.long (x0 >>> ((s0 &&& (63 : Int32)).toInt64 &&& 63))), .second, .unset, .unset, .unset]) rfl ?_
            show Steps p.tables e below (s₁.setTop (mkF m 55 #[.val (.int k0), .val (.long x0), .second, .val (.int s0), .val (.int md), .val (.int (md &&& (3 : Int32))), .val (.long (x0 >>> ((s0 &&& (63 : Int32)).toInt64 &&& 63))), .second, .unset, .unset, .unset] [])) _
            exact k
          exact ⟨(x0 >>> ((s0 &&& (63 : Int32)).toInt64 &&& 63)), _, _, X0, N0, e0, (by trivial), pre9⟩
  obtain ⟨vv, T2, Lo2, X2, N2, e2, hvv, pre2⟩ := mrg2
  have pre10 : ∀ t, Steps p.tables e below (T2.setTop (mkF m 61 #[.val (.int k0), .val (.long x0), .second, .val (.int s0), .val (.int md), .val (.int (md &&& (3 : Int32))), .val (.long vv), .second, .val (.int (k0 &&& (7 : Int32))), .unset, .unset] [])) t → Steps p.tables e below (s₁.setTop (entryFrame m #[(.int k0), (.long x0), (.int s0), (.int md)] maxLocals)) t := by
    intro t k
    refine pre2 t ?_
    refine XS.iloadN X2.here hx rfl (hb hby at_55) rfl ?_
    show Steps p.tables e below (T2.setTop (mkF m 56 #[.val (.int k0), .val (.long x0), .second, .val (.int s0), .val (.int md), .val (.int (md &&& (3 : Int32))), .val (.long vv), .second, .unset, .unset, .unset] [(.int k0)])) _
    refine XS.bipush X2.here hx rfl (hb hby at_56) ?_
    show Steps p.tables e below (T2.setTop (mkF m 58 #[.val (.int k0), .val (.long x0), .second, .val (.int s0), .val (.int md), .val (.int (md &&& (3 : Int32))), .val (.long vv), .second, .unset, .unset, .unset] [(.int (7 : Int32)), (.int k0)])) _
    refine XS.iand X2.here hx rfl (hb hby at_58) rfl ?_
    show Steps p.tables e below (T2.setTop (mkF m 59 #[.val (.int k0), .val (.long x0), .second, .val (.int s0), .val (.int md), .val (.int (md &&& (3 : Int32))), .val (.long vv), .second, .unset, .unset, .unset] [(.int (k0 &&& (7 : Int32)))])) _
    refine XS.istore X2.here hx rfl (hb hby at_59) rfl (l' := #[.val (.int k0), .val (.long x0), .second, .val (.int s0), .val (.int md), .val (.int (md &&& (3 : Int32))), .val (.long vv), .second, .val (.int (k0 &&& (7 : Int32))), .unset, .unset]) rfl ?_
    show Steps p.tables e below (T2.setTop (mkF m 61 #[.val (.int k0), .val (.long x0), .second, .val (.int s0), .val (.int md), .val (.int (md &&& (3 : Int32))), .val (.long vv), .second, .val (.int (k0 &&& (7 : Int32))), .unset, .unset] [])) _
    exact k
  obtain ⟨tt, hn_tt, pre11⟩ : ∃ tt : Int32, tt = (k0 &&& (7 : Int32)) ∧ ∀ t, Steps p.tables e below (T2.setTop (mkF m 61 #[.val (.int k0), .val (.long x0), .second, .val (.int s0), .val (.int md), .val (.int (md &&& (3 : Int32))), .val (.long vv), .second, .val (.int tt), .unset, .unset] [])) t → Steps p.tables e below (s₁.setTop (entryFrame m #[(.int k0), (.long x0), (.int s0), (.int md)] maxLocals)) t := ⟨_, rfl, pre10⟩
  have pre12 : ∀ t, Steps p.tables e below (T2.setTop (mkF m 63 #[.val (.int k0), .val (.long x0), .second, .val (.int s0), .val (.int md), .val (.int (md &&& (3 : Int32))), .val (.long vv), .second, .val (.int tt), .unset, .unset] [(.int tt)])) t → Steps p.tables e below (s₁.setTop (entryFrame m #[(.int k0), (.long x0), (.int s0), (.int md)] maxLocals)) t := by
    intro t k
    refine pre11 t ?_
    refine XS.iload X2.here hx rfl (hb hby at_61) rfl ?_
    show Steps p.tables e below (T2.setTop (mkF m 63 #[.val (.int k0), .val (.long x0), .second, .val (.int s0), .val (.int md), .val (.int (md &&& (3 : Int32))), .val (.long vv), .second, .val (.int tt), .unset, .unset] [(.int tt)])) _
    exact k
  by_cases ht0 : tt = (0 : Int32)
  · skip
    have pre14 : ∀ t, Steps p.tables e below (T2.setTop (mkF m 66 #[.val (.int k0), .val (.long x0), .second, .val (.int s0), .val (.int md), .val (.int (md &&& (3 : Int32))), .val (.long vv), .second, .val (.int tt), .unset, .unset] [])) t → Steps p.tables e below (s₁.setTop (entryFrame m #[(.int k0), (.long x0), (.int s0), (.int md)] maxLocals)) t := by
      intro t k
      refine pre12 t ?_
      refine XS.ifNo X2.here hx rfl (hb hby at_63) rfl (XT.i0_ne_f ht0) ?_
      show Steps p.tables e below (T2.setTop (mkF m 66 #[.val (.int k0), .val (.long x0), .second, .val (.int s0), .val (.int md), .val (.int (md &&& (3 : Int32))), .val (.long vv), .second, .val (.int tt), .unset, .unset] [])) _
      exact k
    obtain ⟨T15, X15, e15, st15⟩ := getS (host := "") X2 hx hZ hown (hw _ (List.mem_of_getElem? (i := 0) rfl)) Via.refl e2 S_U8 (g := (mkF m 66 #[.val (.int k0), .val (.long x0), .second, .val (.int s0), .val (.int md), .val (.int (md &&& (3 : Int32))), .val (.long vv), .second, .val (.int tt), .unset, .unset] [])) rfl (hb hby at_66)
    have pre16 : ∀ t, Steps p.tables e below (T15.setTop (mkF m 69 #[.val (.int k0), .val (.long x0), .second, .val (.int s0), .val (.int md), .val (.int (md &&& (3 : Int32))), .val (.long vv), .second, .val (.int tt), .unset, .unset] [(.ref a_U8)])) t → Steps p.tables e below (s₁.setTop (entryFrame m #[(.int k0), (.long x0), (.int s0), (.int md)] maxLocals)) t := fun t k => pre14 t (st15 t k)
    have pre17 : ∀ t, Steps p.tables e below (T15.setTop (mkF m 71 #[.val (.int k0), .val (.long x0), .second, .val (.int s0), .val (.int md), .val (.int (md &&& (3 : Int32))), .val (.long vv), .second, .val (.int tt), .val (.ref a_U8), .unset] [])) t → Steps p.tables e below (s₁.setTop (entryFrame m #[(.int k0), (.long x0), (.int s0), (.int md)] maxLocals)) t := by
      intro t k
      refine pre16 t ?_
      refine XS.astore X15.here hx rfl (hb hby at_69) rfl rfl (l' := #[.val (.int k0), .val (.long x0), .second, .val (.int s0), .val (.int md), .val (.int (md &&& (3 : Int32))), .val (.long vv), .second, .val (.int tt), .val (.ref a_U8), .unset]) rfl ?_
      show Steps p.tables e below (T15.setTop (mkF m 71 #[.val (.int k0), .val (.long x0), .second, .val (.int s0), .val (.int md), .val (.int (md &&& (3 : Int32))), .val (.long vv), .second, .val (.int tt), .val (.ref a_U8), .unset] [])) _
      exact k
    have mrg18 : ∃ (ex : Int32) (T18 : State) (Lo18 : List Loc), Stand p l e room_1 s m #[(.int k0), (.long x0), (.int s0), (.int md)] below meth c T18 Lo18 0 0 ∧ Fr n0 Lo18 ∧ T18.heap = h0 ∧ (ex = own_bi ((vv &&& (255 : Int64)) = vv)) ∧ ∀ t, Steps p.tables e below (T18.setTop (mkF m 88 #[.val (.int k0), .val (.long x0), .second, .val (.int s0), .val (.int md), .val (.int (md &&& (3 : Int32))), .val (.long vv), .second, .val (.int tt), .val (.ref a_U8), .unset] [(.int ex)])) t → Steps p.tables e below (s₁.setTop (entryFrame m #[(.int k0), (.long x0), (.int s0), (.int md)] maxLocals)) t := by
      have pre19 : ∀ t, Steps p.tables e below (T15.setTop (mkF m 80 #[.val (.int k0), .val (.long x0), .second, .val (.int s0), .val (.int md), .val (.int (md &&& (3 : Int32))), .val (.long vv), .second, .val (.int tt), .val (.ref a_U8), .unset] [(.int (XT.cmpL (vv &&& (255 : Int64)) vv))])) t → Steps p.tables e below (s₁.setTop (entryFrame m #[(.int k0), (.long x0), (.int s0), (.int md)] maxLocals)) t := by
        intro t k
        refine pre17 t ?_
        refine XT.lload X15.here hx rfl (hb hby at_71) rfl ?_
        show Steps p.tables e below (T15.setTop (mkF m 73 #[.val (.int k0), .val (.long x0), .second, .val (.int s0), .val (.int md), .val (.int (md &&& (3 : Int32))), .val (.long vv), .second, .val (.int tt), .val (.ref a_U8), .unset] [(.long vv)])) _
        refine Stand.ldc2J X15 hx hown (mvT hZ (hw _ (List.mem_of_getElem? (i := 3) rfl))) rfl (hb hby at_73) ?_
        show Steps p.tables e below (T15.setTop (mkF m 76 #[.val (.int k0), .val (.long x0), .second, .val (.int s0), .val (.int md), .val (.int (md &&& (3 : Int32))), .val (.long vv), .second, .val (.int tt), .val (.ref a_U8), .unset] [(.long (255 : Int64)), (.long vv)])) _
        refine XT.land X15.here hx rfl (hb hby at_76) rfl ?_
        show Steps p.tables e below (T15.setTop (mkF m 77 #[.val (.int k0), .val (.long x0), .second, .val (.int s0), .val (.int md), .val (.int (md &&& (3 : Int32))), .val (.long vv), .second, .val (.int tt), .val (.ref a_U8), .unset] [(.long (vv &&& (255 : Int64)))])) _
        refine XT.lload X15.here hx rfl (hb hby at_77) rfl ?_
        show Steps p.tables e below (T15.setTop (mkF m 79 #[.val (.int k0), .val (.long x0), .second, .val (.int s0), .val (.int md), .val (.int (md &&& (3 : Int32))), .val (.long vv), .second, .val (.int tt), .val (.ref a_U8), .unset] [(.long vv), (.long (vv &&& (255 : Int64)))])) _
        refine XT.lcmp X15.here hx rfl (hb hby at_79) rfl ?_
        show Steps p.tables e below (T15.setTop (mkF m 80 #[.val (.int k0), .val (.long x0), .second, .val (.int s0), .val (.int md), .val (.int (md &&& (3 : Int32))), .val (.long vv), .second, .val (.int tt), .val (.ref a_U8), .unset] [(.int (XT.cmpL (vv &&& (255 : Int64)) vv))])) _
        exact k
      by_cases hc80 : (vv &&& (255 : Int64)) = vv
      · skip
        have pre20 : ∀ t, Steps p.tables e below (T15.setTop (mkF m 88 #[.val (.int k0), .val (.long x0), .second, .val (.int s0), .val (.int md), .val (.int (md &&& (3 : Int32))), .val (.long vv), .second, .val (.int tt), .val (.ref a_U8), .unset] [(.int (1 : Int32))])) t → Steps p.tables e below (s₁.setTop (entryFrame m #[(.int k0), (.long x0), (.int s0), (.int md)] maxLocals)) t := by
          intro t k
          refine pre19 t ?_
          refine XS.ifNo X15.here hx rfl (hb hby at_80) rfl (XT.ll_ne_f hc80) ?_
          show Steps p.tables e below (T15.setTop (mkF m 83 #[.val (.int k0), .val (.long x0), .second, .val (.int s0), .val (.int md), .val (.int (md &&& (3 : Int32))), .val (.long vv), .second, .val (.int tt), .val (.ref a_U8), .unset] [])) _
          refine XS.iconst X15.here hx rfl (hb hby at_83) ?_
          show Steps p.tables e below (T15.setTop (mkF m 84 #[.val (.int k0), .val (.long x0), .second, .val (.int s0), .val (.int md), .val (.int (md &&& (3 : Int32))), .val (.long vv), .second, .val (.int tt), .val (.ref a_U8), .unset] [(.int (1 : Int32))])) _
          refine XS.goto X15.here hx rfl (pc0 := 84) (pc' := 88) rfl (hb hby at_84) (by decide) (by decide) ?_
          show Steps p.tables e below (T15.setTop (mkF m 88 #[.val (.int k0), .val (.long x0), .second, .val (.int s0), .val (.int md), .val (.int (md &&& (3 : Int32))), .val (.long vv), .second, .val (.int tt), .val (.ref a_U8), .unset] [(.int (1 : Int32))])) _
          exact k
        exact ⟨(1 : Int32), _, _, X15, N2, e15, (by first | exact (own_bi_t hc80).symm | exact (own_bi_f hc80).symm | (simp [own_bi, hc80]; done) | contradiction), pre20⟩
      · skip
        have pre21 : ∀ t, Steps p.tables e below (T15.setTop (mkF m 88 #[.val (.int k0), .val (.long x0), .second, .val (.int s0), .val (.int md), .val (.int (md &&& (3 : Int32))), .val (.long vv), .second, .val (.int tt), .val (.ref a_U8), .unset] [(.int (0 : Int32))])) t → Steps p.tables e below (s₁.setTop (entryFrame m #[(.int k0), (.long x0), (.int s0), (.int md)] maxLocals)) t := by
          intro t k
          refine pre19 t ?_
          refine XS.ifYes X15.here hx rfl (pc0 := 80) (pc' := 87) rfl (hb hby at_80) rfl (XT.ll_ne_t hc80) (by decide) (by decide) ?_
          show Steps p.tables e below (T15.setTop (mkF m 87 #[.val (.int k0), .val (.long x0), .second, .val (.int s0), .val (.int md), .val (.int (md &&& (3 : Int32))), .val (.long vv), .second, .val (.int tt), .val (.ref a_U8), .unset] [])) _
          refine XS.iconst X15.here hx rfl (hb hby at_87) ?_
          show Steps p.tables e below (T15.setTop (mkF m 88 #[.val (.int k0), .val (.long x0), .second, .val (.int s0), .val (.int md), .val (.int (md &&& (3 : Int32))), .val (.long vv), .second, .val (.int tt), .val (.ref a_U8), .unset] [(.int (0 : Int32))])) _
          exact k
        exact ⟨(0 : Int32), _, _, X15, N2, e15, (by first | exact (own_bi_t hc80).symm | exact (own_bi_f hc80).symm | (simp [own_bi, hc80]; done) | contradiction), pre21⟩
    obtain ⟨ex, T18, Lo18, X18, N18, e18, hex, pre18⟩ := mrg18
    have pre23 : ∀ t, Steps p.tables e below (T18.setTop (mkF m 284 #[.val (.int k0), .val (.long x0), .second, .val (.int s0), .val (.int md), .val (.int (md &&& (3 : Int32))), .val (.long vv), .second, .val (.int tt), .val (.ref a_U8), .val (.int ex)] [(.long vv), (.ref a_U8)])) t → Steps p.tables e below (s₁.setTop (entryFrame m #[(.int k0), (.long x0), (.int s0), (.int md)] maxLocals)) t := by
      intro t k
      refine pre18 t ?_
      refine XS.istore X18.here hx rfl (hb hby at_88) rfl (l' := #[.val (.int k0), .val (.long x0), .second, .val (.int s0), .val (.int md), .val (.int (md &&& (3 : Int32))), .val (.long vv), .second, .val (.int tt), .val (.ref a_U8), .val (.int ex)]) rfl ?_
      show Steps p.tables e below (T18.setTop (mkF m 90 #[.val (.int k0), .val (.long x0), .second, .val (.int s0), .val (.int md), .val (.int (md &&& (3 : Int32))), .val (.long vv), .second, .val (.int tt), .val (.ref a_U8), .val (.int ex)] [])) _
      refine XS.goto X18.here hx rfl (pc0 := 90) (pc' := 280) rfl (hb hby at_90) (by decide) (by decide) ?_
      show Steps p.tables e below (T18.setTop (mkF m 280 #[.val (.int k0), .val (.long x0), .second, .val (.int s0), .val (.int md), .val (.int (md &&& (3 : Int32))), .val (.long vv), .second, .val (.int tt), .val (.ref a_U8), .val (.int ex)] [])) _
      refine XS.aload X18.here hx rfl (hb hby at_280) rfl rfl ?_
      show Steps p.tables e below (T18.setTop (mkF m 282 #[.val (.int k0), .val (.long x0), .second, .val (.int s0), .val (.int md), .val (.int (md &&& (3 : Int32))), .val (.long vv), .second, .val (.int tt), .val (.ref a_U8), .val (.int ex)] [(.ref a_U8)])) _
      refine XT.lload X18.here hx rfl (hb hby at_282) rfl ?_
      show Steps p.tables e below (T18.setTop (mkF m 284 #[.val (.int k0), .val (.long x0), .second, .val (.int s0), .val (.int md), .val (.int (md &&& (3 : Int32))), .val (.long vv), .second, .val (.int tt), .val (.ref a_U8), .val (.int ex)] [(.long vv), (.ref a_U8)])) _
      exact k
    obtain ⟨cq24, kq24, q24a, q24b, q24c⟩ := isOf hZ e18 E_U8
    obtain ⟨_, _, ⟨T24, L24, k24, n24⟩, -, X24, ⟨Lc24, hQ24, l24, y24, z24⟩, st24⟩ := X18.virtualBack hx (y := (⟨"com/example/byteweave/byteweave/schema/ScalarType", "holds", "(J)Z"⟩ : MethodName)) (z := (⟨"com/example/byteweave/byteweave/schema/ScalarType", "holds", "(J)Z"⟩ : MethodName)) hown (mvT hZ (hw _ (List.mem_of_getElem? (i := 4) rfl))) (mvT hZ (hw _ (List.mem_of_getElem? (i := 5) rfl))) (notFace_of_selects (args := #[]) (mvT hZ (hw _ (List.mem_of_getElem? (i := 7) rfl)))) (mvT hZ (hw _ (List.mem_of_getElem? (i := 7) rfl))) (mvT hZ (hw _ (List.mem_of_getElem? (i := 6) rfl))) (by decide) (backOf (W := 0) (rm1 l Z a0 hw [] a_U8 vv (8 : Int32) (0 : Int64) (255 : Int64) h0 n0 Z0 E_U8 B_U8 L_U8 M_U8 (by decide)) hZ (hw _ (List.mem_of_getElem? (i := 8) rfl)) (hw _ (List.mem_of_getElem? (i := 1) rfl)) (by decide) (by decide)) q24a q24c (g := (mkF m 284 #[.val (.int k0), .val (.long x0), .second, .val (.int s0), .val (.int md), .val (.int (md &&& (3 : Int32))), .val (.long vv), .second, .val (.int tt), .val (.ref a_U8), .val (.int ex)] [(.long vv), (.ref a_U8)])) rfl (by rw [hml]; rfl) (Steps.refl _) (argsL := [(.long vv)]) (rest := []) (lenOf pd_hol rfl) rfl (by show 2 * 0 + _ ≤ _; exact Nat.le_of_eq rfl) (hb hby at_284) (fun _ _ => ⟨rfl, e18, (by decide : 0 + 0 ≤ _), (by decide : 0 + 0 ≤ _)⟩)
    dsimp only [Pt.U, Pt.locs, Pt.cells, Pt.slots] at X24 l24 y24 z24 st24 hQ24
    subst l24 y24 z24
    obtain ⟨rfl, Nq24, heq24⟩ := hQ24
    have N24 := Fr.app N18 Nq24
    have pre25 : ∀ t, Steps p.tables e below (T24.setTop (mkF m 287 #[.val (.int k0), .val (.long x0), .second, .val (.int s0), .val (.int md), .val (.int (md &&& (3 : Int32))), .val (.long vv), .second, .val (.int tt), .val (.ref a_U8), .val (.int ex)] [(.int (own_bi ((8 : Int32) = 64 ∨ (¬ vv < (0 : Int64) ∧ ¬ (255 : Int64) < vv))))])) t → Steps p.tables e below (s₁.setTop (entryFrame m #[(.int k0), (.long x0), (.int s0), (.int md)] maxLocals)) t := fun t k => pre23 t (st24.trans k)
    have pre26 : ∀ t, Steps p.tables e below (T24.setTop (mkF m 297 #[.val (.int k0), .val (.long x0), .second, .val (.int s0), .val (.int md), .val (.int (md &&& (3 : Int32))), .val (.long vv), .second, .val (.int tt), .val (.ref a_U8), .val (.int ex)] [(.int (1 : Int32))])) t → Steps p.tables e below (s₁.setTop (entryFrame m #[(.int k0), (.long x0), (.int s0), (.int md)] maxLocals)) t := by
      intro t k
      refine pre25 t ?_
      refine XS.iload X24.here hx rfl (hb hby at_287) rfl ?_
      show Steps p.tables e below (T24.setTop (mkF m 289 #[.val (.int k0), .val (.long x0), .second, .val (.int s0), .val (.int md), .val (.int (md &&& (3 : Int32))), .val (.long vv), .second, .val (.int tt), .val (.ref a_U8), .val (.int ex)] [(.int ex), (.int (own_bi ((8 : Int32) = 64 ∨ (¬ vv < (0 : Int64) ∧ ¬ (255 : Int64) < vv))))])) _
      refine XS.icmpNo X24.here hx rfl (hb hby at_289) rfl (XT.ii_ne_f (own_fin (b := 0) (by decide) hex (own_mask vv _ 8 (by decide) (by decide) (by decide)))) ?_
      show Steps p.tables e below (T24.setTop (mkF m 292 #[.val (.int k0), .val (.long x0), .second, .val (.int s0), .val (.int md), .val (.int (md &&& (3 : Int32))), .val (.long vv), .second, .val (.int tt), .val (.ref a_U8), .val (.int ex)] [])) _
      refine XS.iconst X24.here hx rfl (hb hby at_292) ?_
      show Steps p.tables e below (T24.setTop (mkF m 293 #[.val (.int k0), .val (.long x0), .second, .val (.int s0), .val (.int md), .val (.int (md &&& (3 : Int32))), .val (.long vv), .second, .val (.int tt), .val (.ref a_U8), .val (.int ex)] [(.int (1 : Int32))])) _
      refine XS.goto X24.here hx rfl (pc0 := 293) (pc' := 297) rfl (hb hby at_293) (by decide) (by decide) ?_
      show Steps p.tables e below (T24.setTop (mkF m 297 #[.val (.int k0), .val (.long x0), .second, .val (.int s0), .val (.int md), .val (.int (md &&& (3 : Int32))), .val (.long vv), .second, .val (.int tt), .val (.ref a_U8), .val (.int ex)] [(.int (1 : Int32))])) _
      exact k
    obtain ⟨fs, hr, hrun, hended, hW, hsame⟩ := X24.leave (v := some (.int (1 : Int32))) (fun h => by rw [Bd.returns] at h; cases h)
    refine ⟨_, _, pre26 _ ?_, hrun, hended, _, _, rfl, ?_, ⟨_, rfl⟩, hW, hsame.mono (by decide) (by decide)⟩
    · exact retOut X24 hx Bd.returns rfl (Or.inl ⟨rfl, by simp, _, rfl⟩) (hb hby at_297) hr
    · show Qlaw Z k0 x0 s0 md a_U8 a_U16 a_U32 a_U64 a_I8 a_I16 a_I32 a_I64 h0 n0 _ T24.heap _
      rw [heq24]
      exact ⟨rfl, N24⟩
  · skip
    have pre28 : ∀ t, Steps p.tables e below (T2.setTop (mkF m 96 #[.val (.int k0), .val (.long x0), .second, .val (.int s0), .val (.int md), .val (.int (md &&& (3 : Int32))), .val (.long vv), .second, .val (.int tt), .unset, .unset] [(.int (1 : Int32)), (.int tt)])) t → Steps p.tables e below (s₁.setTop (entryFrame m #[(.int k0), (.long x0), (.int s0), (.int md)] maxLocals)) t := by
      intro t k
      refine pre12 t ?_
      refine XS.ifYes X2.here hx rfl (pc0 := 63) (pc' := 93) rfl (hb hby at_63) rfl (XT.i0_ne_t ht0) (by decide) (by decide) ?_
      show Steps p.tables e below (T2.setTop (mkF m 93 #[.val (.int k0), .val (.long x0), .second, .val (.int s0), .val (.int md), .val (.int (md &&& (3 : Int32))), .val (.long vv), .second, .val (.int tt), .unset, .unset] [])) _
      refine XS.iload X2.here hx rfl (hb hby at_93) rfl ?_
      show Steps p.tables e below (T2.setTop (mkF m 95 #[.val (.int k0), .val (.long x0), .second, .val (.int s0), .val (.int md), .val (.int (md &&& (3 : Int32))), .val (.long vv), .second, .val (.int tt), .unset, .unset] [(.int tt)])) _
      refine XS.iconst X2.here hx rfl (hb hby at_95) ?_
      show Steps p.tables e below (T2.setTop (mkF m 96 #[.val (.int k0), .val (.long x0), .second, .val (.int s0), .val (.int md), .val (.int (md &&& (3 : Int32))), .val (.long vv), .second, .val (.int tt), .unset, .unset] [(.int (1 : Int32)), (.int tt)])) _
      exact k
    by_cases ht1 : tt = (1 : Int32)
    · skip
      have pre30 : ∀ t, Steps p.tables e below (T2.setTop (mkF m 99 #[.val (.int k0), .val (.long x0), .second, .val (.int s0), .val (.int md), .val (.int (md &&& (3 : Int32))), .val (.long vv), .second, .val (.int tt), .unset, .unset] [])) t → Steps p.tables e below (s₁.setTop (entryFrame m #[(.int k0), (.long x0), (.int s0), (.int md)] maxLocals)) t := by
        intro t k
        refine pre28 t ?_
        refine XS.icmpNo X2.here hx rfl (hb hby at_96) rfl (XT.ii_ne_f ht1) ?_
        show Steps p.tables e below (T2.setTop (mkF m 99 #[.val (.int k0), .val (.long x0), .second, .val (.int s0), .val (.int md), .val (.int (md &&& (3 : Int32))), .val (.long vv), .second, .val (.int tt), .unset, .unset] [])) _
        exact k
      obtain ⟨T31, X31, e31, st31⟩ := getS (host := "") X2 hx hZ hown (hw _ (List.mem_of_getElem? (i := 25) rfl)) Via.refl e2 S_U16 (g := (mkF m 99 #[.val (.int k0), .val (.long x0), .second, .val (.int s0), .val (.int md), .val (.int (md &&& (3 : Int32))), .val (.long vv), .second, .val (.int tt), .unset, .unset] [])) rfl (hb hby at_99)
      have pre32 : ∀ t, Steps p.tables e below (T31.setTop (mkF m 102 #[.val (.int k0), .val (.long x0), .second, .val (.int s0), .val (.int md), .val (.int (md &&& (3 : Int32))), .val (.long vv), .second, .val (.int tt), .unset, .unset] [(.ref a_U16)])) t → Steps p.tables e below (s₁.setTop (entryFrame m #[(.int k0), (.long x0), (.int s0), (.int md)] maxLocals)) t := fun t k => pre30 t (st31 t k)
      have pre33 : ∀ t, Steps p.tables e below (T31.setTop (mkF m 104 #[.val (.int k0), .val (.long x0), .second, .val (.int s0), .val (.int md), .val (.int (md &&& (3 : Int32))), .val (.long vv), .second, .val (.int tt), .val (.ref a_U16), .unset] [])) t → Steps p.tables e below (s₁.setTop (entryFrame m #[(.int k0), (.long x0), (.int s0), (.int md)] maxLocals)) t := by
        intro t k
        refine pre32 t ?_
        refine XS.astore X31.here hx rfl (hb hby at_102) rfl rfl (l' := #[.val (.int k0), .val (.long x0), .second, .val (.int s0), .val (.int md), .val (.int (md &&& (3 : Int32))), .val (.long vv), .second, .val (.int tt), .val (.ref a_U16), .unset]) rfl ?_
        show Steps p.tables e below (T31.setTop (mkF m 104 #[.val (.int k0), .val (.long x0), .second, .val (.int s0), .val (.int md), .val (.int (md &&& (3 : Int32))), .val (.long vv), .second, .val (.int tt), .val (.ref a_U16), .unset] [])) _
        exact k
      have mrg34 : ∃ (ex : Int32) (T34 : State) (Lo34 : List Loc), Stand p l e room_1 s m #[(.int k0), (.long x0), (.int s0), (.int md)] below meth c T34 Lo34 0 0 ∧ Fr n0 Lo34 ∧ T34.heap = h0 ∧ (ex = own_bi ((vv &&& (65535 : Int64)) = vv)) ∧ ∀ t, Steps p.tables e below (T34.setTop (mkF m 121 #[.val (.int k0), .val (.long x0), .second, .val (.int s0), .val (.int md), .val (.int (md &&& (3 : Int32))), .val (.long vv), .second, .val (.int tt), .val (.ref a_U16), .unset] [(.int ex)])) t → Steps p.tables e below (s₁.setTop (entryFrame m #[(.int k0), (.long x0), (.int s0), (.int md)] maxLocals)) t := by
        have pre35 : ∀ t, Steps p.tables e below (T31.setTop (mkF m 113 #[.val (.int k0), .val (.long x0), .second, .val (.int s0), .val (.int md), .val (.int (md &&& (3 : Int32))), .val (.long vv), .second, .val (.int tt), .val (.ref a_U16), .unset] [(.int (XT.cmpL (vv &&& (65535 : Int64)) vv))])) t → Steps p.tables e below (s₁.setTop (entryFrame m #[(.int k0), (.long x0), (.int s0), (.int md)] maxLocals)) t := by
          intro t k
          refine pre33 t ?_
          refine XT.lload X31.here hx rfl (hb hby at_104) rfl ?_
          show Steps p.tables e below (T31.setTop (mkF m 106 #[.val (.int k0), .val (.long x0), .second, .val (.int s0), .val (.int md), .val (.int (md &&& (3 : Int32))), .val (.long vv), .second, .val (.int tt), .val (.ref a_U16), .unset] [(.long vv)])) _
          refine Stand.ldc2J X31 hx hown (mvT hZ (hw _ (List.mem_of_getElem? (i := 27) rfl))) rfl (hb hby at_106) ?_
          show Steps p.tables e below (T31.setTop (mkF m 109 #[.val (.int k0), .val (.long x0), .second, .val (.int s0), .val (.int md), .val (.int (md &&& (3 : Int32))), .val (.long vv), .second, .val (.int tt), .val (.ref a_U16), .unset] [(.long (65535 : Int64)), (.long vv)])) _
          refine XT.land X31.here hx rfl (hb hby at_109) rfl ?_
          show Steps p.tables e below (T31.setTop (mkF m 110 #[.val (.int k0), .val (.long x0), .second, .val (.int s0), .val (.int md), .val (.int (md &&& (3 : Int32))), .val (.long vv), .second, .val (.int tt), .val (.ref a_U16), .unset] [(.long (vv &&& (65535 : Int64)))])) _
          refine XT.lload X31.here hx rfl (hb hby at_110) rfl ?_
          show Steps p.tables e below (T31.setTop (mkF m 112 #[.val (.int k0), .val (.long x0), .second, .val (.int s0), .val (.int md), .val (.int (md &&& (3 : Int32))), .val (.long vv), .second, .val (.int tt), .val (.ref a_U16), .unset] [(.long vv), (.long (vv &&& (65535 : Int64)))])) _
          refine XT.lcmp X31.here hx rfl (hb hby at_112) rfl ?_
          show Steps p.tables e below (T31.setTop (mkF m 113 #[.val (.int k0), .val (.long x0), .second, .val (.int s0), .val (.int md), .val (.int (md &&& (3 : Int32))), .val (.long vv), .second, .val (.int tt), .val (.ref a_U16), .unset] [(.int (XT.cmpL (vv &&& (65535 : Int64)) vv))])) _
          exact k
        by_cases hc113 : (vv &&& (65535 : Int64)) = vv
        · skip
          have pre36 : ∀ t, Steps p.tables e below (T31.setTop (mkF m 121 #[.val (.int k0), .val (.long x0), .second, .val (.int s0), .val (.int md), .val (.int (md &&& (3 : Int32))), .val (.long vv), .second, .val (.int tt), .val (.ref a_U16), .unset] [(.int (1 : Int32))])) t → Steps p.tables e below (s₁.setTop (entryFrame m #[(.int k0), (.long x0), (.int s0), (.int md)] maxLocals)) t := by
            intro t k
            refine pre35 t ?_
            refine XS.ifNo X31.here hx rfl (hb hby at_113) rfl (XT.ll_ne_f hc113) ?_
            show Steps p.tables e below (T31.setTop (mkF m 116 #[.val (.int k0), .val (.long x0), .second, .val (.int s0), .val (.int md), .val (.int (md &&& (3 : Int32))), .val (.long vv), .second, .val (.int tt), .val (.ref a_U16), .unset] [])) _
            refine XS.iconst X31.here hx rfl (hb hby at_116) ?_
            show Steps p.tables e below (T31.setTop (mkF m 117 #[.val (.int k0), .val (.long x0), .second, .val (.int s0), .val (.int md), .val (.int (md &&& (3 : Int32))), .val (.long vv), .second, .val (.int tt), .val (.ref a_U16), .unset] [(.int (1 : Int32))])) _
            refine XS.goto X31.here hx rfl (pc0 := 117) (pc' := 121) rfl (hb hby at_117) (by decide) (by decide) ?_
            show Steps p.tables e below (T31.setTop (mkF m 121 #[.val (.int k0), .val (.long x0), .second, .val (.int s0), .val (.int md), .val (.int (md &&& (3 : Int32))), .val (.long vv), .second, .val (.int tt), .val (.ref a_U16), .unset] [(.int (1 : Int32))])) _
            exact k
          exact ⟨(1 : Int32), _, _, X31, N2, e31, (by first | exact (own_bi_t hc113).symm | exact (own_bi_f hc113).symm | (simp [own_bi, hc113]; done) | contradiction), pre36⟩
        · skip
          have pre37 : ∀ t, Steps p.tables e below (T31.setTop (mkF m 121 #[.val (.int k0), .val (.long x0), .second, .val (.int s0), .val (.int md), .val (.int (md &&& (3 : Int32))), .val (.long vv), .second, .val (.int tt), .val (.ref a_U16), .unset] [(.int (0 : Int32))])) t → Steps p.tables e below (s₁.setTop (entryFrame m #[(.int k0), (.long x0), (.int s0), (.int md)] maxLocals)) t := by
            intro t k
            refine pre35 t ?_
            refine XS.ifYes X31.here hx rfl (pc0 := 113) (pc' := 120) rfl (hb hby at_113) rfl (XT.ll_ne_t hc113) (by decide) (by decide) ?_
            show Steps p.tables e below (T31.setTop (mkF m 120 #[.val (.int k0), .val (.long x0), .second, .val (.int s0), .val (.int md), .val (.int (md &&& (3 : Int32))), .val (.long vv), .second, .val (.int tt), .val (.ref a_U16), .unset] [])) _
            refine XS.iconst X31.here hx rfl (hb hby at_120) ?_
            show Steps p.tables e below (T31.setTop (mkF m 121 #[.val (.int k0), .val (.long x0), .second, .val (.int s0), .val (.int md), .val (.int (md &&& (3 : Int32))), .val (.long vv), .second, .val (.int tt), .val (.ref a_U16), .unset] [(.int (0 : Int32))])) _
            exact k
          exact ⟨(0 : Int32), _, _, X31, N2, e31, (by first | exact (own_bi_t hc113).symm | exact (own_bi_f hc113).symm | (simp [own_bi, hc113]; done) | contradiction), pre37⟩
      obtain ⟨ex, T34, Lo34, X34, N34, e34, hex, pre34⟩ := mrg34
      have pre39 : ∀ t, Steps p.tables e below (T34.setTop (mkF m 284 #[.val (.int k0), .val (.long x0), .second, .val (.int s0), .val (.int md), .val (.int (md &&& (3 : Int32))), .val (.long vv), .second, .val (.int tt), .val (.ref a_U16), .val (.int ex)] [(.long vv), (.ref a_U16)])) t → Steps p.tables e below (s₁.setTop (entryFrame m #[(.int k0), (.long x0), (.int s0), (.int md)] maxLocals)) t := by
        intro t k
        refine pre34 t ?_
        refine XS.istore X34.here hx rfl (hb hby at_121) rfl (l' := #[.val (.int k0), .val (.long x0), .second, .val (.int s0), .val (.int md), .val (.int (md &&& (3 : Int32))), .val (.long vv), .second, .val (.int tt), .val (.ref a_U16), .val (.int ex)]) rfl ?_
        show Steps p.tables e below (T34.setTop (mkF m 123 #[.val (.int k0), .val (.long x0), .second, .val (.int s0), .val (.int md), .val (.int (md &&& (3 : Int32))), .val (.long vv), .second, .val (.int tt), .val (.ref a_U16), .val (.int ex)] [])) _
        refine XS.goto X34.here hx rfl (pc0 := 123) (pc' := 280) rfl (hb hby at_123) (by decide) (by decide) ?_
        show Steps p.tables e below (T34.setTop (mkF m 280 #[.val (.int k0), .val (.long x0), .second, .val (.int s0), .val (.int md), .val (.int (md &&& (3 : Int32))), .val (.long vv), .second, .val (.int tt), .val (.ref a_U16), .val (.int ex)] [])) _
        refine XS.aload X34.here hx rfl (hb hby at_280) rfl rfl ?_
        show Steps p.tables e below (T34.setTop (mkF m 282 #[.val (.int k0), .val (.long x0), .second, .val (.int s0), .val (.int md), .val (.int (md &&& (3 : Int32))), .val (.long vv), .second, .val (.int tt), .val (.ref a_U16), .val (.int ex)] [(.ref a_U16)])) _
        refine XT.lload X34.here hx rfl (hb hby at_282) rfl ?_
        show Steps p.tables e below (T34.setTop (mkF m 284 #[.val (.int k0), .val (.long x0), .second, .val (.int s0), .val (.int md), .val (.int (md &&& (3 : Int32))), .val (.long vv), .second, .val (.int tt), .val (.ref a_U16), .val (.int ex)] [(.long vv), (.ref a_U16)])) _
        exact k
      obtain ⟨cq40, kq40, q40a, q40b, q40c⟩ := isOf hZ e34 E_U16
      obtain ⟨_, _, ⟨T40, L40, k40, n40⟩, -, X40, ⟨Lc40, hQ40, l40, y40, z40⟩, st40⟩ := X34.virtualBack hx (y := (⟨"com/example/byteweave/byteweave/schema/ScalarType", "holds", "(J)Z"⟩ : MethodName)) (z := (⟨"com/example/byteweave/byteweave/schema/ScalarType", "holds", "(J)Z"⟩ : MethodName)) hown (mvT hZ (hw _ (List.mem_of_getElem? (i := 4) rfl))) (mvT hZ (hw _ (List.mem_of_getElem? (i := 5) rfl))) (notFace_of_selects (args := #[]) (mvT hZ (hw _ (List.mem_of_getElem? (i := 7) rfl)))) (mvT hZ (hw _ (List.mem_of_getElem? (i := 7) rfl))) (mvT hZ (hw _ (List.mem_of_getElem? (i := 6) rfl))) (by decide) (backOf (W := 0) (rm1 l Z a0 hw [] a_U16 vv (16 : Int32) (0 : Int64) (65535 : Int64) h0 n0 Z0 E_U16 B_U16 L_U16 M_U16 (by decide)) hZ (hw _ (List.mem_of_getElem? (i := 8) rfl)) (hw _ (List.mem_of_getElem? (i := 1) rfl)) (by decide) (by decide)) q40a q40c (g := (mkF m 284 #[.val (.int k0), .val (.long x0), .second, .val (.int s0), .val (.int md), .val (.int (md &&& (3 : Int32))), .val (.long vv), .second, .val (.int tt), .val (.ref a_U16), .val (.int ex)] [(.long vv), (.ref a_U16)])) rfl (by rw [hml]; rfl) (Steps.refl _) (argsL := [(.long vv)]) (rest := []) (lenOf pd_hol rfl) rfl (by show 2 * 0 + _ ≤ _; exact Nat.le_of_eq rfl) (hb hby at_284) (fun _ _ => ⟨rfl, e34, (by decide : 0 + 0 ≤ _), (by decide : 0 + 0 ≤ _)⟩)
      dsimp only [Pt.U, Pt.locs, Pt.cells, Pt.slots] at X40 l40 y40 z40 st40 hQ40
      subst l40 y40 z40
      obtain ⟨rfl, Nq40, heq40⟩ := hQ40
      have N40 := Fr.app N34 Nq40
      have pre41 : ∀ t, Steps p.tables e below (T40.setTop (mkF m 287 #[.val (.int k0), .val (.long x0), .second, .val (.int s0), .val (.int md), .val (.int (md &&& (3 : Int32))), .val (.long vv), .second, .val (.int tt), .val (.ref a_U16), .val (.int ex)] [(.int (own_bi ((16 : Int32) = 64 ∨ (¬ vv < (0 : Int64) ∧ ¬ (65535 : Int64) < vv))))])) t → Steps p.tables e below (s₁.setTop (entryFrame m #[(.int k0), (.long x0), (.int s0), (.int md)] maxLocals)) t := fun t k => pre39 t (st40.trans k)
      have pre42 : ∀ t, Steps p.tables e below (T40.setTop (mkF m 297 #[.val (.int k0), .val (.long x0), .second, .val (.int s0), .val (.int md), .val (.int (md &&& (3 : Int32))), .val (.long vv), .second, .val (.int tt), .val (.ref a_U16), .val (.int ex)] [(.int (1 : Int32))])) t → Steps p.tables e below (s₁.setTop (entryFrame m #[(.int k0), (.long x0), (.int s0), (.int md)] maxLocals)) t := by
        intro t k
        refine pre41 t ?_
        refine XS.iload X40.here hx rfl (hb hby at_287) rfl ?_
        show Steps p.tables e below (T40.setTop (mkF m 289 #[.val (.int k0), .val (.long x0), .second, .val (.int s0), .val (.int md), .val (.int (md &&& (3 : Int32))), .val (.long vv), .second, .val (.int tt), .val (.ref a_U16), .val (.int ex)] [(.int ex), (.int (own_bi ((16 : Int32) = 64 ∨ (¬ vv < (0 : Int64) ∧ ¬ (65535 : Int64) < vv))))])) _
        refine XS.icmpNo X40.here hx rfl (hb hby at_289) rfl (XT.ii_ne_f (own_fin (b := 0) (by decide) hex (own_mask vv _ 16 (by decide) (by decide) (by decide)))) ?_
        show Steps p.tables e below (T40.setTop (mkF m 292 #[.val (.int k0), .val (.long x0), .second, .val (.int s0), .val (.int md), .val (.int (md &&& (3 : Int32))), .val (.long vv), .second, .val (.int tt), .val (.ref a_U16), .val (.int ex)] [])) _
        refine XS.iconst X40.here hx rfl (hb hby at_292) ?_
        show Steps p.tables e below (T40.setTop (mkF m 293 #[.val (.int k0), .val (.long x0), .second, .val (.int s0), .val (.int md), .val (.int (md &&& (3 : Int32))), .val (.long vv), .second, .val (.int tt), .val (.ref a_U16), .val (.int ex)] [(.int (1 : Int32))])) _
        refine XS.goto X40.here hx rfl (pc0 := 293) (pc' := 297) rfl (hb hby at_293) (by decide) (by decide) ?_
        show Steps p.tables e below (T40.setTop (mkF m 297 #[.val (.int k0), .val (.long x0), .second, .val (.int s0), .val (.int md), .val (.int (md &&& (3 : Int32))), .val (.long vv), .second, .val (.int tt), .val (.ref a_U16), .val (.int ex)] [(.int (1 : Int32))])) _
        exact k
      obtain ⟨fs, hr, hrun, hended, hW, hsame⟩ := X40.leave (v := some (.int (1 : Int32))) (fun h => by rw [Bd.returns] at h; cases h)
      refine ⟨_, _, pre42 _ ?_, hrun, hended, _, _, rfl, ?_, ⟨_, rfl⟩, hW, hsame.mono (by decide) (by decide)⟩
      · exact retOut X40 hx Bd.returns rfl (Or.inl ⟨rfl, by simp, _, rfl⟩) (hb hby at_297) hr
      · show Qlaw Z k0 x0 s0 md a_U8 a_U16 a_U32 a_U64 a_I8 a_I16 a_I32 a_I64 h0 n0 _ T40.heap _
        rw [heq40]
        exact ⟨rfl, N40⟩
    · skip
      have pre44 : ∀ t, Steps p.tables e below (T2.setTop (mkF m 129 #[.val (.int k0), .val (.long x0), .second, .val (.int s0), .val (.int md), .val (.int (md &&& (3 : Int32))), .val (.long vv), .second, .val (.int tt), .unset, .unset] [(.int (2 : Int32)), (.int tt)])) t → Steps p.tables e below (s₁.setTop (entryFrame m #[(.int k0), (.long x0), (.int s0), (.int md)] maxLocals)) t := by
        intro t k
        refine pre28 t ?_
        refine XS.icmpYes X2.here hx rfl (pc0 := 96) (pc' := 126) rfl (hb hby at_96) rfl (XT.ii_ne_t ht1) (by decide) (by decide) ?_
        show Steps p.tables e below (T2.setTop (mkF m 126 #[.val (.int k0), .val (.long x0), .second, .val (.int s0), .val (.int md), .val (.int (md &&& (3 : Int32))), .val (.long vv), .second, .val (.int tt), .unset, .unset] [])) _
        refine XS.iload X2.here hx rfl (hb hby at_126) rfl ?_
        show Steps p.tables e below (T2.setTop (mkF m 128 #[.val (.int k0), .val (.long x0), .second, .val (.int s0), .val (.int md), .val (.int (md &&& (3 : Int32))), .val (.long vv), .second, .val (.int tt), .unset, .unset] [(.int tt)])) _
        refine XS.iconst X2.here hx rfl (hb hby at_128) ?_
        show Steps p.tables e below (T2.setTop (mkF m 129 #[.val (.int k0), .val (.long x0), .second, .val (.int s0), .val (.int md), .val (.int (md &&& (3 : Int32))), .val (.long vv), .second, .val (.int tt), .unset, .unset] [(.int (2 : Int32)), (.int tt)])) _
        exact k
      by_cases ht2 : tt = (2 : Int32)
      · skip
        have pre46 : ∀ t, Steps p.tables e below (T2.setTop (mkF m 132 #[.val (.int k0), .val (.long x0), .second, .val (.int s0), .val (.int md), .val (.int (md &&& (3 : Int32))), .val (.long vv), .second, .val (.int tt), .unset, .unset] [])) t → Steps p.tables e below (s₁.setTop (entryFrame m #[(.int k0), (.long x0), (.int s0), (.int md)] maxLocals)) t := by
          intro t k
          refine pre44 t ?_
          refine XS.icmpNo X2.here hx rfl (hb hby at_129) rfl (XT.ii_ne_f ht2) ?_
          show Steps p.tables e below (T2.setTop (mkF m 132 #[.val (.int k0), .val (.long x0), .second, .val (.int s0), .val (.int md), .val (.int (md &&& (3 : Int32))), .val (.long vv), .second, .val (.int tt), .unset, .unset] [])) _
          exact k
        obtain ⟨T47, X47, e47, st47⟩ := getS (host := "") X2 hx hZ hown (hw _ (List.mem_of_getElem? (i := 33) rfl)) Via.refl e2 S_U32 (g := (mkF m 132 #[.val (.int k0), .val (.long x0), .second, .val (.int s0), .val (.int md), .val (.int (md &&& (3 : Int32))), .val (.long vv), .second, .val (.int tt), .unset, .unset] [])) rfl (hb hby at_132)
        have pre48 : ∀ t, Steps p.tables e below (T47.setTop (mkF m 135 #[.val (.int k0), .val (.long x0), .second, .val (.int s0), .val (.int md), .val (.int (md &&& (3 : Int32))), .val (.long vv), .second, .val (.int tt), .unset, .unset] [(.ref a_U32)])) t → Steps p.tables e below (s₁.setTop (entryFrame m #[(.int k0), (.long x0), (.int s0), (.int md)] maxLocals)) t := fun t k => pre46 t (st47 t k)
        have pre49 : ∀ t, Steps p.tables e below (T47.setTop (mkF m 137 #[.val (.int k0), .val (.long x0), .second, .val (.int s0), .val (.int md), .val (.int (md &&& (3 : Int32))), .val (.long vv), .second, .val (.int tt), .val (.ref a_U32), .unset] [])) t → Steps p.tables e below (s₁.setTop (entryFrame m #[(.int k0), (.long x0), (.int s0), (.int md)] maxLocals)) t := by
          intro t k
          refine pre48 t ?_
          refine XS.astore X47.here hx rfl (hb hby at_135) rfl rfl (l' := #[.val (.int k0), .val (.long x0), .second, .val (.int s0), .val (.int md), .val (.int (md &&& (3 : Int32))), .val (.long vv), .second, .val (.int tt), .val (.ref a_U32), .unset]) rfl ?_
          show Steps p.tables e below (T47.setTop (mkF m 137 #[.val (.int k0), .val (.long x0), .second, .val (.int s0), .val (.int md), .val (.int (md &&& (3 : Int32))), .val (.long vv), .second, .val (.int tt), .val (.ref a_U32), .unset] [])) _
          exact k
        have mrg50 : ∃ (ex : Int32) (T50 : State) (Lo50 : List Loc), Stand p l e room_1 s m #[(.int k0), (.long x0), (.int s0), (.int md)] below meth c T50 Lo50 0 0 ∧ Fr n0 Lo50 ∧ T50.heap = h0 ∧ (ex = own_bi ((vv &&& (4294967295 : Int64)) = vv)) ∧ ∀ t, Steps p.tables e below (T50.setTop (mkF m 154 #[.val (.int k0), .val (.long x0), .second, .val (.int s0), .val (.int md), .val (.int (md &&& (3 : Int32))), .val (.long vv), .second, .val (.int tt), .val (.ref a_U32), .unset] [(.int ex)])) t → Steps p.tables e below (s₁.setTop (entryFrame m #[(.int k0), (.long x0), (.int s0), (.int md)] maxLocals)) t := by
          have pre51 : ∀ t, Steps p.tables e below (T47.setTop (mkF m 146 #[.val (.int k0), .val (.long x0), .second, .val (.int s0), .val (.int md), .val (.int (md &&& (3 : Int32))), .val (.long vv), .second, .val (.int tt), .val (.ref a_U32), .unset] [(.int (XT.cmpL (vv &&& (4294967295 : Int64)) vv))])) t → Steps p.tables e below (s₁.setTop (entryFrame m #[(.int k0), (.long x0), (.int s0), (.int md)] maxLocals)) t := by
            intro t k
            refine pre49 t ?_
            refine XT.lload X47.here hx rfl (hb hby at_137) rfl ?_
            show Steps p.tables e below (T47.setTop (mkF m 139 #[.val (.int k0), .val (.long x0), .second, .val (.int s0), .val (.int md), .val (.int (md &&& (3 : Int32))), .val (.long vv), .second, .val (.int tt), .val (.ref a_U32), .unset] [(.long vv)])) _
            refine Stand.ldc2J X47 hx hown (mvT hZ (hw _ (List.mem_of_getElem? (i := 28) rfl))) rfl (hb hby at_139) ?_
            show Steps p.tables e below (T47.setTop (mkF m 142 #[.val (.int k0), .val (.long x0), .second, .val (.int s0), .val (.int md), .val (.int (md &&& (3 : Int32))), .val (.long vv), .second, .val (.int tt), .val (.ref a_U32), .unset] [(.long (4294967295 : Int64)), (.long vv)])) _
            refine XT.land X47.here hx rfl (hb hby at_142) rfl ?_
            show Steps p.tables e below (T47.setTop (mkF m 143 #[.val (.int k0), .val (.long x0), .second, .val (.int s0), .val (.int md), .val (.int (md &&& (3 : Int32))), .val (.long vv), .second, .val (.int tt), .val (.ref a_U32), .unset] [(.long (vv &&& (4294967295 : Int64)))])) _
            refine XT.lload X47.here hx rfl (hb hby at_143) rfl ?_
            show Steps p.tables e below (T47.setTop (mkF m 145 #[.val (.int k0), .val (.long x0), .second, .val (.int s0), .val (.int md), .val (.int (md &&& (3 : Int32))), .val (.long vv), .second, .val (.int tt), .val (.ref a_U32), .unset] [(.long vv), (.long (vv &&& (4294967295 : Int64)))])) _
            refine XT.lcmp X47.here hx rfl (hb hby at_145) rfl ?_
            show Steps p.tables e below (T47.setTop (mkF m 146 #[.val (.int k0), .val (.long x0), .second, .val (.int s0), .val (.int md), .val (.int (md &&& (3 : Int32))), .val (.long vv), .second, .val (.int tt), .val (.ref a_U32), .unset] [(.int (XT.cmpL (vv &&& (4294967295 : Int64)) vv))])) _
            exact k
          by_cases hc146 : (vv &&& (4294967295 : Int64)) = vv
          · skip
            have pre52 : ∀ t, Steps p.tables e below (T47.setTop (mkF m 154 #[.val (.int k0), .val (.long x0), .second, .val (.int s0), .val (.int md), .val (.int (md &&& (3 : Int32))), .val (.long vv), .second, .val (.int tt), .val (.ref a_U32), .unset] [(.int (1 : Int32))])) t → Steps p.tables e below (s₁.setTop (entryFrame m #[(.int k0), (.long x0), (.int s0), (.int md)] maxLocals)) t := by
              intro t k
              refine pre51 t ?_
              refine XS.ifNo X47.here hx rfl (hb hby at_146) rfl (XT.ll_ne_f hc146) ?_
              show Steps p.tables e below (T47.setTop (mkF m 149 #[.val (.int k0), .val (.long x0), .second, .val (.int s0), .val (.int md), .val (.int (md &&& (3 : Int32))), .val (.long vv), .second, .val (.int tt), .val (.ref a_U32), .unset] [])) _
              refine XS.iconst X47.here hx rfl (hb hby at_149) ?_
              show Steps p.tables e below (T47.setTop (mkF m 150 #[.val (.int k0), .val (.long x0), .second, .val (.int s0), .val (.int md), .val (.int (md &&& (3 : Int32))), .val (.long vv), .second, .val (.int tt), .val (.ref a_U32), .unset] [(.int (1 : Int32))])) _
              refine XS.goto X47.here hx rfl (pc0 := 150) (pc' := 154) rfl (hb hby at_150) (by decide) (by decide) ?_
              show Steps p.tables e below (T47.setTop (mkF m 154 #[.val (.int k0), .val (.long x0), .second, .val (.int s0), .val (.int md), .val (.int (md &&& (3 : Int32))), .val (.long vv), .second, .val (.int tt), .val (.ref a_U32), .unset] [(.int (1 : Int32))])) _
              exact k
            exact ⟨(1 : Int32), _, _, X47, N2, e47, (by first | exact (own_bi_t hc146).symm | exact (own_bi_f hc146).symm | (simp [own_bi, hc146]; done) | contradiction), pre52⟩
          · skip
            have pre53 : ∀ t, Steps p.tables e below (T47.setTop (mkF m 154 #[.val (.int k0), .val (.long x0), .second, .val (.int s0), .val (.int md), .val (.int (md &&& (3 : Int32))), .val (.long vv), .second, .val (.int tt), .val (.ref a_U32), .unset] [(.int (0 : Int32))])) t → Steps p.tables e below (s₁.setTop (entryFrame m #[(.int k0), (.long x0), (.int s0), (.int md)] maxLocals)) t := by
              intro t k
              refine pre51 t ?_
              refine XS.ifYes X47.here hx rfl (pc0 := 146) (pc' := 153) rfl (hb hby at_146) rfl (XT.ll_ne_t hc146) (by decide) (by decide) ?_
              show Steps p.tables e below (T47.setTop (mkF m 153 #[.val (.int k0), .val (.long x0), .second, .val (.int s0), .val (.int md), .val (.int (md &&& (3 : Int32))), .val (.long vv), .second, .val (.int tt), .val (.ref a_U32), .unset] [])) _
              refine XS.iconst X47.here hx rfl (hb hby at_153) ?_
              show Steps p.tables e below (T47.setTop (mkF m 154 #[.val (.int k0), .val (.long x0), .second, .val (.int s0), .val (.int md), .val (.int (md &&& (3 : Int32))), .val (.long vv), .second, .val (.int tt), .val (.ref a_U32), .unset] [(.int (0 : Int32))])) _
              exact k
            exact ⟨(0 : Int32), _, _, X47, N2, e47, (by first | exact (own_bi_t hc146).symm | exact (own_bi_f hc146).symm | (simp [own_bi, hc146]; done) | contradiction), pre53⟩
        obtain ⟨ex, T50, Lo50, X50, N50, e50, hex, pre50⟩ := mrg50
        have pre55 : ∀ t, Steps p.tables e below (T50.setTop (mkF m 284 #[.val (.int k0), .val (.long x0), .second, .val (.int s0), .val (.int md), .val (.int (md &&& (3 : Int32))), .val (.long vv), .second, .val (.int tt), .val (.ref a_U32), .val (.int ex)] [(.long vv), (.ref a_U32)])) t → Steps p.tables e below (s₁.setTop (entryFrame m #[(.int k0), (.long x0), (.int s0), (.int md)] maxLocals)) t := by
          intro t k
          refine pre50 t ?_
          refine XS.istore X50.here hx rfl (hb hby at_154) rfl (l' := #[.val (.int k0), .val (.long x0), .second, .val (.int s0), .val (.int md), .val (.int (md &&& (3 : Int32))), .val (.long vv), .second, .val (.int tt), .val (.ref a_U32), .val (.int ex)]) rfl ?_
          show Steps p.tables e below (T50.setTop (mkF m 156 #[.val (.int k0), .val (.long x0), .second, .val (.int s0), .val (.int md), .val (.int (md &&& (3 : Int32))), .val (.long vv), .second, .val (.int tt), .val (.ref a_U32), .val (.int ex)] [])) _
          refine XS.goto X50.here hx rfl (pc0 := 156) (pc' := 280) rfl (hb hby at_156) (by decide) (by decide) ?_
          show Steps p.tables e below (T50.setTop (mkF m 280 #[.val (.int k0), .val (.long x0), .second, .val (.int s0), .val (.int md), .val (.int (md &&& (3 : Int32))), .val (.long vv), .second, .val (.int tt), .val (.ref a_U32), .val (.int ex)] [])) _
          refine XS.aload X50.here hx rfl (hb hby at_280) rfl rfl ?_
          show Steps p.tables e below (T50.setTop (mkF m 282 #[.val (.int k0), .val (.long x0), .second, .val (.int s0), .val (.int md), .val (.int (md &&& (3 : Int32))), .val (.long vv), .second, .val (.int tt), .val (.ref a_U32), .val (.int ex)] [(.ref a_U32)])) _
          refine XT.lload X50.here hx rfl (hb hby at_282) rfl ?_
          show Steps p.tables e below (T50.setTop (mkF m 284 #[.val (.int k0), .val (.long x0), .second, .val (.int s0), .val (.int md), .val (.int (md &&& (3 : Int32))), .val (.long vv), .second, .val (.int tt), .val (.ref a_U32), .val (.int ex)] [(.long vv), (.ref a_U32)])) _
          exact k
        obtain ⟨cq56, kq56, q56a, q56b, q56c⟩ := isOf hZ e50 E_U32
        obtain ⟨_, _, ⟨T56, L56, k56, n56⟩, -, X56, ⟨Lc56, hQ56, l56, y56, z56⟩, st56⟩ := X50.virtualBack hx (y := (⟨"com/example/byteweave/byteweave/schema/ScalarType", "holds", "(J)Z"⟩ : MethodName)) (z := (⟨"com/example/byteweave/byteweave/schema/ScalarType", "holds", "(J)Z"⟩ : MethodName)) hown (mvT hZ (hw _ (List.mem_of_getElem? (i := 4) rfl))) (mvT hZ (hw _ (List.mem_of_getElem? (i := 5) rfl))) (notFace_of_selects (args := #[]) (mvT hZ (hw _ (List.mem_of_getElem? (i := 7) rfl)))) (mvT hZ (hw _ (List.mem_of_getElem? (i := 7) rfl))) (mvT hZ (hw _ (List.mem_of_getElem? (i := 6) rfl))) (by decide) (backOf (W := 0) (rm1 l Z a0 hw [] a_U32 vv (32 : Int32) (0 : Int64) (4294967295 : Int64) h0 n0 Z0 E_U32 B_U32 L_U32 M_U32 (by decide)) hZ (hw _ (List.mem_of_getElem? (i := 8) rfl)) (hw _ (List.mem_of_getElem? (i := 1) rfl)) (by decide) (by decide)) q56a q56c (g := (mkF m 284 #[.val (.int k0), .val (.long x0), .second, .val (.int s0), .val (.int md), .val (.int (md &&& (3 : Int32))), .val (.long vv), .second, .val (.int tt), .val (.ref a_U32), .val (.int ex)] [(.long vv), (.ref a_U32)])) rfl (by rw [hml]; rfl) (Steps.refl _) (argsL := [(.long vv)]) (rest := []) (lenOf pd_hol rfl) rfl (by show 2 * 0 + _ ≤ _; exact Nat.le_of_eq rfl) (hb hby at_284) (fun _ _ => ⟨rfl, e50, (by decide : 0 + 0 ≤ _), (by decide : 0 + 0 ≤ _)⟩)
        dsimp only [Pt.U, Pt.locs, Pt.cells, Pt.slots] at X56 l56 y56 z56 st56 hQ56
        subst l56 y56 z56
        obtain ⟨rfl, Nq56, heq56⟩ := hQ56
        have N56 := Fr.app N50 Nq56
        have pre57 : ∀ t, Steps p.tables e below (T56.setTop (mkF m 287 #[.val (.int k0), .val (.long x0), .second, .val (.int s0), .val (.int md), .val (.int (md &&& (3 : Int32))), .val (.long vv), .second, .val (.int tt), .val (.ref a_U32), .val (.int ex)] [(.int (own_bi ((32 : Int32) = 64 ∨ (¬ vv < (0 : Int64) ∧ ¬ (4294967295 : Int64) < vv))))])) t → Steps p.tables e below (s₁.setTop (entryFrame m #[(.int k0), (.long x0), (.int s0), (.int md)] maxLocals)) t := fun t k => pre55 t (st56.trans k)
        have pre58 : ∀ t, Steps p.tables e below (T56.setTop (mkF m 297 #[.val (.int k0), .val (.long x0), .second, .val (.int s0), .val (.int md), .val (.int (md &&& (3 : Int32))), .val (.long vv), .second, .val (.int tt), .val (.ref a_U32), .val (.int ex)] [(.int (1 : Int32))])) t → Steps p.tables e below (s₁.setTop (entryFrame m #[(.int k0), (.long x0), (.int s0), (.int md)] maxLocals)) t := by
          intro t k
          refine pre57 t ?_
          refine XS.iload X56.here hx rfl (hb hby at_287) rfl ?_
          show Steps p.tables e below (T56.setTop (mkF m 289 #[.val (.int k0), .val (.long x0), .second, .val (.int s0), .val (.int md), .val (.int (md &&& (3 : Int32))), .val (.long vv), .second, .val (.int tt), .val (.ref a_U32), .val (.int ex)] [(.int ex), (.int (own_bi ((32 : Int32) = 64 ∨ (¬ vv < (0 : Int64) ∧ ¬ (4294967295 : Int64) < vv))))])) _
          refine XS.icmpNo X56.here hx rfl (hb hby at_289) rfl (XT.ii_ne_f (own_fin (b := 0) (by decide) hex (own_mask vv _ 32 (by decide) (by decide) (by decide)))) ?_
          show Steps p.tables e below (T56.setTop (mkF m 292 #[.val (.int k0), .val (.long x0), .second, .val (.int s0), .val (.int md), .val (.int (md &&& (3 : Int32))), .val (.long vv), .second, .val (.int tt), .val (.ref a_U32), .val (.int ex)] [])) _
          refine XS.iconst X56.here hx rfl (hb hby at_292) ?_
          show Steps p.tables e below (T56.setTop (mkF m 293 #[.val (.int k0), .val (.long x0), .second, .val (.int s0), .val (.int md), .val (.int (md &&& (3 : Int32))), .val (.long vv), .second, .val (.int tt), .val (.ref a_U32), .val (.int ex)] [(.int (1 : Int32))])) _
          refine XS.goto X56.here hx rfl (pc0 := 293) (pc' := 297) rfl (hb hby at_293) (by decide) (by decide) ?_
          show Steps p.tables e below (T56.setTop (mkF m 297 #[.val (.int k0), .val (.long x0), .second, .val (.int s0), .val (.int md), .val (.int (md &&& (3 : Int32))), .val (.long vv), .second, .val (.int tt), .val (.ref a_U32), .val (.int ex)] [(.int (1 : Int32))])) _
          exact k
        obtain ⟨fs, hr, hrun, hended, hW, hsame⟩ := X56.leave (v := some (.int (1 : Int32))) (fun h => by rw [Bd.returns] at h; cases h)
        refine ⟨_, _, pre58 _ ?_, hrun, hended, _, _, rfl, ?_, ⟨_, rfl⟩, hW, hsame.mono (by decide) (by decide)⟩
        · exact retOut X56 hx Bd.returns rfl (Or.inl ⟨rfl, by simp, _, rfl⟩) (hb hby at_297) hr
        · show Qlaw Z k0 x0 s0 md a_U8 a_U16 a_U32 a_U64 a_I8 a_I16 a_I32 a_I64 h0 n0 _ T56.heap _
          rw [heq56]
          exact ⟨rfl, N56⟩
      · skip
        have pre60 : ∀ t, Steps p.tables e below (T2.setTop (mkF m 162 #[.val (.int k0), .val (.long x0), .second, .val (.int s0), .val (.int md), .val (.int (md &&& (3 : Int32))), .val (.long vv), .second, .val (.int tt), .unset, .unset] [(.int (3 : Int32)), (.int tt)])) t → Steps p.tables e below (s₁.setTop (entryFrame m #[(.int k0), (.long x0), (.int s0), (.int md)] maxLocals)) t := by
          intro t k
          refine pre44 t ?_
          refine XS.icmpYes X2.here hx rfl (pc0 := 129) (pc' := 159) rfl (hb hby at_129) rfl (XT.ii_ne_t ht2) (by decide) (by decide) ?_
          show Steps p.tables e below (T2.setTop (mkF m 159 #[.val (.int k0), .val (.long x0), .second, .val (.int s0), .val (.int md), .val (.int (md &&& (3 : Int32))), .val (.long vv), .second, .val (.int tt), .unset, .unset] [])) _
          refine XS.iload X2.here hx rfl (hb hby at_159) rfl ?_
          show Steps p.tables e below (T2.setTop (mkF m 161 #[.val (.int k0), .val (.long x0), .second, .val (.int s0), .val (.int md), .val (.int (md &&& (3 : Int32))), .val (.long vv), .second, .val (.int tt), .unset, .unset] [(.int tt)])) _
          refine XS.iconst X2.here hx rfl (hb hby at_161) ?_
          show Steps p.tables e below (T2.setTop (mkF m 162 #[.val (.int k0), .val (.long x0), .second, .val (.int s0), .val (.int md), .val (.int (md &&& (3 : Int32))), .val (.long vv), .second, .val (.int tt), .unset, .unset] [(.int (3 : Int32)), (.int tt)])) _
          exact k
        by_cases ht3 : tt = (3 : Int32)
        · skip
          have pre62 : ∀ t, Steps p.tables e below (T2.setTop (mkF m 165 #[.val (.int k0), .val (.long x0), .second, .val (.int s0), .val (.int md), .val (.int (md &&& (3 : Int32))), .val (.long vv), .second, .val (.int tt), .unset, .unset] [])) t → Steps p.tables e below (s₁.setTop (entryFrame m #[(.int k0), (.long x0), (.int s0), (.int md)] maxLocals)) t := by
            intro t k
            refine pre60 t ?_
            refine XS.icmpNo X2.here hx rfl (hb hby at_162) rfl (XT.ii_ne_f ht3) ?_
            show Steps p.tables e below (T2.setTop (mkF m 165 #[.val (.int k0), .val (.long x0), .second, .val (.int s0), .val (.int md), .val (.int (md &&& (3 : Int32))), .val (.long vv), .second, .val (.int tt), .unset, .unset] [])) _
            exact k
          obtain ⟨T63, X63, e63, st63⟩ := getS (host := "") X2 hx hZ hown (hw _ (List.mem_of_getElem? (i := 19) rfl)) Via.refl e2 S_U64 (g := (mkF m 165 #[.val (.int k0), .val (.long x0), .second, .val (.int s0), .val (.int md), .val (.int (md &&& (3 : Int32))), .val (.long vv), .second, .val (.int tt), .unset, .unset] [])) rfl (hb hby at_165)
          have pre64 : ∀ t, Steps p.tables e below (T63.setTop (mkF m 168 #[.val (.int k0), .val (.long x0), .second, .val (.int s0), .val (.int md), .val (.int (md &&& (3 : Int32))), .val (.long vv), .second, .val (.int tt), .unset, .unset] [(.ref a_U64)])) t → Steps p.tables e below (s₁.setTop (entryFrame m #[(.int k0), (.long x0), (.int s0), (.int md)] maxLocals)) t := fun t k => pre62 t (st63 t k)
          have pre66 : ∀ t, Steps p.tables e below (T63.setTop (mkF m 284 #[.val (.int k0), .val (.long x0), .second, .val (.int s0), .val (.int md), .val (.int (md &&& (3 : Int32))), .val (.long vv), .second, .val (.int tt), .val (.ref a_U64), .val (.int (1 : Int32))] [(.long vv), (.ref a_U64)])) t → Steps p.tables e below (s₁.setTop (entryFrame m #[(.int k0), (.long x0), (.int s0), (.int md)] maxLocals)) t := by
            intro t k
            refine pre64 t ?_
            refine XS.astore X63.here hx rfl (hb hby at_168) rfl rfl (l' := #[.val (.int k0), .val (.long x0), .second, .val (.int s0), .val (.int md), .val (.int (md &&& (3 : Int32))), .val (.long vv), .second, .val (.int tt), .val (.ref a_U64), .unset]) rfl ?_
            show Steps p.tables e below (T63.setTop (mkF m 170 #[.val (.int k0), .val (.long x0), .second, .val (.int s0), .val (.int md), .val (.int (md &&& (3 : Int32))), .val (.long vv), .second, .val (.int tt), .val (.ref a_U64), .unset] [])) _
            refine XS.iconst X63.here hx rfl (hb hby at_170) ?_
            show Steps p.tables e below (T63.setTop (mkF m 171 #[.val (.int k0), .val (.long x0), .second, .val (.int s0), .val (.int md), .val (.int (md &&& (3 : Int32))), .val (.long vv), .second, .val (.int tt), .val (.ref a_U64), .unset] [(.int (1 : Int32))])) _
            refine XS.istore X63.here hx rfl (hb hby at_171) rfl (l' := #[.val (.int k0), .val (.long x0), .second, .val (.int s0), .val (.int md), .val (.int (md &&& (3 : Int32))), .val (.long vv), .second, .val (.int tt), .val (.ref a_U64), .val (.int (1 : Int32))]) rfl ?_
            show Steps p.tables e below (T63.setTop (mkF m 173 #[.val (.int k0), .val (.long x0), .second, .val (.int s0), .val (.int md), .val (.int (md &&& (3 : Int32))), .val (.long vv), .second, .val (.int tt), .val (.ref a_U64), .val (.int (1 : Int32))] [])) _
            refine XS.goto X63.here hx rfl (pc0 := 173) (pc' := 280) rfl (hb hby at_173) (by decide) (by decide) ?_
            show Steps p.tables e below (T63.setTop (mkF m 280 #[.val (.int k0), .val (.long x0), .second, .val (.int s0), .val (.int md), .val (.int (md &&& (3 : Int32))), .val (.long vv), .second, .val (.int tt), .val (.ref a_U64), .val (.int (1 : Int32))] [])) _
            refine XS.aload X63.here hx rfl (hb hby at_280) rfl rfl ?_
            show Steps p.tables e below (T63.setTop (mkF m 282 #[.val (.int k0), .val (.long x0), .second, .val (.int s0), .val (.int md), .val (.int (md &&& (3 : Int32))), .val (.long vv), .second, .val (.int tt), .val (.ref a_U64), .val (.int (1 : Int32))] [(.ref a_U64)])) _
            refine XT.lload X63.here hx rfl (hb hby at_282) rfl ?_
            show Steps p.tables e below (T63.setTop (mkF m 284 #[.val (.int k0), .val (.long x0), .second, .val (.int s0), .val (.int md), .val (.int (md &&& (3 : Int32))), .val (.long vv), .second, .val (.int tt), .val (.ref a_U64), .val (.int (1 : Int32))] [(.long vv), (.ref a_U64)])) _
            exact k
          obtain ⟨cq67, kq67, q67a, q67b, q67c⟩ := isOf hZ e63 E_U64
          obtain ⟨_, _, ⟨T67, L67, k67, n67⟩, -, X67, ⟨Lc67, hQ67, l67, y67, z67⟩, st67⟩ := X63.virtualBack hx (y := (⟨"com/example/byteweave/byteweave/schema/ScalarType", "holds", "(J)Z"⟩ : MethodName)) (z := (⟨"com/example/byteweave/byteweave/schema/ScalarType", "holds", "(J)Z"⟩ : MethodName)) hown (mvT hZ (hw _ (List.mem_of_getElem? (i := 4) rfl))) (mvT hZ (hw _ (List.mem_of_getElem? (i := 5) rfl))) (notFace_of_selects (args := #[]) (mvT hZ (hw _ (List.mem_of_getElem? (i := 7) rfl)))) (mvT hZ (hw _ (List.mem_of_getElem? (i := 7) rfl))) (mvT hZ (hw _ (List.mem_of_getElem? (i := 6) rfl))) (by decide) (backOf (W := 0) (rm1 l Z a0 hw [] a_U64 vv (64 : Int32) (0 : Int64) (-1 : Int64) h0 n0 Z0 E_U64 B_U64 L_U64 M_U64 (by decide)) hZ (hw _ (List.mem_of_getElem? (i := 8) rfl)) (hw _ (List.mem_of_getElem? (i := 1) rfl)) (by decide) (by decide)) q67a q67c (g := (mkF m 284 #[.val (.int k0), .val (.long x0), .second, .val (.int s0), .val (.int md), .val (.int (md &&& (3 : Int32))), .val (.long vv), .second, .val (.int tt), .val (.ref a_U64), .val (.int (1 : Int32))] [(.long vv), (.ref a_U64)])) rfl (by rw [hml]; rfl) (Steps.refl _) (argsL := [(.long vv)]) (rest := []) (lenOf pd_hol rfl) rfl (by show 2 * 0 + _ ≤ _; exact Nat.le_of_eq rfl) (hb hby at_284) (fun _ _ => ⟨rfl, e63, (by decide : 0 + 0 ≤ _), (by decide : 0 + 0 ≤ _)⟩)
          dsimp only [Pt.U, Pt.locs, Pt.cells, Pt.slots] at X67 l67 y67 z67 st67 hQ67
          subst l67 y67 z67
          obtain ⟨rfl, Nq67, heq67⟩ := hQ67
          have N67 := Fr.app N2 Nq67
          have pre68 : ∀ t, Steps p.tables e below (T67.setTop (mkF m 287 #[.val (.int k0), .val (.long x0), .second, .val (.int s0), .val (.int md), .val (.int (md &&& (3 : Int32))), .val (.long vv), .second, .val (.int tt), .val (.ref a_U64), .val (.int (1 : Int32))] [(.int (own_bi ((64 : Int32) = 64 ∨ (¬ vv < (0 : Int64) ∧ ¬ (-1 : Int64) < vv))))])) t → Steps p.tables e below (s₁.setTop (entryFrame m #[(.int k0), (.long x0), (.int s0), (.int md)] maxLocals)) t := fun t k => pre66 t (st67.trans k)
          have pre69 : ∀ t, Steps p.tables e below (T67.setTop (mkF m 297 #[.val (.int k0), .val (.long x0), .second, .val (.int s0), .val (.int md), .val (.int (md &&& (3 : Int32))), .val (.long vv), .second, .val (.int tt), .val (.ref a_U64), .val (.int (1 : Int32))] [(.int (1 : Int32))])) t → Steps p.tables e below (s₁.setTop (entryFrame m #[(.int k0), (.long x0), (.int s0), (.int md)] maxLocals)) t := by
            intro t k
            refine pre68 t ?_
            refine XS.iload X67.here hx rfl (hb hby at_287) rfl ?_
            show Steps p.tables e below (T67.setTop (mkF m 289 #[.val (.int k0), .val (.long x0), .second, .val (.int s0), .val (.int md), .val (.int (md &&& (3 : Int32))), .val (.long vv), .second, .val (.int tt), .val (.ref a_U64), .val (.int (1 : Int32))] [(.int (1 : Int32)), (.int (own_bi ((64 : Int32) = 64 ∨ (¬ vv < (0 : Int64) ∧ ¬ (-1 : Int64) < vv))))])) _
            refine XS.icmpNo X67.here hx rfl (hb hby at_289) rfl (XT.ii_ne_f (own_bi_t (Or.inl rfl))) ?_
            show Steps p.tables e below (T67.setTop (mkF m 292 #[.val (.int k0), .val (.long x0), .second, .val (.int s0), .val (.int md), .val (.int (md &&& (3 : Int32))), .val (.long vv), .second, .val (.int tt), .val (.ref a_U64), .val (.int (1 : Int32))] [])) _
            refine XS.iconst X67.here hx rfl (hb hby at_292) ?_
            show Steps p.tables e below (T67.setTop (mkF m 293 #[.val (.int k0), .val (.long x0), .second, .val (.int s0), .val (.int md), .val (.int (md &&& (3 : Int32))), .val (.long vv), .second, .val (.int tt), .val (.ref a_U64), .val (.int (1 : Int32))] [(.int (1 : Int32))])) _
            refine XS.goto X67.here hx rfl (pc0 := 293) (pc' := 297) rfl (hb hby at_293) (by decide) (by decide) ?_
            show Steps p.tables e below (T67.setTop (mkF m 297 #[.val (.int k0), .val (.long x0), .second, .val (.int s0), .val (.int md), .val (.int (md &&& (3 : Int32))), .val (.long vv), .second, .val (.int tt), .val (.ref a_U64), .val (.int (1 : Int32))] [(.int (1 : Int32))])) _
            exact k
          obtain ⟨fs, hr, hrun, hended, hW, hsame⟩ := X67.leave (v := some (.int (1 : Int32))) (fun h => by rw [Bd.returns] at h; cases h)
          refine ⟨_, _, pre69 _ ?_, hrun, hended, _, _, rfl, ?_, ⟨_, rfl⟩, hW, hsame.mono (by decide) (by decide)⟩
          · exact retOut X67 hx Bd.returns rfl (Or.inl ⟨rfl, by simp, _, rfl⟩) (hb hby at_297) hr
          · show Qlaw Z k0 x0 s0 md a_U8 a_U16 a_U32 a_U64 a_I8 a_I16 a_I32 a_I64 h0 n0 _ T67.heap _
            rw [heq67]
            exact ⟨rfl, N67⟩
        · skip
          have pre71 : ∀ t, Steps p.tables e below (T2.setTop (mkF m 179 #[.val (.int k0), .val (.long x0), .second, .val (.int s0), .val (.int md), .val (.int (md &&& (3 : Int32))), .val (.long vv), .second, .val (.int tt), .unset, .unset] [(.int (4 : Int32)), (.int tt)])) t → Steps p.tables e below (s₁.setTop (entryFrame m #[(.int k0), (.long x0), (.int s0), (.int md)] maxLocals)) t := by
            intro t k
            refine pre60 t ?_
            refine XS.icmpYes X2.here hx rfl (pc0 := 162) (pc' := 176) rfl (hb hby at_162) rfl (XT.ii_ne_t ht3) (by decide) (by decide) ?_
            show Steps p.tables e below (T2.setTop (mkF m 176 #[.val (.int k0), .val (.long x0), .second, .val (.int s0), .val (.int md), .val (.int (md &&& (3 : Int32))), .val (.long vv), .second, .val (.int tt), .unset, .unset] [])) _
            refine XS.iload X2.here hx rfl (hb hby at_176) rfl ?_
            show Steps p.tables e below (T2.setTop (mkF m 178 #[.val (.int k0), .val (.long x0), .second, .val (.int s0), .val (.int md), .val (.int (md &&& (3 : Int32))), .val (.long vv), .second, .val (.int tt), .unset, .unset] [(.int tt)])) _
            refine XS.iconst X2.here hx rfl (hb hby at_178) ?_
            show Steps p.tables e below (T2.setTop (mkF m 179 #[.val (.int k0), .val (.long x0), .second, .val (.int s0), .val (.int md), .val (.int (md &&& (3 : Int32))), .val (.long vv), .second, .val (.int tt), .unset, .unset] [(.int (4 : Int32)), (.int tt)])) _
            exact k
          by_cases ht4 : tt = (4 : Int32)
          · skip
            have pre73 : ∀ t, Steps p.tables e below (T2.setTop (mkF m 182 #[.val (.int k0), .val (.long x0), .second, .val (.int s0), .val (.int md), .val (.int (md &&& (3 : Int32))), .val (.long vv), .second, .val (.int tt), .unset, .unset] [])) t → Steps p.tables e below (s₁.setTop (entryFrame m #[(.int k0), (.long x0), (.int s0), (.int md)] maxLocals)) t := by
              intro t k
              refine pre71 t ?_
              refine XS.icmpNo X2.here hx rfl (hb hby at_179) rfl (XT.ii_ne_f ht4) ?_
              show Steps p.tables e below (T2.setTop (mkF m 182 #[.val (.int k0), .val (.long x0), .second, .val (.int s0), .val (.int md), .val (.int (md &&& (3 : Int32))), .val (.long vv), .second, .val (.int tt), .unset, .unset] [])) _
              exact k
            obtain ⟨T74, X74, e74, st74⟩ := getS (host := "") X2 hx hZ hown (hw _ (List.mem_of_getElem? (i := 23) rfl)) Via.refl e2 S_I8 (g := (mkF m 182 #[.val (.int k0), .val (.long x0), .second, .val (.int s0), .val (.int md), .val (.int (md &&& (3 : Int32))), .val (.long vv), .second, .val (.int tt), .unset, .unset] [])) rfl (hb hby at_182)
            have pre75 : ∀ t, Steps p.tables e below (T74.setTop (mkF m 185 #[.val (.int k0), .val (.long x0), .second, .val (.int s0), .val (.int md), .val (.int (md &&& (3 : Int32))), .val (.long vv), .second, .val (.int tt), .unset, .unset] [(.ref a_I8)])) t → Steps p.tables e below (s₁.setTop (entryFrame m #[(.int k0), (.long x0), (.int s0), (.int md)] maxLocals)) t := fun t k => pre73 t (st74 t k)
            have pre76 : ∀ t, Steps p.tables e below (T74.setTop (mkF m 187 #[.val (.int k0), .val (.long x0), .second, .val (.int s0), .val (.int md), .val (.int (md &&& (3 : Int32))), .val (.long vv), .second, .val (.int tt), .val (.ref a_I8), .unset] [])) t → Steps p.tables e below (s₁.setTop (entryFrame m #[(.int k0), (.long x0), (.int s0), (.int md)] maxLocals)) t := by
              intro t k
              refine pre75 t ?_
              refine XS.astore X74.here hx rfl (hb hby at_185) rfl rfl (l' := #[.val (.int k0), .val (.long x0), .second, .val (.int s0), .val (.int md), .val (.int (md &&& (3 : Int32))), .val (.long vv), .second, .val (.int tt), .val (.ref a_I8), .unset]) rfl ?_
              show Steps p.tables e below (T74.setTop (mkF m 187 #[.val (.int k0), .val (.long x0), .second, .val (.int s0), .val (.int md), .val (.int (md &&& (3 : Int32))), .val (.long vv), .second, .val (.int tt), .val (.ref a_I8), .unset] [])) _
              exact k
            have mrg77 : ∃ (ex : Int32) (T77 : State) (Lo77 : List Loc), Stand p l e room_1 s m #[(.int k0), (.long x0), (.int s0), (.int md)] below meth c T77 Lo77 0 0 ∧ Fr n0 Lo77 ∧ T77.heap = h0 ∧ (ex = own_bi (vv.toInt32.toInt8.toInt32.toInt64 = vv)) ∧ ∀ t, Steps p.tables e below (T77.setTop (mkF m 203 #[.val (.int k0), .val (.long x0), .second, .val (.int s0), .val (.int md), .val (.int (md &&& (3 : Int32))), .val (.long vv), .second, .val (.int tt), .val (.ref a_I8), .unset] [(.int ex)])) t → Steps p.tables e below (s₁.setTop (entryFrame m #[(.int k0), (.long x0), (.int s0), (.int md)] maxLocals)) t := by
              have pre78 : ∀ t, Steps p.tables e below (T74.setTop (mkF m 195 #[.val (.int k0), .val (.long x0), .second, .val (.int s0), .val (.int md), .val (.int (md &&& (3 : Int32))), .val (.long vv), .second, .val (.int tt), .val (.ref a_I8), .unset] [(.int (XT.cmpL (((vv.toInt32).toInt8.toInt32).toInt64) vv))])) t → Steps p.tables e below (s₁.setTop (entryFrame m #[(.int k0), (.long x0), (.int s0), (.int md)] maxLocals)) t := by
                intro t k
                refine pre76 t ?_
                refine XT.lload X74.here hx rfl (hb hby at_187) rfl ?_
                show Steps p.tables e below (T74.setTop (mkF m 189 #[.val (.int k0), .val (.long x0), .second, .val (.int s0), .val (.int md), .val (.int (md &&& (3 : Int32))), .val (.long vv), .second, .val (.int tt), .val (.ref a_I8), .unset] [(.long vv)])) _
                refine XT.l2i X74.here hx rfl (hb hby at_189) rfl ?_
                show Steps p.tables e below (T74.setTop (mkF m 190 #[.val (.int k0), .val (.long x0), .second, .val (.int s0), .val (.int md), .val (.int (md &&& (3 : Int32))), .val (.long vv), .second, .val (.int tt), .val (.ref a_I8), .unset] [(.int (vv.toInt32))])) _
                refine XT.i2b X74.here hx rfl (hb hby at_190) rfl ?_
                show Steps p.tables e below (T74.setTop (mkF m 191 #[.val (.int k0), .val (.long x0), .second, .val (.int s0), .val (.int md), .val (.int (md &&& (3 : Int32))), .val (.long vv), .second, .val (.int tt), .val (.ref a_I8), .unset] [(.int ((vv.toInt32).toInt8.toInt32))])) _
                refine XT.i2l X74.here hx rfl (hb hby at_191) rfl ?_
                show Steps p.tables e below (T74.setTop (mkF m 192 #[.val (.int k0), .val (.long x0), .second, .val (.int s0), .val (.int md), .val (.int (md &&& (3 : Int32))), .val (.long vv), .second, .val (.int tt), .val (.ref a_I8), .unset] [(.long (((vv.toInt32).toInt8.toInt32).toInt64))])) _
                refine XT.lload X74.here hx rfl (hb hby at_192) rfl ?_
                show Steps p.tables e below (T74.setTop (mkF m 194 #[.val (.int k0), .val (.long x0), .second, .val (.int s0), .val (.int md), .val (.int (md &&& (3 : Int32))), .val (.long vv), .second, .val (.int tt), .val (.ref a_I8), .unset] [(.long vv), (.long (((vv.toInt32).toInt8.toInt32).toInt64))])) _
                refine XT.lcmp X74.here hx rfl (hb hby at_194) rfl ?_
                show Steps p.tables e below (T74.setTop (mkF m 195 #[.val (.int k0), .val (.long x0), .second, .val (.int s0), .val (.int md), .val (.int (md &&& (3 : Int32))), .val (.long vv), .second, .val (.int tt), .val (.ref a_I8), .unset] [(.int (XT.cmpL (((vv.toInt32).toInt8.toInt32).toInt64) vv))])) _
                exact k
              by_cases hc195 : (((vv.toInt32).toInt8.toInt32).toInt64) = vv
              · skip
                have pre79 : ∀ t, Steps p.tables e below (T74.setTop (mkF m 203 #[.val (.int k0), .val (.long x0), .second, .val (.int s0), .val (.int md), .val (.int (md &&& (3 : Int32))), .val (.long vv), .second, .val (.int tt), .val (.ref a_I8), .unset] [(.int (1 : Int32))])) t → Steps p.tables e below (s₁.setTop (entryFrame m #[(.int k0), (.long x0), (.int s0), (.int md)] maxLocals)) t := by
                  intro t k
                  refine pre78 t ?_
                  refine XS.ifNo X74.here hx rfl (hb hby at_195) rfl (XT.ll_ne_f hc195) ?_
                  show Steps p.tables e below (T74.setTop (mkF m 198 #[.val (.int k0), .val (.long x0), .second, .val (.int s0), .val (.int md), .val (.int (md &&& (3 : Int32))), .val (.long vv), .second, .val (.int tt), .val (.ref a_I8), .unset] [])) _
                  refine XS.iconst X74.here hx rfl (hb hby at_198) ?_
                  show Steps p.tables e below (T74.setTop (mkF m 199 #[.val (.int k0), .val (.long x0), .second, .val (.int s0), .val (.int md), .val (.int (md &&& (3 : Int32))), .val (.long vv), .second, .val (.int tt), .val (.ref a_I8), .unset] [(.int (1 : Int32))])) _
                  refine XS.goto X74.here hx rfl (pc0 := 199) (pc' := 203) rfl (hb hby at_199) (by decide) (by decide) ?_
                  show Steps p.tables e below (T74.setTop (mkF m 203 #[.val (.int k0), .val (.long x0), .second, .val (.int s0), .val (.int md), .val (.int (md &&& (3 : Int32))), .val (.long vv), .second, .val (.int tt), .val (.ref a_I8), .unset] [(.int (1 : Int32))])) _
                  exact k
                exact ⟨(1 : Int32), _, _, X74, N2, e74, (by first | exact (own_bi_t hc195).symm | exact (own_bi_f hc195).symm | (simp [own_bi, hc195]; done) | contradiction), pre79⟩
              · skip
                have pre80 : ∀ t, Steps p.tables e below (T74.setTop (mkF m 203 #[.val (.int k0), .val (.long x0), .second, .val (.int s0), .val (.int md), .val (.int (md &&& (3 : Int32))), .val (.long vv), .second, .val (.int tt), .val (.ref a_I8), .unset] [(.int (0 : Int32))])) t → Steps p.tables e below (s₁.setTop (entryFrame m #[(.int k0), (.long x0), (.int s0), (.int md)] maxLocals)) t := by
                  intro t k
                  refine pre78 t ?_
                  refine XS.ifYes X74.here hx rfl (pc0 := 195) (pc' := 202) rfl (hb hby at_195) rfl (XT.ll_ne_t hc195) (by decide) (by decide) ?_
                  show Steps p.tables e below (T74.setTop (mkF m 202 #[.val (.int k0), .val (.long x0), .second, .val (.int s0), .val (.int md), .val (.int (md &&& (3 : Int32))), .val (.long vv), .second, .val (.int tt), .val (.ref a_I8), .unset] [])) _
                  refine XS.iconst X74.here hx rfl (hb hby at_202) ?_
                  show Steps p.tables e below (T74.setTop (mkF m 203 #[.val (.int k0), .val (.long x0), .second, .val (.int s0), .val (.int md), .val (.int (md &&& (3 : Int32))), .val (.long vv), .second, .val (.int tt), .val (.ref a_I8), .unset] [(.int (0 : Int32))])) _
                  exact k
                exact ⟨(0 : Int32), _, _, X74, N2, e74, (by first | exact (own_bi_t hc195).symm | exact (own_bi_f hc195).symm | (simp [own_bi, hc195]; done) | contradiction), pre80⟩
            obtain ⟨ex, T77, Lo77, X77, N77, e77, hex, pre77⟩ := mrg77
            have pre82 : ∀ t, Steps p.tables e below (T77.setTop (mkF m 284 #[.val (.int k0), .val (.long x0), .second, .val (.int s0), .val (.int md), .val (.int (md &&& (3 : Int32))), .val (.long vv), .second, .val (.int tt), .val (.ref a_I8), .val (.int ex)] [(.long vv), (.ref a_I8)])) t → Steps p.tables e below (s₁.setTop (entryFrame m #[(.int k0), (.long x0), (.int s0), (.int md)] maxLocals)) t := by
              intro t k
              refine pre77 t ?_
              refine XS.istore X77.here hx rfl (hb hby at_203) rfl (l' := #[.val (.int k0), .val (.long x0), .second, .val (.int s0), .val (.int md), .val (.int (md &&& (3 : Int32))), .val (.long vv), .second, .val (.int tt), .val (.ref a_I8), .val (.int ex)]) rfl ?_
              show Steps p.tables e below (T77.setTop (mkF m 205 #[.val (.int k0), .val (.long x0), .second, .val (.int s0), .val (.int md), .val (.int (md &&& (3 : Int32))), .val (.long vv), .second, .val (.int tt), .val (.ref a_I8), .val (.int ex)] [])) _
              refine XS.goto X77.here hx rfl (pc0 := 205) (pc' := 280) rfl (hb hby at_205) (by decide) (by decide) ?_
              show Steps p.tables e below (T77.setTop (mkF m 280 #[.val (.int k0), .val (.long x0), .second, .val (.int s0), .val (.int md), .val (.int (md &&& (3 : Int32))), .val (.long vv), .second, .val (.int tt), .val (.ref a_I8), .val (.int ex)] [])) _
              refine XS.aload X77.here hx rfl (hb hby at_280) rfl rfl ?_
              show Steps p.tables e below (T77.setTop (mkF m 282 #[.val (.int k0), .val (.long x0), .second, .val (.int s0), .val (.int md), .val (.int (md &&& (3 : Int32))), .val (.long vv), .second, .val (.int tt), .val (.ref a_I8), .val (.int ex)] [(.ref a_I8)])) _
              refine XT.lload X77.here hx rfl (hb hby at_282) rfl ?_
              show Steps p.tables e below (T77.setTop (mkF m 284 #[.val (.int k0), .val (.long x0), .second, .val (.int s0), .val (.int md), .val (.int (md &&& (3 : Int32))), .val (.long vv), .second, .val (.int tt), .val (.ref a_I8), .val (.int ex)] [(.long vv), (.ref a_I8)])) _
              exact k
            obtain ⟨cq83, kq83, q83a, q83b, q83c⟩ := isOf hZ e77 E_I8
            obtain ⟨_, _, ⟨T83, L83, k83, n83⟩, -, X83, ⟨Lc83, hQ83, l83, y83, z83⟩, st83⟩ := X77.virtualBack hx (y := (⟨"com/example/byteweave/byteweave/schema/ScalarType", "holds", "(J)Z"⟩ : MethodName)) (z := (⟨"com/example/byteweave/byteweave/schema/ScalarType", "holds", "(J)Z"⟩ : MethodName)) hown (mvT hZ (hw _ (List.mem_of_getElem? (i := 4) rfl))) (mvT hZ (hw _ (List.mem_of_getElem? (i := 5) rfl))) (notFace_of_selects (args := #[]) (mvT hZ (hw _ (List.mem_of_getElem? (i := 7) rfl)))) (mvT hZ (hw _ (List.mem_of_getElem? (i := 7) rfl))) (mvT hZ (hw _ (List.mem_of_getElem? (i := 6) rfl))) (by decide) (backOf (W := 0) (rm1 l Z a0 hw [] a_I8 vv (8 : Int32) (-128 : Int64) (127 : Int64) h0 n0 Z0 E_I8 B_I8 L_I8 M_I8 (by decide)) hZ (hw _ (List.mem_of_getElem? (i := 8) rfl)) (hw _ (List.mem_of_getElem? (i := 1) rfl)) (by decide) (by decide)) q83a q83c (g := (mkF m 284 #[.val (.int k0), .val (.long x0), .second, .val (.int s0), .val (.int md), .val (.int (md &&& (3 : Int32))), .val (.long vv), .second, .val (.int tt), .val (.ref a_I8), .val (.int ex)] [(.long vv), (.ref a_I8)])) rfl (by rw [hml]; rfl) (Steps.refl _) (argsL := [(.long vv)]) (rest := []) (lenOf pd_hol rfl) rfl (by show 2 * 0 + _ ≤ _; exact Nat.le_of_eq rfl) (hb hby at_284) (fun _ _ => ⟨rfl, e77, (by decide : 0 + 0 ≤ _), (by decide : 0 + 0 ≤ _)⟩)
            dsimp only [Pt.U, Pt.locs, Pt.cells, Pt.slots] at X83 l83 y83 z83 st83 hQ83
            subst l83 y83 z83
            obtain ⟨rfl, Nq83, heq83⟩ := hQ83
            have N83 := Fr.app N77 Nq83
            have pre84 : ∀ t, Steps p.tables e below (T83.setTop (mkF m 287 #[.val (.int k0), .val (.long x0), .second, .val (.int s0), .val (.int md), .val (.int (md &&& (3 : Int32))), .val (.long vv), .second, .val (.int tt), .val (.ref a_I8), .val (.int ex)] [(.int (own_bi ((8 : Int32) = 64 ∨ (¬ vv < (-128 : Int64) ∧ ¬ (127 : Int64) < vv))))])) t → Steps p.tables e below (s₁.setTop (entryFrame m #[(.int k0), (.long x0), (.int s0), (.int md)] maxLocals)) t := fun t k => pre82 t (st83.trans k)
            have pre85 : ∀ t, Steps p.tables e below (T83.setTop (mkF m 297 #[.val (.int k0), .val (.long x0), .second, .val (.int s0), .val (.int md), .val (.int (md &&& (3 : Int32))), .val (.long vv), .second, .val (.int tt), .val (.ref a_I8), .val (.int ex)] [(.int (1 : Int32))])) t → Steps p.tables e below (s₁.setTop (entryFrame m #[(.int k0), (.long x0), (.int s0), (.int md)] maxLocals)) t := by
              intro t k
              refine pre84 t ?_
              refine XS.iload X83.here hx rfl (hb hby at_287) rfl ?_
              show Steps p.tables e below (T83.setTop (mkF m 289 #[.val (.int k0), .val (.long x0), .second, .val (.int s0), .val (.int md), .val (.int (md &&& (3 : Int32))), .val (.long vv), .second, .val (.int tt), .val (.ref a_I8), .val (.int ex)] [(.int ex), (.int (own_bi ((8 : Int32) = 64 ∨ (¬ vv < (-128 : Int64) ∧ ¬ (127 : Int64) < vv))))])) _
              refine XS.icmpNo X83.here hx rfl (hb hby at_289) rfl (XT.ii_ne_f (own_fin (b := 0) (by decide) hex (own_i8 vv))) ?_
              show Steps p.tables e below (T83.setTop (mkF m 292 #[.val (.int k0), .val (.long x0), .second, .val (.int s0), .val (.int md), .val (.int (md &&& (3 : Int32))), .val (.long vv), .second, .val (.int tt), .val (.ref a_I8), .val (.int ex)] [])) _
              refine XS.iconst X83.here hx rfl (hb hby at_292) ?_
              show Steps p.tables e below (T83.setTop (mkF m 293 #[.val (.int k0), .val (.long x0), .second, .val (.int s0), .val (.int md), .val (.int (md &&& (3 : Int32))), .val (.long vv), .second, .val (.int tt), .val (.ref a_I8), .val (.int ex)] [(.int (1 : Int32))])) _
              refine XS.goto X83.here hx rfl (pc0 := 293) (pc' := 297) rfl (hb hby at_293) (by decide) (by decide) ?_
              show Steps p.tables e below (T83.setTop (mkF m 297 #[.val (.int k0), .val (.long x0), .second, .val (.int s0), .val (.int md), .val (.int (md &&& (3 : Int32))), .val (.long vv), .second, .val (.int tt), .val (.ref a_I8), .val (.int ex)] [(.int (1 : Int32))])) _
              exact k
            obtain ⟨fs, hr, hrun, hended, hW, hsame⟩ := X83.leave (v := some (.int (1 : Int32))) (fun h => by rw [Bd.returns] at h; cases h)
            refine ⟨_, _, pre85 _ ?_, hrun, hended, _, _, rfl, ?_, ⟨_, rfl⟩, hW, hsame.mono (by decide) (by decide)⟩
            · exact retOut X83 hx Bd.returns rfl (Or.inl ⟨rfl, by simp, _, rfl⟩) (hb hby at_297) hr
            · show Qlaw Z k0 x0 s0 md a_U8 a_U16 a_U32 a_U64 a_I8 a_I16 a_I32 a_I64 h0 n0 _ T83.heap _
              rw [heq83]
              exact ⟨rfl, N83⟩
          · skip
            have pre87 : ∀ t, Steps p.tables e below (T2.setTop (mkF m 211 #[.val (.int k0), .val (.long x0), .second, .val (.int s0), .val (.int md), .val (.int (md &&& (3 : Int32))), .val (.long vv), .second, .val (.int tt), .unset, .unset] [(.int (5 : Int32)), (.int tt)])) t → Steps p.tables e below (s₁.setTop (entryFrame m #[(.int k0), (.long x0), (.int s0), (.int md)] maxLocals)) t := by
              intro t k
              refine pre71 t ?_
              refine XS.icmpYes X2.here hx rfl (pc0 := 179) (pc' := 208) rfl (hb hby at_179) rfl (XT.ii_ne_t ht4) (by decide) (by decide) ?_
              show Steps p.tables e below (T2.setTop (mkF m 208 #[.val (.int k0), .val (.long x0), .second, .val (.int s0), .val (.int md), .val (.int (md &&& (3 : Int32))), .val (.long vv), .second, .val (.int tt), .unset, .unset] [])) _
              refine XS.iload X2.here hx rfl (hb hby at_208) rfl ?_
              show Steps p.tables e below (T2.setTop (mkF m 210 #[.val (.int k0), .val (.long x0), .second, .val (.int s0), .val (.int md), .val (.int (md &&& (3 : Int32))), .val (.long vv), .second, .val (.int tt), .unset, .unset] [(.int tt)])) _
              refine XS.iconst X2.here hx rfl (hb hby at_210) ?_
              show Steps p.tables e below (T2.setTop (mkF m 211 #[.val (.int k0), .val (.long x0), .second, .val (.int s0), .val (.int md), .val (.int (md &&& (3 : Int32))), .val (.long vv), .second, .val (.int tt), .unset, .unset] [(.int (5 : Int32)), (.int tt)])) _
              exact k
            by_cases ht5 : tt = (5 : Int32)
            · skip
              have pre89 : ∀ t, Steps p.tables e below (T2.setTop (mkF m 214 #[.val (.int k0), .val (.long x0), .second, .val (.int s0), .val (.int md), .val (.int (md &&& (3 : Int32))), .val (.long vv), .second, .val (.int tt), .unset, .unset] [])) t → Steps p.tables e below (s₁.setTop (entryFrame m #[(.int k0), (.long x0), (.int s0), (.int md)] maxLocals)) t := by
                intro t k
                refine pre87 t ?_
                refine XS.icmpNo X2.here hx rfl (hb hby at_211) rfl (XT.ii_ne_f ht5) ?_
                show Steps p.tables e below (T2.setTop (mkF m 214 #[.val (.int k0), .val (.long x0), .second, .val (.int s0), .val (.int md), .val (.int (md &&& (3 : Int32))), .val (.long vv), .second, .val (.int tt), .unset, .unset] [])) _
                exact k
              obtain ⟨T90, X90, e90, st90⟩ := getS (host := "") X2 hx hZ hown (hw _ (List.mem_of_getElem? (i := 31) rfl)) Via.refl e2 S_I16 (g := (mkF m 214 #[.val (.int k0), .val (.long x0), .second, .val (.int s0), .val (.int md), .val (.int (md &&& (3 : Int32))), .val (.long vv), .second, .val (.int tt), .unset, .unset] [])) rfl (hb hby at_214)
              have pre91 : ∀ t, Steps p.tables e below (T90.setTop (mkF m 217 #[.val (.int k0), .val (.long x0), .second, .val (.int s0), .val (.int md), .val (.int (md &&& (3 : Int32))), .val (.long vv), .second, .val (.int tt), .unset, .unset] [(.ref a_I16)])) t → Steps p.tables e below (s₁.setTop (entryFrame m #[(.int k0), (.long x0), (.int s0), (.int md)] maxLocals)) t := fun t k => pre89 t (st90 t k)
              have pre92 : ∀ t, Steps p.tables e below (T90.setTop (mkF m 219 #[.val (.int k0), .val (.long x0), .second, .val (.int s0), .val (.int md), .val (.int (md &&& (3 : Int32))), .val (.long vv), .second, .val (.int tt), .val (.ref a_I16), .unset] [])) t → Steps p.tables e below (s₁.setTop (entryFrame m #[(.int k0), (.long x0), (.int s0), (.int md)] maxLocals)) t := by
                intro t k
                refine pre91 t ?_
                refine XS.astore X90.here hx rfl (hb hby at_217) rfl rfl (l' := #[.val (.int k0), .val (.long x0), .second, .val (.int s0), .val (.int md), .val (.int (md &&& (3 : Int32))), .val (.long vv), .second, .val (.int tt), .val (.ref a_I16), .unset]) rfl ?_
                show Steps p.tables e below (T90.setTop (mkF m 219 #[.val (.int k0), .val (.long x0), .second, .val (.int s0), .val (.int md), .val (.int (md &&& (3 : Int32))), .val (.long vv), .second, .val (.int tt), .val (.ref a_I16), .unset] [])) _
                exact k
              have mrg93 : ∃ (ex : Int32) (T93 : State) (Lo93 : List Loc), Stand p l e room_1 s m #[(.int k0), (.long x0), (.int s0), (.int md)] below meth c T93 Lo93 0 0 ∧ Fr n0 Lo93 ∧ T93.heap = h0 ∧ (ex = own_bi (vv.toInt32.toInt16.toInt32.toInt64 = vv)) ∧ ∀ t, Steps p.tables e below (T93.setTop (mkF m 235 #[.val (.int k0), .val (.long x0), .second, .val (.int s0), .val (.int md), .val (.int (md &&& (3 : Int32))), .val (.long vv), .second, .val (.int tt), .val (.ref a_I16), .unset] [(.int ex)])) t → Steps p.tables e below (s₁.setTop (entryFrame m #[(.int k0), (.long x0), (.int s0), (.int md)] maxLocals)) t := by
                have pre94 : ∀ t, Steps p.tables e below (T90.setTop (mkF m 227 #[.val (.int k0), .val (.long x0), .second, .val (.int s0), .val (.int md), .val (.int (md &&& (3 : Int32))), .val (.long vv), .second, .val (.int tt), .val (.ref a_I16), .unset] [(.int (XT.cmpL (((vv.toInt32).toInt16.toInt32).toInt64) vv))])) t → Steps p.tables e below (s₁.setTop (entryFrame m #[(.int k0), (.long x0), (.int s0), (.int md)] maxLocals)) t := by
                  intro t k
                  refine pre92 t ?_
                  refine XT.lload X90.here hx rfl (hb hby at_219) rfl ?_
                  show Steps p.tables e below (T90.setTop (mkF m 221 #[.val (.int k0), .val (.long x0), .second, .val (.int s0), .val (.int md), .val (.int (md &&& (3 : Int32))), .val (.long vv), .second, .val (.int tt), .val (.ref a_I16), .unset] [(.long vv)])) _
                  refine XT.l2i X90.here hx rfl (hb hby at_221) rfl ?_
                  show Steps p.tables e below (T90.setTop (mkF m 222 #[.val (.int k0), .val (.long x0), .second, .val (.int s0), .val (.int md), .val (.int (md &&& (3 : Int32))), .val (.long vv), .second, .val (.int tt), .val (.ref a_I16), .unset] [(.int (vv.toInt32))])) _
                  refine XT.i2s X90.here hx rfl (hb hby at_222) rfl ?_
                  show Steps p.tables e below (T90.setTop (mkF m 223 #[.val (.int k0), .val (.long x0), .second, .val (.int s0), .val (.int md), .val (.int (md &&& (3 : Int32))), .val (.long vv), .second, .val (.int tt), .val (.ref a_I16), .unset] [(.int ((vv.toInt32).toInt16.toInt32))])) _
                  refine XT.i2l X90.here hx rfl (hb hby at_223) rfl ?_
                  show Steps p.tables e below (T90.setTop (mkF m 224 #[.val (.int k0), .val (.long x0), .second, .val (.int s0), .val (.int md), .val (.int (md &&& (3 : Int32))), .val (.long vv), .second, .val (.int tt), .val (.ref a_I16), .unset] [(.long (((vv.toInt32).toInt16.toInt32).toInt64))])) _
                  refine XT.lload X90.here hx rfl (hb hby at_224) rfl ?_
                  show Steps p.tables e below (T90.setTop (mkF m 226 #[.val (.int k0), .val (.long x0), .second, .val (.int s0), .val (.int md), .val (.int (md &&& (3 : Int32))), .val (.long vv), .second, .val (.int tt), .val (.ref a_I16), .unset] [(.long vv), (.long (((vv.toInt32).toInt16.toInt32).toInt64))])) _
                  refine XT.lcmp X90.here hx rfl (hb hby at_226) rfl ?_
                  show Steps p.tables e below (T90.setTop (mkF m 227 #[.val (.int k0), .val (.long x0), .second, .val (.int s0), .val (.int md), .val (.int (md &&& (3 : Int32))), .val (.long vv), .second, .val (.int tt), .val (.ref a_I16), .unset] [(.int (XT.cmpL (((vv.toInt32).toInt16.toInt32).toInt64) vv))])) _
                  exact k
                by_cases hc227 : (((vv.toInt32).toInt16.toInt32).toInt64) = vv
                · skip
                  have pre95 : ∀ t, Steps p.tables e below (T90.setTop (mkF m 235 #[.val (.int k0), .val (.long x0), .second, .val (.int s0), .val (.int md), .val (.int (md &&& (3 : Int32))), .val (.long vv), .second, .val (.int tt), .val (.ref a_I16), .unset] [(.int (1 : Int32))])) t → Steps p.tables e below (s₁.setTop (entryFrame m #[(.int k0), (.long x0), (.int s0), (.int md)] maxLocals)) t := by
                    intro t k
                    refine pre94 t ?_
                    refine XS.ifNo X90.here hx rfl (hb hby at_227) rfl (XT.ll_ne_f hc227) ?_
                    show Steps p.tables e below (T90.setTop (mkF m 230 #[.val (.int k0), .val (.long x0), .second, .val (.int s0), .val (.int md), .val (.int (md &&& (3 : Int32))), .val (.long vv), .second, .val (.int tt), .val (.ref a_I16), .unset] [])) _
                    refine XS.iconst X90.here hx rfl (hb hby at_230) ?_
                    show Steps p.tables e below (T90.setTop (mkF m 231 #[.val (.int k0), .val (.long x0), .second, .val (.int s0), .val (.int md), .val (.int (md &&& (3 : Int32))), .val (.long vv), .second, .val (.int tt), .val (.ref a_I16), .unset] [(.int (1 : Int32))])) _
                    refine XS.goto X90.here hx rfl (pc0 := 231) (pc' := 235) rfl (hb hby at_231) (by decide) (by decide) ?_
                    show Steps p.tables e below (T90.setTop (mkF m 235 #[.val (.int k0), .val (.long x0), .second, .val (.int s0), .val (.int md), .val (.int (md &&& (3 : Int32))), .val (.long vv), .second, .val (.int tt), .val (.ref a_I16), .unset] [(.int (1 : Int32))])) _
                    exact k
                  exact ⟨(1 : Int32), _, _, X90, N2, e90, (by first | exact (own_bi_t hc227).symm | exact (own_bi_f hc227).symm | (simp [own_bi, hc227]; done) | contradiction), pre95⟩
                · skip
                  have pre96 : ∀ t, Steps p.tables e below (T90.setTop (mkF m 235 #[.val (.int k0), .val (.long x0), .second, .val (.int s0), .val (.int md), .val (.int (md &&& (3 : Int32))), .val (.long vv), .second, .val (.int tt), .val (.ref a_I16), .unset] [(.int (0 : Int32))])) t → Steps p.tables e below (s₁.setTop (entryFrame m #[(.int k0), (.long x0), (.int s0), (.int md)] maxLocals)) t := by
                    intro t k
                    refine pre94 t ?_
                    refine XS.ifYes X90.here hx rfl (pc0 := 227) (pc' := 234) rfl (hb hby at_227) rfl (XT.ll_ne_t hc227) (by decide) (by decide) ?_
                    show Steps p.tables e below (T90.setTop (mkF m 234 #[.val (.int k0), .val (.long x0), .second, .val (.int s0), .val (.int md), .val (.int (md &&& (3 : Int32))), .val (.long vv), .second, .val (.int tt), .val (.ref a_I16), .unset] [])) _
                    refine XS.iconst X90.here hx rfl (hb hby at_234) ?_
                    show Steps p.tables e below (T90.setTop (mkF m 235 #[.val (.int k0), .val (.long x0), .second, .val (.int s0), .val (.int md), .val (.int (md &&& (3 : Int32))), .val (.long vv), .second, .val (.int tt), .val (.ref a_I16), .unset] [(.int (0 : Int32))])) _
                    exact k
                  exact ⟨(0 : Int32), _, _, X90, N2, e90, (by first | exact (own_bi_t hc227).symm | exact (own_bi_f hc227).symm | (simp [own_bi, hc227]; done) | contradiction), pre96⟩
              obtain ⟨ex, T93, Lo93, X93, N93, e93, hex, pre93⟩ := mrg93
              have pre98 : ∀ t, Steps p.tables e below (T93.setTop (mkF m 284 #[.val (.int k0), .val (.long x0), .second, .val (.int s0), .val (.int md), .val (.int (md &&& (3 : Int32))), .val (.long vv), .second, .val (.int tt), .val (.ref a_I16), .val (.int ex)] [(.long vv), (.ref a_I16)])) t → Steps p.tables e below (s₁.setTop (entryFrame m #[(.int k0), (.long x0), (.int s0), (.int md)] maxLocals)) t := by
                intro t k
                refine pre93 t ?_
                refine XS.istore X93.here hx rfl (hb hby at_235) rfl (l' := #[.val (.int k0), .val (.long x0), .second, .val (.int s0), .val (.int md), .val (.int (md &&& (3 : Int32))), .val (.long vv), .second, .val (.int tt), .val (.ref a_I16), .val (.int ex)]) rfl ?_
                show Steps p.tables e below (T93.setTop (mkF m 237 #[.val (.int k0), .val (.long x0), .second, .val (.int s0), .val (.int md), .val (.int (md &&& (3 : Int32))), .val (.long vv), .second, .val (.int tt), .val (.ref a_I16), .val (.int ex)] [])) _
                refine XS.goto X93.here hx rfl (pc0 := 237) (pc' := 280) rfl (hb hby at_237) (by decide) (by decide) ?_
                show Steps p.tables e below (T93.setTop (mkF m 280 #[.val (.int k0), .val (.long x0), .second, .val (.int s0), .val (.int md), .val (.int (md &&& (3 : Int32))), .val (.long vv), .second, .val (.int tt), .val (.ref a_I16), .val (.int ex)] [])) _
                refine XS.aload X93.here hx rfl (hb hby at_280) rfl rfl ?_
                show Steps p.tables e below (T93.setTop (mkF m 282 #[.val (.int k0), .val (.long x0), .second, .val (.int s0), .val (.int md), .val (.int (md &&& (3 : Int32))), .val (.long vv), .second, .val (.int tt), .val (.ref a_I16), .val (.int ex)] [(.ref a_I16)])) _
                refine XT.lload X93.here hx rfl (hb hby at_282) rfl ?_
                show Steps p.tables e below (T93.setTop (mkF m 284 #[.val (.int k0), .val (.long x0), .second, .val (.int s0), .val (.int md), .val (.int (md &&& (3 : Int32))), .val (.long vv), .second, .val (.int tt), .val (.ref a_I16), .val (.int ex)] [(.long vv), (.ref a_I16)])) _
                exact k
              obtain ⟨cq99, kq99, q99a, q99b, q99c⟩ := isOf hZ e93 E_I16
              obtain ⟨_, _, ⟨T99, L99, k99, n99⟩, -, X99, ⟨Lc99, hQ99, l99, y99, z99⟩, st99⟩ := X93.virtualBack hx (y := (⟨"com/example/byteweave/byteweave/schema/ScalarType", "holds", "(J)Z"⟩ : MethodName)) (z := (⟨"com/example/byteweave/byteweave/schema/ScalarType", "holds", "(J)Z"⟩ : MethodName)) hown (mvT hZ (hw _ (List.mem_of_getElem? (i := 4) rfl))) (mvT hZ (hw _ (List.mem_of_getElem? (i := 5) rfl))) (notFace_of_selects (args := #[]) (mvT hZ (hw _ (List.mem_of_getElem? (i := 7) rfl)))) (mvT hZ (hw _ (List.mem_of_getElem? (i := 7) rfl))) (mvT hZ (hw _ (List.mem_of_getElem? (i := 6) rfl))) (by decide) (backOf (W := 0) (rm1 l Z a0 hw [] a_I16 vv (16 : Int32) (-32768 : Int64) (32767 : Int64) h0 n0 Z0 E_I16 B_I16 L_I16 M_I16 (by decide)) hZ (hw _ (List.mem_of_getElem? (i := 8) rfl)) (hw _ (List.mem_of_getElem? (i := 1) rfl)) (by decide) (by decide)) q99a q99c (g := (mkF m 284 #[.val (.int k0), .val (.long x0), .second, .val (.int s0), .val (.int md), .val (.int (md &&& (3 : Int32))), .val (.long vv), .second, .val (.int tt), .val (.ref a_I16), .val (.int ex)] [(.long vv), (.ref a_I16)])) rfl (by rw [hml]; rfl) (Steps.refl _) (argsL := [(.long vv)]) (rest := []) (lenOf pd_hol rfl) rfl (by show 2 * 0 + _ ≤ _; exact Nat.le_of_eq rfl) (hb hby at_284) (fun _ _ => ⟨rfl, e93, (by decide : 0 + 0 ≤ _), (by decide : 0 + 0 ≤ _)⟩)
              dsimp only [Pt.U, Pt.locs, Pt.cells, Pt.slots] at X99 l99 y99 z99 st99 hQ99
              subst l99 y99 z99
              obtain ⟨rfl, Nq99, heq99⟩ := hQ99
              have N99 := Fr.app N93 Nq99
              have pre100 : ∀ t, Steps p.tables e below (T99.setTop (mkF m 287 #[.val (.int k0), .val (.long x0), .second, .val (.int s0), .val (.int md), .val (.int (md &&& (3 : Int32))), .val (.long vv), .second, .val (.int tt), .val (.ref a_I16), .val (.int ex)] [(.int (own_bi ((16 : Int32) = 64 ∨ (¬ vv < (-32768 : Int64) ∧ ¬ (32767 : Int64) < vv))))])) t → Steps p.tables e below (s₁.setTop (entryFrame m #[(.int k0), (.long x0), (.int s0), (.int md)] maxLocals)) t := fun t k => pre98 t (st99.trans k)
              have pre101 : ∀ t, Steps p.tables e below (T99.setTop (mkF m 297 #[.val (.int k0), .val (.long x0), .second, .val (.int s0), .val (.int md), .val (.int (md &&& (3 : Int32))), .val (.long vv), .second, .val (.int tt), .val (.ref a_I16), .val (.int ex)] [(.int (1 : Int32))])) t → Steps p.tables e below (s₁.setTop (entryFrame m #[(.int k0), (.long x0), (.int s0), (.int md)] maxLocals)) t := by
                intro t k
                refine pre100 t ?_
                refine XS.iload X99.here hx rfl (hb hby at_287) rfl ?_
                show Steps p.tables e below (T99.setTop (mkF m 289 #[.val (.int k0), .val (.long x0), .second, .val (.int s0), .val (.int md), .val (.int (md &&& (3 : Int32))), .val (.long vv), .second, .val (.int tt), .val (.ref a_I16), .val (.int ex)] [(.int ex), (.int (own_bi ((16 : Int32) = 64 ∨ (¬ vv < (-32768 : Int64) ∧ ¬ (32767 : Int64) < vv))))])) _
                refine XS.icmpNo X99.here hx rfl (hb hby at_289) rfl (XT.ii_ne_f (own_fin (b := 0) (by decide) hex (own_i16 vv))) ?_
                show Steps p.tables e below (T99.setTop (mkF m 292 #[.val (.int k0), .val (.long x0), .second, .val (.int s0), .val (.int md), .val (.int (md &&& (3 : Int32))), .val (.long vv), .second, .val (.int tt), .val (.ref a_I16), .val (.int ex)] [])) _
                refine XS.iconst X99.here hx rfl (hb hby at_292) ?_
                show Steps p.tables e below (T99.setTop (mkF m 293 #[.val (.int k0), .val (.long x0), .second, .val (.int s0), .val (.int md), .val (.int (md &&& (3 : Int32))), .val (.long vv), .second, .val (.int tt), .val (.ref a_I16), .val (.int ex)] [(.int (1 : Int32))])) _
                refine XS.goto X99.here hx rfl (pc0 := 293) (pc' := 297) rfl (hb hby at_293) (by decide) (by decide) ?_
                show Steps p.tables e below (T99.setTop (mkF m 297 #[.val (.int k0), .val (.long x0), .second, .val (.int s0), .val (.int md), .val (.int (md &&& (3 : Int32))), .val (.long vv), .second, .val (.int tt), .val (.ref a_I16), .val (.int ex)] [(.int (1 : Int32))])) _
                exact k
              obtain ⟨fs, hr, hrun, hended, hW, hsame⟩ := X99.leave (v := some (.int (1 : Int32))) (fun h => by rw [Bd.returns] at h; cases h)
              refine ⟨_, _, pre101 _ ?_, hrun, hended, _, _, rfl, ?_, ⟨_, rfl⟩, hW, hsame.mono (by decide) (by decide)⟩
              · exact retOut X99 hx Bd.returns rfl (Or.inl ⟨rfl, by simp, _, rfl⟩) (hb hby at_297) hr
              · show Qlaw Z k0 x0 s0 md a_U8 a_U16 a_U32 a_U64 a_I8 a_I16 a_I32 a_I64 h0 n0 _ T99.heap _
                rw [heq99]
                exact ⟨rfl, N99⟩
            · skip
              have pre103 : ∀ t, Steps p.tables e below (T2.setTop (mkF m 244 #[.val (.int k0), .val (.long x0), .second, .val (.int s0), .val (.int md), .val (.int (md &&& (3 : Int32))), .val (.long vv), .second, .val (.int tt), .unset, .unset] [(.int (6 : Int32)), (.int tt)])) t → Steps p.tables e below (s₁.setTop (entryFrame m #[(.int k0), (.long x0), (.int s0), (.int md)] maxLocals)) t := by
                intro t k
                refine pre87 t ?_
                refine XS.icmpYes X2.here hx rfl (pc0 := 211) (pc' := 240) rfl (hb hby at_211) rfl (XT.ii_ne_t ht5) (by decide) (by decide) ?_
                show Steps p.tables e below (T2.setTop (mkF m 240 #[.val (.int k0), .val (.long x0), .second, .val (.int s0), .val (.int md), .val (.int (md &&& (3 : Int32))), .val (.long vv), .second, .val (.int tt), .unset, .unset] [])) _
                refine XS.iload X2.here hx rfl (hb hby at_240) rfl ?_
                show Steps p.tables e below (T2.setTop (mkF m 242 #[.val (.int k0), .val (.long x0), .second, .val (.int s0), .val (.int md), .val (.int (md &&& (3 : Int32))), .val (.long vv), .second, .val (.int tt), .unset, .unset] [(.int tt)])) _
                refine XS.bipush X2.here hx rfl (hb hby at_242) ?_
                show Steps p.tables e below (T2.setTop (mkF m 244 #[.val (.int k0), .val (.long x0), .second, .val (.int s0), .val (.int md), .val (.int (md &&& (3 : Int32))), .val (.long vv), .second, .val (.int tt), .unset, .unset] [(.int (6 : Int32)), (.int tt)])) _
                exact k
              by_cases ht6 : tt = (6 : Int32)
              · skip
                have pre105 : ∀ t, Steps p.tables e below (T2.setTop (mkF m 247 #[.val (.int k0), .val (.long x0), .second, .val (.int s0), .val (.int md), .val (.int (md &&& (3 : Int32))), .val (.long vv), .second, .val (.int tt), .unset, .unset] [])) t → Steps p.tables e below (s₁.setTop (entryFrame m #[(.int k0), (.long x0), (.int s0), (.int md)] maxLocals)) t := by
                  intro t k
                  refine pre103 t ?_
                  refine XS.icmpNo X2.here hx rfl (hb hby at_244) rfl (XT.ii_ne_f ht6) ?_
                  show Steps p.tables e below (T2.setTop (mkF m 247 #[.val (.int k0), .val (.long x0), .second, .val (.int s0), .val (.int md), .val (.int (md &&& (3 : Int32))), .val (.long vv), .second, .val (.int tt), .unset, .unset] [])) _
                  exact k
                obtain ⟨T106, X106, e106, st106⟩ := getS (host := "") X2 hx hZ hown (hw _ (List.mem_of_getElem? (i := 29) rfl)) Via.refl e2 S_I32 (g := (mkF m 247 #[.val (.int k0), .val (.long x0), .second, .val (.int s0), .val (.int md), .val (.int (md &&& (3 : Int32))), .val (.long vv), .second, .val (.int tt), .unset, .unset] [])) rfl (hb hby at_247)
                have pre107 : ∀ t, Steps p.tables e below (T106.setTop (mkF m 250 #[.val (.int k0), .val (.long x0), .second, .val (.int s0), .val (.int md), .val (.int (md &&& (3 : Int32))), .val (.long vv), .second, .val (.int tt), .unset, .unset] [(.ref a_I32)])) t → Steps p.tables e below (s₁.setTop (entryFrame m #[(.int k0), (.long x0), (.int s0), (.int md)] maxLocals)) t := fun t k => pre105 t (st106 t k)
                have pre108 : ∀ t, Steps p.tables e below (T106.setTop (mkF m 252 #[.val (.int k0), .val (.long x0), .second, .val (.int s0), .val (.int md), .val (.int (md &&& (3 : Int32))), .val (.long vv), .second, .val (.int tt), .val (.ref a_I32), .unset] [])) t → Steps p.tables e below (s₁.setTop (entryFrame m #[(.int k0), (.long x0), (.int s0), (.int md)] maxLocals)) t := by
                  intro t k
                  refine pre107 t ?_
                  refine XS.astore X106.here hx rfl (hb hby at_250) rfl rfl (l' := #[.val (.int k0), .val (.long x0), .second, .val (.int s0), .val (.int md), .val (.int (md &&& (3 : Int32))), .val (.long vv), .second, .val (.int tt), .val (.ref a_I32), .unset]) rfl ?_
                  show Steps p.tables e below (T106.setTop (mkF m 252 #[.val (.int k0), .val (.long x0), .second, .val (.int s0), .val (.int md), .val (.int (md &&& (3 : Int32))), .val (.long vv), .second, .val (.int tt), .val (.ref a_I32), .unset] [])) _
                  exact k
                have mrg109 : ∃ (ex : Int32) (T109 : State) (Lo109 : List Loc), Stand p l e room_1 s m #[(.int k0), (.long x0), (.int s0), (.int md)] below meth c T109 Lo109 0 0 ∧ Fr n0 Lo109 ∧ T109.heap = h0 ∧ (ex = own_bi (vv.toInt32.toInt64 = vv)) ∧ ∀ t, Steps p.tables e below (T109.setTop (mkF m 267 #[.val (.int k0), .val (.long x0), .second, .val (.int s0), .val (.int md), .val (.int (md &&& (3 : Int32))), .val (.long vv), .second, .val (.int tt), .val (.ref a_I32), .unset] [(.int ex)])) t → Steps p.tables e below (s₁.setTop (entryFrame m #[(.int k0), (.long x0), (.int s0), (.int md)] maxLocals)) t := by
                  have pre110 : ∀ t, Steps p.tables e below (T106.setTop (mkF m 259 #[.val (.int k0), .val (.long x0), .second, .val (.int s0), .val (.int md), .val (.int (md &&& (3 : Int32))), .val (.long vv), .second, .val (.int tt), .val (.ref a_I32), .unset] [(.int (XT.cmpL ((vv.toInt32).toInt64) vv))])) t → Steps p.tables e below (s₁.setTop (entryFrame m #[(.int k0), (.long x0), (.int s0), (.int md)] maxLocals)) t := by
                    intro t k
                    refine pre108 t ?_
                    refine XT.lload X106.here hx rfl (hb hby at_252) rfl ?_
                    show Steps p.tables e below (T106.setTop (mkF m 254 #[.val (.int k0), .val (.long x0), .second, .val (.int s0), .val (.int md), .val (.int (md &&& (3 : Int32))), .val (.long vv), .second, .val (.int tt), .val (.ref a_I32), .unset] [(.long vv)])) _
                    refine XT.l2i X106.here hx rfl (hb hby at_254) rfl ?_
                    show Steps p.tables e below (T106.setTop (mkF m 255 #[.val (.int k0), .val (.long x0), .second, .val (.int s0), .val (.int md), .val (.int (md &&& (3 : Int32))), .val (.long vv), .second, .val (.int tt), .val (.ref a_I32), .unset] [(.int (vv.toInt32))])) _
                    refine XT.i2l X106.here hx rfl (hb hby at_255) rfl ?_
                    show Steps p.tables e below (T106.setTop (mkF m 256 #[.val (.int k0), .val (.long x0), .second, .val (.int s0), .val (.int md), .val (.int (md &&& (3 : Int32))), .val (.long vv), .second, .val (.int tt), .val (.ref a_I32), .unset] [(.long ((vv.toInt32).toInt64))])) _
                    refine XT.lload X106.here hx rfl (hb hby at_256) rfl ?_
                    show Steps p.tables e below (T106.setTop (mkF m 258 #[.val (.int k0), .val (.long x0), .second, .val (.int s0), .val (.int md), .val (.int (md &&& (3 : Int32))), .val (.long vv), .second, .val (.int tt), .val (.ref a_I32), .unset] [(.long vv), (.long ((vv.toInt32).toInt64))])) _
                    refine XT.lcmp X106.here hx rfl (hb hby at_258) rfl ?_
                    show Steps p.tables e below (T106.setTop (mkF m 259 #[.val (.int k0), .val (.long x0), .second, .val (.int s0), .val (.int md), .val (.int (md &&& (3 : Int32))), .val (.long vv), .second, .val (.int tt), .val (.ref a_I32), .unset] [(.int (XT.cmpL ((vv.toInt32).toInt64) vv))])) _
                    exact k
                  by_cases hc259 : ((vv.toInt32).toInt64) = vv
                  · skip
                    have pre111 : ∀ t, Steps p.tables e below (T106.setTop (mkF m 267 #[.val (.int k0), .val (.long x0), .second, .val (.int s0), .val (.int md), .val (.int (md &&& (3 : Int32))), .val (.long vv), .second, .val (.int tt), .val (.ref a_I32), .unset] [(.int (1 : Int32))])) t → Steps p.tables e below (s₁.setTop (entryFrame m #[(.int k0), (.long x0), (.int s0), (.int md)] maxLocals)) t := by
                      intro t k
                      refine pre110 t ?_
                      refine XS.ifNo X106.here hx rfl (hb hby at_259) rfl (XT.ll_ne_f hc259) ?_
                      show Steps p.tables e below (T106.setTop (mkF m 262 #[.val (.int k0), .val (.long x0), .second, .val (.int s0), .val (.int md), .val (.int (md &&& (3 : Int32))), .val (.long vv), .second, .val (.int tt), .val (.ref a_I32), .unset] [])) _
                      refine XS.iconst X106.here hx rfl (hb hby at_262) ?_
                      show Steps p.tables e below (T106.setTop (mkF m 263 #[.val (.int k0), .val (.long x0), .second, .val (.int s0), .val (.int md), .val (.int (md &&& (3 : Int32))), .val (.long vv), .second, .val (.int tt), .val (.ref a_I32), .unset] [(.int (1 : Int32))])) _
                      refine XS.goto X106.here hx rfl (pc0 := 263) (pc' := 267) rfl (hb hby at_263) (by decide) (by decide) ?_
                      show Steps p.tables e below (T106.setTop (mkF m 267 #[.val (.int k0), .val (.long x0), .second, .val (.int s0), .val (.int md), .val (.int (md &&& (3 : Int32))), .val (.long vv), .second, .val (.int tt), .val (.ref a_I32), .unset] [(.int (1 : Int32))])) _
                      exact k
                    exact ⟨(1 : Int32), _, _, X106, N2, e106, (by first | exact (own_bi_t hc259).symm | exact (own_bi_f hc259).symm | (simp [own_bi, hc259]; done) | contradiction), pre111⟩
                  · skip
                    have pre112 : ∀ t, Steps p.tables e below (T106.setTop (mkF m 267 #[.val (.int k0), .val (.long x0), .second, .val (.int s0), .val (.int md), .val (.int (md &&& (3 : Int32))), .val (.long vv), .second, .val (.int tt), .val (.ref a_I32), .unset] [(.int (0 : Int32))])) t → Steps p.tables e below (s₁.setTop (entryFrame m #[(.int k0), (.long x0), (.int s0), (.int md)] maxLocals)) t := by
                      intro t k
                      refine pre110 t ?_
                      refine XS.ifYes X106.here hx rfl (pc0 := 259) (pc' := 266) rfl (hb hby at_259) rfl (XT.ll_ne_t hc259) (by decide) (by decide) ?_
                      show Steps p.tables e below (T106.setTop (mkF m 266 #[.val (.int k0), .val (.long x0), .second, .val (.int s0), .val (.int md), .val (.int (md &&& (3 : Int32))), .val (.long vv), .second, .val (.int tt), .val (.ref a_I32), .unset] [])) _
                      refine XS.iconst X106.here hx rfl (hb hby at_266) ?_
                      show Steps p.tables e below (T106.setTop (mkF m 267 #[.val (.int k0), .val (.long x0), .second, .val (.int s0), .val (.int md), .val (.int (md &&& (3 : Int32))), .val (.long vv), .second, .val (.int tt), .val (.ref a_I32), .unset] [(.int (0 : Int32))])) _
                      exact k
                    exact ⟨(0 : Int32), _, _, X106, N2, e106, (by first | exact (own_bi_t hc259).symm | exact (own_bi_f hc259).symm | (simp [own_bi, hc259]; done) | contradiction), pre112⟩
                obtain ⟨ex, T109, Lo109, X109, N109, e109, hex, pre109⟩ := mrg109
                have pre114 : ∀ t, Steps p.tables e below (T109.setTop (mkF m 284 #[.val (.int k0), .val (.long x0), .second, .val (.int s0), .val (.int md), .val (.int (md &&& (3 : Int32))), .val (.long vv), .second, .val (.int tt), .val (.ref a_I32), .val (.int ex)] [(.long vv), (.ref a_I32)])) t → Steps p.tables e below (s₁.setTop (entryFrame m #[(.int k0), (.long x0), (.int s0), (.int md)] maxLocals)) t := by
                  intro t k
                  refine pre109 t ?_
                  refine XS.istore X109.here hx rfl (hb hby at_267) rfl (l' := #[.val (.int k0), .val (.long x0), .second, .val (.int s0), .val (.int md), .val (.int (md &&& (3 : Int32))), .val (.long vv), .second, .val (.int tt), .val (.ref a_I32), .val (.int ex)]) rfl ?_
                  show Steps p.tables e below (T109.setTop (mkF m 269 #[.val (.int k0), .val (.long x0), .second, .val (.int s0), .val (.int md), .val (.int (md &&& (3 : Int32))), .val (.long vv), .second, .val (.int tt), .val (.ref a_I32), .val (.int ex)] [])) _
                  refine XS.goto X109.here hx rfl (pc0 := 269) (pc' := 280) rfl (hb hby at_269) (by decide) (by decide) ?_
                  show Steps p.tables e below (T109.setTop (mkF m 280 #[.val (.int k0), .val (.long x0), .second, .val (.int s0), .val (.int md), .val (.int (md &&& (3 : Int32))), .val (.long vv), .second, .val (.int tt), .val (.ref a_I32), .val (.int ex)] [])) _
                  refine XS.aload X109.here hx rfl (hb hby at_280) rfl rfl ?_
                  show Steps p.tables e below (T109.setTop (mkF m 282 #[.val (.int k0), .val (.long x0), .second, .val (.int s0), .val (.int md), .val (.int (md &&& (3 : Int32))), .val (.long vv), .second, .val (.int tt), .val (.ref a_I32), .val (.int ex)] [(.ref a_I32)])) _
                  refine XT.lload X109.here hx rfl (hb hby at_282) rfl ?_
                  show Steps p.tables e below (T109.setTop (mkF m 284 #[.val (.int k0), .val (.long x0), .second, .val (.int s0), .val (.int md), .val (.int (md &&& (3 : Int32))), .val (.long vv), .second, .val (.int tt), .val (.ref a_I32), .val (.int ex)] [(.long vv), (.ref a_I32)])) _
                  exact k
                obtain ⟨cq115, kq115, q115a, q115b, q115c⟩ := isOf hZ e109 E_I32
                obtain ⟨_, _, ⟨T115, L115, k115, n115⟩, -, X115, ⟨Lc115, hQ115, l115, y115, z115⟩, st115⟩ := X109.virtualBack hx (y := (⟨"com/example/byteweave/byteweave/schema/ScalarType", "holds", "(J)Z"⟩ : MethodName)) (z := (⟨"com/example/byteweave/byteweave/schema/ScalarType", "holds", "(J)Z"⟩ : MethodName)) hown (mvT hZ (hw _ (List.mem_of_getElem? (i := 4) rfl))) (mvT hZ (hw _ (List.mem_of_getElem? (i := 5) rfl))) (notFace_of_selects (args := #[]) (mvT hZ (hw _ (List.mem_of_getElem? (i := 7) rfl)))) (mvT hZ (hw _ (List.mem_of_getElem? (i := 7) rfl))) (mvT hZ (hw _ (List.mem_of_getElem? (i := 6) rfl))) (by decide) (backOf (W := 0) (rm1 l Z a0 hw [] a_I32 vv (32 : Int32) (-2147483648 : Int64) (2147483647 : Int64) h0 n0 Z0 E_I32 B_I32 L_I32 M_I32 (by decide)) hZ (hw _ (List.mem_of_getElem? (i := 8) rfl)) (hw _ (List.mem_of_getElem? (i := 1) rfl)) (by decide) (by decide)) q115a q115c (g := (mkF m 284 #[.val (.int k0), .val (.long x0), .second, .val (.int s0), .val (.int md), .val (.int (md &&& (3 : Int32))), .val (.long vv), .second, .val (.int tt), .val (.ref a_I32), .val (.int ex)] [(.long vv), (.ref a_I32)])) rfl (by rw [hml]; rfl) (Steps.refl _) (argsL := [(.long vv)]) (rest := []) (lenOf pd_hol rfl) rfl (by show 2 * 0 + _ ≤ _; exact Nat.le_of_eq rfl) (hb hby at_284) (fun _ _ => ⟨rfl, e109, (by decide : 0 + 0 ≤ _), (by decide : 0 + 0 ≤ _)⟩)
                dsimp only [Pt.U, Pt.locs, Pt.cells, Pt.slots] at X115 l115 y115 z115 st115 hQ115
                subst l115 y115 z115
                obtain ⟨rfl, Nq115, heq115⟩ := hQ115
                have N115 := Fr.app N109 Nq115
                have pre116 : ∀ t, Steps p.tables e below (T115.setTop (mkF m 287 #[.val (.int k0), .val (.long x0), .second, .val (.int s0), .val (.int md), .val (.int (md &&& (3 : Int32))), .val (.long vv), .second, .val (.int tt), .val (.ref a_I32), .val (.int ex)] [(.int (own_bi ((32 : Int32) = 64 ∨ (¬ vv < (-2147483648 : Int64) ∧ ¬ (2147483647 : Int64) < vv))))])) t → Steps p.tables e below (s₁.setTop (entryFrame m #[(.int k0), (.long x0), (.int s0), (.int md)] maxLocals)) t := fun t k => pre114 t (st115.trans k)
                have pre117 : ∀ t, Steps p.tables e below (T115.setTop (mkF m 297 #[.val (.int k0), .val (.long x0), .second, .val (.int s0), .val (.int md), .val (.int (md &&& (3 : Int32))), .val (.long vv), .second, .val (.int tt), .val (.ref a_I32), .val (.int ex)] [(.int (1 : Int32))])) t → Steps p.tables e below (s₁.setTop (entryFrame m #[(.int k0), (.long x0), (.int s0), (.int md)] maxLocals)) t := by
                  intro t k
                  refine pre116 t ?_
                  refine XS.iload X115.here hx rfl (hb hby at_287) rfl ?_
                  show Steps p.tables e below (T115.setTop (mkF m 289 #[.val (.int k0), .val (.long x0), .second, .val (.int s0), .val (.int md), .val (.int (md &&& (3 : Int32))), .val (.long vv), .second, .val (.int tt), .val (.ref a_I32), .val (.int ex)] [(.int ex), (.int (own_bi ((32 : Int32) = 64 ∨ (¬ vv < (-2147483648 : Int64) ∧ ¬ (2147483647 : Int64) < vv))))])) _
                  refine XS.icmpNo X115.here hx rfl (hb hby at_289) rfl (XT.ii_ne_f (own_fin (b := 0) (by decide) hex (own_i32 vv))) ?_
                  show Steps p.tables e below (T115.setTop (mkF m 292 #[.val (.int k0), .val (.long x0), .second, .val (.int s0), .val (.int md), .val (.int (md &&& (3 : Int32))), .val (.long vv), .second, .val (.int tt), .val (.ref a_I32), .val (.int ex)] [])) _
                  refine XS.iconst X115.here hx rfl (hb hby at_292) ?_
                  show Steps p.tables e below (T115.setTop (mkF m 293 #[.val (.int k0), .val (.long x0), .second, .val (.int s0), .val (.int md), .val (.int (md &&& (3 : Int32))), .val (.long vv), .second, .val (.int tt), .val (.ref a_I32), .val (.int ex)] [(.int (1 : Int32))])) _
                  refine XS.goto X115.here hx rfl (pc0 := 293) (pc' := 297) rfl (hb hby at_293) (by decide) (by decide) ?_
                  show Steps p.tables e below (T115.setTop (mkF m 297 #[.val (.int k0), .val (.long x0), .second, .val (.int s0), .val (.int md), .val (.int (md &&& (3 : Int32))), .val (.long vv), .second, .val (.int tt), .val (.ref a_I32), .val (.int ex)] [(.int (1 : Int32))])) _
                  exact k
                obtain ⟨fs, hr, hrun, hended, hW, hsame⟩ := X115.leave (v := some (.int (1 : Int32))) (fun h => by rw [Bd.returns] at h; cases h)
                refine ⟨_, _, pre117 _ ?_, hrun, hended, _, _, rfl, ?_, ⟨_, rfl⟩, hW, hsame.mono (by decide) (by decide)⟩
                · exact retOut X115 hx Bd.returns rfl (Or.inl ⟨rfl, by simp, _, rfl⟩) (hb hby at_297) hr
                · show Qlaw Z k0 x0 s0 md a_U8 a_U16 a_U32 a_U64 a_I8 a_I16 a_I32 a_I64 h0 n0 _ T115.heap _
                  rw [heq115]
                  exact ⟨rfl, N115⟩
              · skip
                have pre120 : ∀ t, Steps p.tables e below (T2.setTop (mkF m 272 #[.val (.int k0), .val (.long x0), .second, .val (.int s0), .val (.int md), .val (.int (md &&& (3 : Int32))), .val (.long vv), .second, .val (.int tt), .unset, .unset] [])) t → Steps p.tables e below (s₁.setTop (entryFrame m #[(.int k0), (.long x0), (.int s0), (.int md)] maxLocals)) t := by
                  intro t k
                  refine pre103 t ?_
                  refine XS.icmpYes X2.here hx rfl (pc0 := 244) (pc' := 272) rfl (hb hby at_244) rfl (XT.ii_ne_t ht6) (by decide) (by decide) ?_
                  show Steps p.tables e below (T2.setTop (mkF m 272 #[.val (.int k0), .val (.long x0), .second, .val (.int s0), .val (.int md), .val (.int (md &&& (3 : Int32))), .val (.long vv), .second, .val (.int tt), .unset, .unset] [])) _
                  exact k
                obtain ⟨T121, X121, e121, st121⟩ := getS (host := "") X2 hx hZ hown (hw _ (List.mem_of_getElem? (i := 21) rfl)) Via.refl e2 S_I64 (g := (mkF m 272 #[.val (.int k0), .val (.long x0), .second, .val (.int s0), .val (.int md), .val (.int (md &&& (3 : Int32))), .val (.long vv), .second, .val (.int tt), .unset, .unset] [])) rfl (hb hby at_272)
                have pre122 : ∀ t, Steps p.tables e below (T121.setTop (mkF m 275 #[.val (.int k0), .val (.long x0), .second, .val (.int s0), .val (.int md), .val (.int (md &&& (3 : Int32))), .val (.long vv), .second, .val (.int tt), .unset, .unset] [(.ref a_I64)])) t → Steps p.tables e below (s₁.setTop (entryFrame m #[(.int k0), (.long x0), (.int s0), (.int md)] maxLocals)) t := fun t k => pre120 t (st121 t k)
                have pre124 : ∀ t, Steps p.tables e below (T121.setTop (mkF m 284 #[.val (.int k0), .val (.long x0), .second, .val (.int s0), .val (.int md), .val (.int (md &&& (3 : Int32))), .val (.long vv), .second, .val (.int tt), .val (.ref a_I64), .val (.int (1 : Int32))] [(.long vv), (.ref a_I64)])) t → Steps p.tables e below (s₁.setTop (entryFrame m #[(.int k0), (.long x0), (.int s0), (.int md)] maxLocals)) t := by
                  intro t k
                  refine pre122 t ?_
                  refine XS.astore X121.here hx rfl (hb hby at_275) rfl rfl (l' := #[.val (.int k0), .val (.long x0), .second, .val (.int s0), .val (.int md), .val (.int (md &&& (3 : Int32))), .val (.long vv), .second, .val (.int tt), .val (.ref a_I64), .unset]) rfl ?_
                  show Steps p.tables e below (T121.setTop (mkF m 277 #[.val (.int k0), .val (.long x0), .second, .val (.int s0), .val (.int md), .val (.int (md &&& (3 : Int32))), .val (.long vv), .second, .val (.int tt), .val (.ref a_I64), .unset] [])) _
                  refine XS.iconst X121.here hx rfl (hb hby at_277) ?_
                  show Steps p.tables e below (T121.setTop (mkF m 278 #[.val (.int k0), .val (.long x0), .second, .val (.int s0), .val (.int md), .val (.int (md &&& (3 : Int32))), .val (.long vv), .second, .val (.int tt), .val (.ref a_I64), .unset] [(.int (1 : Int32))])) _
                  refine XS.istore X121.here hx rfl (hb hby at_278) rfl (l' := #[.val (.int k0), .val (.long x0), .second, .val (.int s0), .val (.int md), .val (.int (md &&& (3 : Int32))), .val (.long vv), .second, .val (.int tt), .val (.ref a_I64), .val (.int (1 : Int32))]) rfl ?_
                  show Steps p.tables e below (T121.setTop (mkF m 280 #[.val (.int k0), .val (.long x0), .second, .val (.int s0), .val (.int md), .val (.int (md &&& (3 : Int32))), .val (.long vv), .second, .val (.int tt), .val (.ref a_I64), .val (.int (1 : Int32))] [])) _
                  refine XS.aload X121.here hx rfl (hb hby at_280) rfl rfl ?_
                  show Steps p.tables e below (T121.setTop (mkF m 282 #[.val (.int k0), .val (.long x0), .second, .val (.int s0), .val (.int md), .val (.int (md &&& (3 : Int32))), .val (.long vv), .second, .val (.int tt), .val (.ref a_I64), .val (.int (1 : Int32))] [(.ref a_I64)])) _
                  refine XT.lload X121.here hx rfl (hb hby at_282) rfl ?_
                  show Steps p.tables e below (T121.setTop (mkF m 284 #[.val (.int k0), .val (.long x0), .second, .val (.int s0), .val (.int md), .val (.int (md &&& (3 : Int32))), .val (.long vv), .second, .val (.int tt), .val (.ref a_I64), .val (.int (1 : Int32))] [(.long vv), (.ref a_I64)])) _
                  exact k
                obtain ⟨cq125, kq125, q125a, q125b, q125c⟩ := isOf hZ e121 E_I64
                obtain ⟨_, _, ⟨T125, L125, k125, n125⟩, -, X125, ⟨Lc125, hQ125, l125, y125, z125⟩, st125⟩ := X121.virtualBack hx (y := (⟨"com/example/byteweave/byteweave/schema/ScalarType", "holds", "(J)Z"⟩ : MethodName)) (z := (⟨"com/example/byteweave/byteweave/schema/ScalarType", "holds", "(J)Z"⟩ : MethodName)) hown (mvT hZ (hw _ (List.mem_of_getElem? (i := 4) rfl))) (mvT hZ (hw _ (List.mem_of_getElem? (i := 5) rfl))) (notFace_of_selects (args := #[]) (mvT hZ (hw _ (List.mem_of_getElem? (i := 7) rfl)))) (mvT hZ (hw _ (List.mem_of_getElem? (i := 7) rfl))) (mvT hZ (hw _ (List.mem_of_getElem? (i := 6) rfl))) (by decide) (backOf (W := 0) (rm1 l Z a0 hw [] a_I64 vv (64 : Int32) (-9223372036854775808 : Int64) (9223372036854775807 : Int64) h0 n0 Z0 E_I64 B_I64 L_I64 M_I64 (by decide)) hZ (hw _ (List.mem_of_getElem? (i := 8) rfl)) (hw _ (List.mem_of_getElem? (i := 1) rfl)) (by decide) (by decide)) q125a q125c (g := (mkF m 284 #[.val (.int k0), .val (.long x0), .second, .val (.int s0), .val (.int md), .val (.int (md &&& (3 : Int32))), .val (.long vv), .second, .val (.int tt), .val (.ref a_I64), .val (.int (1 : Int32))] [(.long vv), (.ref a_I64)])) rfl (by rw [hml]; rfl) (Steps.refl _) (argsL := [(.long vv)]) (rest := []) (lenOf pd_hol rfl) rfl (by show 2 * 0 + _ ≤ _; exact Nat.le_of_eq rfl) (hb hby at_284) (fun _ _ => ⟨rfl, e121, (by decide : 0 + 0 ≤ _), (by decide : 0 + 0 ≤ _)⟩)
                dsimp only [Pt.U, Pt.locs, Pt.cells, Pt.slots] at X125 l125 y125 z125 st125 hQ125
                subst l125 y125 z125
                obtain ⟨rfl, Nq125, heq125⟩ := hQ125
                have N125 := Fr.app N2 Nq125
                have pre126 : ∀ t, Steps p.tables e below (T125.setTop (mkF m 287 #[.val (.int k0), .val (.long x0), .second, .val (.int s0), .val (.int md), .val (.int (md &&& (3 : Int32))), .val (.long vv), .second, .val (.int tt), .val (.ref a_I64), .val (.int (1 : Int32))] [(.int (own_bi ((64 : Int32) = 64 ∨ (¬ vv < (-9223372036854775808 : Int64) ∧ ¬ (9223372036854775807 : Int64) < vv))))])) t → Steps p.tables e below (s₁.setTop (entryFrame m #[(.int k0), (.long x0), (.int s0), (.int md)] maxLocals)) t := fun t k => pre124 t (st125.trans k)
                have pre127 : ∀ t, Steps p.tables e below (T125.setTop (mkF m 297 #[.val (.int k0), .val (.long x0), .second, .val (.int s0), .val (.int md), .val (.int (md &&& (3 : Int32))), .val (.long vv), .second, .val (.int tt), .val (.ref a_I64), .val (.int (1 : Int32))] [(.int (1 : Int32))])) t → Steps p.tables e below (s₁.setTop (entryFrame m #[(.int k0), (.long x0), (.int s0), (.int md)] maxLocals)) t := by
                  intro t k
                  refine pre126 t ?_
                  refine XS.iload X125.here hx rfl (hb hby at_287) rfl ?_
                  show Steps p.tables e below (T125.setTop (mkF m 289 #[.val (.int k0), .val (.long x0), .second, .val (.int s0), .val (.int md), .val (.int (md &&& (3 : Int32))), .val (.long vv), .second, .val (.int tt), .val (.ref a_I64), .val (.int (1 : Int32))] [(.int (1 : Int32)), (.int (own_bi ((64 : Int32) = 64 ∨ (¬ vv < (-9223372036854775808 : Int64) ∧ ¬ (9223372036854775807 : Int64) < vv))))])) _
                  refine XS.icmpNo X125.here hx rfl (hb hby at_289) rfl (XT.ii_ne_f (own_bi_t (Or.inl rfl))) ?_
                  show Steps p.tables e below (T125.setTop (mkF m 292 #[.val (.int k0), .val (.long x0), .second, .val (.int s0), .val (.int md), .val (.int (md &&& (3 : Int32))), .val (.long vv), .second, .val (.int tt), .val (.ref a_I64), .val (.int (1 : Int32))] [])) _
                  refine XS.iconst X125.here hx rfl (hb hby at_292) ?_
                  show Steps p.tables e below (T125.setTop (mkF m 293 #[.val (.int k0), .val (.long x0), .second, .val (.int s0), .val (.int md), .val (.int (md &&& (3 : Int32))), .val (.long vv), .second, .val (.int tt), .val (.ref a_I64), .val (.int (1 : Int32))] [(.int (1 : Int32))])) _
                  refine XS.goto X125.here hx rfl (pc0 := 293) (pc' := 297) rfl (hb hby at_293) (by decide) (by decide) ?_
                  show Steps p.tables e below (T125.setTop (mkF m 297 #[.val (.int k0), .val (.long x0), .second, .val (.int s0), .val (.int md), .val (.int (md &&& (3 : Int32))), .val (.long vv), .second, .val (.int tt), .val (.ref a_I64), .val (.int (1 : Int32))] [(.int (1 : Int32))])) _
                  exact k
                obtain ⟨fs, hr, hrun, hended, hW, hsame⟩ := X125.leave (v := some (.int (1 : Int32))) (fun h => by rw [Bd.returns] at h; cases h)
                refine ⟨_, _, pre127 _ ?_, hrun, hended, _, _, rfl, ?_, ⟨_, rfl⟩, hW, hsame.mono (by decide) (by decide)⟩
                · exact retOut X125 hx Bd.returns rfl (Or.inl ⟨rfl, by simp, _, rfl⟩) (hb hby at_297) hr
                · show Qlaw Z k0 x0 s0 md a_U8 a_U16 a_U32 a_U64 a_I8 a_I16 a_I32 a_I64 h0 n0 _ T125.heap _
                  rw [heq125]
                  exact ⟨rfl, N125⟩
set_option maxRecDepth 65536 in
set_option maxHeartbeats 40000000 in
theorem comes_1 {Post : Tables → Env → Array Value → State → Outcome → State → Prop} (hpost : ∀ tb e args s v u, (limb_1_1.after args s (.returned v) u = true ∧ limb_1_2.after args s (.returned v) u = true ∧ True) → FrameEnd s (.returned v) u (Jvm.fieldLocs frame_1_writes args s ++ Jvm.arrayLocs frame_1_arrays args s ++ Jvm.staticLocs frame_1_statics s) 0 0 → Post tb e args s (.returned v) u) :
    ArmFor flags0 classFile x code maxLocals ret World_1 tables_1 room_1 Calls_1 rest_1 Pre_1 Post := by
  intro l hfl _ _ p e ha hc hk s m args below hf hA hF happ hP
  obtain ⟨hcalls, hrest, hpre⟩ := hP
  obtain ⟨-, -, -, hnamed, -, -, -, hat⟩ := (Spec.applies_iff hf).mp happ
  obtain ⟨hg, hn⟩ := and_e (Cond.before_iff.mp (show (Jvm.Cond.and given_1 narrow_1).before args s = true from hpre))
  obtain ⟨gc, g0⟩ := and_e hg
  obtain ⟨w0, w1, w2, w3, rfl⟩ : ∃ w0 w1 w2 w3 : Value, args = #[w0, w1, w2, w3] := by
    have hs : args.size = 4 := by simpa [Cond.value, given_1] using gc
    obtain ⟨L⟩ := args
    match L, hs with
    | [w0, w1, w2, w3], _ => exact ⟨w0, w1, w2, w3, rfl⟩
  have hw := fun d (hd : d ∈ tables_1) => atoms_spec (ws := Jvm.Cond.code x code maxLocals ret :: tables_1) hat d (List.mem_cons_of_mem _ hd)
  have hfit : Fit s := fun {y c} hc i hi => by
    obtain ⟨ha, rfl⟩ := Array.getElem?_eq_some_iff.mp hc
    have q := List.all_eq_true.mp ((Array.all_eq_true_iff_forall_mem.mp hF) _ (Array.getElem_mem ha)) i (List.mem_range.mpr hi)
    simpa [Array.getElem?_eq_getElem hi] using q
  obtain ⟨ga0, gb0⟩ := and_e g0
  obtain ⟨i0, ei0⟩ := is_v ga0
  obtain rfl : w0 = (.int i0) := Option.some.inj ei0
  obtain ⟨ga1, gb1⟩ := and_e gb0
  obtain ⟨i1, ei1⟩ := isL_v ga1
  obtain rfl : w1 = (.long i1) := Option.some.inj ei1
  obtain ⟨ga2, gb2⟩ := and_e gb1
  obtain ⟨i2, ei2⟩ := is_v ga2
  obtain rfl : w2 = (.int i2) := Option.some.inj ei2
  obtain ⟨i3, ei3⟩ := is_v gb2
  obtain rfl : w3 = (.int i3) := Option.some.inj ei3
  obtain ⟨x0, r0⟩ := and_e hn
  obtain ⟨x1, r1⟩ := and_e r0
  obtain ⟨x2, r2⟩ := and_e r1
  obtain ⟨x3, r3⟩ := and_e r2
  obtain ⟨x4, r4⟩ := and_e r3
  obtain ⟨x5, r5⟩ := and_e r4
  obtain ⟨x6, r6⟩ := and_e r5
  obtain ⟨x7, r7⟩ := and_e r6
  obtain ⟨x8, r8⟩ := and_e r7
  obtain ⟨x9, r9⟩ := and_e r8
  obtain ⟨x10, r10⟩ := and_e r9
  obtain ⟨x11, r11⟩ := and_e r10
  obtain ⟨x12, r12⟩ := and_e r11
  obtain ⟨x13, r13⟩ := and_e r12
  obtain ⟨x14, r14⟩ := and_e r13
  obtain ⟨x15, r15⟩ := and_e r14
  obtain ⟨x16, r16⟩ := and_e r15
  obtain ⟨x17, r17⟩ := and_e r16
  obtain ⟨x18, r18⟩ := and_e r17
  obtain ⟨x19, r19⟩ := and_e r18
  obtain ⟨x20, r20⟩ := and_e r19
  obtain ⟨x21, r21⟩ := and_e r20
  obtain ⟨x22, r22⟩ := and_e r21
  obtain ⟨x23, r23⟩ := and_e r22
  obtain ⟨x24, r24⟩ := and_e r23
  obtain ⟨x25, r25⟩ := and_e r24
  obtain ⟨x26, r26⟩ := and_e r25
  obtain ⟨x27, r27⟩ := and_e r26
  obtain ⟨x28, r28⟩ := and_e r27
  obtain ⟨x29, r29⟩ := and_e r28
  obtain ⟨x30, r30⟩ := and_e r29
  have x31 := r30
  obtain ⟨a_U8, ev_U8⟩ := exa_v x0
  have E_U8 : Exa s s.heap a_U8 "com/example/byteweave/byteweave/schema/ScalarType" := Exa.start ev_U8 x0
  have S_U8 : Sta s s.heap "com/example/byteweave/byteweave/schema/ScalarType" "U8" "Lcom/example/byteweave/byteweave/schema/ScalarType;" (.ref a_U8) := Sta.start ev_U8 (Or.inr ⟨(hw _ (List.mem_of_getElem? (i := 1) rfl)), (hw _ (List.mem_of_getElem? (i := 2) rfl))⟩)
  obtain ⟨a_U64, ev_U64⟩ := exa_v x4
  have E_U64 : Exa s s.heap a_U64 "com/example/byteweave/byteweave/schema/ScalarType" := Exa.start ev_U64 x4
  have S_U64 : Sta s s.heap "com/example/byteweave/byteweave/schema/ScalarType" "U64" "Lcom/example/byteweave/byteweave/schema/ScalarType;" (.ref a_U64) := Sta.start ev_U64 (Or.inr ⟨(hw _ (List.mem_of_getElem? (i := 1) rfl)), (hw _ (List.mem_of_getElem? (i := 20) rfl))⟩)
  obtain ⟨a_I64, ev_I64⟩ := exa_v x6
  have E_I64 : Exa s s.heap a_I64 "com/example/byteweave/byteweave/schema/ScalarType" := Exa.start ev_I64 x6
  have S_I64 : Sta s s.heap "com/example/byteweave/byteweave/schema/ScalarType" "I64" "Lcom/example/byteweave/byteweave/schema/ScalarType;" (.ref a_I64) := Sta.start ev_I64 (Or.inr ⟨(hw _ (List.mem_of_getElem? (i := 1) rfl)), (hw _ (List.mem_of_getElem? (i := 22) rfl))⟩)
  obtain ⟨a_I8, ev_I8⟩ := exa_v x8
  have E_I8 : Exa s s.heap a_I8 "com/example/byteweave/byteweave/schema/ScalarType" := Exa.start ev_I8 x8
  have S_I8 : Sta s s.heap "com/example/byteweave/byteweave/schema/ScalarType" "I8" "Lcom/example/byteweave/byteweave/schema/ScalarType;" (.ref a_I8) := Sta.start ev_I8 (Or.inr ⟨(hw _ (List.mem_of_getElem? (i := 1) rfl)), (hw _ (List.mem_of_getElem? (i := 24) rfl))⟩)
  obtain ⟨a_U16, ev_U16⟩ := exa_v x12
  have E_U16 : Exa s s.heap a_U16 "com/example/byteweave/byteweave/schema/ScalarType" := Exa.start ev_U16 x12
  have S_U16 : Sta s s.heap "com/example/byteweave/byteweave/schema/ScalarType" "U16" "Lcom/example/byteweave/byteweave/schema/ScalarType;" (.ref a_U16) := Sta.start ev_U16 (Or.inr ⟨(hw _ (List.mem_of_getElem? (i := 1) rfl)), (hw _ (List.mem_of_getElem? (i := 26) rfl))⟩)
  obtain ⟨a_I32, ev_I32⟩ := exa_v x16
  have E_I32 : Exa s s.heap a_I32 "com/example/byteweave/byteweave/schema/ScalarType" := Exa.start ev_I32 x16
  have S_I32 : Sta s s.heap "com/example/byteweave/byteweave/schema/ScalarType" "I32" "Lcom/example/byteweave/byteweave/schema/ScalarType;" (.ref a_I32) := Sta.start ev_I32 (Or.inr ⟨(hw _ (List.mem_of_getElem? (i := 1) rfl)), (hw _ (List.mem_of_getElem? (i := 30) rfl))⟩)
  obtain ⟨a_I16, ev_I16⟩ := exa_v x20
  have E_I16 : Exa s s.heap a_I16 "com/example/byteweave/byteweave/schema/ScalarType" := Exa.start ev_I16 x20
  have S_I16 : Sta s s.heap "com/example/byteweave/byteweave/schema/ScalarType" "I16" "Lcom/example/byteweave/byteweave/schema/ScalarType;" (.ref a_I16) := Sta.start ev_I16 (Or.inr ⟨(hw _ (List.mem_of_getElem? (i := 1) rfl)), (hw _ (List.mem_of_getElem? (i := 32) rfl))⟩)
  obtain ⟨a_U32, ev_U32⟩ := exa_v x23
  have E_U32 : Exa s s.heap a_U32 "com/example/byteweave/byteweave/schema/ScalarType" := Exa.start ev_U32 x23
  have S_U32 : Sta s s.heap "com/example/byteweave/byteweave/schema/ScalarType" "U32" "Lcom/example/byteweave/byteweave/schema/ScalarType;" (.ref a_U32) := Sta.start ev_U32 (Or.inr ⟨(hw _ (List.mem_of_getElem? (i := 1) rfl)), (hw _ (List.mem_of_getElem? (i := 34) rfl))⟩)
  have B_U8 : Fld s s.heap a_U8 "com/example/byteweave/byteweave/schema/ScalarType" "bits" "I" (.int (8 : Int32)) := Fld.start ((fld_at ev_U8).symm.trans (own_eqI x1))
  have L_U8 : Fld s s.heap a_U8 "com/example/byteweave/byteweave/schema/ScalarType" "least" "J" (.long (0 : Int64)) := Fld.start ((fld_at ev_U8).symm.trans (own_eqJ x2))
  have M_U8 : Fld s s.heap a_U8 "com/example/byteweave/byteweave/schema/ScalarType" "most" "J" (.long (255 : Int64)) := Fld.start ((fld_at ev_U8).symm.trans (own_eqJ x3))
  have B_U64 : Fld s s.heap a_U64 "com/example/byteweave/byteweave/schema/ScalarType" "bits" "I" (.int (64 : Int32)) := Fld.start ((fld_at ev_U64).symm.trans (own_eqI x5))
  have B_I64 : Fld s s.heap a_I64 "com/example/byteweave/byteweave/schema/ScalarType" "bits" "I" (.int (64 : Int32)) := Fld.start ((fld_at ev_I64).symm.trans (own_eqI x7))
  have B_I8 : Fld s s.heap a_I8 "com/example/byteweave/byteweave/schema/ScalarType" "bits" "I" (.int (8 : Int32)) := Fld.start ((fld_at ev_I8).symm.trans (own_eqI x9))
  have L_I8 : Fld s s.heap a_I8 "com/example/byteweave/byteweave/schema/ScalarType" "least" "J" (.long (-128 : Int64)) := Fld.start ((fld_at ev_I8).symm.trans (own_eqJ x10))
  have M_I8 : Fld s s.heap a_I8 "com/example/byteweave/byteweave/schema/ScalarType" "most" "J" (.long (127 : Int64)) := Fld.start ((fld_at ev_I8).symm.trans (own_eqJ x11))
  have B_U16 : Fld s s.heap a_U16 "com/example/byteweave/byteweave/schema/ScalarType" "bits" "I" (.int (16 : Int32)) := Fld.start ((fld_at ev_U16).symm.trans (own_eqI x13))
  have L_U16 : Fld s s.heap a_U16 "com/example/byteweave/byteweave/schema/ScalarType" "least" "J" (.long (0 : Int64)) := Fld.start ((fld_at ev_U16).symm.trans (own_eqJ x14))
  have M_U16 : Fld s s.heap a_U16 "com/example/byteweave/byteweave/schema/ScalarType" "most" "J" (.long (65535 : Int64)) := Fld.start ((fld_at ev_U16).symm.trans (own_eqJ x15))
  have B_I32 : Fld s s.heap a_I32 "com/example/byteweave/byteweave/schema/ScalarType" "bits" "I" (.int (32 : Int32)) := Fld.start ((fld_at ev_I32).symm.trans (own_eqI x17))
  have L_I32 : Fld s s.heap a_I32 "com/example/byteweave/byteweave/schema/ScalarType" "least" "J" (.long (-2147483648 : Int64)) := Fld.start ((fld_at ev_I32).symm.trans (own_eqJ x18))
  have M_I32 : Fld s s.heap a_I32 "com/example/byteweave/byteweave/schema/ScalarType" "most" "J" (.long (2147483647 : Int64)) := Fld.start ((fld_at ev_I32).symm.trans (own_eqJ x19))
  have B_I16 : Fld s s.heap a_I16 "com/example/byteweave/byteweave/schema/ScalarType" "bits" "I" (.int (16 : Int32)) := Fld.start ((fld_at ev_I16).symm.trans (own_eqI x21))
  have L_I16 : Fld s s.heap a_I16 "com/example/byteweave/byteweave/schema/ScalarType" "least" "J" (.long (-32768 : Int64)) := Fld.start ((fld_at ev_I16).symm.trans (own_eqJ x22))
  have B_U32 : Fld s s.heap a_U32 "com/example/byteweave/byteweave/schema/ScalarType" "bits" "I" (.int (32 : Int32)) := Fld.start ((fld_at ev_U32).symm.trans (own_eqI x24))
  have L_U32 : Fld s s.heap a_U32 "com/example/byteweave/byteweave/schema/ScalarType" "least" "J" (.long (0 : Int64)) := Fld.start ((fld_at ev_U32).symm.trans (own_eqJ x25))
  have M_I16 : Fld s s.heap a_I16 "com/example/byteweave/byteweave/schema/ScalarType" "most" "J" (.long (32767 : Int64)) := Fld.start ((fld_at ev_I16).symm.trans (own_eqJ x26))
  have M_U32 : Fld s s.heap a_U32 "com/example/byteweave/byteweave/schema/ScalarType" "most" "J" (.long (4294967295 : Int64)) := Fld.start ((fld_at ev_U32).symm.trans (own_eqJ x27))
  have L_U64 : Fld s s.heap a_U64 "com/example/byteweave/byteweave/schema/ScalarType" "least" "J" (.long (0 : Int64)) := Fld.start ((fld_at ev_U64).symm.trans (own_eqJ x28))
  have M_U64 : Fld s s.heap a_U64 "com/example/byteweave/byteweave/schema/ScalarType" "most" "J" (.long (-1 : Int64)) := Fld.start ((fld_at ev_U64).symm.trans (own_eqJ x29))
  have L_I64 : Fld s s.heap a_I64 "com/example/byteweave/byteweave/schema/ScalarType" "least" "J" (.long (-9223372036854775808 : Int64)) := Fld.start ((fld_at ev_I64).symm.trans (own_eqJ x30))
  have M_I64 : Fld s s.heap a_I64 "com/example/byteweave/byteweave/schema/ScalarType" "most" "J" (.long (9223372036854775807 : Int64)) := Fld.start ((fld_at ev_I64).symm.trans (own_eqJ x31))
  obtain ⟨n, o, h1, h2, h3, _, L, rfl, ⟨rfl, N⟩, hq⟩ := rmlaw l s _ hw tables_1 i0 i1 i2 i3 a_U8 a_U16 a_U32 a_U64 a_I8 a_I16 a_I32 a_I64 s.heap s.heap.size (Nat.le_refl _) S_U8 E_U8 B_U8 L_U8 M_U8 S_U16 E_U16 B_U16 L_U16 M_U16 S_U32 E_U32 B_U32 L_U32 M_U32 S_U64 E_U64 B_U64 L_U64 M_U64 S_I8 E_I8 B_I8 L_I8 M_I8 S_I16 E_I16 B_I16 L_I16 M_I16 S_I32 E_I32 B_I32 L_I32 M_I32 S_I64 E_I64 B_I64 L_I64 M_I64 p e ha hc hk s m _ below hf ((Spec.applies_iff_loose hf).mp happ).1 ⟨rfl, State.Warmed39.refl s, rfl⟩ trivial
  refine ⟨n, _, h1, h2, h3, hpost _ _ _ _ _ _ ⟨Cond.after_iff.mpr rfl, Cond.after_iff.mpr (eq_i res_at (Term.int_eval (1)) rfl), trivial⟩ ⟨hq.1, hq.2.1, (hq.2.2.sift fun y hy => Or.inr (N y hy)).mono (by decide) (by decide)⟩⟩
theorem main_1_1 : Claimed_1_1 := comes_1 fun _ _ _ _ _ _ h hF => ⟨h.1, hF⟩
theorem main_1_2 : Claimed_1_2 := comes_1 fun _ _ _ _ _ _ h hF => ⟨h.2.1, hF⟩
end Jvm.Pilot.@@N@@
namespace Jvm.Pilot.@@N@@
open Jvm Jvm.ClassFile Sem Op Lib Jvm.Free Jvm.Stand Jvm.Pilot.@@N@@.Jvm.D
/-! MADE BY PROGRAM (witnessworld.py) out of the Statement's table words and the real class files: 13 classes; the members and pool entries that the words name. The judged class is class 1, her method 1. -/
namespace start1
open Jvm.ClassFile
def u (s : String) : CpInfo := .utf8 (stringToUtf16 s)
/-- a pool by its gaps: so many unusable entries, then the entry; so many at the end -/
def gap : Nat → List CpInfo → List CpInfo
  | 0, r => r
  | n + 1, r => .unusable :: gap n r
def poolList (es : List (Nat × CpInfo)) (last : Nat) : List CpInfo := es.foldr (fun e r => gap e.1 (e.2 :: r)) (gap last [])
def pool (es : List (Nat × CpInfo)) (last : Nat) : Array CpInfo := ⟨poolList es last⟩
def fileOf (pool : Array CpInfo) (this : Nat) (attrs : Array Attribute := #[]) (ms : Array MethodInfo := #[]) (fl : Nat := 33) (sup : Nat := 0) (ifs : Array Nat := #[]) (fds : Array FieldInfo := #[]) : ClassFile where
  minorVersion := 0
  majorVersion := 65
  constantPool := pool
  accessFlags := fl
  thisClass := this
  superClass := sup
  interfaces := ifs
  fields := fds
  methods := ms
  attributes := attrs
def plain (name : String) (sup : Option ClassId) : Class where
  name := name
  kind := .ordinary
  loader := none
  accessFlags := 33
  super := sup
  interfaces := #[]
  cf := none
  fields := #[]
  methods := #[]
  instanceTypes := #[]
  staticTypes := #[]
  resolved := #[]
  callSites := []
  init := .initialized
  statics := none
  mirror := none

def pool0 : Array CpInfo := pool [(5, u "<init>"), (0, u "()V"), (1, .class_ 10), (1, u "java/lang/Object")] 113

def k0m0 : Method := { name := "<init>", desc := "()V", sig := { parameters := [], returnType := none }, accessFlags := 1, code := none }
/-- java/lang/Object -/
def k0 : Class := { plain "java/lang/Object" none with
  accessFlags := 33
  interfaces := #[]
  cf := some (fileOf pool0 8 #[] #[{ accessFlags := 1, nameIndex := 5, descriptorIndex := 6, attributes := #[] }] 33 0 #[] #[])
  fields := #[]
  methods := #[k0m0]
  instanceTypes := #[]
  staticTypes := #[]
  resolved := Array.replicate 124 none
  statics := none }

def pool1 : Array CpInfo := pool [(2, .class_ 4), (1, u "java/lang/Object"), (0, u "<init>"), (0, u "()V"), (0, .long 4294967295), (1, .fieldref 10 11), (0, .class_ 12), (0, .nameAndType 13 14), (0, u "com/example/byteweave/byteweave/schema/ScalarType"), (0, u "U8"), (0, u "Lcom/example/byteweave/byteweave/schema/ScalarType;"), (0, .long 255), (1, .fieldref 10 18), (0, .nameAndType 19 14), (0, u "U16"), (0, .long 65535), (1, .fieldref 10 23), (0, .nameAndType 24 14), (0, u "U32"), (0, .fieldref 10 26), (0, .nameAndType 27 14), (0, u "U64"), (0, .fieldref 10 29), (0, .nameAndType 30 14), (0, u "I8"), (0, .fieldref 10 32), (0, .nameAndType 33 14), (0, u "I16"), (0, .fieldref 10 35), (0, .nameAndType 36 14), (0, u "I32"), (0, .fieldref 10 38), (0, .nameAndType 39 14), (0, u "I64"), (0, .methodref 10 41), (0, .nameAndType 42 43), (0, u "holds"), (0, u "(J)Z"), (0, .class_ 45), (0, u "com/example/byteweave/byteweave/schema/ScalarTypeHoldsPinLaw"), (2, u "law"), (0, u "(IJII)Z")] 3

def k1m0 : Method := { name := "<init>", desc := "()V", sig := { parameters := [], returnType := none }, accessFlags := 1, code := none }
def k1c1 : Code := { maxStack := 4, maxLocals := 11, code := code, exceptionTable := #[], attributes := #[] }
def k1m1 : Method := { name := "law", desc := "(IJII)Z", sig := { parameters := [.int, .long, .int, .int], returnType := some .boolean }, accessFlags := 9, code := some k1c1 }
/-- com/example/byteweave/byteweave/schema/ScalarTypeHoldsPinLaw -/
def k1 : Class := { plain "com/example/byteweave/byteweave/schema/ScalarTypeHoldsPinLaw" (some 0) with
  accessFlags := 49
  interfaces := #[]
  cf := some (fileOf pool1 44 #[] #[{ accessFlags := 1, nameIndex := 5, descriptorIndex := 6, attributes := #[] }, { accessFlags := 9, nameIndex := 48, descriptorIndex := 49, attributes := #[] }] 49 2 #[] #[])
  fields := #[]
  methods := #[k1m0, k1m1]
  instanceTypes := #[]
  staticTypes := #[]
  resolved := Array.replicate 53 none
  statics := none }

def pool2 : Array CpInfo := pool [(1, .class_ 2), (0, u "java/lang/constant/Constable"), (0, .class_ 4), (0, u "java/lang/Object")] 6

/-- java/lang/constant/Constable -/
def k2 : Class := { plain "java/lang/constant/Constable" (some 0) with
  accessFlags := 1537
  interfaces := #[]
  cf := some (fileOf pool2 1 #[] #[] 1537 3 #[] #[])
  fields := #[]
  methods := #[]
  instanceTypes := #[]
  staticTypes := #[]
  resolved := Array.replicate 11 none
  statics := none }

def pool3 : Array CpInfo := pool [(1, .class_ 2), (0, u "java/lang/Comparable"), (0, .class_ 4), (0, u "java/lang/Object")] 7

/-- java/lang/Comparable -/
def k3 : Class := { plain "java/lang/Comparable" (some 0) with
  accessFlags := 1537
  interfaces := #[]
  cf := some (fileOf pool3 1 #[] #[] 1537 3 #[] #[])
  fields := #[]
  methods := #[]
  instanceTypes := #[]
  staticTypes := #[]
  resolved := Array.replicate 12 none
  statics := none }

def pool4 : Array CpInfo := pool [(1, .class_ 2), (0, u "java/io/Serializable"), (0, .class_ 4), (0, u "java/lang/Object")] 2

/-- java/io/Serializable -/
def k4 : Class := { plain "java/io/Serializable" (some 0) with
  accessFlags := 1537
  interfaces := #[]
  cf := some (fileOf pool4 1 #[] #[] 1537 3 #[] #[])
  fields := #[]
  methods := #[]
  instanceTypes := #[]
  staticTypes := #[]
  resolved := Array.replicate 7 none
  statics := none }

def pool5 : Array CpInfo := pool [(2, .class_ 4), (1, u "java/lang/Enum"), (0, u "name"), (0, u "Ljava/lang/String;"), (2, u "ordinal"), (0, u "I"), (1, .class_ 14), (1, u "java/lang/Object"), (4, u "hash"), (86, .class_ 108), (1, u "java/lang/Enum$EnumDesc"), (2, .class_ 112), (0, u "java/lang/constant/Constable"), (0, .class_ 114), (0, u "java/lang/Comparable"), (0, .class_ 116), (0, u "java/io/Serializable")] 87

/-- java/lang/Enum -/
def k5 : Class := { plain "java/lang/Enum" (some 0) with
  accessFlags := 1057
  interfaces := #[2, 3, 4]
  cf := some (fileOf pool5 2 #[.nestMembers #[106]] #[] 1057 12 #[111, 113, 115] #[{ accessFlags := 18, nameIndex := 5, descriptorIndex := 6, attributes := #[] }, { accessFlags := 18, nameIndex := 9, descriptorIndex := 10, attributes := #[] }, { accessFlags := 2, nameIndex := 19, descriptorIndex := 10, attributes := #[] }])
  fields := #[{ name := "name", type := (.object "java/lang/String"), accessFlags := 18, slot := 0, constantValue := 0 }, { name := "ordinal", type := .int, accessFlags := 18, slot := 1, constantValue := 0 }, { name := "hash", type := .int, accessFlags := 2, slot := 2, constantValue := 0 }]
  methods := #[]
  instanceTypes := #[(.object "java/lang/String"), .int, .int]
  staticTypes := #[]
  resolved := Array.replicate 204 none
  statics := none }

def pool6 : Array CpInfo := pool [(1, .class_ 2), (0, u "com/example/byteweave/byteweave/schema/FieldType"), (0, .class_ 4), (0, u "java/lang/Object")] 7

/-- com/example/byteweave/byteweave/schema/FieldType -/
def k6 : Class := { plain "com/example/byteweave/byteweave/schema/FieldType" (some 0) with
  accessFlags := 1537
  interfaces := #[]
  cf := some (fileOf pool6 1 #[] #[] 1537 3 #[] #[])
  fields := #[]
  methods := #[]
  instanceTypes := #[]
  staticTypes := #[]
  resolved := Array.replicate 12 none
  statics := none }

def pool7 : Array CpInfo := pool [(1, .class_ 2), (0, u "com/example/byteweave/byteweave/schema/ScalarType"), (2, u "BOOL"), (0, u "Lcom/example/byteweave/byteweave/schema/ScalarType;"), (2, u "U8"), (2, u "U16"), (2, u "U32"), (2, u "U64"), (2, u "I8"), (2, u "I16"), (2, u "I32"), (2, u "I64"), (2, u "F32"), (2, u "F64"), (2, u "TEXT"), (2, u "BYTES"), (2, u "TIMESTAMP"), (2, u "$VALUES"), (0, u "[Lcom/example/byteweave/byteweave/schema/ScalarType;"), (6, .class_ 58), (1, u "java/lang/Enum"), (11, u "schemaName"), (0, u "Ljava/lang/String;"), (0, .fieldref 1 73), (0, .nameAndType 74 75), (0, u "bits"), (0, u "I"), (2, u "minimum"), (0, u "Ljava/math/BigInteger;"), (2, u "maximum"), (24, .fieldref 1 108), (0, .nameAndType 109 110), (0, u "least"), (0, u "J"), (0, .fieldref 1 112), (0, .nameAndType 113 110), (0, u "most"), (24, .methodref 1 139), (0, .nameAndType 140 141), (0, u "requireInteger"), (0, u "()V"), (82, .class_ 225), (0, u "com/example/byteweave/byteweave/schema/FieldType"), (10, u "holds"), (0, u "(J)Z")] 40

def k7c0 : Code := { maxStack := 4, maxLocals := 3, code := prog_24_method_6_code, exceptionTable := #[], attributes := #[] }
def k7m0 : Method := { name := "holds", desc := "(J)Z", sig := { parameters := [.long], returnType := some .boolean }, accessFlags := 1, code := some k7c0 }
def k7c1 : Code := { maxStack := 3, maxLocals := 1, code := prog_24_method_11_code, exceptionTable := #[], attributes := #[] }
def k7m1 : Method := { name := "requireInteger", desc := "()V", sig := { parameters := [], returnType := none }, accessFlags := 2, code := some k7c1 }
/-- com/example/byteweave/byteweave/schema/ScalarType -/
def k7 : Class := { plain "com/example/byteweave/byteweave/schema/ScalarType" (some 5) with
  accessFlags := 16433
  interfaces := #[6]
  cf := some (fileOf pool7 1 #[] #[{ accessFlags := 1, nameIndex := 236, descriptorIndex := 237, attributes := #[] }, { accessFlags := 2, nameIndex := 140, descriptorIndex := 141, attributes := #[] }] 16433 56 #[224] #[{ accessFlags := 16409, nameIndex := 5, descriptorIndex := 6, attributes := #[] }, { accessFlags := 16409, nameIndex := 9, descriptorIndex := 6, attributes := #[] }, { accessFlags := 16409, nameIndex := 12, descriptorIndex := 6, attributes := #[] }, { accessFlags := 16409, nameIndex := 15, descriptorIndex := 6, attributes := #[] }, { accessFlags := 16409, nameIndex := 18, descriptorIndex := 6, attributes := #[] }, { accessFlags := 16409, nameIndex := 21, descriptorIndex := 6, attributes := #[] }, { accessFlags := 16409, nameIndex := 24, descriptorIndex := 6, attributes := #[] }, { accessFlags := 16409, nameIndex := 27, descriptorIndex := 6, attributes := #[] }, { accessFlags := 16409, nameIndex := 30, descriptorIndex := 6, attributes := #[] }, { accessFlags := 16409, nameIndex := 33, descriptorIndex := 6, attributes := #[] }, { accessFlags := 16409, nameIndex := 36, descriptorIndex := 6, attributes := #[] }, { accessFlags := 16409, nameIndex := 39, descriptorIndex := 6, attributes := #[] }, { accessFlags := 16409, nameIndex := 42, descriptorIndex := 6, attributes := #[] }, { accessFlags := 16409, nameIndex := 45, descriptorIndex := 6, attributes := #[] }, { accessFlags := 18, nameIndex := 70, descriptorIndex := 71, attributes := #[] }, { accessFlags := 18, nameIndex := 74, descriptorIndex := 75, attributes := #[] }, { accessFlags := 18, nameIndex := 78, descriptorIndex := 79, attributes := #[] }, { accessFlags := 18, nameIndex := 82, descriptorIndex := 79, attributes := #[] }, { accessFlags := 18, nameIndex := 109, descriptorIndex := 110, attributes := #[] }, { accessFlags := 18, nameIndex := 113, descriptorIndex := 110, attributes := #[] }, { accessFlags := 4122, nameIndex := 48, descriptorIndex := 49, attributes := #[] }])
  fields := #[{ name := "BOOL", type := (.object "com/example/byteweave/byteweave/schema/ScalarType"), accessFlags := 16409, slot := 0, constantValue := 0 }, { name := "U8", type := (.object "com/example/byteweave/byteweave/schema/ScalarType"), accessFlags := 16409, slot := 1, constantValue := 0 }, { name := "U16", type := (.object "com/example/byteweave/byteweave/schema/ScalarType"), accessFlags := 16409, slot := 2, constantValue := 0 }, { name := "U32", type := (.object "com/example/byteweave/byteweave/schema/ScalarType"), accessFlags := 16409, slot := 3, constantValue := 0 }, { name := "U64", type := (.object "com/example/byteweave/byteweave/schema/ScalarType"), accessFlags := 16409, slot := 4, constantValue := 0 }, { name := "I8", type := (.object "com/example/byteweave/byteweave/schema/ScalarType"), accessFlags := 16409, slot := 5, constantValue := 0 }, { name := "I16", type := (.object "com/example/byteweave/byteweave/schema/ScalarType"), accessFlags := 16409, slot := 6, constantValue := 0 }, { name := "I32", type := (.object "com/example/byteweave/byteweave/schema/ScalarType"), accessFlags := 16409, slot := 7, constantValue := 0 }, { name := "I64", type := (.object "com/example/byteweave/byteweave/schema/ScalarType"), accessFlags := 16409, slot := 8, constantValue := 0 }, { name := "F32", type := (.object "com/example/byteweave/byteweave/schema/ScalarType"), accessFlags := 16409, slot := 9, constantValue := 0 }, { name := "F64", type := (.object "com/example/byteweave/byteweave/schema/ScalarType"), accessFlags := 16409, slot := 10, constantValue := 0 }, { name := "TEXT", type := (.object "com/example/byteweave/byteweave/schema/ScalarType"), accessFlags := 16409, slot := 11, constantValue := 0 }, { name := "BYTES", type := (.object "com/example/byteweave/byteweave/schema/ScalarType"), accessFlags := 16409, slot := 12, constantValue := 0 }, { name := "TIMESTAMP", type := (.object "com/example/byteweave/byteweave/schema/ScalarType"), accessFlags := 16409, slot := 13, constantValue := 0 }, { name := "schemaName", type := (.object "java/lang/String"), accessFlags := 18, slot := 3, constantValue := 0 }, { name := "bits", type := .int, accessFlags := 18, slot := 4, constantValue := 0 }, { name := "minimum", type := (.object "java/math/BigInteger"), accessFlags := 18, slot := 5, constantValue := 0 }, { name := "maximum", type := (.object "java/math/BigInteger"), accessFlags := 18, slot := 6, constantValue := 0 }, { name := "least", type := .long, accessFlags := 18, slot := 7, constantValue := 0 }, { name := "most", type := .long, accessFlags := 18, slot := 8, constantValue := 0 }, { name := "$VALUES", type := (.array (.object "com/example/byteweave/byteweave/schema/ScalarType")), accessFlags := 4122, slot := 14, constantValue := 0 }]
  methods := #[k7m0, k7m1]
  instanceTypes := #[(.object "java/lang/String"), .int, .int, (.object "java/lang/String"), .int, (.object "java/math/BigInteger"), (.object "java/math/BigInteger"), .long, .long]
  staticTypes := #[(.object "com/example/byteweave/byteweave/schema/ScalarType"), (.object "com/example/byteweave/byteweave/schema/ScalarType"), (.object "com/example/byteweave/byteweave/schema/ScalarType"), (.object "com/example/byteweave/byteweave/schema/ScalarType"), (.object "com/example/byteweave/byteweave/schema/ScalarType"), (.object "com/example/byteweave/byteweave/schema/ScalarType"), (.object "com/example/byteweave/byteweave/schema/ScalarType"), (.object "com/example/byteweave/byteweave/schema/ScalarType"), (.object "com/example/byteweave/byteweave/schema/ScalarType"), (.object "com/example/byteweave/byteweave/schema/ScalarType"), (.object "com/example/byteweave/byteweave/schema/ScalarType"), (.object "com/example/byteweave/byteweave/schema/ScalarType"), (.object "com/example/byteweave/byteweave/schema/ScalarType"), (.object "com/example/byteweave/byteweave/schema/ScalarType"), (.array (.object "com/example/byteweave/byteweave/schema/ScalarType"))]
  resolved := Array.replicate 278 none
  statics := some 0 }

def pool8 : Array CpInfo := pool [(1, u "java/lang/Cloneable"), (0, .class_ 1), (0, u "java/lang/Object"), (0, .class_ 3)] 3

/-- java/lang/Cloneable -/
def k8 : Class := { plain "java/lang/Cloneable" (some 0) with
  accessFlags := 1537
  interfaces := #[]
  cf := some (fileOf pool8 2 #[] #[] 1537 4 #[] #[])
  fields := #[]
  methods := #[]
  instanceTypes := #[]
  staticTypes := #[]
  resolved := Array.replicate 8 none
  statics := none }

/-- the primitive byte -/
def k9 : Class := { plain "byte" none with kind := .primitive 'B', accessFlags := 0x411 }
/-- [B -/
def k10 : Class := { plain "[B" (some 0) with kind := .array 9 .byte, interfaces := #[8, 4], accessFlags := 1041 }

/-- the primitive int -/
def k11 : Class := { plain "int" none with kind := .primitive 'I', accessFlags := 0x411 }
/-- [I -/
def k12 : Class := { plain "[I" (some 0) with kind := .array 11 .int, interfaces := #[8, 4], accessFlags := 1041 }

def heap : Heap := #[{ cls := 7, slots := #[.null, .ref 1, .ref 2, .ref 3, .ref 4, .ref 5, .ref 6, .ref 7, .ref 8, .null, .null, .null, .null, .null, .null], vm := .statics 7 },
  { cls := 7, slots := #[.null, .int 0, .int 0, .null, .int 8, .null, .null, .long (0), .long (255)], vm := .none },
  { cls := 7, slots := #[.null, .int 1, .int 0, .null, .int 16, .null, .null, .long (0), .long (65535)], vm := .none },
  { cls := 7, slots := #[.null, .int 2, .int 0, .null, .int 32, .null, .null, .long (0), .long (4294967295)], vm := .none },
  { cls := 7, slots := #[.null, .int 3, .int 0, .null, .int 64, .null, .null, .long (0), .long (-1)], vm := .none },
  { cls := 7, slots := #[.null, .int 4, .int 0, .null, .int 8, .null, .null, .long (-128), .long (127)], vm := .none },
  { cls := 7, slots := #[.null, .int 5, .int 0, .null, .int 16, .null, .null, .long (-32768), .long (32767)], vm := .none },
  { cls := 7, slots := #[.null, .int 6, .int 0, .null, .int 32, .null, .null, .long (-2147483648), .long (2147483647)], vm := .none },
  { cls := 7, slots := #[.null, .int 7, .int 0, .null, .int 64, .null, .null, .long (-9223372036854775808), .long (9223372036854775807)], vm := .none }]
def classes : Array Class := #[k0, k1, k2, k3, k4, k5, k6, k7, k8, k9, k10, k11, k12]
def interned : List (Array UInt16 × Addr) := []
def slotsUsed : Nat := 87
def theMethod : MethodId := ⟨1, 1⟩
def args0 : Array Value := #[.int 0, .long 1, .int 2, .int 3]
def aboutOver (below : List Frame) : State where
  vm := { classes := classes, interned := interned.toArray }
  heap := heap
  slotsUsed := slotsUsed
  threads := #[{ frames := .invoking theMethod args0 :: below }]
def below0 : List Frame := [.native { method := ⟨0, 0⟩, args := #[] }]
def about1 : State := aboutOver below0
def p0 : Program := .bare "" "" ""
def e0 : Env := launch0.env 0 0 0
theorem w_frames : about1.frames = Frame.invoking theMethod args0 :: below0 := rfl
set_option maxRecDepth 65536 in
theorem w_args : argsFit about1.vm theMethod args0 = true := by decide +kernel
set_option maxRecDepth 65536 in
theorem w_heap : heapFits about1 = true := by decide +kernel
set_option maxRecDepth 65536 in
theorem w_runnable : about1.curStatus? = some .runnable := by decide +kernel
set_option maxRecDepth 65536 in
theorem w_alone : about1.alone = true := by decide +kernel
set_option maxRecDepth 65536 in
theorem w_named : about1.methodNamed? x = some theMethod := by decide +kernel
set_option maxRecDepth 65536 in
theorem w_hears : about1.hears theMethod below0 = true := by decide +kernel
set_option maxRecDepth 65536 in
theorem w_ripe : about1.ripe theMethod args0 below0 = true := by decide +kernel
theorem w_running : about1.status = .running := rfl
set_option maxRecDepth 65536 in
theorem w_room : about1.hasRoom e0.platform room_1 = true :=
  launch0.hasRoom_least _ room_1 (by decide +kernel) (by decide +kernel) (by decide +kernel) (by decide +kernel) (by decide +kernel) (by decide +kernel)
theorem allAtoms_all (ts : List Jvm.Cond) (a : Array Jvm.Value) (st : Jvm.State) : (allAtoms ts).before a st = ts.all (fun c => c.before a st) := by
  induction ts with
  | nil => rfl
  | cons c t ih =>
    show (Jvm.Cond.and c (allAtoms t)).before a st = _
    rw [Jvm.Cond.before_and, ih, List.all_cons]
def words1 : List Jvm.Cond := Jvm.Cond.code x code maxLocals ret :: tables_1
/-- a 'code' word, met by the world's own term for the bytes: nothing is compared byte by byte -/
theorem code_word {y : MethodName} {bytes : ByteArray} {mx : Nat} {rt : Option FieldType} {a : Array Value} {s : State} {m : MethodId} {meth : Method} {c : Code} (h1 : s.methodNamed? y = some m) (h2 : s.vm.method? m = some meth) (h3 : meth.code = some c) (h4 : c.code = bytes)
    (h5 : (c.maxLocals == mx && c.exceptionTable.isEmpty && decide (c.maxStack ≤ mostOperands) && decide (meth.sig.returnType = rt) && !meth.locks && decide (parseMethodDescriptor y.desc = some meth.sig)) = true) : (Jvm.Cond.code y bytes mx rt).before a s = true := by
  simp only [Bool.and_eq_true, beq_iff_eq, Bool.not_eq_true', decide_eq_true_eq] at h5
  obtain ⟨⟨⟨⟨⟨g1, g2⟩, g3⟩, g4⟩, g5⟩, g6⟩ := h5
  simp [Cond.before, Cond.holds, Cond.value, h1, h2, h3, h4, g1, g2, g3, g4, g5, g6]
def isCode : Jvm.Cond → Bool
  | .code _ _ _ _ => true
  | _ => false
theorem all_split {L : List Jvm.Cond} {P : Jvm.Cond → Bool} (h1 : L.all (fun c => isCode c || P c) = true) (h2 : ∀ c ∈ L.filter isCode, P c = true) : L.all P = true := by
  refine List.all_eq_true.mpr fun c hc => ?_
  have h := List.all_eq_true.mp h1 c hc
  rcases Bool.eq_false_or_eq_true (isCode c) with hi | hi
  · exact h2 c (List.mem_filter.mpr ⟨hc, hi⟩)
  · simpa [hi] using h
set_option maxRecDepth 65536 in
theorem w_c0 : (Jvm.Cond.code x code maxLocals ret).before args0 about1 = true := code_word (m := ⟨1, 1⟩) (meth := k1m1) (c := k1c1) (by decide +kernel) rfl rfl rfl (by decide +kernel)
set_option maxRecDepth 65536 in
theorem w_c1 : (Jvm.Cond.code ({ cls := "com/example/byteweave/byteweave/schema/ScalarType", name := "holds", desc := "(J)Z" } : Jvm.MethodName) prog_24_method_6_code (3 : Nat) (Option.some Jvm.ClassFile.FieldType.boolean)).before args0 about1 = true := code_word (m := ⟨7, 0⟩) (meth := k7m0) (c := k7c0) (by decide +kernel) rfl rfl rfl (by decide +kernel)
set_option maxRecDepth 65536 in
theorem w_c2 : (Jvm.Cond.code ({ cls := "com/example/byteweave/byteweave/schema/ScalarType", name := "requireInteger", desc := "()V" } : Jvm.MethodName) prog_24_method_11_code (1 : Nat) (Option.none : Option Jvm.ClassFile.FieldType)).before args0 about1 = true := code_word (m := ⟨7, 1⟩) (meth := k7m1) (c := k7c1) (by decide +kernel) rfl rfl rfl (by decide +kernel)
def codes1 : List Jvm.Cond := [Jvm.Cond.code x code maxLocals ret, Jvm.Cond.code ({ cls := "com/example/byteweave/byteweave/schema/ScalarType", name := "holds", desc := "(J)Z" } : Jvm.MethodName) prog_24_method_6_code (3 : Nat) (Option.some Jvm.ClassFile.FieldType.boolean), Jvm.Cond.code ({ cls := "com/example/byteweave/byteweave/schema/ScalarType", name := "requireInteger", desc := "()V" } : Jvm.MethodName) prog_24_method_11_code (1 : Nat) (Option.none : Option Jvm.ClassFile.FieldType)]
set_option maxRecDepth 65536 in
theorem codes_eq : words1.filter isCode = codes1 := rfl
theorem w_codes : ∀ c ∈ words1.filter isCode, c.before args0 about1 = true := by
  rw [codes_eq]
  intro c hc
  simp only [codes1, List.mem_cons, List.not_mem_nil, or_false] at hc
  rcases hc with rfl | rfl | rfl
  · exact w_c0
  · exact w_c1
  · exact w_c2
set_option maxRecDepth 65536 in
theorem w_t1 : (words1.take 24).all (fun c => isCode c || c.before args0 about1) = true := by decide +kernel
set_option maxRecDepth 65536 in
theorem w_t2 : (words1.drop 24).all (fun c => isCode c || c.before args0 about1) = true := by decide +kernel
theorem w_tables : (allAtoms (Jvm.Cond.code x code maxLocals ret :: tables_1)).before args0 about1 = true := by
  rw [allAtoms_all]
  show words1.all (fun c => c.before args0 about1) = true
  refine all_split ?_ w_codes
  rw [← List.take_append_drop 24 words1, List.all_append, w_t1, w_t2]
  rfl
set_option maxRecDepth 65536 in
theorem w_case : (Jvm.Cond.and given_1 narrow_1).before args0 about1 = true := by decide +kernel
theorem w_applies : (headSpec (Jvm.Cond.code x code maxLocals ret :: tables_1) room_1).applies x e0.platform about1 = true :=
  (Spec.applies_iff w_frames).mpr ⟨w_running, w_runnable, w_alone, w_named, w_hears, w_ripe, w_room, w_tables⟩
theorem atStart : AtStart classFile x code maxLocals ret World_1 tables_1 room_1 Calls_1 rest_1 Pre_1 launch0 p0 e0 about1 theMethod args0 below0 :=
  ⟨lists_1, trivial, launch0.admits_env _ _ _, launch0.least_env, fairChoices_fair.cas, fairChoices_fair.clock, w_frames, w_args, w_heap, w_applies, trivial, trivial, w_case⟩
end start1
theorem witness_1 : WitnessClaimed_1 := ⟨start1.p0, start1.e0, start1.about1, start1.theMethod, start1.args0, start1.below0, start1.atStart⟩
end Jvm.Pilot.@@N@@
