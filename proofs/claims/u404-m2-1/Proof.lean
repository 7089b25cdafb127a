import JvmDerived
import JvmDerived.Pilot.@@N@@Statement
import JvmDerived.Pilot.@@N@@Code
set_option linter.unusedVariables false
set_option linter.unusedSimpArgs false
namespace Jvm.Pilot.@@N@@
open Jvm Jvm.ClassFile Sem Op Lib Jvm.Free Jvm.Stand Jvm.LawKit Jvm.RoadKit Bundle Jvm.Pilot.@@N@@.Jvm.D
def own_bi (P : Prop) [Decidable P] : Int32 := if P then 1 else 0
theorem own_bi_t {P : Prop} [Decidable P] (h : P) : own_bi P = 1 := if_pos h
theorem own_bi_f {P : Prop} [Decidable P] (h : ¬ P) : own_bi P = 0 := if_neg h
theorem own_bi_01 (P : Prop) [Decidable P] : own_bi P = 0 ∨ own_bi P = 1 := by by_cases h : P <;> simp [own_bi, h]
theorem own_bi_eq {P Q : Prop} [Decidable P] [Decidable Q] (h : P ↔ Q) : own_bi P = own_bi Q := by by_cases q : P <;> simp [own_bi, q, ← h]
theorem own_bi_iff (P : Prop) [Decidable P] : own_bi P = 1 ↔ P := by by_cases q : P <;> simp [own_bi, q]
theorem own_bi_ne (P : Prop) [Decidable P] : own_bi P = 0 ↔ ¬ P := by by_cases q : P <;> simp [own_bi, q]
theorem own_ofNat {n : Nat} (h : n < 2147483648) : (Int32.ofNat n).toInt = (n : Int) := len_toInt h
theorem own_narZ {z : Int32} (h : z = 0 ∨ z = 1) : narrow .boolean (.int z) = .int z := by rcases h with rfl | rfl <;> rfl
theorem own_nn {x n : Int32} (h : n = x &&& (15 : Int32)) : ¬ n < 0 ∧ n.toNatClampNeg ≤ 15 ∧ n + (1 : Int32) ≠ 0 ∧ n.toInt ≤ 15 := by
  have h1 := c_mask x 15 4 (by decide) (by decide)
  rw [← h] at h1
  have h2 := c_iadd n 1
  have o1 : (1 : Int32).toInt = 1 := rfl
  have o0 : (0 : Int32).toInt = 0 := rfl
  rw [o1] at h2
  refine ⟨?_, ?_, fun q => ?_, by omega⟩
  · rw [Int32.lt_iff_toInt_lt, o0]; omega
  · show n.toInt.toNat ≤ 15; omega
  · rw [q, o0] at h2; omega
theorem own_pp {x n i : Int32} (hn : ¬ n < 0) (hn' : n.toInt ≤ 15) (h : i = (x &&& (2147483647 : Int32)) % (n + (1 : Int32))) : ¬ i < 0 ∧ ¬ n < i ∧ i.toNatClampNeg ≤ 15 := by
  have h1 := c_mask x 2147483647 31 (by decide) (by decide)
  have h2 := c_iadd n 1
  have o1 : (1 : Int32).toInt = 1 := rfl
  have o0 : (0 : Int32).toInt = 0 := rfl
  rw [o1] at h2
  rw [Int32.lt_iff_toInt_lt, o0] at hn
  have r := rng32 (n + (1 : Int32))
  have h3 := (c_iremV (x &&& (2147483647 : Int32)) (n + (1 : Int32))).1 (by omega) (by omega)
  rw [← h] at h3
  refine ⟨?_, ?_, ?_⟩
  · rw [Int32.lt_iff_toInt_lt, o0]; omega
  · rw [Int32.lt_iff_toInt_lt]; omega
  · show i.toInt.toNat ≤ 15; omega
theorem own_lt {n i : Int32} (hn' : n.toInt ≤ 15) (h0 : ¬ i < 0) (h : i < n) : i.toNatClampNeg < 15 ∧ ¬ (n - i).toInt64 < (1 : Int64) := by
  have o1 : (1 : Int64).toInt = 1 := rfl
  have o0 : (0 : Int32).toInt = 0 := rfl
  rw [Int32.lt_iff_toInt_lt] at h0 h
  rw [o0] at h0
  have h2 := c_isub n i
  have r := rng32 (n - i)
  refine ⟨?_, ?_⟩
  · show i.toInt.toNat < 15; omega
  · rw [Int64.lt_iff_toInt_lt, c_i2l, o1]; omega
theorem own_byte (x : Int32) : (nar .byte x.toInt8.toInt32) &&& (255 : Int32) = x &&& (255 : Int32) := by
  show x.toInt8.toInt32.toInt8.toInt32 &&& (255 : Int32) = x &&& (255 : Int32)
  apply Int32.toInt_inj.mp
  rw [c_mask _ 255 8 (by decide) (by decide), c_mask _ 255 8 (by decide) (by decide)]
  have h1 := c_i2b x
  have h2 := c_i2b x.toInt8.toInt32
  omega
theorem own_at {i : Nat} {v d : Value} (h : i < 15) : ((List.replicate 15 d).set i v).getD i d = v := by
  rw [List.getD_eq_getElem?_getD, List.getElem?_set_self (by rw [List.length_replicate]; exact h)]
  rfl
theorem pn_1 : plainName "com/example/byteweave/byteweave/codec/ByteReader" = true := by first | (simp [plainName, overriddenIn]; done) | decide +kernel
theorem d1_0 : decode prog_4_method_1_code 0 = .ok (.aload_n 0, 1) := by decide +kernel
theorem d1_1 : decode prog_4_method_1_code 1 = .ok (.invokespecial 1, 3) := by decide +kernel
theorem d1_4 : decode prog_4_method_1_code 4 = .ok (.aload_n 0, 1) := by decide +kernel
theorem d1_5 : decode prog_4_method_1_code 5 = .ok (.aload_n 1, 1) := by decide +kernel
theorem d1_6 : decode prog_4_method_1_code 6 = .ok (.putfield 7, 3) := by decide +kernel
theorem d1_9 : decode prog_4_method_1_code 9 = .ok (.return_, 1) := by decide +kernel
theorem ef_1 (m : MethodId) (a1 : Addr) (p1 : Addr) : entryFrame m #[(.ref a1), (.ref p1)] 2 = mkF m 0 #[.val (.ref a1), .val (.ref p1)] [] := by first | (simp [entryFrame, mkF, argsToLocals, Value.category]; done) | rfl
def Q1 (Z : State) (a1 : Addr) (p1 : Addr) (h0 : Heap) (n0 : Nat) (v : Option Value) (h : Heap) (L : List Loc) : Prop := v = none ∧ Fr n0 L ∧ Keep h0 h [a1] ∧ Fld Z h a1 "com/example/byteweave/byteweave/codec/ByteReader" "bytes" "[B" (.ref p1) ∧ Fld Z h a1 "com/example/byteweave/byteweave/codec/ByteReader" "position" "I" (.int (0 : Int32))
set_option maxRecDepth 65536 in
set_option maxHeartbeats 40000000 in
theorem rm1 (l : Launch) (Z : State) (a0 : Array Value) (hw : ∀ d ∈ tables_1, d.before a0 Z = true) (ws : List Jvm.Cond) (a1 : Addr) (p1 : Addr) (h0 : Heap) (n0 : Nat) (Z0 : n0 ≤ h0.size) (E1 : Exa Z h0 a1 "com/example/byteweave/byteweave/codec/ByteReader") (ga1 : n0 ≤ a1) (Fd0 : Fld Z h0 a1 "com/example/byteweave/byteweave/codec/ByteReader" "bytes" "[B" .null) (Fd1 : Fld Z h0 a1 "com/example/byteweave/byteweave/codec/ByteReader" "position" "I" (.int (0 : Int32))) :
    MetFree l (⟨"com/example/byteweave/byteweave/codec/ByteReader", "<init>", "([B)V"⟩ : MethodName) (head1 (Jvm.Cond.code (⟨"com/example/byteweave/byteweave/codec/ByteReader", "<init>", "([B)V"⟩ : MethodName) prog_4_method_1_code 2 none :: ws) ({ frames := 1, cells := 0, slots := 0, locals := 12 } : Room)) (fun a U => a = #[(.ref a1), (.ref p1)] ∧ Z.Warmed39 U.vm ∧ U.heap = h0) (fun _ _ _ _ _ => True) (fun _ U o U' => ∃ v L, o = .returned v ∧ Q1 Z a1 p1 h0 n0 v U'.heap L ∧ FrameEnd U o U' L ({ frames := 1, cells := 0, slots := 0, locals := 12 } : Room).cells ({ frames := 1, cells := 0, slots := 0, locals := 12 } : Room).slots) := by
  refine MetFree.of_bodySF (plainFor_of_name pn_1) hisR ?_
  intro p e s m args below meth c s₁ Bd hml0 hP hK
  obtain ⟨rfl, hZ, hh⟩ := hP
  have hx := Bd.exec
  have hby := Bd.bytes
  have hml : c.maxLocals = 2 := hml0
  have hown : s.vm.findClass "com/example/byteweave/byteweave/codec/ByteReader" = some m.cls := findClass_of_methodNamed Bd.named
  have hnm := (name_of_methodNamed Bd.named Bd.method).1
  have X0 : Stand p l e ({ frames := 1, cells := 0, slots := 0, locals := 12 } : Room) s m #[(.ref a1), (.ref p1)] below meth c s₁ [] 0 0 := Stand.of_body Bd
  have e0 : s₁.heap = h0 := by rw [← hh, Bd.state]; rfl
  have N0 := Fr.nil n0
  have pre0 : ∀ t, Steps p.tables e below (s₁.setTop (mkF m 0 #[.val (.ref a1), .val (.ref p1)] [])) t → Steps p.tables e below (s₁.setTop (entryFrame m #[(.ref a1), (.ref p1)] 2)) t := fun t k => castTop (ef_1 m a1 p1) k
  have pre1 : ∀ t, Steps p.tables e below (s₁.setTop (mkF m 1 #[.val (.ref a1), .val (.ref p1)] [(.ref a1)])) t → Steps p.tables e below (s₁.setTop (entryFrame m #[(.ref a1), (.ref p1)] 2)) t := by
    intro t k
    refine pre0 t ?_
    refine XS.aloadN X0.here hx rfl (hb hby d1_0) rfl rfl ?_
    show Steps p.tables e below (s₁.setTop (mkF m 1 #[.val (.ref a1), .val (.ref p1)] [(.ref a1)])) _
    exact k
  obtain ⟨T2, X2, e2, st2⟩ := initO X0 hx hZ hown (hw _ (List.mem_of_getElem? (i := 8) rfl)) (hw _ (List.mem_of_getElem? (i := 9) rfl)) (hw _ (List.mem_of_getElem? (i := 10) rfl)) e0 (g := (mkF m 1 #[.val (.ref a1), .val (.ref p1)] [(.ref a1)])) rfl (by rw [hml]; rfl) rfl (hb hby d1_1) (by decide) (W := 0) (by show 2 * 0 + _ ≤ _; exact Nat.le_of_eq rfl) (by decide)
  have pre3 : ∀ t, Steps p.tables e below (T2.setTop (mkF m 4 #[.val (.ref a1), .val (.ref p1)] [])) t → Steps p.tables e below (s₁.setTop (entryFrame m #[(.ref a1), (.ref p1)] 2)) t := fun t k => pre1 t (st2 t k)
  have pre5 : ∀ t, Steps p.tables e below (T2.setTop (mkF m 6 #[.val (.ref a1), .val (.ref p1)] [(.ref p1), (.ref a1)])) t → Steps p.tables e below (s₁.setTop (entryFrame m #[(.ref a1), (.ref p1)] 2)) t := by
    intro t k
    refine pre3 t ?_
    refine XS.aloadN X2.here hx rfl (hb hby d1_4) rfl rfl ?_
    show Steps p.tables e below (T2.setTop (mkF m 5 #[.val (.ref a1), .val (.ref p1)] [(.ref a1)])) _
    refine XS.aloadN X2.here hx rfl (hb hby d1_5) rfl rfl ?_
    show Steps p.tables e below (T2.setTop (mkF m 6 #[.val (.ref a1), .val (.ref p1)] [(.ref p1), (.ref a1)])) _
    exact k
  have K4 : Keep h0 h0 [a1] := (Keep.refl h0 [a1])
  obtain ⟨T6, h6, X6, e6, W6, st6⟩ := putF X2 hx hZ hown (host := "") (Or.inl (hw _ (List.mem_of_getElem? (i := 11) rfl))) Via.refl e2 Fd0 E1 (Or.inr ⟨(hw _ (List.mem_of_getElem? (i := 12) rfl)), rfl, hnm⟩) (hw _ (List.mem_of_getElem? (i := 3) rfl)) (ty := (.array .byte)) (by decide) rfl rfl (g := (mkF m 6 #[.val (.ref a1), .val (.ref p1)] [(.ref p1), (.ref a1)])) rfl rfl (hb hby d1_6)
  have N6 := Fr.snoc X6 N0 ga1
  have pre7 : ∀ t, Steps p.tables e below (T6.setTop (mkF m 9 #[.val (.ref a1), .val (.ref p1)] [])) t → Steps p.tables e below (s₁.setTop (entryFrame m #[(.ref a1), (.ref p1)] 2)) t := fun t k => pre5 t (st6 t k)
  have F8_0 : Fld Z h6 a1 "com/example/byteweave/byteweave/codec/ByteReader" "bytes" "[B" (.ref p1) := (Fd0.same W6)
  have F8_1 : Fld Z h6 a1 "com/example/byteweave/byteweave/codec/ByteReader" "position" "I" (.int (0 : Int32)) := (Fd1.other W6 (Or.inr (slot_ne (Or.inl (hw _ (List.mem_of_getElem? (i := 19) rfl))) (Or.inr (hw _ (List.mem_of_getElem? (i := 12) rfl))) (by decide) (t := .int) (t' := (.array .byte)) (by decide) (by decide))))
  have E8_0 : Exa Z h6 a1 "com/example/byteweave/byteweave/codec/ByteReader" := (E1.wr W6)
  have K8 : Keep h0 h6 [a1] := (K4.wr W6 (Or.inl (List.mem_of_getElem? (i := 0) rfl)))
  have Z8 : n0 ≤ h6.size := (Nat.le_trans Z0 (Nat.le_of_eq W6.size.symm))
  obtain ⟨fs, hr, hrun, hended, hW, hsame⟩ := X6.leave (v := none) (fun _ => rfl)
  refine ⟨_, _, pre7 _ ?_, hrun, hended, _, _, rfl, ?_, ⟨_, rfl⟩, hW, hsame.mono (by decide) (by decide)⟩
  · exact X6.returnOut hx Bd.returns (hb hby d1_9) hr
  · show Q1 Z a1 p1 h0 n0 _ T6.heap _
    rw [e6]
    exact ⟨rfl, N6, K8, F8_0, F8_1⟩
theorem pn_3 : plainName "com/example/byteweave/byteweave/codec/ByteReader" = true := by first | (simp [plainName, overriddenIn]; done) | decide +kernel
theorem d3_0 : decode prog_4_method_5_code 0 = .ok (.iload_n 1, 1) := by decide +kernel
theorem d3_1 : decode prog_4_method_5_code 1 = .ok (.ifCond .lt 12, 3) := by decide +kernel
theorem d3_4 : decode prog_4_method_5_code 4 = .ok (.iload_n 1, 1) := by decide +kernel
theorem d3_5 : decode prog_4_method_5_code 5 = .ok (.aload_n 0, 1) := by decide +kernel
theorem d3_6 : decode prog_4_method_5_code 6 = .ok (.getfield 7, 3) := by decide +kernel
theorem d3_9 : decode prog_4_method_5_code 9 = .ok (.arraylength, 1) := by decide +kernel
theorem d3_10 : decode prog_4_method_5_code 10 = .ok (.if_icmp .le 26, 3) := by decide +kernel
theorem d3_36 : decode prog_4_method_5_code 36 = .ok (.aload_n 0, 1) := by decide +kernel
theorem d3_37 : decode prog_4_method_5_code 37 = .ok (.iload_n 1, 1) := by decide +kernel
theorem d3_38 : decode prog_4_method_5_code 38 = .ok (.putfield 13, 3) := by decide +kernel
theorem d3_41 : decode prog_4_method_5_code 41 = .ok (.return_, 1) := by decide +kernel
theorem ef_3 (m : MethodId) (a1 : Addr) (p1 : Int32) : entryFrame m #[(.ref a1), (.int p1)] 2 = mkF m 0 #[.val (.ref a1), .val (.int p1)] [] := by first | (simp [entryFrame, mkF, argsToLocals, Value.category]; done) | rfl
def Q3 (Z : State) (a1 : Addr) (p1 : Int32) (fa : Addr) (q1 : Int32) (kk : ClassId) (nn : Int32) (vs : List Value) (h0 : Heap) (n0 : Nat) (v : Option Value) (h : Heap) (L : List Loc) : Prop := v = none ∧ Fr n0 L ∧ Keep h0 h [a1] ∧ Fld Z h a1 "com/example/byteweave/byteweave/codec/ByteReader" "bytes" "[B" (.ref fa) ∧ Fld Z h a1 "com/example/byteweave/byteweave/codec/ByteReader" "position" "I" (.int p1)
set_option maxRecDepth 65536 in
set_option maxHeartbeats 40000000 in
theorem rm3 (l : Launch) (Z : State) (a0 : Array Value) (hw : ∀ d ∈ tables_1, d.before a0 Z = true) (ws : List Jvm.Cond) (a1 : Addr) (p1 : Int32) (fa : Addr) (q1 : Int32) (kk : ClassId) (nn : Int32) (vs : List Value) (h0 : Heap) (n0 : Nat) (Z0 : n0 ≤ h0.size) (E1 : Exa Z h0 a1 "com/example/byteweave/byteweave/codec/ByteReader") (ga1 : n0 ≤ a1) (F0 : Fld Z h0 a1 "com/example/byteweave/byteweave/codec/ByteReader" "bytes" "[B" (.ref fa)) (F1 : Fld Z h0 a1 "com/example/byteweave/byteweave/codec/ByteReader" "position" "I" (.int q1)) (V0 : Arv Z h0 fa kk .byte nn vs (.int (0 : Int32))) (nfa : a1 ≠ fa) (hq1 : ¬ p1 < 0) (hq2 : ¬ nn < p1) :
    MetFree l (⟨"com/example/byteweave/byteweave/codec/ByteReader", "seek", "(I)V"⟩ : MethodName) (head1 (Jvm.Cond.code (⟨"com/example/byteweave/byteweave/codec/ByteReader", "seek", "(I)V"⟩ : MethodName) prog_4_method_5_code 2 none :: ws) ({ frames := 0, cells := 0, slots := 0, locals := 0 } : Room)) (fun a U => a = #[(.ref a1), (.int p1)] ∧ Z.Warmed39 U.vm ∧ U.heap = h0) (fun _ _ _ _ _ => True) (fun _ U o U' => ∃ v L, o = .returned v ∧ Q3 Z a1 p1 fa q1 kk nn vs h0 n0 v U'.heap L ∧ FrameEnd U o U' L ({ frames := 0, cells := 0, slots := 0, locals := 0 } : Room).cells ({ frames := 0, cells := 0, slots := 0, locals := 0 } : Room).slots) := by
  refine MetFree.of_bodySF (plainFor_of_name pn_3) hisR ?_
  intro p e s m args below meth c s₁ Bd hml0 hP hK
  obtain ⟨rfl, hZ, hh⟩ := hP
  have hx := Bd.exec
  have hby := Bd.bytes
  have hml : c.maxLocals = 2 := hml0
  have hown : s.vm.findClass "com/example/byteweave/byteweave/codec/ByteReader" = some m.cls := findClass_of_methodNamed Bd.named
  have hnm := (name_of_methodNamed Bd.named Bd.method).1
  have X0 : Stand p l e ({ frames := 0, cells := 0, slots := 0, locals := 0 } : Room) s m #[(.ref a1), (.int p1)] below meth c s₁ [] 0 0 := Stand.of_body Bd
  have e0 : s₁.heap = h0 := by rw [← hh, Bd.state]; rfl
  have N0 := Fr.nil n0
  have pre0 : ∀ t, Steps p.tables e below (s₁.setTop (mkF m 0 #[.val (.ref a1), .val (.int p1)] [])) t → Steps p.tables e below (s₁.setTop (entryFrame m #[(.ref a1), (.int p1)] 2)) t := fun t k => castTop (ef_3 m a1 p1) k
  have pre1 : ∀ t, Steps p.tables e below (s₁.setTop (mkF m 6 #[.val (.ref a1), .val (.int p1)] [(.ref a1), (.int p1)])) t → Steps p.tables e below (s₁.setTop (entryFrame m #[(.ref a1), (.int p1)] 2)) t := by
    intro t k
    refine pre0 t ?_
    refine XS.iloadN X0.here hx rfl (hb hby d3_0) rfl ?_
    show Steps p.tables e below (s₁.setTop (mkF m 1 #[.val (.ref a1), .val (.int p1)] [(.int p1)])) _
    refine XS.ifNo X0.here hx rfl (hb hby d3_1) rfl (XT.i0_lt_f hq1) ?_
    show Steps p.tables e below (s₁.setTop (mkF m 4 #[.val (.ref a1), .val (.int p1)] [])) _
    refine XS.iloadN X0.here hx rfl (hb hby d3_4) rfl ?_
    show Steps p.tables e below (s₁.setTop (mkF m 5 #[.val (.ref a1), .val (.int p1)] [(.int p1)])) _
    refine XS.aloadN X0.here hx rfl (hb hby d3_5) rfl rfl ?_
    show Steps p.tables e below (s₁.setTop (mkF m 6 #[.val (.ref a1), .val (.int p1)] [(.ref a1), (.int p1)])) _
    exact k
  obtain ⟨T2, X2, e2, st2⟩ := getF X0 hx hZ hown (host := "") (Or.inl (hw _ (List.mem_of_getElem? (i := 11) rfl))) Via.refl e0 F0 (g := (mkF m 6 #[.val (.ref a1), .val (.int p1)] [(.ref a1), (.int p1)])) rfl rfl (hb hby d3_6)
  have pre3 : ∀ t, Steps p.tables e below (T2.setTop (mkF m 9 #[.val (.ref a1), .val (.int p1)] [(.ref fa), (.int p1)])) t → Steps p.tables e below (s₁.setTop (entryFrame m #[(.ref a1), (.int p1)] 2)) t := fun t k => pre1 t (st2 t k)
  have K5 : Keep h0 h0 [a1] := (Keep.refl h0 [a1])
  obtain ⟨cc4, Ar4, q1_4, Sz4, q3_4, Hs4, G4⟩ := id V0
  have pre7 : ∀ t, Steps p.tables e below (T2.setTop (mkF m 38 #[.val (.ref a1), .val (.int p1)] [(.int p1), (.ref a1)])) t → Steps p.tables e below (s₁.setTop (entryFrame m #[(.ref a1), (.int p1)] 2)) t := by
    intro t k
    refine pre3 t ?_
    refine X2.arraylength hx (by rw [e2]; exact Ar4.1) (State.isArrayOf_alike hZ.alike Ar4.2.1) (g := (mkF m 9 #[.val (.ref a1), .val (.int p1)] [(.ref fa), (.int p1)])) rfl rfl (hb hby d3_9) _ ?_
    rw [len_of Sz4 q3_4]
    show Steps p.tables e below (T2.setTop (mkF m 10 #[.val (.ref a1), .val (.int p1)] [(.int nn), (.int p1)])) _
    refine XS.icmpYes X2.here hx rfl (pc0 := 10) (pc' := 36) rfl (hb hby d3_10) rfl (XT.ii_le_t hq2) (by decide) (by decide) ?_
    show Steps p.tables e below (T2.setTop (mkF m 36 #[.val (.ref a1), .val (.int p1)] [])) _
    refine XS.aloadN X2.here hx rfl (hb hby d3_36) rfl rfl ?_
    show Steps p.tables e below (T2.setTop (mkF m 37 #[.val (.ref a1), .val (.int p1)] [(.ref a1)])) _
    refine XS.iloadN X2.here hx rfl (hb hby d3_37) rfl ?_
    show Steps p.tables e below (T2.setTop (mkF m 38 #[.val (.ref a1), .val (.int p1)] [(.int p1), (.ref a1)])) _
    exact k
  obtain ⟨T8, h8, X8, e8, W8, st8⟩ := putF X2 hx hZ hown (host := "") (Or.inl (hw _ (List.mem_of_getElem? (i := 18) rfl))) Via.refl e2 F1 E1 (Or.inl (hw _ (List.mem_of_getElem? (i := 19) rfl))) (hw _ (List.mem_of_getElem? (i := 3) rfl)) (ty := .int) (by decide) rfl rfl (g := (mkF m 38 #[.val (.ref a1), .val (.int p1)] [(.int p1), (.ref a1)])) rfl rfl (hb hby d3_38)
  have N8 := Fr.snoc X8 N0 ga1
  have pre9 : ∀ t, Steps p.tables e below (T8.setTop (mkF m 41 #[.val (.ref a1), .val (.int p1)] [])) t → Steps p.tables e below (s₁.setTop (entryFrame m #[(.ref a1), (.int p1)] 2)) t := fun t k => pre7 t (st8 t k)
  have F10_0 : Fld Z h8 a1 "com/example/byteweave/byteweave/codec/ByteReader" "bytes" "[B" (.ref fa) := (F0.other W8 (Or.inr (slot_ne (Or.inr (hw _ (List.mem_of_getElem? (i := 12) rfl))) (Or.inl (hw _ (List.mem_of_getElem? (i := 19) rfl))) (by decide) (t := (.array .byte)) (t' := .int) (by decide) (by decide))))
  have F10_1 : Fld Z h8 a1 "com/example/byteweave/byteweave/codec/ByteReader" "position" "I" (.int p1) := (F1.same W8)
  have E10_0 : Exa Z h8 a1 "com/example/byteweave/byteweave/codec/ByteReader" := (E1.wr W8)
  have V10_0 : Arv Z h8 fa kk .byte nn vs (.int (0 : Int32)) := (V0.other W8 nfa.symm)
  have K10 : Keep h0 h8 [a1] := (K5.wr W8 (Or.inl (List.mem_of_getElem? (i := 0) rfl)))
  have Z10 : n0 ≤ h8.size := (Nat.le_trans Z0 (Nat.le_of_eq W8.size.symm))
  obtain ⟨fs, hr, hrun, hended, hW, hsame⟩ := X8.leave (v := none) (fun _ => rfl)
  refine ⟨_, _, pre9 _ ?_, hrun, hended, _, _, rfl, ?_, ⟨_, rfl⟩, hW, hsame.mono (by decide) (by decide)⟩
  · exact X8.returnOut hx Bd.returns (hb hby d3_41) hr
  · show Q3 Z a1 p1 fa q1 kk nn vs h0 n0 _ T8.heap _
    rw [e8]
    exact ⟨rfl, N8, K10, F10_0, F10_1⟩
theorem pn_4 : plainName "com/example/byteweave/byteweave/codec/ByteReader" = true := by first | (simp [plainName, overriddenIn]; done) | decide +kernel
theorem d4_0 : decode prog_4_method_2_code 0 = .ok (.aload_n 0, 1) := by decide +kernel
theorem d4_1 : decode prog_4_method_2_code 1 = .ok (.getfield 13, 3) := by decide +kernel
theorem d4_4 : decode prog_4_method_2_code 4 = .ok (.ireturn, 1) := by decide +kernel
theorem ef_4 (m : MethodId) (a1 : Addr) : entryFrame m #[(.ref a1)] 1 = mkF m 0 #[.val (.ref a1)] [] := by first | (simp [entryFrame, mkF, argsToLocals, Value.category]; done) | rfl
def Q4 (Z : State) (a1 : Addr) (fa : Addr) (q1 : Int32) (kk : ClassId) (nn : Int32) (vs : List Value) (h0 : Heap) (n0 : Nat) (v : Option Value) (h : Heap) (L : List Loc) : Prop := v = some (.int q1) ∧ Fr n0 L ∧ h = h0
set_option maxRecDepth 65536 in
set_option maxHeartbeats 40000000 in
theorem rm4 (l : Launch) (Z : State) (a0 : Array Value) (hw : ∀ d ∈ tables_1, d.before a0 Z = true) (ws : List Jvm.Cond) (a1 : Addr) (fa : Addr) (q1 : Int32) (kk : ClassId) (nn : Int32) (vs : List Value) (h0 : Heap) (n0 : Nat) (Z0 : n0 ≤ h0.size) (E1 : Exa Z h0 a1 "com/example/byteweave/byteweave/codec/ByteReader") (ga1 : n0 ≤ a1) (F0 : Fld Z h0 a1 "com/example/byteweave/byteweave/codec/ByteReader" "bytes" "[B" (.ref fa)) (F1 : Fld Z h0 a1 "com/example/byteweave/byteweave/codec/ByteReader" "position" "I" (.int q1)) (V0 : Arv Z h0 fa kk .byte nn vs (.int (0 : Int32))) (nfa : a1 ≠ fa) :
    MetFree l (⟨"com/example/byteweave/byteweave/codec/ByteReader", "position", "()I"⟩ : MethodName) (head1 (Jvm.Cond.code (⟨"com/example/byteweave/byteweave/codec/ByteReader", "position", "()I"⟩ : MethodName) prog_4_method_2_code 1 (some .int) :: ws) ({ frames := 0, cells := 0, slots := 0, locals := 0 } : Room)) (fun a U => a = #[(.ref a1)] ∧ Z.Warmed39 U.vm ∧ U.heap = h0) (fun _ _ _ _ _ => True) (fun _ U o U' => ∃ v L, o = .returned v ∧ Q4 Z a1 fa q1 kk nn vs h0 n0 v U'.heap L ∧ FrameEnd U o U' L ({ frames := 0, cells := 0, slots := 0, locals := 0 } : Room).cells ({ frames := 0, cells := 0, slots := 0, locals := 0 } : Room).slots) := by
  refine MetFree.of_bodySF (plainFor_of_name pn_4) hisR ?_
  intro p e s m args below meth c s₁ Bd hml0 hP hK
  obtain ⟨rfl, hZ, hh⟩ := hP
  have hx := Bd.exec
  have hby := Bd.bytes
  have hml : c.maxLocals = 1 := hml0
  have hown : s.vm.findClass "com/example/byteweave/byteweave/codec/ByteReader" = some m.cls := findClass_of_methodNamed Bd.named
  have hnm := (name_of_methodNamed Bd.named Bd.method).1
  have X0 : Stand p l e ({ frames := 0, cells := 0, slots := 0, locals := 0 } : Room) s m #[(.ref a1)] below meth c s₁ [] 0 0 := Stand.of_body Bd
  have e0 : s₁.heap = h0 := by rw [← hh, Bd.state]; rfl
  have N0 := Fr.nil n0
  have pre0 : ∀ t, Steps p.tables e below (s₁.setTop (mkF m 0 #[.val (.ref a1)] [])) t → Steps p.tables e below (s₁.setTop (entryFrame m #[(.ref a1)] 1)) t := fun t k => castTop (ef_4 m a1) k
  have pre1 : ∀ t, Steps p.tables e below (s₁.setTop (mkF m 1 #[.val (.ref a1)] [(.ref a1)])) t → Steps p.tables e below (s₁.setTop (entryFrame m #[(.ref a1)] 1)) t := by
    intro t k
    refine pre0 t ?_
    refine XS.aloadN X0.here hx rfl (hb hby d4_0) rfl rfl ?_
    show Steps p.tables e below (s₁.setTop (mkF m 1 #[.val (.ref a1)] [(.ref a1)])) _
    exact k
  obtain ⟨T2, X2, e2, st2⟩ := getF X0 hx hZ hown (host := "") (Or.inl (hw _ (List.mem_of_getElem? (i := 18) rfl))) Via.refl e0 F1 (g := (mkF m 1 #[.val (.ref a1)] [(.ref a1)])) rfl rfl (hb hby d4_1)
  have pre3 : ∀ t, Steps p.tables e below (T2.setTop (mkF m 4 #[.val (.ref a1)] [(.int q1)])) t → Steps p.tables e below (s₁.setTop (entryFrame m #[(.ref a1)] 1)) t := fun t k => pre1 t (st2 t k)
  obtain ⟨fs, hr, hrun, hended, hW, hsame⟩ := X2.leave (v := some (.int q1)) (fun h => by rw [Bd.returns] at h; cases h)
  refine ⟨_, _, pre3 _ ?_, hrun, hended, _, _, rfl, ?_, ⟨_, rfl⟩, hW, hsame.mono (by decide) (by decide)⟩
  · exact retOut X2 hx Bd.returns rfl (Or.inl ⟨rfl, by simp, _, rfl⟩) (hb hby d4_4) hr
  · show Q4 Z a1 fa q1 kk nn vs h0 n0 _ T2.heap _
    rw [e2]
    exact ⟨rfl, N0, rfl⟩
theorem pn_5 : plainName "com/example/byteweave/byteweave/codec/ByteReader" = true := by first | (simp [plainName, overriddenIn]; done) | decide +kernel
theorem d5_0 : decode prog_4_method_3_code 0 = .ok (.aload_n 0, 1) := by decide +kernel
theorem d5_1 : decode prog_4_method_3_code 1 = .ok (.getfield 7, 3) := by decide +kernel
theorem d5_4 : decode prog_4_method_3_code 4 = .ok (.arraylength, 1) := by decide +kernel
theorem d5_5 : decode prog_4_method_3_code 5 = .ok (.aload_n 0, 1) := by decide +kernel
theorem d5_6 : decode prog_4_method_3_code 6 = .ok (.getfield 13, 3) := by decide +kernel
theorem d5_9 : decode prog_4_method_3_code 9 = .ok (.isub, 1) := by decide +kernel
theorem d5_10 : decode prog_4_method_3_code 10 = .ok (.ireturn, 1) := by decide +kernel
theorem ef_5 (m : MethodId) (a1 : Addr) : entryFrame m #[(.ref a1)] 1 = mkF m 0 #[.val (.ref a1)] [] := by first | (simp [entryFrame, mkF, argsToLocals, Value.category]; done) | rfl
def Q5 (Z : State) (a1 : Addr) (fa : Addr) (q1 : Int32) (kk : ClassId) (nn : Int32) (vs : List Value) (h0 : Heap) (n0 : Nat) (v : Option Value) (h : Heap) (L : List Loc) : Prop := v = some (.int (nn - q1)) ∧ Fr n0 L ∧ h = h0
set_option maxRecDepth 65536 in
set_option maxHeartbeats 40000000 in
theorem rm5 (l : Launch) (Z : State) (a0 : Array Value) (hw : ∀ d ∈ tables_1, d.before a0 Z = true) (ws : List Jvm.Cond) (a1 : Addr) (fa : Addr) (q1 : Int32) (kk : ClassId) (nn : Int32) (vs : List Value) (h0 : Heap) (n0 : Nat) (Z0 : n0 ≤ h0.size) (E1 : Exa Z h0 a1 "com/example/byteweave/byteweave/codec/ByteReader") (ga1 : n0 ≤ a1) (F0 : Fld Z h0 a1 "com/example/byteweave/byteweave/codec/ByteReader" "bytes" "[B" (.ref fa)) (F1 : Fld Z h0 a1 "com/example/byteweave/byteweave/codec/ByteReader" "position" "I" (.int q1)) (V0 : Arv Z h0 fa kk .byte nn vs (.int (0 : Int32))) (nfa : a1 ≠ fa) :
    MetFree l (⟨"com/example/byteweave/byteweave/codec/ByteReader", "remaining", "()I"⟩ : MethodName) (head1 (Jvm.Cond.code (⟨"com/example/byteweave/byteweave/codec/ByteReader", "remaining", "()I"⟩ : MethodName) prog_4_method_3_code 1 (some .int) :: ws) ({ frames := 0, cells := 0, slots := 0, locals := 0 } : Room)) (fun a U => a = #[(.ref a1)] ∧ Z.Warmed39 U.vm ∧ U.heap = h0) (fun _ _ _ _ _ => True) (fun _ U o U' => ∃ v L, o = .returned v ∧ Q5 Z a1 fa q1 kk nn vs h0 n0 v U'.heap L ∧ FrameEnd U o U' L ({ frames := 0, cells := 0, slots := 0, locals := 0 } : Room).cells ({ frames := 0, cells := 0, slots := 0, locals := 0 } : Room).slots) := by
  refine MetFree.of_bodySF (plainFor_of_name pn_5) hisR ?_
  intro p e s m args below meth c s₁ Bd hml0 hP hK
  obtain ⟨rfl, hZ, hh⟩ := hP
  have hx := Bd.exec
  have hby := Bd.bytes
  have hml : c.maxLocals = 1 := hml0
  have hown : s.vm.findClass "com/example/byteweave/byteweave/codec/ByteReader" = some m.cls := findClass_of_methodNamed Bd.named
  have hnm := (name_of_methodNamed Bd.named Bd.method).1
  have X0 : Stand p l e ({ frames := 0, cells := 0, slots := 0, locals := 0 } : Room) s m #[(.ref a1)] below meth c s₁ [] 0 0 := Stand.of_body Bd
  have e0 : s₁.heap = h0 := by rw [← hh, Bd.state]; rfl
  have N0 := Fr.nil n0
  have pre0 : ∀ t, Steps p.tables e below (s₁.setTop (mkF m 0 #[.val (.ref a1)] [])) t → Steps p.tables e below (s₁.setTop (entryFrame m #[(.ref a1)] 1)) t := fun t k => castTop (ef_5 m a1) k
  have pre1 : ∀ t, Steps p.tables e below (s₁.setTop (mkF m 1 #[.val (.ref a1)] [(.ref a1)])) t → Steps p.tables e below (s₁.setTop (entryFrame m #[(.ref a1)] 1)) t := by
    intro t k
    refine pre0 t ?_
    refine XS.aloadN X0.here hx rfl (hb hby d5_0) rfl rfl ?_
    show Steps p.tables e below (s₁.setTop (mkF m 1 #[.val (.ref a1)] [(.ref a1)])) _
    exact k
  obtain ⟨T2, X2, e2, st2⟩ := getF X0 hx hZ hown (host := "") (Or.inl (hw _ (List.mem_of_getElem? (i := 11) rfl))) Via.refl e0 F0 (g := (mkF m 1 #[.val (.ref a1)] [(.ref a1)])) rfl rfl (hb hby d5_1)
  have pre3 : ∀ t, Steps p.tables e below (T2.setTop (mkF m 4 #[.val (.ref a1)] [(.ref fa)])) t → Steps p.tables e below (s₁.setTop (entryFrame m #[(.ref a1)] 1)) t := fun t k => pre1 t (st2 t k)
  obtain ⟨cc4, Ar4, q1_4, Sz4, q3_4, Hs4, G4⟩ := id V0
  have pre6 : ∀ t, Steps p.tables e below (T2.setTop (mkF m 6 #[.val (.ref a1)] [(.ref a1), (.int nn)])) t → Steps p.tables e below (s₁.setTop (entryFrame m #[(.ref a1)] 1)) t := by
    intro t k
    refine pre3 t ?_
    refine X2.arraylength hx (by rw [e2]; exact Ar4.1) (State.isArrayOf_alike hZ.alike Ar4.2.1) (g := (mkF m 4 #[.val (.ref a1)] [(.ref fa)])) rfl rfl (hb hby d5_4) _ ?_
    rw [len_of Sz4 q3_4]
    show Steps p.tables e below (T2.setTop (mkF m 5 #[.val (.ref a1)] [(.int nn)])) _
    refine XS.aloadN X2.here hx rfl (hb hby d5_5) rfl rfl ?_
    show Steps p.tables e below (T2.setTop (mkF m 6 #[.val (.ref a1)] [(.ref a1), (.int nn)])) _
    exact k
  obtain ⟨T7, X7, e7, st7⟩ := getF X2 hx hZ hown (host := "") (Or.inl (hw _ (List.mem_of_getElem? (i := 18) rfl))) Via.refl e2 F1 (g := (mkF m 6 #[.val (.ref a1)] [(.ref a1), (.int nn)])) rfl rfl (hb hby d5_6)
  have pre8 : ∀ t, Steps p.tables e below (T7.setTop (mkF m 9 #[.val (.ref a1)] [(.int q1), (.int nn)])) t → Steps p.tables e below (s₁.setTop (entryFrame m #[(.ref a1)] 1)) t := fun t k => pre6 t (st7 t k)
  have pre9 : ∀ t, Steps p.tables e below (T7.setTop (mkF m 10 #[.val (.ref a1)] [(.int (nn - q1))])) t → Steps p.tables e below (s₁.setTop (entryFrame m #[(.ref a1)] 1)) t := by
    intro t k
    refine pre8 t ?_
    refine XS.isub X7.here hx rfl (hb hby d5_9) rfl ?_
    show Steps p.tables e below (T7.setTop (mkF m 10 #[.val (.ref a1)] [(.int (nn - q1))])) _
    exact k
  obtain ⟨fs, hr, hrun, hended, hW, hsame⟩ := X7.leave (v := some (.int (nn - q1))) (fun h => by rw [Bd.returns] at h; cases h)
  refine ⟨_, _, pre9 _ ?_, hrun, hended, _, _, rfl, ?_, ⟨_, rfl⟩, hW, hsame.mono (by decide) (by decide)⟩
  · exact retOut X7 hx Bd.returns rfl (Or.inl ⟨rfl, by simp, _, rfl⟩) (hb hby d5_10) hr
  · show Q5 Z a1 fa q1 kk nn vs h0 n0 _ T7.heap _
    rw [e7]
    exact ⟨rfl, N0, rfl⟩
theorem pd_rem : parseMethodDescriptor "()I" = some ⟨[], some .int⟩ := by decide +kernel
theorem pn_7 : plainName "com/example/byteweave/byteweave/codec/ByteReader" = true := by first | (simp [plainName, overriddenIn]; done) | decide +kernel
theorem d7_0 : decode prog_4_method_14_code 0 = .ok (.lload_n 1, 1) := by decide +kernel
theorem d7_1 : decode prog_4_method_14_code 1 = .ok (.lconst 0, 1) := by decide +kernel
theorem d7_2 : decode prog_4_method_14_code 2 = .ok (.lcmp, 1) := by decide +kernel
theorem d7_3 : decode prog_4_method_14_code 3 = .ok (.ifCond .ge 17, 3) := by decide +kernel
theorem d7_20 : decode prog_4_method_14_code 20 = .ok (.lload_n 1, 1) := by decide +kernel
theorem d7_21 : decode prog_4_method_14_code 21 = .ok (.aload_n 0, 1) := by decide +kernel
theorem d7_22 : decode prog_4_method_14_code 22 = .ok (.invokevirtual 56, 3) := by decide +kernel
theorem d7_25 : decode prog_4_method_14_code 25 = .ok (.i2l, 1) := by decide +kernel
theorem d7_26 : decode prog_4_method_14_code 26 = .ok (.lcmp, 1) := by decide +kernel
theorem d7_27 : decode prog_4_method_14_code 27 = .ok (.ifCond .le 28, 3) := by decide +kernel
theorem d7_55 : decode prog_4_method_14_code 55 = .ok (.return_, 1) := by decide +kernel
theorem ef_7 (m : MethodId) (a1 : Addr) (p1 : Int64) : entryFrame m #[(.ref a1), (.long p1)] 3 = mkF m 0 #[.val (.ref a1), .val (.long p1), .second] [] := by first | (simp [entryFrame, mkF, argsToLocals, Value.category]; done) | rfl
def Q7 (Z : State) (a1 : Addr) (p1 : Int64) (fa : Addr) (q1 : Int32) (kk : ClassId) (nn : Int32) (vs : List Value) (h0 : Heap) (n0 : Nat) (v : Option Value) (h : Heap) (L : List Loc) : Prop := v = none ∧ Fr n0 L ∧ h = h0
set_option maxRecDepth 65536 in
set_option maxHeartbeats 40000000 in
theorem rm7 (l : Launch) (Z : State) (a0 : Array Value) (hw : ∀ d ∈ tables_1, d.before a0 Z = true) (ws : List Jvm.Cond) (a1 : Addr) (p1 : Int64) (fa : Addr) (q1 : Int32) (kk : ClassId) (nn : Int32) (vs : List Value) (h0 : Heap) (n0 : Nat) (Z0 : n0 ≤ h0.size) (E1 : Exa Z h0 a1 "com/example/byteweave/byteweave/codec/ByteReader") (ga1 : n0 ≤ a1) (F0 : Fld Z h0 a1 "com/example/byteweave/byteweave/codec/ByteReader" "bytes" "[B" (.ref fa)) (F1 : Fld Z h0 a1 "com/example/byteweave/byteweave/codec/ByteReader" "position" "I" (.int q1)) (V0 : Arv Z h0 fa kk .byte nn vs (.int (0 : Int32))) (nfa : a1 ≠ fa) (hq1 : ¬ p1 < (0 : Int64)) (hq2 : ¬ (nn - q1).toInt64 < p1) :
    MetFree l (⟨"com/example/byteweave/byteweave/codec/ByteReader", "require", "(J)V"⟩ : MethodName) (head1 (Jvm.Cond.code (⟨"com/example/byteweave/byteweave/codec/ByteReader", "require", "(J)V"⟩ : MethodName) prog_4_method_14_code 3 none :: ws) ({ frames := 1, cells := 0, slots := 0, locals := 14 } : Room)) (fun a U => a = #[(.ref a1), (.long p1)] ∧ Z.Warmed39 U.vm ∧ U.heap = h0) (fun _ _ _ _ _ => True) (fun _ U o U' => ∃ v L, o = .returned v ∧ Q7 Z a1 p1 fa q1 kk nn vs h0 n0 v U'.heap L ∧ FrameEnd U o U' L ({ frames := 1, cells := 0, slots := 0, locals := 14 } : Room).cells ({ frames := 1, cells := 0, slots := 0, locals := 14 } : Room).slots) := by
  refine MetFree.of_bodySF (plainFor_of_name pn_7) hisR ?_
  intro p e s m args below meth c s₁ Bd hml0 hP hK
  obtain ⟨rfl, hZ, hh⟩ := hP
  have hx := Bd.exec
  have hby := Bd.bytes
  have hml : c.maxLocals = 3 := hml0
  have hown : s.vm.findClass "com/example/byteweave/byteweave/codec/ByteReader" = some m.cls := findClass_of_methodNamed Bd.named
  have hnm := (name_of_methodNamed Bd.named Bd.method).1
  have X0 : Stand p l e ({ frames := 1, cells := 0, slots := 0, locals := 14 } : Room) s m #[(.ref a1), (.long p1)] below meth c s₁ [] 0 0 := Stand.of_body Bd
  have e0 : s₁.heap = h0 := by rw [← hh, Bd.state]; rfl
  have N0 := Fr.nil n0
  have pre0 : ∀ t, Steps p.tables e below (s₁.setTop (mkF m 0 #[.val (.ref a1), .val (.long p1), .second] [])) t → Steps p.tables e below (s₁.setTop (entryFrame m #[(.ref a1), (.long p1)] 3)) t := fun t k => castTop (ef_7 m a1 p1) k
  have pre2 : ∀ t, Steps p.tables e below (s₁.setTop (mkF m 22 #[.val (.ref a1), .val (.long p1), .second] [(.ref a1), (.long p1)])) t → Steps p.tables e below (s₁.setTop (entryFrame m #[(.ref a1), (.long p1)] 3)) t := by
    intro t k
    refine pre0 t ?_
    refine XT.lloadN X0.here hx rfl (hb hby d7_0) rfl ?_
    show Steps p.tables e below (s₁.setTop (mkF m 1 #[.val (.ref a1), .val (.long p1), .second] [(.long p1)])) _
    refine XT.lconst X0.here hx rfl (hb hby d7_1) ?_
    show Steps p.tables e below (s₁.setTop (mkF m 2 #[.val (.ref a1), .val (.long p1), .second] [(.long (0 : Int64)), (.long p1)])) _
    refine XT.lcmp X0.here hx rfl (hb hby d7_2) rfl ?_
    show Steps p.tables e below (s₁.setTop (mkF m 3 #[.val (.ref a1), .val (.long p1), .second] [(.int (XT.cmpL p1 (0 : Int64)))])) _
    refine XS.ifYes X0.here hx rfl (pc0 := 3) (pc' := 20) rfl (hb hby d7_3) rfl (XT.ll_ge_t hq1) (by decide) (by decide) ?_
    show Steps p.tables e below (s₁.setTop (mkF m 20 #[.val (.ref a1), .val (.long p1), .second] [])) _
    refine XT.lloadN X0.here hx rfl (hb hby d7_20) rfl ?_
    show Steps p.tables e below (s₁.setTop (mkF m 21 #[.val (.ref a1), .val (.long p1), .second] [(.long p1)])) _
    refine XS.aloadN X0.here hx rfl (hb hby d7_21) rfl rfl ?_
    show Steps p.tables e below (s₁.setTop (mkF m 22 #[.val (.ref a1), .val (.long p1), .second] [(.ref a1), (.long p1)])) _
    exact k
  obtain ⟨cq3, kq3, q3a, q3b, q3c⟩ := isOf hZ e0 E1
  obtain ⟨_, _, ⟨T3, L3, k3, n3⟩, -, X3, ⟨Lc3, hQ3, l3, y3, z3⟩, st3⟩ := X0.virtualBack hx (y := (⟨"com/example/byteweave/byteweave/codec/ByteReader", "remaining", "()I"⟩ : MethodName)) (z := (⟨"com/example/byteweave/byteweave/codec/ByteReader", "remaining", "()I"⟩ : MethodName)) hown (mvT hZ (hw _ (List.mem_of_getElem? (i := 40) rfl))) (mvT hZ (hw _ (List.mem_of_getElem? (i := 26) rfl))) (notFace_of_selects (args := #[]) (mvT hZ (hw _ (List.mem_of_getElem? (i := 28) rfl)))) (mvT hZ (hw _ (List.mem_of_getElem? (i := 28) rfl))) (mvT hZ (hw _ (List.mem_of_getElem? (i := 27) rfl))) (by decide) (backOf (W := 2) (rm5 l Z a0 hw [] a1 fa q1 kk nn vs h0 n0 Z0 E1 ga1 F0 F1 V0 nfa) hZ (hw _ (List.mem_of_getElem? (i := 29) rfl)) (hw _ (List.mem_of_getElem? (i := 4) rfl)) (by decide) (by decide)) q3a q3c (g := (mkF m 22 #[.val (.ref a1), .val (.long p1), .second] [(.ref a1), (.long p1)])) rfl (by rw [hml]; rfl) (Steps.refl _) (argsL := []) (rest := [(.long p1)]) (lenOf pd_rem rfl) rfl (by show 2 * 0 + _ ≤ _; exact Nat.le_of_eq rfl) (hb hby d7_22) (fun _ _ => ⟨rfl, e0, (by decide : 0 + 0 ≤ _), (by decide : 0 + 0 ≤ _)⟩)
  dsimp only [Pt.U, Pt.locs, Pt.cells, Pt.slots] at X3 l3 y3 z3 st3 hQ3
  subst l3 y3 z3
  obtain ⟨rfl, Nq3, heq3⟩ := hQ3
  have N3 := Fr.app N0 Nq3
  have pre4 : ∀ t, Steps p.tables e below (T3.setTop (mkF m 25 #[.val (.ref a1), .val (.long p1), .second] [(.int (nn - q1)), (.long p1)])) t → Steps p.tables e below (s₁.setTop (entryFrame m #[(.ref a1), (.long p1)] 3)) t := fun t k => pre2 t (st3.trans k)
  have pre5 : ∀ t, Steps p.tables e below (T3.setTop (mkF m 55 #[.val (.ref a1), .val (.long p1), .second] [])) t → Steps p.tables e below (s₁.setTop (entryFrame m #[(.ref a1), (.long p1)] 3)) t := by
    intro t k
    refine pre4 t ?_
    refine XT.i2l X3.here hx rfl (hb hby d7_25) rfl ?_
    show Steps p.tables e below (T3.setTop (mkF m 26 #[.val (.ref a1), .val (.long p1), .second] [(.long ((nn - q1).toInt64)), (.long p1)])) _
    refine XT.lcmp X3.here hx rfl (hb hby d7_26) rfl ?_
    show Steps p.tables e below (T3.setTop (mkF m 27 #[.val (.ref a1), .val (.long p1), .second] [(.int (XT.cmpL p1 ((nn - q1).toInt64)))])) _
    refine XS.ifYes X3.here hx rfl (pc0 := 27) (pc' := 55) rfl (hb hby d7_27) rfl (XT.ll_le_t hq2) (by decide) (by decide) ?_
    show Steps p.tables e below (T3.setTop (mkF m 55 #[.val (.ref a1), .val (.long p1), .second] [])) _
    exact k
  obtain ⟨fs, hr, hrun, hended, hW, hsame⟩ := X3.leave (v := none) (fun _ => rfl)
  refine ⟨_, _, pre5 _ ?_, hrun, hended, _, _, rfl, ?_, ⟨_, rfl⟩, hW, hsame.mono (by decide) (by decide)⟩
  · exact X3.returnOut hx Bd.returns (hb hby d7_55) hr
  · show Q7 Z a1 p1 fa q1 kk nn vs h0 n0 _ T3.heap _
    rw [heq3]
    exact ⟨rfl, N3, rfl⟩
theorem pd_req : parseMethodDescriptor "(J)V" = some ⟨[.long], none⟩ := by decide +kernel
theorem pn_6 : plainName "com/example/byteweave/byteweave/codec/ByteReader" = true := by first | (simp [plainName, overriddenIn]; done) | decide +kernel
theorem d6_0 : decode prog_4_method_6_code 0 = .ok (.aload_n 0, 1) := by decide +kernel
theorem d6_1 : decode prog_4_method_6_code 1 = .ok (.lconst 1, 1) := by decide +kernel
theorem d6_2 : decode prog_4_method_6_code 2 = .ok (.invokevirtual 29, 3) := by decide +kernel
theorem d6_5 : decode prog_4_method_6_code 5 = .ok (.aload_n 0, 1) := by decide +kernel
theorem d6_6 : decode prog_4_method_6_code 6 = .ok (.getfield 7, 3) := by decide +kernel
theorem d6_9 : decode prog_4_method_6_code 9 = .ok (.aload_n 0, 1) := by decide +kernel
theorem d6_10 : decode prog_4_method_6_code 10 = .ok (.dup, 1) := by decide +kernel
theorem d6_11 : decode prog_4_method_6_code 11 = .ok (.getfield 13, 3) := by decide +kernel
theorem d6_14 : decode prog_4_method_6_code 14 = .ok (.dup_x1, 1) := by decide +kernel
theorem d6_15 : decode prog_4_method_6_code 15 = .ok (.iconst 1, 1) := by decide +kernel
theorem d6_16 : decode prog_4_method_6_code 16 = .ok (.iadd, 1) := by decide +kernel
theorem d6_17 : decode prog_4_method_6_code 17 = .ok (.putfield 13, 3) := by decide +kernel
theorem d6_20 : decode prog_4_method_6_code 20 = .ok (.baload, 1) := by decide +kernel
theorem d6_21 : decode prog_4_method_6_code 21 = .ok (.sipush 255, 3) := by decide +kernel
theorem d6_24 : decode prog_4_method_6_code 24 = .ok (.iand, 1) := by decide +kernel
theorem d6_25 : decode prog_4_method_6_code 25 = .ok (.ireturn, 1) := by decide +kernel
theorem ef_6 (m : MethodId) (a1 : Addr) : entryFrame m #[(.ref a1)] 1 = mkF m 0 #[.val (.ref a1)] [] := by first | (simp [entryFrame, mkF, argsToLocals, Value.category]; done) | rfl
def Q6 (Z : State) (a1 : Addr) (fa : Addr) (q1 : Int32) (kk : ClassId) (nn : Int32) (vs : List Value) (rr : Int32) (h0 : Heap) (n0 : Nat) (v : Option Value) (h : Heap) (L : List Loc) : Prop := v = some (.int (rr &&& (255 : Int32))) ∧ Fr n0 L ∧ Keep h0 h [a1] ∧ Fld Z h a1 "com/example/byteweave/byteweave/codec/ByteReader" "bytes" "[B" (.ref fa) ∧ Fld Z h a1 "com/example/byteweave/byteweave/codec/ByteReader" "position" "I" (.int (q1 + (1 : Int32)))
set_option maxRecDepth 65536 in
set_option maxHeartbeats 40000000 in
theorem rm6 (l : Launch) (Z : State) (a0 : Array Value) (hw : ∀ d ∈ tables_1, d.before a0 Z = true) (ws : List Jvm.Cond) (a1 : Addr) (fa : Addr) (q1 : Int32) (kk : ClassId) (nn : Int32) (vs : List Value) (rr : Int32) (h0 : Heap) (n0 : Nat) (Z0 : n0 ≤ h0.size) (E1 : Exa Z h0 a1 "com/example/byteweave/byteweave/codec/ByteReader") (ga1 : n0 ≤ a1) (F0 : Fld Z h0 a1 "com/example/byteweave/byteweave/codec/ByteReader" "bytes" "[B" (.ref fa)) (F1 : Fld Z h0 a1 "com/example/byteweave/byteweave/codec/ByteReader" "position" "I" (.int q1)) (V0 : Arv Z h0 fa kk .byte nn vs (.int (0 : Int32))) (nfa : a1 ≠ fa) (hq2 : ¬ (nn - q1).toInt64 < (1 : Int64)) (hj : ¬ q1 < 0 ∧ q1 < nn) (hat : vs.getD q1.toNatClampNeg (.int (0 : Int32)) = .int rr) :
    MetFree l (⟨"com/example/byteweave/byteweave/codec/ByteReader", "readByte", "()I"⟩ : MethodName) (head1 (Jvm.Cond.code (⟨"com/example/byteweave/byteweave/codec/ByteReader", "readByte", "()I"⟩ : MethodName) prog_4_method_6_code 1 (some .int) :: ws) ({ frames := 2, cells := 0, slots := 0, locals := 28 } : Room)) (fun a U => a = #[(.ref a1)] ∧ Z.Warmed39 U.vm ∧ U.heap = h0) (fun _ _ _ _ _ => True) (fun _ U o U' => ∃ v L, o = .returned v ∧ Q6 Z a1 fa q1 kk nn vs rr h0 n0 v U'.heap L ∧ FrameEnd U o U' L ({ frames := 2, cells := 0, slots := 0, locals := 28 } : Room).cells ({ frames := 2, cells := 0, slots := 0, locals := 28 } : Room).slots) := by
  refine MetFree.of_bodySF (plainFor_of_name pn_6) hisR ?_
  intro p e s m args below meth c s₁ Bd hml0 hP hK
  obtain ⟨rfl, hZ, hh⟩ := hP
  have hx := Bd.exec
  have hby := Bd.bytes
  have hml : c.maxLocals = 1 := hml0
  have hown : s.vm.findClass "com/example/byteweave/byteweave/codec/ByteReader" = some m.cls := findClass_of_methodNamed Bd.named
  have hnm := (name_of_methodNamed Bd.named Bd.method).1
  have X0 : Stand p l e ({ frames := 2, cells := 0, slots := 0, locals := 28 } : Room) s m #[(.ref a1)] below meth c s₁ [] 0 0 := Stand.of_body Bd
  have e0 : s₁.heap = h0 := by rw [← hh, Bd.state]; rfl
  have N0 := Fr.nil n0
  have pre0 : ∀ t, Steps p.tables e below (s₁.setTop (mkF m 0 #[.val (.ref a1)] [])) t → Steps p.tables e below (s₁.setTop (entryFrame m #[(.ref a1)] 1)) t := fun t k => castTop (ef_6 m a1) k
  have pre2 : ∀ t, Steps p.tables e below (s₁.setTop (mkF m 2 #[.val (.ref a1)] [(.long (1 : Int64)), (.ref a1)])) t → Steps p.tables e below (s₁.setTop (entryFrame m #[(.ref a1)] 1)) t := by
    intro t k
    refine pre0 t ?_
    refine XS.aloadN X0.here hx rfl (hb hby d6_0) rfl rfl ?_
    show Steps p.tables e below (s₁.setTop (mkF m 1 #[.val (.ref a1)] [(.ref a1)])) _
    refine XT.lconst X0.here hx rfl (hb hby d6_1) ?_
    show Steps p.tables e below (s₁.setTop (mkF m 2 #[.val (.ref a1)] [(.long (1 : Int64)), (.ref a1)])) _
    exact k
  have K1 : Keep h0 h0 [a1] := (Keep.refl h0 [a1])
  obtain ⟨cq3, kq3, q3a, q3b, q3c⟩ := isOf hZ e0 E1
  obtain ⟨_, _, ⟨T3, L3, k3, n3⟩, -, X3, ⟨Lc3, hQ3, l3, y3, z3⟩, st3⟩ := X0.virtualBack hx (y := (⟨"com/example/byteweave/byteweave/codec/ByteReader", "require", "(J)V"⟩ : MethodName)) (z := (⟨"com/example/byteweave/byteweave/codec/ByteReader", "require", "(J)V"⟩ : MethodName)) hown (mvT hZ (hw _ (List.mem_of_getElem? (i := 35) rfl))) (mvT hZ (hw _ (List.mem_of_getElem? (i := 36) rfl))) (notFace_of_selects (args := #[]) (mvT hZ (hw _ (List.mem_of_getElem? (i := 38) rfl)))) (mvT hZ (hw _ (List.mem_of_getElem? (i := 38) rfl))) (mvT hZ (hw _ (List.mem_of_getElem? (i := 37) rfl))) (by decide) (backOf (W := 0) (rm7 l Z a0 hw [] a1 (1 : Int64) fa q1 kk nn vs h0 n0 Z0 E1 ga1 F0 F1 V0 nfa (by decide) hq2) hZ (hw _ (List.mem_of_getElem? (i := 39) rfl)) (hw _ (List.mem_of_getElem? (i := 4) rfl)) (by decide) (by decide)) q3a q3c (g := (mkF m 2 #[.val (.ref a1)] [(.long (1 : Int64)), (.ref a1)])) rfl (by rw [hml]; rfl) (Steps.refl _) (argsL := [(.long (1 : Int64))]) (rest := []) (lenOf pd_req rfl) rfl (by show 2 * 0 + _ ≤ _; exact Nat.le_of_eq rfl) (hb hby d6_2) (fun _ _ => ⟨rfl, e0, (by decide : 0 + 0 ≤ _), (by decide : 0 + 0 ≤ _)⟩)
  dsimp only [Pt.U, Pt.locs, Pt.cells, Pt.slots] at X3 l3 y3 z3 st3 hQ3
  subst l3 y3 z3
  obtain ⟨rfl, Nq3, heq3⟩ := hQ3
  have N3 := Fr.app N0 Nq3
  have pre4 : ∀ t, Steps p.tables e below (T3.setTop (mkF m 5 #[.val (.ref a1)] [])) t → Steps p.tables e below (s₁.setTop (entryFrame m #[(.ref a1)] 1)) t := fun t k => pre2 t (st3.trans k)
  have pre5 : ∀ t, Steps p.tables e below (T3.setTop (mkF m 6 #[.val (.ref a1)] [(.ref a1)])) t → Steps p.tables e below (s₁.setTop (entryFrame m #[(.ref a1)] 1)) t := by
    intro t k
    refine pre4 t ?_
    refine XS.aloadN X3.here hx rfl (hb hby d6_5) rfl rfl ?_
    show Steps p.tables e below (T3.setTop (mkF m 6 #[.val (.ref a1)] [(.ref a1)])) _
    exact k
  obtain ⟨T6, X6, e6, st6⟩ := getF X3 hx hZ hown (host := "") (Or.inl (hw _ (List.mem_of_getElem? (i := 11) rfl))) Via.refl heq3 F0 (g := (mkF m 6 #[.val (.ref a1)] [(.ref a1)])) rfl rfl (hb hby d6_6)
  have pre7 : ∀ t, Steps p.tables e below (T6.setTop (mkF m 9 #[.val (.ref a1)] [(.ref fa)])) t → Steps p.tables e below (s₁.setTop (entryFrame m #[(.ref a1)] 1)) t := fun t k => pre5 t (st6 t k)
  have pre8 : ∀ t, Steps p.tables e below (T6.setTop (mkF m 11 #[.val (.ref a1)] [(.ref a1), (.ref a1), (.ref fa)])) t → Steps p.tables e below (s₁.setTop (entryFrame m #[(.ref a1)] 1)) t := by
    intro t k
    refine pre7 t ?_
    refine XS.aloadN X6.here hx rfl (hb hby d6_9) rfl rfl ?_
    show Steps p.tables e below (T6.setTop (mkF m 10 #[.val (.ref a1)] [(.ref a1), (.ref fa)])) _
    refine XS.dup X6.here hx rfl (hb hby d6_10) rfl rfl ?_
    show Steps p.tables e below (T6.setTop (mkF m 11 #[.val (.ref a1)] [(.ref a1), (.ref a1), (.ref fa)])) _
    exact k
  obtain ⟨T9, X9, e9, st9⟩ := getF X6 hx hZ hown (host := "") (Or.inl (hw _ (List.mem_of_getElem? (i := 18) rfl))) Via.refl e6 F1 (g := (mkF m 11 #[.val (.ref a1)] [(.ref a1), (.ref a1), (.ref fa)])) rfl rfl (hb hby d6_11)
  have pre10 : ∀ t, Steps p.tables e below (T9.setTop (mkF m 14 #[.val (.ref a1)] [(.int q1), (.ref a1), (.ref fa)])) t → Steps p.tables e below (s₁.setTop (entryFrame m #[(.ref a1)] 1)) t := fun t k => pre8 t (st9 t k)
  have pre12 : ∀ t, Steps p.tables e below (T9.setTop (mkF m 17 #[.val (.ref a1)] [(.int (q1 + (1 : Int32))), (.ref a1), (.int q1), (.ref fa)])) t → Steps p.tables e below (s₁.setTop (entryFrame m #[(.ref a1)] 1)) t := by
    intro t k
    refine pre10 t ?_
    refine XT.dupX1 X9.here hx rfl (hb hby d6_14) rfl rfl rfl ?_
    show Steps p.tables e below (T9.setTop (mkF m 15 #[.val (.ref a1)] [(.int q1), (.ref a1), (.int q1), (.ref fa)])) _
    refine XS.iconst X9.here hx rfl (hb hby d6_15) ?_
    show Steps p.tables e below (T9.setTop (mkF m 16 #[.val (.ref a1)] [(.int (1 : Int32)), (.int q1), (.ref a1), (.int q1), (.ref fa)])) _
    refine XS.iadd X9.here hx rfl (hb hby d6_16) rfl ?_
    show Steps p.tables e below (T9.setTop (mkF m 17 #[.val (.ref a1)] [(.int (q1 + (1 : Int32))), (.ref a1), (.int q1), (.ref fa)])) _
    exact k
  obtain ⟨T13, h13, X13, e13, W13, st13⟩ := putF X9 hx hZ hown (host := "") (Or.inl (hw _ (List.mem_of_getElem? (i := 18) rfl))) Via.refl e9 F1 E1 (Or.inl (hw _ (List.mem_of_getElem? (i := 19) rfl))) (hw _ (List.mem_of_getElem? (i := 3) rfl)) (ty := .int) (by decide) rfl rfl (g := (mkF m 17 #[.val (.ref a1)] [(.int (q1 + (1 : Int32))), (.ref a1), (.int q1), (.ref fa)])) rfl rfl (hb hby d6_17)
  have N13 := Fr.snoc X13 N3 ga1
  have pre14 : ∀ t, Steps p.tables e below (T13.setTop (mkF m 20 #[.val (.ref a1)] [(.int q1), (.ref fa)])) t → Steps p.tables e below (s₁.setTop (entryFrame m #[(.ref a1)] 1)) t := fun t k => pre12 t (st13 t k)
  have F15_0 : Fld Z h13 a1 "com/example/byteweave/byteweave/codec/ByteReader" "bytes" "[B" (.ref fa) := (F0.other W13 (Or.inr (slot_ne (Or.inr (hw _ (List.mem_of_getElem? (i := 12) rfl))) (Or.inl (hw _ (List.mem_of_getElem? (i := 19) rfl))) (by decide) (t := (.array .byte)) (t' := .int) (by decide) (by decide))))
  have F15_1 : Fld Z h13 a1 "com/example/byteweave/byteweave/codec/ByteReader" "position" "I" (.int (q1 + (1 : Int32))) := (F1.same W13)
  have E15_0 : Exa Z h13 a1 "com/example/byteweave/byteweave/codec/ByteReader" := (E1.wr W13)
  have V15_0 : Arv Z h13 fa kk .byte nn vs (.int (0 : Int32)) := (V0.other W13 nfa.symm)
  have K15 : Keep h0 h13 [a1] := (K1.wr W13 (Or.inl (List.mem_of_getElem? (i := 0) rfl)))
  have Z15 : n0 ≤ h13.size := (Nat.le_trans Z0 (Nat.le_of_eq W13.size.symm))
  obtain ⟨cc16, Ar16, q1_16, Sz16, q3_16, Hs16, G16⟩ := id V15_0
  have hin16 : ¬ (q1 < 0 ∨ cc16.slots.size ≤ (q1 : Int32).toNatClampNeg) := inb_of Sz16 hj
  have hat16 : cc16.slots[(q1 : Int32).toNatClampNeg]? = some (.int rr) := Hs16.at hin16 hat
  have pre18 : ∀ t, Steps p.tables e below (T13.setTop (mkF m 25 #[.val (.ref a1)] [(.int (rr &&& (255 : Int32)))])) t → Steps p.tables e below (s₁.setTop (entryFrame m #[(.ref a1)] 1)) t := by
    intro t k
    refine pre14 t ?_
    refine X13.baloadBytes hx (j := q1) (v := (.int rr)) (by rw [e13]; exact Ar16.1) (State.isArrayOf_alike hZ.alike Ar16.2.1) Ar16.2.2 hin16 hat16 (g := (mkF m 20 #[.val (.ref a1)] [(.int q1), (.ref fa)])) rfl rfl (hb hby d6_20) _ ?_
    show Steps p.tables e below (T13.setTop (mkF m 21 #[.val (.ref a1)] [(.int rr)])) _
    refine XS.sipush X13.here hx rfl (hb hby d6_21) ?_
    show Steps p.tables e below (T13.setTop (mkF m 24 #[.val (.ref a1)] [(.int (255 : Int32)), (.int rr)])) _
    refine XS.iand X13.here hx rfl (hb hby d6_24) rfl ?_
    show Steps p.tables e below (T13.setTop (mkF m 25 #[.val (.ref a1)] [(.int (rr &&& (255 : Int32)))])) _
    exact k
  obtain ⟨fs, hr, hrun, hended, hW, hsame⟩ := X13.leave (v := some (.int (rr &&& (255 : Int32)))) (fun h => by rw [Bd.returns] at h; cases h)
  refine ⟨_, _, pre18 _ ?_, hrun, hended, _, _, rfl, ?_, ⟨_, rfl⟩, hW, hsame.mono (by decide) (by decide)⟩
  · exact retOut X13 hx Bd.returns rfl (Or.inl ⟨rfl, by simp, _, rfl⟩) (hb hby d6_25) hr
  · show Q6 Z a1 fa q1 kk nn vs rr h0 n0 _ T13.heap _
    rw [e13]
    exact ⟨rfl, N13, K15, F15_0, F15_1⟩
theorem pd_ini : parseMethodDescriptor "([B)V" = some ⟨[(.array .byte)], none⟩ := by decide +kernel
theorem pd_seek : parseMethodDescriptor "(I)V" = some ⟨[.int], none⟩ := by decide +kernel
theorem pd_i : parseMethodDescriptor "()I" = some ⟨[], some .int⟩ := by decide +kernel
theorem pn_law : plainName "com/example/byteweave/byteweave/codec/ByteReaderSeekPinLaw" = true := by first | (simp [plainName, overriddenIn]; done) | decide +kernel
theorem ef_law (m : MethodId) (sz : Int32) (f1 : Int32) (f2 : Int32) (vl : Int32) : entryFrame m #[(.int sz), (.int f1), (.int f2), (.int vl)] maxLocals = mkF m 0 #[.val (.int sz), .val (.int f1), .val (.int f2), .val (.int vl), .unset, .unset, .unset, .unset, .unset, .unset] [] := by first | (simp [entryFrame, mkF, argsToLocals, Value.category, maxLocals]; done) | rfl
def Qlaw (Z : State) (sz : Int32) (f1 : Int32) (f2 : Int32) (vl : Int32) (h0 : Heap) (n0 : Nat) (v : Option Value) (h : Heap) (L : List Loc) : Prop := v = some (.int (1 : Int32)) ∧ Fr n0 L
set_option maxRecDepth 65536 in
set_option maxHeartbeats 40000000 in
theorem rmlaw (l : Launch) (Z : State) (a0 : Array Value) (hw : ∀ d ∈ tables_1, d.before a0 Z = true) (ws : List Jvm.Cond) (sz : Int32) (f1 : Int32) (f2 : Int32) (vl : Int32) (h0 : Heap) (n0 : Nat) (Z0 : n0 ≤ h0.size) :
    MetFree l x (head1 (Jvm.Cond.code x code maxLocals ret :: ws) room_1) (fun a U => a = #[(.int sz), (.int f1), (.int f2), (.int vl)] ∧ Z.Warmed39 U.vm ∧ U.heap = h0) (fun _ _ _ _ _ => True) (fun _ U o U' => ∃ v L, o = .returned v ∧ Qlaw Z sz f1 f2 vl h0 n0 v U'.heap L ∧ FrameEnd U o U' L room_1.cells room_1.slots) := by
  refine MetFree.of_bodySF (plainFor_of_name pn_law) hisR ?_
  intro p e s m args below meth c s₁ Bd hml0 hP hK
  obtain ⟨rfl, hZ, hh⟩ := hP
  have hx := Bd.exec
  have hby := Bd.bytes
  have hml : c.maxLocals = 10 := hml0
  have hown : s.vm.findClass "com/example/byteweave/byteweave/codec/ByteReaderSeekPinLaw" = some m.cls := findClass_of_methodNamed Bd.named
  have hnm := (name_of_methodNamed Bd.named Bd.method).1
  have X0 : Stand p l e room_1 s m #[(.int sz), (.int f1), (.int f2), (.int vl)] below meth c s₁ [] 0 0 := Stand.of_body Bd
  have e0 : s₁.heap = h0 := by rw [← hh, Bd.state]; rfl
  have N0 := Fr.nil n0
  have pre0 : ∀ t, Steps p.tables e below (s₁.setTop (mkF m 0 #[.val (.int sz), .val (.int f1), .val (.int f2), .val (.int vl), .unset, .unset, .unset, .unset, .unset, .unset] [])) t → Steps p.tables e below (s₁.setTop (entryFrame m #[(.int sz), (.int f1), (.int f2), (.int vl)] maxLocals)) t := fun t k => castTop (ef_law m sz f1 f2 vl) k
  have pre1 : ∀ t, Steps p.tables e below (s₁.setTop (mkF m 6 #[.val (.int sz), .val (.int f1), .val (.int f2), .val (.int vl), .val (.int (sz &&& (15 : Int32))), .unset, .unset, .unset, .unset, .unset] [])) t → Steps p.tables e below (s₁.setTop (entryFrame m #[(.int sz), (.int f1), (.int f2), (.int vl)] maxLocals)) t := by
    intro t k
    refine pre0 t ?_
    refine XS.iloadN X0.here hx rfl (hb hby at_0) rfl ?_
    show Steps p.tables e below (s₁.setTop (mkF m 1 #[.val (.int sz), .val (.int f1), .val (.int f2), .val (.int vl), .unset, .unset, .unset, .unset, .unset, .unset] [(.int sz)])) _
    refine XS.bipush X0.here hx rfl (hb hby at_1) ?_
    show Steps p.tables e below (s₁.setTop (mkF m 3 #[.val (.int sz), .val (.int f1), .val (.int f2), .val (.int vl), .unset, .unset, .unset, .unset, .unset, .unset] [(.int (15 : Int32)), (.int sz)])) _
    refine XS.iand X0.here hx rfl (hb hby at_3) rfl ?_
    show Steps p.tables e below (s₁.setTop (mkF m 4 #[.val (.int sz), .val (.int f1), .val (.int f2), .val (.int vl), .unset, .unset, .unset, .unset, .unset, .unset] [(.int (sz &&& (15 : Int32)))])) _
    refine XS.istore X0.here hx rfl (hb hby at_4) rfl (l' := #[.val (.int sz), .val (.int f1), .val (.int f2), .val (.int vl), .val (.int (sz &&& (15 : Int32))), .unset, .unset, .unset, .unset, .unset]) rfl ?_
    show Steps p.tables e below (s₁.setTop (mkF m 6 #[.val (.int sz), .val (.int f1), .val (.int f2), .val (.int vl), .val (.int (sz &&& (15 : Int32))), .unset, .unset, .unset, .unset, .unset] [])) _
    exact k
  obtain ⟨nn, hn_nn, pre2⟩ : ∃ nn : Int32, nn = (sz &&& (15 : Int32)) ∧ ∀ t, Steps p.tables e below (s₁.setTop (mkF m 6 #[.val (.int sz), .val (.int f1), .val (.int f2), .val (.int vl), .val (.int nn), .unset, .unset, .unset, .unset, .unset] [])) t → Steps p.tables e below (s₁.setTop (entryFrame m #[(.int sz), (.int f1), (.int f2), (.int vl)] maxLocals)) t := ⟨_, rfl, pre1⟩
  obtain ⟨hn0, hn1, hn2, hn3⟩ := own_nn hn_nn
  have pre4 : ∀ t, Steps p.tables e below (s₁.setTop (mkF m 8 #[.val (.int sz), .val (.int f1), .val (.int f2), .val (.int vl), .val (.int nn), .unset, .unset, .unset, .unset, .unset] [(.int nn)])) t → Steps p.tables e below (s₁.setTop (entryFrame m #[(.int sz), (.int f1), (.int f2), (.int vl)] maxLocals)) t := by
    intro t k
    refine pre2 t ?_
    refine XS.iload X0.here hx rfl (hb hby at_6) rfl ?_
    show Steps p.tables e below (s₁.setTop (mkF m 8 #[.val (.int sz), .val (.int f1), .val (.int f2), .val (.int vl), .val (.int nn), .unset, .unset, .unset, .unset, .unset] [(.int nn)])) _
    exact k
  obtain ⟨T5, h5, cA5, X5, e5, E5, A5, st5⟩ := newP X0 hx hZ (hw _ (List.mem_of_getElem? (i := 0) rfl)) e0 (g := (mkF m 8 #[.val (.int sz), .val (.int f1), .val (.int f2), .val (.int vl), .val (.int nn), .unset, .unset, .unset, .unset, .unset] [(.int nn)])) rfl (hb hby at_8) rfl hn0 (cap := 15) hn1 (by decide) (by decide) (by decide)
  obtain ⟨fa, gz5⟩ : ∃ z, z = h0.size := ⟨_, rfl⟩
  rw [← gz5] at A5 st5
  have g_fa : n0 ≤ fa := Nat.le_trans Z0 (Nat.le_of_eq gz5.symm)
  have V5 : Arv Z h5 fa cA5 .byte nn (List.replicate 15 (.int (0 : Int32))) (.int (0 : Int32)) := Arv.pad (Arv.new A5 hn0) (pad_rep [] (.int (0 : Int32)) 15)
  have pre6 : ∀ t, Steps p.tables e below (T5.setTop (mkF m 10 #[.val (.int sz), .val (.int f1), .val (.int f2), .val (.int vl), .val (.int nn), .unset, .unset, .unset, .unset, .unset] [(.ref fa)])) t → Steps p.tables e below (s₁.setTop (entryFrame m #[(.int sz), (.int f1), (.int f2), (.int vl)] maxLocals)) t := fun t k => pre4 t (st5 t k)
  have Z7 : n0 ≤ h5.size := (Nat.le_trans Z0 E5.1)
  have pre8 : ∀ t, Steps p.tables e below (T5.setTop (mkF m 23 #[.val (.int sz), .val (.int f1), .val (.int f2), .val (.int vl), .val (.int nn), .val (.ref fa), .val (.int ((f1 &&& (2147483647 : Int32)) % (nn + (1 : Int32)))), .unset, .unset, .unset] [])) t → Steps p.tables e below (s₁.setTop (entryFrame m #[(.int sz), (.int f1), (.int f2), (.int vl)] maxLocals)) t := by
    intro t k
    refine pre6 t ?_
    refine XS.astore X5.here hx rfl (hb hby at_10) rfl rfl (l' := #[.val (.int sz), .val (.int f1), .val (.int f2), .val (.int vl), .val (.int nn), .val (.ref fa), .unset, .unset, .unset, .unset]) rfl ?_
    show Steps p.tables e below (T5.setTop (mkF m 12 #[.val (.int sz), .val (.int f1), .val (.int f2), .val (.int vl), .val (.int nn), .val (.ref fa), .unset, .unset, .unset, .unset] [])) _
    refine XS.iloadN X5.here hx rfl (hb hby at_12) rfl ?_
    show Steps p.tables e below (T5.setTop (mkF m 13 #[.val (.int sz), .val (.int f1), .val (.int f2), .val (.int vl), .val (.int nn), .val (.ref fa), .unset, .unset, .unset, .unset] [(.int f1)])) _
    refine Stand.ldcI X5 hx hown (mvT hZ (hw _ (List.mem_of_getElem? (i := 1) rfl))) rfl (hb hby at_13) ?_
    show Steps p.tables e below (T5.setTop (mkF m 15 #[.val (.int sz), .val (.int f1), .val (.int f2), .val (.int vl), .val (.int nn), .val (.ref fa), .unset, .unset, .unset, .unset] [(.int (2147483647 : Int32)), (.int f1)])) _
    refine XS.iand X5.here hx rfl (hb hby at_15) rfl ?_
    show Steps p.tables e below (T5.setTop (mkF m 16 #[.val (.int sz), .val (.int f1), .val (.int f2), .val (.int vl), .val (.int nn), .val (.ref fa), .unset, .unset, .unset, .unset] [(.int (f1 &&& (2147483647 : Int32)))])) _
    refine XS.iload X5.here hx rfl (hb hby at_16) rfl ?_
    show Steps p.tables e below (T5.setTop (mkF m 18 #[.val (.int sz), .val (.int f1), .val (.int f2), .val (.int vl), .val (.int nn), .val (.ref fa), .unset, .unset, .unset, .unset] [(.int nn), (.int (f1 &&& (2147483647 : Int32)))])) _
    refine XS.iconst X5.here hx rfl (hb hby at_18) ?_
    show Steps p.tables e below (T5.setTop (mkF m 19 #[.val (.int sz), .val (.int f1), .val (.int f2), .val (.int vl), .val (.int nn), .val (.ref fa), .unset, .unset, .unset, .unset] [(.int (1 : Int32)), (.int nn), (.int (f1 &&& (2147483647 : Int32)))])) _
    refine XS.iadd X5.here hx rfl (hb hby at_19) rfl ?_
    show Steps p.tables e below (T5.setTop (mkF m 20 #[.val (.int sz), .val (.int f1), .val (.int f2), .val (.int vl), .val (.int nn), .val (.ref fa), .unset, .unset, .unset, .unset] [(.int (nn + (1 : Int32))), (.int (f1 &&& (2147483647 : Int32)))])) _
    refine iremM X5 hx rfl (hb hby at_20) rfl hn2 ?_
    show Steps p.tables e below (T5.setTop (mkF m 21 #[.val (.int sz), .val (.int f1), .val (.int f2), .val (.int vl), .val (.int nn), .val (.ref fa), .unset, .unset, .unset, .unset] [(.int ((f1 &&& (2147483647 : Int32)) % (nn + (1 : Int32))))])) _
    refine XS.istore X5.here hx rfl (hb hby at_21) rfl (l' := #[.val (.int sz), .val (.int f1), .val (.int f2), .val (.int vl), .val (.int nn), .val (.ref fa), .val (.int ((f1 &&& (2147483647 : Int32)) % (nn + (1 : Int32)))), .unset, .unset, .unset]) rfl ?_
    show Steps p.tables e below (T5.setTop (mkF m 23 #[.val (.int sz), .val (.int f1), .val (.int f2), .val (.int vl), .val (.int nn), .val (.ref fa), .val (.int ((f1 &&& (2147483647 : Int32)) % (nn + (1 : Int32)))), .unset, .unset, .unset] [])) _
    exact k
  obtain ⟨pp, hn_pp, pre9⟩ : ∃ pp : Int32, pp = ((f1 &&& (2147483647 : Int32)) % (nn + (1 : Int32))) ∧ ∀ t, Steps p.tables e below (T5.setTop (mkF m 23 #[.val (.int sz), .val (.int f1), .val (.int f2), .val (.int vl), .val (.int nn), .val (.ref fa), .val (.int pp), .unset, .unset, .unset] [])) t → Steps p.tables e below (s₁.setTop (entryFrame m #[(.int sz), (.int f1), (.int f2), (.int vl)] maxLocals)) t := ⟨_, rfl, pre8⟩
  have pre10 : ∀ t, Steps p.tables e below (T5.setTop (mkF m 34 #[.val (.int sz), .val (.int f1), .val (.int f2), .val (.int vl), .val (.int nn), .val (.ref fa), .val (.int pp), .val (.int ((f2 &&& (2147483647 : Int32)) % (nn + (1 : Int32)))), .unset, .unset] [])) t → Steps p.tables e below (s₁.setTop (entryFrame m #[(.int sz), (.int f1), (.int f2), (.int vl)] maxLocals)) t := by
    intro t k
    refine pre9 t ?_
    refine XS.iloadN X5.here hx rfl (hb hby at_23) rfl ?_
    show Steps p.tables e below (T5.setTop (mkF m 24 #[.val (.int sz), .val (.int f1), .val (.int f2), .val (.int vl), .val (.int nn), .val (.ref fa), .val (.int pp), .unset, .unset, .unset] [(.int f2)])) _
    refine Stand.ldcI X5 hx hown (mvT hZ (hw _ (List.mem_of_getElem? (i := 1) rfl))) rfl (hb hby at_24) ?_
    show Steps p.tables e below (T5.setTop (mkF m 26 #[.val (.int sz), .val (.int f1), .val (.int f2), .val (.int vl), .val (.int nn), .val (.ref fa), .val (.int pp), .unset, .unset, .unset] [(.int (2147483647 : Int32)), (.int f2)])) _
    refine XS.iand X5.here hx rfl (hb hby at_26) rfl ?_
    show Steps p.tables e below (T5.setTop (mkF m 27 #[.val (.int sz), .val (.int f1), .val (.int f2), .val (.int vl), .val (.int nn), .val (.ref fa), .val (.int pp), .unset, .unset, .unset] [(.int (f2 &&& (2147483647 : Int32)))])) _
    refine XS.iload X5.here hx rfl (hb hby at_27) rfl ?_
    show Steps p.tables e below (T5.setTop (mkF m 29 #[.val (.int sz), .val (.int f1), .val (.int f2), .val (.int vl), .val (.int nn), .val (.ref fa), .val (.int pp), .unset, .unset, .unset] [(.int nn), (.int (f2 &&& (2147483647 : Int32)))])) _
    refine XS.iconst X5.here hx rfl (hb hby at_29) ?_
    show Steps p.tables e below (T5.setTop (mkF m 30 #[.val (.int sz), .val (.int f1), .val (.int f2), .val (.int vl), .val (.int nn), .val (.ref fa), .val (.int pp), .unset, .unset, .unset] [(.int (1 : Int32)), (.int nn), (.int (f2 &&& (2147483647 : Int32)))])) _
    refine XS.iadd X5.here hx rfl (hb hby at_30) rfl ?_
    show Steps p.tables e below (T5.setTop (mkF m 31 #[.val (.int sz), .val (.int f1), .val (.int f2), .val (.int vl), .val (.int nn), .val (.ref fa), .val (.int pp), .unset, .unset, .unset] [(.int (nn + (1 : Int32))), (.int (f2 &&& (2147483647 : Int32)))])) _
    refine iremM X5 hx rfl (hb hby at_31) rfl hn2 ?_
    show Steps p.tables e below (T5.setTop (mkF m 32 #[.val (.int sz), .val (.int f1), .val (.int f2), .val (.int vl), .val (.int nn), .val (.ref fa), .val (.int pp), .unset, .unset, .unset] [(.int ((f2 &&& (2147483647 : Int32)) % (nn + (1 : Int32))))])) _
    refine XS.istore X5.here hx rfl (hb hby at_32) rfl (l' := #[.val (.int sz), .val (.int f1), .val (.int f2), .val (.int vl), .val (.int nn), .val (.ref fa), .val (.int pp), .val (.int ((f2 &&& (2147483647 : Int32)) % (nn + (1 : Int32)))), .unset, .unset]) rfl ?_
    show Steps p.tables e below (T5.setTop (mkF m 34 #[.val (.int sz), .val (.int f1), .val (.int f2), .val (.int vl), .val (.int nn), .val (.ref fa), .val (.int pp), .val (.int ((f2 &&& (2147483647 : Int32)) % (nn + (1 : Int32)))), .unset, .unset] [])) _
    exact k
  obtain ⟨qq, hn_qq, pre11⟩ : ∃ qq : Int32, qq = ((f2 &&& (2147483647 : Int32)) % (nn + (1 : Int32))) ∧ ∀ t, Steps p.tables e below (T5.setTop (mkF m 34 #[.val (.int sz), .val (.int f1), .val (.int f2), .val (.int vl), .val (.int nn), .val (.ref fa), .val (.int pp), .val (.int qq), .unset, .unset] [])) t → Steps p.tables e below (s₁.setTop (entryFrame m #[(.int sz), (.int f1), (.int f2), (.int vl)] maxLocals)) t := ⟨_, rfl, pre10⟩
  obtain ⟨hp0, hp1, hp2⟩ := own_pp hn0 hn3 hn_pp
  obtain ⟨hq0, hq1, hq2⟩ := own_pp hn0 hn3 hn_qq
  have pre12 : ∀ t, Steps p.tables e below (T5.setTop (mkF m 38 #[.val (.int sz), .val (.int f1), .val (.int f2), .val (.int vl), .val (.int nn), .val (.ref fa), .val (.int pp), .val (.int qq), .unset, .unset] [(.int nn), (.int qq)])) t → Steps p.tables e below (s₁.setTop (entryFrame m #[(.int sz), (.int f1), (.int f2), (.int vl)] maxLocals)) t := by
    intro t k
    refine pre11 t ?_
    refine XS.iload X5.here hx rfl (hb hby at_34) rfl ?_
    show Steps p.tables e below (T5.setTop (mkF m 36 #[.val (.int sz), .val (.int f1), .val (.int f2), .val (.int vl), .val (.int nn), .val (.ref fa), .val (.int pp), .val (.int qq), .unset, .unset] [(.int qq)])) _
    refine XS.iload X5.here hx rfl (hb hby at_36) rfl ?_
    show Steps p.tables e below (T5.setTop (mkF m 38 #[.val (.int sz), .val (.int f1), .val (.int f2), .val (.int vl), .val (.int nn), .val (.ref fa), .val (.int pp), .val (.int qq), .unset, .unset] [(.int nn), (.int qq)])) _
    exact k
  by_cases hlt : qq < nn
  · skip
    obtain ⟨hi15, hrq⟩ := own_lt hn3 hq0 hlt
    have pre13 : ∀ t, Steps p.tables e below (T5.setTop (mkF m 47 #[.val (.int sz), .val (.int f1), .val (.int f2), .val (.int vl), .val (.int nn), .val (.ref fa), .val (.int pp), .val (.int qq), .unset, .unset] [(.int (vl.toInt8.toInt32)), (.int qq), (.ref fa)])) t → Steps p.tables e below (s₁.setTop (entryFrame m #[(.int sz), (.int f1), (.int f2), (.int vl)] maxLocals)) t := by
      intro t k
      refine pre12 t ?_
      refine XS.icmpNo X5.here hx rfl (hb hby at_38) rfl (XT.ii_ge_f hlt) ?_
      show Steps p.tables e below (T5.setTop (mkF m 41 #[.val (.int sz), .val (.int f1), .val (.int f2), .val (.int vl), .val (.int nn), .val (.ref fa), .val (.int pp), .val (.int qq), .unset, .unset] [])) _
      refine XS.aload X5.here hx rfl (hb hby at_41) rfl rfl ?_
      show Steps p.tables e below (T5.setTop (mkF m 43 #[.val (.int sz), .val (.int f1), .val (.int f2), .val (.int vl), .val (.int nn), .val (.ref fa), .val (.int pp), .val (.int qq), .unset, .unset] [(.ref fa)])) _
      refine XS.iload X5.here hx rfl (hb hby at_43) rfl ?_
      show Steps p.tables e below (T5.setTop (mkF m 45 #[.val (.int sz), .val (.int f1), .val (.int f2), .val (.int vl), .val (.int nn), .val (.ref fa), .val (.int pp), .val (.int qq), .unset, .unset] [(.int qq), (.ref fa)])) _
      refine XS.iloadN X5.here hx rfl (hb hby at_45) rfl ?_
      show Steps p.tables e below (T5.setTop (mkF m 46 #[.val (.int sz), .val (.int f1), .val (.int f2), .val (.int vl), .val (.int nn), .val (.ref fa), .val (.int pp), .val (.int qq), .unset, .unset] [(.int vl), (.int qq), (.ref fa)])) _
      refine XT.i2b X5.here hx rfl (hb hby at_46) rfl ?_
      show Steps p.tables e below (T5.setTop (mkF m 47 #[.val (.int sz), .val (.int f1), .val (.int f2), .val (.int vl), .val (.int nn), .val (.ref fa), .val (.int pp), .val (.int qq), .unset, .unset] [(.int (vl.toInt8.toInt32)), (.int qq), (.ref fa)])) _
      exact k
    obtain ⟨cc14, Ar14, q1_14, Sz14, q3_14, Hs14, G14⟩ := id V5
    have hin14 : ¬ (qq < 0 ∨ cc14.slots.size ≤ (qq : Int32).toNatClampNeg) := inb_of Sz14 ⟨hq0, hlt⟩
    obtain ⟨T14, h14, X14, e14, W14, st14⟩ := stB X5 hx hZ e5 Ar14 hin14 (g := (mkF m 47 #[.val (.int sz), .val (.int f1), .val (.int f2), .val (.int vl), .val (.int nn), .val (.ref fa), .val (.int pp), .val (.int qq), .unset, .unset] [(.int (vl.toInt8.toInt32)), (.int qq), (.ref fa)])) rfl rfl (hb hby at_47)
    have N14 := Fr.snoc X14 N0 g_fa
    have V14 : Arv Z h14 fa cA5 .byte nn ((List.replicate 15 (.int (0 : Int32))).set qq.toNatClampNeg (.int (nar .byte (vl.toInt8.toInt32)))) (.int (0 : Int32)) := Arv.set Ar14 q1_14 Sz14 q3_14 Hs14 G14 (fits_nar_byte _) W14 qq.toNatClampNeg rfl (by rw [List.length_replicate]; exact hi15)
    have pre16 : ∀ t, Steps p.tables e below (T14.setTop (mkF m 48 #[.val (.int sz), .val (.int f1), .val (.int f2), .val (.int vl), .val (.int nn), .val (.ref fa), .val (.int pp), .val (.int qq), .unset, .unset] [])) t → Steps p.tables e below (s₁.setTop (entryFrame m #[(.int sz), (.int f1), (.int f2), (.int vl)] maxLocals)) t := fun t k => pre13 t (st14 t k)
    have Z17 : n0 ≤ h14.size := (Nat.le_trans Z7 (Nat.le_of_eq W14.size.symm))
    obtain ⟨T19, h19, X19, e19, E19, A19, D19, -, st19⟩ := newO X14 hx hZ hown (hw _ (List.mem_of_getElem? (i := 2) rfl)) (hw _ (List.mem_of_getElem? (i := 3) rfl)) (hw _ (List.mem_of_getElem? (i := 4) rfl)) e14 (g := (mkF m 48 #[.val (.int sz), .val (.int f1), .val (.int f2), .val (.int vl), .val (.int nn), .val (.ref fa), .val (.int pp), .val (.int qq), .unset, .unset] [])) rfl (hb hby at_48) (by decide) (by decide)
    obtain ⟨b1, gz19⟩ : ∃ z, z = h14.size := ⟨_, rfl⟩
    rw [← gz19] at A19 D19 st19
    have g_b1 : n0 ≤ b1 := Nat.le_trans Z17 (Nat.le_of_eq gz19.symm)
    have ne_fa_b1 : fa ≠ b1 := by rw [gz19]; exact Nat.ne_of_lt V14.lt
    have F_bytes_b1 : Fld Z h19 b1 "com/example/byteweave/byteweave/codec/ByteReader" "bytes" "[B" .null := D19 (Or.inr (hw _ (List.mem_of_getElem? (i := 12) rfl))) (ty := (.array .byte)) (by decide)
    have F_position_b1 : Fld Z h19 b1 "com/example/byteweave/byteweave/codec/ByteReader" "position" "I" (.int (0 : Int32)) := D19 (Or.inl (hw _ (List.mem_of_getElem? (i := 19) rfl))) (ty := .int) (by decide)
    have pre20 : ∀ t, Steps p.tables e below (T19.setTop (mkF m 51 #[.val (.int sz), .val (.int f1), .val (.int f2), .val (.int vl), .val (.int nn), .val (.ref fa), .val (.int pp), .val (.int qq), .unset, .unset] [(.ref b1)])) t → Steps p.tables e below (s₁.setTop (entryFrame m #[(.int sz), (.int f1), (.int f2), (.int vl)] maxLocals)) t := fun t k => pre16 t (st19 t k)
    have V21_0 : Arv Z h19 fa cA5 .byte nn ((List.replicate 15 (.int (0 : Int32))).set qq.toNatClampNeg (.int (nar .byte (vl.toInt8.toInt32)))) (.int (0 : Int32)) := (V14.ext E19)
    have Z21 : n0 ≤ h19.size := (Nat.le_trans Z17 E19.1)
    have pre23 : ∀ t, Steps p.tables e below (T19.setTop (mkF m 54 #[.val (.int sz), .val (.int f1), .val (.int f2), .val (.int vl), .val (.int nn), .val (.ref fa), .val (.int pp), .val (.int qq), .unset, .unset] [(.ref fa), (.ref b1), (.ref b1)])) t → Steps p.tables e below (s₁.setTop (entryFrame m #[(.int sz), (.int f1), (.int f2), (.int vl)] maxLocals)) t := by
      intro t k
      refine pre20 t ?_
      refine XS.dup X19.here hx rfl (hb hby at_51) rfl rfl ?_
      show Steps p.tables e below (T19.setTop (mkF m 52 #[.val (.int sz), .val (.int f1), .val (.int f2), .val (.int vl), .val (.int nn), .val (.ref fa), .val (.int pp), .val (.int qq), .unset, .unset] [(.ref b1), (.ref b1)])) _
      refine XS.aload X19.here hx rfl (hb hby at_52) rfl rfl ?_
      show Steps p.tables e below (T19.setTop (mkF m 54 #[.val (.int sz), .val (.int f1), .val (.int f2), .val (.int vl), .val (.int nn), .val (.ref fa), .val (.int pp), .val (.int qq), .unset, .unset] [(.ref fa), (.ref b1), (.ref b1)])) _
      exact k
    obtain ⟨_, _, ⟨T25, L25, k25, n25⟩, -, X25, ⟨Lc25, hQ25, l25, y25, z25⟩, st25⟩ := X19.specialBack hx (y := (⟨"com/example/byteweave/byteweave/codec/ByteReader", "<init>", "([B)V"⟩ : MethodName)) rfl hown (mvT hZ (hw _ (List.mem_of_getElem? (i := 5) rfl))) (mvT hZ (hw _ (List.mem_of_getElem? (i := 6) rfl))) (mvT hZ (hw _ (List.mem_of_getElem? (i := 7) rfl))) (by decide) (backOf (W := 1) (rm1 l Z a0 hw [] b1 fa h19 n0 Z21 A19 g_b1  F_bytes_b1 F_position_b1) hZ (hw _ (List.mem_of_getElem? (i := 7) rfl)) (hw _ (List.mem_of_getElem? (i := 4) rfl)) (by decide) (by decide)) (g := (mkF m 54 #[.val (.int sz), .val (.int f1), .val (.int f2), .val (.int vl), .val (.int nn), .val (.ref fa), .val (.int pp), .val (.int qq), .unset, .unset] [(.ref fa), (.ref b1), (.ref b1)])) rfl (by rw [hml]; rfl) (Steps.refl _) (a := b1) (argsL := [(.ref fa)]) (rest := [(.ref b1)]) (lenOf pd_ini rfl) rfl (by show 2 * 0 + _ ≤ _; exact Nat.le_of_eq rfl) (hb hby at_54) (fun _ _ => ⟨rfl, e19, (by decide : 2 + 0 ≤ _), (by decide : 17 + 0 ≤ _)⟩)
    dsimp only [Pt.U, Pt.locs, Pt.cells, Pt.slots] at X25 l25 y25 z25 st25 hQ25
    subst l25 y25 z25
    obtain ⟨rfl, Nq25, Kq25, Fx0_25, Fx1_25⟩ := hQ25
    have N25 := Fr.app N14 Nq25
    have pre26 : ∀ t, Steps p.tables e below (T25.setTop (mkF m 57 #[.val (.int sz), .val (.int f1), .val (.int f2), .val (.int vl), .val (.int nn), .val (.ref fa), .val (.int pp), .val (.int qq), .unset, .unset] [(.ref b1)])) t → Steps p.tables e below (s₁.setTop (entryFrame m #[(.int sz), (.int f1), (.int f2), (.int vl)] maxLocals)) t := fun t k => pre23 t (st25.trans k)
    obtain ⟨h25, e25⟩ : ∃ z, T25.heap = z := ⟨_, rfl⟩
    rw [e25] at Kq25 Fx0_25 Fx1_25
    have E27_0 : Exa Z h25 b1 "com/example/byteweave/byteweave/codec/ByteReader" := (A19.keep Kq25)
    have V27_0 : Arv Z h25 fa cA5 .byte nn ((List.replicate 15 (.int (0 : Int32))).set qq.toNatClampNeg (.int (nar .byte (vl.toInt8.toInt32)))) (.int (0 : Int32)) := (V21_0.keep Kq25 (ninS ne_fa_b1 nin0))
    have Z27 : n0 ≤ h25.size := (Nat.le_trans Z21 Kq25.1)
    have pre29 : ∀ t, Steps p.tables e below (T25.setTop (mkF m 63 #[.val (.int sz), .val (.int f1), .val (.int f2), .val (.int vl), .val (.int nn), .val (.ref fa), .val (.int pp), .val (.int qq), .val (.ref b1), .unset] [(.int pp), (.ref b1)])) t → Steps p.tables e below (s₁.setTop (entryFrame m #[(.int sz), (.int f1), (.int f2), (.int vl)] maxLocals)) t := by
      intro t k
      refine pre26 t ?_
      refine XS.astore X25.here hx rfl (hb hby at_57) rfl rfl (l' := #[.val (.int sz), .val (.int f1), .val (.int f2), .val (.int vl), .val (.int nn), .val (.ref fa), .val (.int pp), .val (.int qq), .val (.ref b1), .unset]) rfl ?_
      show Steps p.tables e below (T25.setTop (mkF m 59 #[.val (.int sz), .val (.int f1), .val (.int f2), .val (.int vl), .val (.int nn), .val (.ref fa), .val (.int pp), .val (.int qq), .val (.ref b1), .unset] [])) _
      refine XS.aload X25.here hx rfl (hb hby at_59) rfl rfl ?_
      show Steps p.tables e below (T25.setTop (mkF m 61 #[.val (.int sz), .val (.int f1), .val (.int f2), .val (.int vl), .val (.int nn), .val (.ref fa), .val (.int pp), .val (.int qq), .val (.ref b1), .unset] [(.ref b1)])) _
      refine XS.iload X25.here hx rfl (hb hby at_61) rfl ?_
      show Steps p.tables e below (T25.setTop (mkF m 63 #[.val (.int sz), .val (.int f1), .val (.int f2), .val (.int vl), .val (.int nn), .val (.ref fa), .val (.int pp), .val (.int qq), .val (.ref b1), .unset] [(.int pp), (.ref b1)])) _
      exact k
    obtain ⟨cq31, kq31, q31a, q31b, q31c⟩ := isOf hZ e25 E27_0
    obtain ⟨_, _, ⟨T31, L31, k31, n31⟩, -, X31, ⟨Lc31, hQ31, l31, y31, z31⟩, st31⟩ := X25.virtualBack hx (y := (⟨"com/example/byteweave/byteweave/codec/ByteReader", "seek", "(I)V"⟩ : MethodName)) (z := (⟨"com/example/byteweave/byteweave/codec/ByteReader", "seek", "(I)V"⟩ : MethodName)) hown (mvT hZ (hw _ (List.mem_of_getElem? (i := 13) rfl))) (mvT hZ (hw _ (List.mem_of_getElem? (i := 14) rfl))) (notFace_of_selects (args := #[]) (mvT hZ (hw _ (List.mem_of_getElem? (i := 16) rfl)))) (mvT hZ (hw _ (List.mem_of_getElem? (i := 16) rfl))) (mvT hZ (hw _ (List.mem_of_getElem? (i := 15) rfl))) (by decide) (backOf (W := 0) (rm3 l Z a0 hw [] b1 pp fa (0 : Int32) cA5 nn ((List.replicate 15 (.int (0 : Int32))).set qq.toNatClampNeg (.int (nar .byte (vl.toInt8.toInt32)))) h25 n0 Z27 E27_0 g_b1 Fx0_25 Fx1_25 V27_0 ne_fa_b1.symm hp0 hp1) hZ (hw _ (List.mem_of_getElem? (i := 17) rfl)) (hw _ (List.mem_of_getElem? (i := 4) rfl)) (by decide) (by decide)) q31a q31c (g := (mkF m 63 #[.val (.int sz), .val (.int f1), .val (.int f2), .val (.int vl), .val (.int nn), .val (.ref fa), .val (.int pp), .val (.int qq), .val (.ref b1), .unset] [(.int pp), (.ref b1)])) rfl (by rw [hml]; rfl) (Steps.refl _) (argsL := [(.int pp)]) (rest := []) (lenOf pd_seek rfl) rfl (by show 2 * 0 + _ ≤ _; exact Nat.le_of_eq rfl) (hb hby at_63) (fun _ _ => ⟨rfl, e25, (by decide : 2 + 0 ≤ _), (by decide : 17 + 0 ≤ _)⟩)
    dsimp only [Pt.U, Pt.locs, Pt.cells, Pt.slots] at X31 l31 y31 z31 st31 hQ31
    subst l31 y31 z31
    obtain ⟨rfl, Nq31, Kq31, Fa31, Fb31⟩ := hQ31
    have N31 := Fr.app N25 Nq31
    have pre32 : ∀ t, Steps p.tables e below (T31.setTop (mkF m 66 #[.val (.int sz), .val (.int f1), .val (.int f2), .val (.int vl), .val (.int nn), .val (.ref fa), .val (.int pp), .val (.int qq), .val (.ref b1), .unset] [])) t → Steps p.tables e below (s₁.setTop (entryFrame m #[(.int sz), (.int f1), (.int f2), (.int vl)] maxLocals)) t := fun t k => pre29 t (st31.trans k)
    obtain ⟨h31, e31⟩ : ∃ z, T31.heap = z := ⟨_, rfl⟩
    rw [e31] at Kq31 Fa31 Fb31
    have E33_0 : Exa Z h31 b1 "com/example/byteweave/byteweave/codec/ByteReader" := (E27_0.keep Kq31)
    have V33_0 : Arv Z h31 fa cA5 .byte nn ((List.replicate 15 (.int (0 : Int32))).set qq.toNatClampNeg (.int (nar .byte (vl.toInt8.toInt32)))) (.int (0 : Int32)) := (V27_0.keep Kq31 (ninS ne_fa_b1 nin0))
    have Z33 : n0 ≤ h31.size := (Nat.le_trans Z27 Kq31.1)
    have pre35 : ∀ t, Steps p.tables e below (T31.setTop (mkF m 68 #[.val (.int sz), .val (.int f1), .val (.int f2), .val (.int vl), .val (.int nn), .val (.ref fa), .val (.int pp), .val (.int qq), .val (.ref b1), .unset] [(.ref b1)])) t → Steps p.tables e below (s₁.setTop (entryFrame m #[(.int sz), (.int f1), (.int f2), (.int vl)] maxLocals)) t := by
      intro t k
      refine pre32 t ?_
      refine XS.aload X31.here hx rfl (hb hby at_66) rfl rfl ?_
      show Steps p.tables e below (T31.setTop (mkF m 68 #[.val (.int sz), .val (.int f1), .val (.int f2), .val (.int vl), .val (.int nn), .val (.ref fa), .val (.int pp), .val (.int qq), .val (.ref b1), .unset] [(.ref b1)])) _
      exact k
    obtain ⟨cq37, kq37, q37a, q37b, q37c⟩ := isOf hZ e31 E33_0
    obtain ⟨_, _, ⟨T37, L37, k37, n37⟩, -, X37, ⟨Lc37, hQ37, l37, y37, z37⟩, st37⟩ := X31.virtualBack hx (y := (⟨"com/example/byteweave/byteweave/codec/ByteReader", "position", "()I"⟩ : MethodName)) (z := (⟨"com/example/byteweave/byteweave/codec/ByteReader", "position", "()I"⟩ : MethodName)) hown (mvT hZ (hw _ (List.mem_of_getElem? (i := 20) rfl))) (mvT hZ (hw _ (List.mem_of_getElem? (i := 21) rfl))) (notFace_of_selects (args := #[]) (mvT hZ (hw _ (List.mem_of_getElem? (i := 23) rfl)))) (mvT hZ (hw _ (List.mem_of_getElem? (i := 23) rfl))) (mvT hZ (hw _ (List.mem_of_getElem? (i := 22) rfl))) (by decide) (backOf (W := 0) (rm4 l Z a0 hw [] b1 fa pp cA5 nn ((List.replicate 15 (.int (0 : Int32))).set qq.toNatClampNeg (.int (nar .byte (vl.toInt8.toInt32)))) h31 n0 Z33 E33_0 g_b1 Fa31 Fb31 V33_0 ne_fa_b1.symm) hZ (hw _ (List.mem_of_getElem? (i := 24) rfl)) (hw _ (List.mem_of_getElem? (i := 4) rfl)) (by decide) (by decide)) q37a q37c (g := (mkF m 68 #[.val (.int sz), .val (.int f1), .val (.int f2), .val (.int vl), .val (.int nn), .val (.ref fa), .val (.int pp), .val (.int qq), .val (.ref b1), .unset] [(.ref b1)])) rfl (by rw [hml]; rfl) (Steps.refl _) (argsL := []) (rest := []) (lenOf pd_i rfl) rfl (by show 2 * 0 + _ ≤ _; exact Nat.le_of_eq rfl) (hb hby at_68) (fun _ _ => ⟨rfl, e31, (by decide : 2 + 0 ≤ _), (by decide : 17 + 0 ≤ _)⟩)
    dsimp only [Pt.U, Pt.locs, Pt.cells, Pt.slots] at X37 l37 y37 z37 st37 hQ37
    subst l37 y37 z37
    obtain ⟨rfl, Nq37, heq37⟩ := hQ37
    have N37 := Fr.app N31 Nq37
    have pre38 : ∀ t, Steps p.tables e below (T37.setTop (mkF m 71 #[.val (.int sz), .val (.int f1), .val (.int f2), .val (.int vl), .val (.int nn), .val (.ref fa), .val (.int pp), .val (.int qq), .val (.ref b1), .unset] [(.int pp)])) t → Steps p.tables e below (s₁.setTop (entryFrame m #[(.int sz), (.int f1), (.int f2), (.int vl)] maxLocals)) t := fun t k => pre35 t (st37.trans k)
    have pre40 : ∀ t, Steps p.tables e below (T37.setTop (mkF m 78 #[.val (.int sz), .val (.int f1), .val (.int f2), .val (.int vl), .val (.int nn), .val (.ref fa), .val (.int pp), .val (.int qq), .val (.ref b1), .unset] [(.ref b1)])) t → Steps p.tables e below (s₁.setTop (entryFrame m #[(.int sz), (.int f1), (.int f2), (.int vl)] maxLocals)) t := by
      intro t k
      refine pre38 t ?_
      refine XS.iload X37.here hx rfl (hb hby at_71) rfl ?_
      show Steps p.tables e below (T37.setTop (mkF m 73 #[.val (.int sz), .val (.int f1), .val (.int f2), .val (.int vl), .val (.int nn), .val (.ref fa), .val (.int pp), .val (.int qq), .val (.ref b1), .unset] [(.int pp), (.int pp)])) _
      refine XS.icmpNo X37.here hx rfl (hb hby at_73) rfl (XT.ii_ne_f rfl) ?_
      show Steps p.tables e below (T37.setTop (mkF m 76 #[.val (.int sz), .val (.int f1), .val (.int f2), .val (.int vl), .val (.int nn), .val (.ref fa), .val (.int pp), .val (.int qq), .val (.ref b1), .unset] [])) _
      refine XS.aload X37.here hx rfl (hb hby at_76) rfl rfl ?_
      show Steps p.tables e below (T37.setTop (mkF m 78 #[.val (.int sz), .val (.int f1), .val (.int f2), .val (.int vl), .val (.int nn), .val (.ref fa), .val (.int pp), .val (.int qq), .val (.ref b1), .unset] [(.ref b1)])) _
      exact k
    obtain ⟨cq42, kq42, q42a, q42b, q42c⟩ := isOf hZ heq37 E33_0
    obtain ⟨_, _, ⟨T42, L42, k42, n42⟩, -, X42, ⟨Lc42, hQ42, l42, y42, z42⟩, st42⟩ := X37.virtualBack hx (y := (⟨"com/example/byteweave/byteweave/codec/ByteReader", "remaining", "()I"⟩ : MethodName)) (z := (⟨"com/example/byteweave/byteweave/codec/ByteReader", "remaining", "()I"⟩ : MethodName)) hown (mvT hZ (hw _ (List.mem_of_getElem? (i := 25) rfl))) (mvT hZ (hw _ (List.mem_of_getElem? (i := 26) rfl))) (notFace_of_selects (args := #[]) (mvT hZ (hw _ (List.mem_of_getElem? (i := 28) rfl)))) (mvT hZ (hw _ (List.mem_of_getElem? (i := 28) rfl))) (mvT hZ (hw _ (List.mem_of_getElem? (i := 27) rfl))) (by decide) (backOf (W := 0) (rm5 l Z a0 hw [] b1 fa pp cA5 nn ((List.replicate 15 (.int (0 : Int32))).set qq.toNatClampNeg (.int (nar .byte (vl.toInt8.toInt32)))) h31 n0 Z33 E33_0 g_b1 Fa31 Fb31 V33_0 ne_fa_b1.symm) hZ (hw _ (List.mem_of_getElem? (i := 29) rfl)) (hw _ (List.mem_of_getElem? (i := 4) rfl)) (by decide) (by decide)) q42a q42c (g := (mkF m 78 #[.val (.int sz), .val (.int f1), .val (.int f2), .val (.int vl), .val (.int nn), .val (.ref fa), .val (.int pp), .val (.int qq), .val (.ref b1), .unset] [(.ref b1)])) rfl (by rw [hml]; rfl) (Steps.refl _) (argsL := []) (rest := []) (lenOf pd_i rfl) rfl (by show 2 * 0 + _ ≤ _; exact Nat.le_of_eq rfl) (hb hby at_78) (fun _ _ => ⟨rfl, heq37, (by decide : 2 + 0 ≤ _), (by decide : 17 + 0 ≤ _)⟩)
    dsimp only [Pt.U, Pt.locs, Pt.cells, Pt.slots] at X42 l42 y42 z42 st42 hQ42
    subst l42 y42 z42
    obtain ⟨rfl, Nq42, heq42⟩ := hQ42
    have N42 := Fr.app N37 Nq42
    have pre43 : ∀ t, Steps p.tables e below (T42.setTop (mkF m 81 #[.val (.int sz), .val (.int f1), .val (.int f2), .val (.int vl), .val (.int nn), .val (.ref fa), .val (.int pp), .val (.int qq), .val (.ref b1), .unset] [(.int (nn - pp))])) t → Steps p.tables e below (s₁.setTop (entryFrame m #[(.int sz), (.int f1), (.int f2), (.int vl)] maxLocals)) t := fun t k => pre40 t (st42.trans k)
    have pre45 : ∀ t, Steps p.tables e below (T42.setTop (mkF m 100 #[.val (.int sz), .val (.int f1), .val (.int f2), .val (.int vl), .val (.int nn), .val (.ref fa), .val (.int pp), .val (.int qq), .val (.ref b1), .val (.int (1 : Int32))] [(.int qq), (.ref b1)])) t → Steps p.tables e below (s₁.setTop (entryFrame m #[(.int sz), (.int f1), (.int f2), (.int vl)] maxLocals)) t := by
      intro t k
      refine pre43 t ?_
      refine XS.iload X42.here hx rfl (hb hby at_81) rfl ?_
      show Steps p.tables e below (T42.setTop (mkF m 83 #[.val (.int sz), .val (.int f1), .val (.int f2), .val (.int vl), .val (.int nn), .val (.ref fa), .val (.int pp), .val (.int qq), .val (.ref b1), .unset] [(.int nn), (.int (nn - pp))])) _
      refine XS.iload X42.here hx rfl (hb hby at_83) rfl ?_
      show Steps p.tables e below (T42.setTop (mkF m 85 #[.val (.int sz), .val (.int f1), .val (.int f2), .val (.int vl), .val (.int nn), .val (.ref fa), .val (.int pp), .val (.int qq), .val (.ref b1), .unset] [(.int pp), (.int nn), (.int (nn - pp))])) _
      refine XS.isub X42.here hx rfl (hb hby at_85) rfl ?_
      show Steps p.tables e below (T42.setTop (mkF m 86 #[.val (.int sz), .val (.int f1), .val (.int f2), .val (.int vl), .val (.int nn), .val (.ref fa), .val (.int pp), .val (.int qq), .val (.ref b1), .unset] [(.int (nn - pp)), (.int (nn - pp))])) _
      refine XS.icmpNo X42.here hx rfl (hb hby at_86) rfl (XT.ii_ne_f rfl) ?_
      show Steps p.tables e below (T42.setTop (mkF m 89 #[.val (.int sz), .val (.int f1), .val (.int f2), .val (.int vl), .val (.int nn), .val (.ref fa), .val (.int pp), .val (.int qq), .val (.ref b1), .unset] [])) _
      refine XS.iconst X42.here hx rfl (hb hby at_89) ?_
      show Steps p.tables e below (T42.setTop (mkF m 90 #[.val (.int sz), .val (.int f1), .val (.int f2), .val (.int vl), .val (.int nn), .val (.ref fa), .val (.int pp), .val (.int qq), .val (.ref b1), .unset] [(.int (1 : Int32))])) _
      refine XS.goto X42.here hx rfl (pc0 := 90) (pc' := 94) rfl (hb hby at_90) (by decide) (by decide) ?_
      show Steps p.tables e below (T42.setTop (mkF m 94 #[.val (.int sz), .val (.int f1), .val (.int f2), .val (.int vl), .val (.int nn), .val (.ref fa), .val (.int pp), .val (.int qq), .val (.ref b1), .unset] [(.int (1 : Int32))])) _
      refine XS.istore X42.here hx rfl (hb hby at_94) rfl (l' := #[.val (.int sz), .val (.int f1), .val (.int f2), .val (.int vl), .val (.int nn), .val (.ref fa), .val (.int pp), .val (.int qq), .val (.ref b1), .val (.int (1 : Int32))]) rfl ?_
      show Steps p.tables e below (T42.setTop (mkF m 96 #[.val (.int sz), .val (.int f1), .val (.int f2), .val (.int vl), .val (.int nn), .val (.ref fa), .val (.int pp), .val (.int qq), .val (.ref b1), .val (.int (1 : Int32))] [])) _
      refine XS.aload X42.here hx rfl (hb hby at_96) rfl rfl ?_
      show Steps p.tables e below (T42.setTop (mkF m 98 #[.val (.int sz), .val (.int f1), .val (.int f2), .val (.int vl), .val (.int nn), .val (.ref fa), .val (.int pp), .val (.int qq), .val (.ref b1), .val (.int (1 : Int32))] [(.ref b1)])) _
      refine XS.iload X42.here hx rfl (hb hby at_98) rfl ?_
      show Steps p.tables e below (T42.setTop (mkF m 100 #[.val (.int sz), .val (.int f1), .val (.int f2), .val (.int vl), .val (.int nn), .val (.ref fa), .val (.int pp), .val (.int qq), .val (.ref b1), .val (.int (1 : Int32))] [(.int qq), (.ref b1)])) _
      exact k
    obtain ⟨cq47, kq47, q47a, q47b, q47c⟩ := isOf hZ heq42 E33_0
    obtain ⟨_, _, ⟨T47, L47, k47, n47⟩, -, X47, ⟨Lc47, hQ47, l47, y47, z47⟩, st47⟩ := X42.virtualBack hx (y := (⟨"com/example/byteweave/byteweave/codec/ByteReader", "seek", "(I)V"⟩ : MethodName)) (z := (⟨"com/example/byteweave/byteweave/codec/ByteReader", "seek", "(I)V"⟩ : MethodName)) hown (mvT hZ (hw _ (List.mem_of_getElem? (i := 13) rfl))) (mvT hZ (hw _ (List.mem_of_getElem? (i := 14) rfl))) (notFace_of_selects (args := #[]) (mvT hZ (hw _ (List.mem_of_getElem? (i := 16) rfl)))) (mvT hZ (hw _ (List.mem_of_getElem? (i := 16) rfl))) (mvT hZ (hw _ (List.mem_of_getElem? (i := 15) rfl))) (by decide) (backOf (W := 0) (rm3 l Z a0 hw [] b1 qq fa pp cA5 nn ((List.replicate 15 (.int (0 : Int32))).set qq.toNatClampNeg (.int (nar .byte (vl.toInt8.toInt32)))) h31 n0 Z33 E33_0 g_b1 Fa31 Fb31 V33_0 ne_fa_b1.symm hq0 hq1) hZ (hw _ (List.mem_of_getElem? (i := 17) rfl)) (hw _ (List.mem_of_getElem? (i := 4) rfl)) (by decide) (by decide)) q47a q47c (g := (mkF m 100 #[.val (.int sz), .val (.int f1), .val (.int f2), .val (.int vl), .val (.int nn), .val (.ref fa), .val (.int pp), .val (.int qq), .val (.ref b1), .val (.int (1 : Int32))] [(.int qq), (.ref b1)])) rfl (by rw [hml]; rfl) (Steps.refl _) (argsL := [(.int qq)]) (rest := []) (lenOf pd_seek rfl) rfl (by show 2 * 0 + _ ≤ _; exact Nat.le_of_eq rfl) (hb hby at_100) (fun _ _ => ⟨rfl, heq42, (by decide : 2 + 0 ≤ _), (by decide : 17 + 0 ≤ _)⟩)
    dsimp only [Pt.U, Pt.locs, Pt.cells, Pt.slots] at X47 l47 y47 z47 st47 hQ47
    subst l47 y47 z47
    obtain ⟨rfl, Nq47, Kq47, Fa47, Fb47⟩ := hQ47
    have N47 := Fr.app N42 Nq47
    have pre48 : ∀ t, Steps p.tables e below (T47.setTop (mkF m 103 #[.val (.int sz), .val (.int f1), .val (.int f2), .val (.int vl), .val (.int nn), .val (.ref fa), .val (.int pp), .val (.int qq), .val (.ref b1), .val (.int (1 : Int32))] [])) t → Steps p.tables e below (s₁.setTop (entryFrame m #[(.int sz), (.int f1), (.int f2), (.int vl)] maxLocals)) t := fun t k => pre45 t (st47.trans k)
    obtain ⟨h47, e47⟩ : ∃ z, T47.heap = z := ⟨_, rfl⟩
    rw [e47] at Kq47 Fa47 Fb47
    have E49_0 : Exa Z h47 b1 "com/example/byteweave/byteweave/codec/ByteReader" := (E33_0.keep Kq47)
    have V49_0 : Arv Z h47 fa cA5 .byte nn ((List.replicate 15 (.int (0 : Int32))).set qq.toNatClampNeg (.int (nar .byte (vl.toInt8.toInt32)))) (.int (0 : Int32)) := (V33_0.keep Kq47 (ninS ne_fa_b1 nin0))
    have Z49 : n0 ≤ h47.size := (Nat.le_trans Z33 Kq47.1)
    have pre51 : ∀ t, Steps p.tables e below (T47.setTop (mkF m 110 #[.val (.int sz), .val (.int f1), .val (.int f2), .val (.int vl), .val (.int nn), .val (.ref fa), .val (.int pp), .val (.int qq), .val (.ref b1), .val (.int (1 : Int32))] [(.ref b1)])) t → Steps p.tables e below (s₁.setTop (entryFrame m #[(.int sz), (.int f1), (.int f2), (.int vl)] maxLocals)) t := by
      intro t k
      refine pre48 t ?_
      refine XS.iload X47.here hx rfl (hb hby at_103) rfl ?_
      show Steps p.tables e below (T47.setTop (mkF m 105 #[.val (.int sz), .val (.int f1), .val (.int f2), .val (.int vl), .val (.int nn), .val (.ref fa), .val (.int pp), .val (.int qq), .val (.ref b1), .val (.int (1 : Int32))] [(.int (1 : Int32))])) _
      refine XS.ifNo X47.here hx rfl (hb hby at_105) rfl (XT.i0_eq_f (by decide)) ?_
      show Steps p.tables e below (T47.setTop (mkF m 108 #[.val (.int sz), .val (.int f1), .val (.int f2), .val (.int vl), .val (.int nn), .val (.ref fa), .val (.int pp), .val (.int qq), .val (.ref b1), .val (.int (1 : Int32))] [])) _
      refine XS.aload X47.here hx rfl (hb hby at_108) rfl rfl ?_
      show Steps p.tables e below (T47.setTop (mkF m 110 #[.val (.int sz), .val (.int f1), .val (.int f2), .val (.int vl), .val (.int nn), .val (.ref fa), .val (.int pp), .val (.int qq), .val (.ref b1), .val (.int (1 : Int32))] [(.ref b1)])) _
      exact k
    obtain ⟨cq53, kq53, q53a, q53b, q53c⟩ := isOf hZ e47 E49_0
    obtain ⟨_, _, ⟨T53, L53, k53, n53⟩, -, X53, ⟨Lc53, hQ53, l53, y53, z53⟩, st53⟩ := X47.virtualBack hx (y := (⟨"com/example/byteweave/byteweave/codec/ByteReader", "position", "()I"⟩ : MethodName)) (z := (⟨"com/example/byteweave/byteweave/codec/ByteReader", "position", "()I"⟩ : MethodName)) hown (mvT hZ (hw _ (List.mem_of_getElem? (i := 20) rfl))) (mvT hZ (hw _ (List.mem_of_getElem? (i := 21) rfl))) (notFace_of_selects (args := #[]) (mvT hZ (hw _ (List.mem_of_getElem? (i := 23) rfl)))) (mvT hZ (hw _ (List.mem_of_getElem? (i := 23) rfl))) (mvT hZ (hw _ (List.mem_of_getElem? (i := 22) rfl))) (by decide) (backOf (W := 0) (rm4 l Z a0 hw [] b1 fa qq cA5 nn ((List.replicate 15 (.int (0 : Int32))).set qq.toNatClampNeg (.int (nar .byte (vl.toInt8.toInt32)))) h47 n0 Z49 E49_0 g_b1 Fa47 Fb47 V49_0 ne_fa_b1.symm) hZ (hw _ (List.mem_of_getElem? (i := 24) rfl)) (hw _ (List.mem_of_getElem? (i := 4) rfl)) (by decide) (by decide)) q53a q53c (g := (mkF m 110 #[.val (.int sz), .val (.int f1), .val (.int f2), .val (.int vl), .val (.int nn), .val (.ref fa), .val (.int pp), .val (.int qq), .val (.ref b1), .val (.int (1 : Int32))] [(.ref b1)])) rfl (by rw [hml]; rfl) (Steps.refl _) (argsL := []) (rest := []) (lenOf pd_i rfl) rfl (by show 2 * 0 + _ ≤ _; exact Nat.le_of_eq rfl) (hb hby at_110) (fun _ _ => ⟨rfl, e47, (by decide : 2 + 0 ≤ _), (by decide : 17 + 0 ≤ _)⟩)
    dsimp only [Pt.U, Pt.locs, Pt.cells, Pt.slots] at X53 l53 y53 z53 st53 hQ53
    subst l53 y53 z53
    obtain ⟨rfl, Nq53, heq53⟩ := hQ53
    have N53 := Fr.app N47 Nq53
    have pre54 : ∀ t, Steps p.tables e below (T53.setTop (mkF m 113 #[.val (.int sz), .val (.int f1), .val (.int f2), .val (.int vl), .val (.int nn), .val (.ref fa), .val (.int pp), .val (.int qq), .val (.ref b1), .val (.int (1 : Int32))] [(.int qq)])) t → Steps p.tables e below (s₁.setTop (entryFrame m #[(.int sz), (.int f1), (.int f2), (.int vl)] maxLocals)) t := fun t k => pre51 t (st53.trans k)
    have pre56 : ∀ t, Steps p.tables e below (T53.setTop (mkF m 120 #[.val (.int sz), .val (.int f1), .val (.int f2), .val (.int vl), .val (.int nn), .val (.ref fa), .val (.int pp), .val (.int qq), .val (.ref b1), .val (.int (1 : Int32))] [(.ref b1)])) t → Steps p.tables e below (s₁.setTop (entryFrame m #[(.int sz), (.int f1), (.int f2), (.int vl)] maxLocals)) t := by
      intro t k
      refine pre54 t ?_
      refine XS.iload X53.here hx rfl (hb hby at_113) rfl ?_
      show Steps p.tables e below (T53.setTop (mkF m 115 #[.val (.int sz), .val (.int f1), .val (.int f2), .val (.int vl), .val (.int nn), .val (.ref fa), .val (.int pp), .val (.int qq), .val (.ref b1), .val (.int (1 : Int32))] [(.int qq), (.int qq)])) _
      refine XS.icmpNo X53.here hx rfl (hb hby at_115) rfl (XT.ii_ne_f rfl) ?_
      show Steps p.tables e below (T53.setTop (mkF m 118 #[.val (.int sz), .val (.int f1), .val (.int f2), .val (.int vl), .val (.int nn), .val (.ref fa), .val (.int pp), .val (.int qq), .val (.ref b1), .val (.int (1 : Int32))] [])) _
      refine XS.aload X53.here hx rfl (hb hby at_118) rfl rfl ?_
      show Steps p.tables e below (T53.setTop (mkF m 120 #[.val (.int sz), .val (.int f1), .val (.int f2), .val (.int vl), .val (.int nn), .val (.ref fa), .val (.int pp), .val (.int qq), .val (.ref b1), .val (.int (1 : Int32))] [(.ref b1)])) _
      exact k
    obtain ⟨cq58, kq58, q58a, q58b, q58c⟩ := isOf hZ heq53 E49_0
    obtain ⟨_, _, ⟨T58, L58, k58, n58⟩, -, X58, ⟨Lc58, hQ58, l58, y58, z58⟩, st58⟩ := X53.virtualBack hx (y := (⟨"com/example/byteweave/byteweave/codec/ByteReader", "remaining", "()I"⟩ : MethodName)) (z := (⟨"com/example/byteweave/byteweave/codec/ByteReader", "remaining", "()I"⟩ : MethodName)) hown (mvT hZ (hw _ (List.mem_of_getElem? (i := 25) rfl))) (mvT hZ (hw _ (List.mem_of_getElem? (i := 26) rfl))) (notFace_of_selects (args := #[]) (mvT hZ (hw _ (List.mem_of_getElem? (i := 28) rfl)))) (mvT hZ (hw _ (List.mem_of_getElem? (i := 28) rfl))) (mvT hZ (hw _ (List.mem_of_getElem? (i := 27) rfl))) (by decide) (backOf (W := 0) (rm5 l Z a0 hw [] b1 fa qq cA5 nn ((List.replicate 15 (.int (0 : Int32))).set qq.toNatClampNeg (.int (nar .byte (vl.toInt8.toInt32)))) h47 n0 Z49 E49_0 g_b1 Fa47 Fb47 V49_0 ne_fa_b1.symm) hZ (hw _ (List.mem_of_getElem? (i := 29) rfl)) (hw _ (List.mem_of_getElem? (i := 4) rfl)) (by decide) (by decide)) q58a q58c (g := (mkF m 120 #[.val (.int sz), .val (.int f1), .val (.int f2), .val (.int vl), .val (.int nn), .val (.ref fa), .val (.int pp), .val (.int qq), .val (.ref b1), .val (.int (1 : Int32))] [(.ref b1)])) rfl (by rw [hml]; rfl) (Steps.refl _) (argsL := []) (rest := []) (lenOf pd_i rfl) rfl (by show 2 * 0 + _ ≤ _; exact Nat.le_of_eq rfl) (hb hby at_120) (fun _ _ => ⟨rfl, heq53, (by decide : 2 + 0 ≤ _), (by decide : 17 + 0 ≤ _)⟩)
    dsimp only [Pt.U, Pt.locs, Pt.cells, Pt.slots] at X58 l58 y58 z58 st58 hQ58
    subst l58 y58 z58
    obtain ⟨rfl, Nq58, heq58⟩ := hQ58
    have N58 := Fr.app N53 Nq58
    have pre59 : ∀ t, Steps p.tables e below (T58.setTop (mkF m 123 #[.val (.int sz), .val (.int f1), .val (.int f2), .val (.int vl), .val (.int nn), .val (.ref fa), .val (.int pp), .val (.int qq), .val (.ref b1), .val (.int (1 : Int32))] [(.int (nn - qq))])) t → Steps p.tables e below (s₁.setTop (entryFrame m #[(.int sz), (.int f1), (.int f2), (.int vl)] maxLocals)) t := fun t k => pre56 t (st58.trans k)
    have pre61 : ∀ t, Steps p.tables e below (T58.setTop (mkF m 152 #[.val (.int sz), .val (.int f1), .val (.int f2), .val (.int vl), .val (.int nn), .val (.ref fa), .val (.int pp), .val (.int qq), .val (.ref b1), .val (.int (1 : Int32))] [(.ref b1)])) t → Steps p.tables e below (s₁.setTop (entryFrame m #[(.int sz), (.int f1), (.int f2), (.int vl)] maxLocals)) t := by
      intro t k
      refine pre59 t ?_
      refine XS.iload X58.here hx rfl (hb hby at_123) rfl ?_
      show Steps p.tables e below (T58.setTop (mkF m 125 #[.val (.int sz), .val (.int f1), .val (.int f2), .val (.int vl), .val (.int nn), .val (.ref fa), .val (.int pp), .val (.int qq), .val (.ref b1), .val (.int (1 : Int32))] [(.int nn), (.int (nn - qq))])) _
      refine XS.iload X58.here hx rfl (hb hby at_125) rfl ?_
      show Steps p.tables e below (T58.setTop (mkF m 127 #[.val (.int sz), .val (.int f1), .val (.int f2), .val (.int vl), .val (.int nn), .val (.ref fa), .val (.int pp), .val (.int qq), .val (.ref b1), .val (.int (1 : Int32))] [(.int qq), (.int nn), (.int (nn - qq))])) _
      refine XS.isub X58.here hx rfl (hb hby at_127) rfl ?_
      show Steps p.tables e below (T58.setTop (mkF m 128 #[.val (.int sz), .val (.int f1), .val (.int f2), .val (.int vl), .val (.int nn), .val (.ref fa), .val (.int pp), .val (.int qq), .val (.ref b1), .val (.int (1 : Int32))] [(.int (nn - qq)), (.int (nn - qq))])) _
      refine XS.icmpNo X58.here hx rfl (hb hby at_128) rfl (XT.ii_ne_f rfl) ?_
      show Steps p.tables e below (T58.setTop (mkF m 131 #[.val (.int sz), .val (.int f1), .val (.int f2), .val (.int vl), .val (.int nn), .val (.ref fa), .val (.int pp), .val (.int qq), .val (.ref b1), .val (.int (1 : Int32))] [])) _
      refine XS.iconst X58.here hx rfl (hb hby at_131) ?_
      show Steps p.tables e below (T58.setTop (mkF m 132 #[.val (.int sz), .val (.int f1), .val (.int f2), .val (.int vl), .val (.int nn), .val (.ref fa), .val (.int pp), .val (.int qq), .val (.ref b1), .val (.int (1 : Int32))] [(.int (1 : Int32))])) _
      refine XS.goto X58.here hx rfl (pc0 := 132) (pc' := 136) rfl (hb hby at_132) (by decide) (by decide) ?_
      show Steps p.tables e below (T58.setTop (mkF m 136 #[.val (.int sz), .val (.int f1), .val (.int f2), .val (.int vl), .val (.int nn), .val (.ref fa), .val (.int pp), .val (.int qq), .val (.ref b1), .val (.int (1 : Int32))] [(.int (1 : Int32))])) _
      refine XS.istore X58.here hx rfl (hb hby at_136) rfl (l' := #[.val (.int sz), .val (.int f1), .val (.int f2), .val (.int vl), .val (.int nn), .val (.ref fa), .val (.int pp), .val (.int qq), .val (.ref b1), .val (.int (1 : Int32))]) rfl ?_
      show Steps p.tables e below (T58.setTop (mkF m 138 #[.val (.int sz), .val (.int f1), .val (.int f2), .val (.int vl), .val (.int nn), .val (.ref fa), .val (.int pp), .val (.int qq), .val (.ref b1), .val (.int (1 : Int32))] [])) _
      refine XS.iload X58.here hx rfl (hb hby at_138) rfl ?_
      show Steps p.tables e below (T58.setTop (mkF m 140 #[.val (.int sz), .val (.int f1), .val (.int f2), .val (.int vl), .val (.int nn), .val (.ref fa), .val (.int pp), .val (.int qq), .val (.ref b1), .val (.int (1 : Int32))] [(.int qq)])) _
      refine XS.iload X58.here hx rfl (hb hby at_140) rfl ?_
      show Steps p.tables e below (T58.setTop (mkF m 142 #[.val (.int sz), .val (.int f1), .val (.int f2), .val (.int vl), .val (.int nn), .val (.ref fa), .val (.int pp), .val (.int qq), .val (.ref b1), .val (.int (1 : Int32))] [(.int nn), (.int qq)])) _
      refine XS.icmpNo X58.here hx rfl (hb hby at_142) rfl (XT.ii_ge_f hlt) ?_
      show Steps p.tables e below (T58.setTop (mkF m 145 #[.val (.int sz), .val (.int f1), .val (.int f2), .val (.int vl), .val (.int nn), .val (.ref fa), .val (.int pp), .val (.int qq), .val (.ref b1), .val (.int (1 : Int32))] [])) _
      refine XS.iload X58.here hx rfl (hb hby at_145) rfl ?_
      show Steps p.tables e below (T58.setTop (mkF m 147 #[.val (.int sz), .val (.int f1), .val (.int f2), .val (.int vl), .val (.int nn), .val (.ref fa), .val (.int pp), .val (.int qq), .val (.ref b1), .val (.int (1 : Int32))] [(.int (1 : Int32))])) _
      refine XS.ifNo X58.here hx rfl (hb hby at_147) rfl (XT.i0_eq_f (by decide)) ?_
      show Steps p.tables e below (T58.setTop (mkF m 150 #[.val (.int sz), .val (.int f1), .val (.int f2), .val (.int vl), .val (.int nn), .val (.ref fa), .val (.int pp), .val (.int qq), .val (.ref b1), .val (.int (1 : Int32))] [])) _
      refine XS.aload X58.here hx rfl (hb hby at_150) rfl rfl ?_
      show Steps p.tables e below (T58.setTop (mkF m 152 #[.val (.int sz), .val (.int f1), .val (.int f2), .val (.int vl), .val (.int nn), .val (.ref fa), .val (.int pp), .val (.int qq), .val (.ref b1), .val (.int (1 : Int32))] [(.ref b1)])) _
      exact k
    obtain ⟨cq63, kq63, q63a, q63b, q63c⟩ := isOf hZ heq58 E49_0
    obtain ⟨_, _, ⟨T63, L63, k63, n63⟩, -, X63, ⟨Lc63, hQ63, l63, y63, z63⟩, st63⟩ := X58.virtualBack hx (y := (⟨"com/example/byteweave/byteweave/codec/ByteReader", "readByte", "()I"⟩ : MethodName)) (z := (⟨"com/example/byteweave/byteweave/codec/ByteReader", "readByte", "()I"⟩ : MethodName)) hown (mvT hZ (hw _ (List.mem_of_getElem? (i := 30) rfl))) (mvT hZ (hw _ (List.mem_of_getElem? (i := 31) rfl))) (notFace_of_selects (args := #[]) (mvT hZ (hw _ (List.mem_of_getElem? (i := 33) rfl)))) (mvT hZ (hw _ (List.mem_of_getElem? (i := 33) rfl))) (mvT hZ (hw _ (List.mem_of_getElem? (i := 32) rfl))) (by decide) (backOf (W := 0) (rm6 l Z a0 hw [] b1 fa qq cA5 nn ((List.replicate 15 (.int (0 : Int32))).set qq.toNatClampNeg (.int (nar .byte (vl.toInt8.toInt32)))) (nar .byte (vl.toInt8.toInt32)) h47 n0 Z49 E49_0 g_b1 Fa47 Fb47 V49_0 ne_fa_b1.symm hrq ⟨hq0, hlt⟩ (own_at hi15)) hZ (hw _ (List.mem_of_getElem? (i := 34) rfl)) (hw _ (List.mem_of_getElem? (i := 4) rfl)) (by decide) (by decide)) q63a q63c (g := (mkF m 152 #[.val (.int sz), .val (.int f1), .val (.int f2), .val (.int vl), .val (.int nn), .val (.ref fa), .val (.int pp), .val (.int qq), .val (.ref b1), .val (.int (1 : Int32))] [(.ref b1)])) rfl (by rw [hml]; rfl) (Steps.refl _) (argsL := []) (rest := []) (lenOf pd_i rfl) rfl (by show 2 * 0 + _ ≤ _; exact Nat.le_of_eq rfl) (hb hby at_152) (fun _ _ => ⟨rfl, heq58, (by decide : 2 + 0 ≤ _), (by decide : 17 + 0 ≤ _)⟩)
    dsimp only [Pt.U, Pt.locs, Pt.cells, Pt.slots] at X63 l63 y63 z63 st63 hQ63
    subst l63 y63 z63
    obtain ⟨rfl, Nq63, Kq63, Fa63, Fb63⟩ := hQ63
    have N63 := Fr.app N58 Nq63
    have pre64 : ∀ t, Steps p.tables e below (T63.setTop (mkF m 155 #[.val (.int sz), .val (.int f1), .val (.int f2), .val (.int vl), .val (.int nn), .val (.ref fa), .val (.int pp), .val (.int qq), .val (.ref b1), .val (.int (1 : Int32))] [(.int ((nar .byte (vl.toInt8.toInt32)) &&& (255 : Int32)))])) t → Steps p.tables e below (s₁.setTop (entryFrame m #[(.int sz), (.int f1), (.int f2), (.int vl)] maxLocals)) t := fun t k => pre61 t (st63.trans k)
    obtain ⟨h63, e63⟩ : ∃ z, T63.heap = z := ⟨_, rfl⟩
    rw [e63] at Kq63 Fa63 Fb63
    have E65_0 : Exa Z h63 b1 "com/example/byteweave/byteweave/codec/ByteReader" := (E49_0.keep Kq63)
    have V65_0 : Arv Z h63 fa cA5 .byte nn ((List.replicate 15 (.int (0 : Int32))).set qq.toNatClampNeg (.int (nar .byte (vl.toInt8.toInt32)))) (.int (0 : Int32)) := (V49_0.keep Kq63 (ninS ne_fa_b1 nin0))
    have Z65 : n0 ≤ h63.size := (Nat.le_trans Z49 Kq63.1)
    have pre67 : ∀ t, Steps p.tables e below (T63.setTop (mkF m 165 #[.val (.int sz), .val (.int f1), .val (.int f2), .val (.int vl), .val (.int nn), .val (.ref fa), .val (.int pp), .val (.int qq), .val (.ref b1), .val (.int (1 : Int32))] [(.ref b1)])) t → Steps p.tables e below (s₁.setTop (entryFrame m #[(.int sz), (.int f1), (.int f2), (.int vl)] maxLocals)) t := by
      intro t k
      refine pre64 t ?_
      refine XS.iloadN X63.here hx rfl (hb hby at_155) rfl ?_
      show Steps p.tables e below (T63.setTop (mkF m 156 #[.val (.int sz), .val (.int f1), .val (.int f2), .val (.int vl), .val (.int nn), .val (.ref fa), .val (.int pp), .val (.int qq), .val (.ref b1), .val (.int (1 : Int32))] [(.int vl), (.int ((nar .byte (vl.toInt8.toInt32)) &&& (255 : Int32)))])) _
      refine XS.sipush X63.here hx rfl (hb hby at_156) ?_
      show Steps p.tables e below (T63.setTop (mkF m 159 #[.val (.int sz), .val (.int f1), .val (.int f2), .val (.int vl), .val (.int nn), .val (.ref fa), .val (.int pp), .val (.int qq), .val (.ref b1), .val (.int (1 : Int32))] [(.int (255 : Int32)), (.int vl), (.int ((nar .byte (vl.toInt8.toInt32)) &&& (255 : Int32)))])) _
      refine XS.iand X63.here hx rfl (hb hby at_159) rfl ?_
      show Steps p.tables e below (T63.setTop (mkF m 160 #[.val (.int sz), .val (.int f1), .val (.int f2), .val (.int vl), .val (.int nn), .val (.ref fa), .val (.int pp), .val (.int qq), .val (.ref b1), .val (.int (1 : Int32))] [(.int (vl &&& (255 : Int32))), (.int ((nar .byte (vl.toInt8.toInt32)) &&& (255 : Int32)))])) _
      refine XS.icmpNo X63.here hx rfl (hb hby at_160) rfl (XT.ii_ne_f (own_byte vl)) ?_
      show Steps p.tables e below (T63.setTop (mkF m 163 #[.val (.int sz), .val (.int f1), .val (.int f2), .val (.int vl), .val (.int nn), .val (.ref fa), .val (.int pp), .val (.int qq), .val (.ref b1), .val (.int (1 : Int32))] [])) _
      refine XS.aload X63.here hx rfl (hb hby at_163) rfl rfl ?_
      show Steps p.tables e below (T63.setTop (mkF m 165 #[.val (.int sz), .val (.int f1), .val (.int f2), .val (.int vl), .val (.int nn), .val (.ref fa), .val (.int pp), .val (.int qq), .val (.ref b1), .val (.int (1 : Int32))] [(.ref b1)])) _
      exact k
    obtain ⟨cq69, kq69, q69a, q69b, q69c⟩ := isOf hZ e63 E65_0
    obtain ⟨_, _, ⟨T69, L69, k69, n69⟩, -, X69, ⟨Lc69, hQ69, l69, y69, z69⟩, st69⟩ := X63.virtualBack hx (y := (⟨"com/example/byteweave/byteweave/codec/ByteReader", "position", "()I"⟩ : MethodName)) (z := (⟨"com/example/byteweave/byteweave/codec/ByteReader", "position", "()I"⟩ : MethodName)) hown (mvT hZ (hw _ (List.mem_of_getElem? (i := 20) rfl))) (mvT hZ (hw _ (List.mem_of_getElem? (i := 21) rfl))) (notFace_of_selects (args := #[]) (mvT hZ (hw _ (List.mem_of_getElem? (i := 23) rfl)))) (mvT hZ (hw _ (List.mem_of_getElem? (i := 23) rfl))) (mvT hZ (hw _ (List.mem_of_getElem? (i := 22) rfl))) (by decide) (backOf (W := 0) (rm4 l Z a0 hw [] b1 fa (qq + (1 : Int32)) cA5 nn ((List.replicate 15 (.int (0 : Int32))).set qq.toNatClampNeg (.int (nar .byte (vl.toInt8.toInt32)))) h63 n0 Z65 E65_0 g_b1 Fa63 Fb63 V65_0 ne_fa_b1.symm) hZ (hw _ (List.mem_of_getElem? (i := 24) rfl)) (hw _ (List.mem_of_getElem? (i := 4) rfl)) (by decide) (by decide)) q69a q69c (g := (mkF m 165 #[.val (.int sz), .val (.int f1), .val (.int f2), .val (.int vl), .val (.int nn), .val (.ref fa), .val (.int pp), .val (.int qq), .val (.ref b1), .val (.int (1 : Int32))] [(.ref b1)])) rfl (by rw [hml]; rfl) (Steps.refl _) (argsL := []) (rest := []) (lenOf pd_i rfl) rfl (by show 2 * 0 + _ ≤ _; exact Nat.le_of_eq rfl) (hb hby at_165) (fun _ _ => ⟨rfl, e63, (by decide : 2 + 0 ≤ _), (by decide : 17 + 0 ≤ _)⟩)
    dsimp only [Pt.U, Pt.locs, Pt.cells, Pt.slots] at X69 l69 y69 z69 st69 hQ69
    subst l69 y69 z69
    obtain ⟨rfl, Nq69, heq69⟩ := hQ69
    have N69 := Fr.app N63 Nq69
    have pre70 : ∀ t, Steps p.tables e below (T69.setTop (mkF m 168 #[.val (.int sz), .val (.int f1), .val (.int f2), .val (.int vl), .val (.int nn), .val (.ref fa), .val (.int pp), .val (.int qq), .val (.ref b1), .val (.int (1 : Int32))] [(.int (qq + (1 : Int32)))])) t → Steps p.tables e below (s₁.setTop (entryFrame m #[(.int sz), (.int f1), (.int f2), (.int vl)] maxLocals)) t := fun t k => pre67 t (st69.trans k)
    have pre71 : ∀ t, Steps p.tables e below (T69.setTop (mkF m 184 #[.val (.int sz), .val (.int f1), .val (.int f2), .val (.int vl), .val (.int nn), .val (.ref fa), .val (.int pp), .val (.int qq), .val (.ref b1), .val (.int (1 : Int32))] [(.int (1 : Int32))])) t → Steps p.tables e below (s₁.setTop (entryFrame m #[(.int sz), (.int f1), (.int f2), (.int vl)] maxLocals)) t := by
      intro t k
      refine pre70 t ?_
      refine XS.iload X69.here hx rfl (hb hby at_168) rfl ?_
      show Steps p.tables e below (T69.setTop (mkF m 170 #[.val (.int sz), .val (.int f1), .val (.int f2), .val (.int vl), .val (.int nn), .val (.ref fa), .val (.int pp), .val (.int qq), .val (.ref b1), .val (.int (1 : Int32))] [(.int qq), (.int (qq + (1 : Int32)))])) _
      refine XS.iconst X69.here hx rfl (hb hby at_170) ?_
      show Steps p.tables e below (T69.setTop (mkF m 171 #[.val (.int sz), .val (.int f1), .val (.int f2), .val (.int vl), .val (.int nn), .val (.ref fa), .val (.int pp), .val (.int qq), .val (.ref b1), .val (.int (1 : Int32))] [(.int (1 : Int32)), (.int qq), (.int (qq + (1 : Int32)))])) _
      refine XS.iadd X69.here hx rfl (hb hby at_171) rfl ?_
      show Steps p.tables e below (T69.setTop (mkF m 172 #[.val (.int sz), .val (.int f1), .val (.int f2), .val (.int vl), .val (.int nn), .val (.ref fa), .val (.int pp), .val (.int qq), .val (.ref b1), .val (.int (1 : Int32))] [(.int (qq + (1 : Int32))), (.int (qq + (1 : Int32)))])) _
      refine XS.icmpNo X69.here hx rfl (hb hby at_172) rfl (XT.ii_ne_f rfl) ?_
      show Steps p.tables e below (T69.setTop (mkF m 175 #[.val (.int sz), .val (.int f1), .val (.int f2), .val (.int vl), .val (.int nn), .val (.ref fa), .val (.int pp), .val (.int qq), .val (.ref b1), .val (.int (1 : Int32))] [])) _
      refine XS.iconst X69.here hx rfl (hb hby at_175) ?_
      show Steps p.tables e below (T69.setTop (mkF m 176 #[.val (.int sz), .val (.int f1), .val (.int f2), .val (.int vl), .val (.int nn), .val (.ref fa), .val (.int pp), .val (.int qq), .val (.ref b1), .val (.int (1 : Int32))] [(.int (1 : Int32))])) _
      refine XS.goto X69.here hx rfl (pc0 := 176) (pc' := 180) rfl (hb hby at_176) (by decide) (by decide) ?_
      show Steps p.tables e below (T69.setTop (mkF m 180 #[.val (.int sz), .val (.int f1), .val (.int f2), .val (.int vl), .val (.int nn), .val (.ref fa), .val (.int pp), .val (.int qq), .val (.ref b1), .val (.int (1 : Int32))] [(.int (1 : Int32))])) _
      refine XS.istore X69.here hx rfl (hb hby at_180) rfl (l' := #[.val (.int sz), .val (.int f1), .val (.int f2), .val (.int vl), .val (.int nn), .val (.ref fa), .val (.int pp), .val (.int qq), .val (.ref b1), .val (.int (1 : Int32))]) rfl ?_
      show Steps p.tables e below (T69.setTop (mkF m 182 #[.val (.int sz), .val (.int f1), .val (.int f2), .val (.int vl), .val (.int nn), .val (.ref fa), .val (.int pp), .val (.int qq), .val (.ref b1), .val (.int (1 : Int32))] [])) _
      refine XS.iload X69.here hx rfl (hb hby at_182) rfl ?_
      show Steps p.tables e below (T69.setTop (mkF m 184 #[.val (.int sz), .val (.int f1), .val (.int f2), .val (.int vl), .val (.int nn), .val (.ref fa), .val (.int pp), .val (.int qq), .val (.ref b1), .val (.int (1 : Int32))] [(.int (1 : Int32))])) _
      exact k
    obtain ⟨fs, hr, hrun, hended, hW, hsame⟩ := X69.leave (v := some (.int (1 : Int32))) (fun h => by rw [Bd.returns] at h; cases h)
    refine ⟨_, _, pre71 _ ?_, hrun, hended, _, _, rfl, ?_, ⟨_, rfl⟩, hW, hsame.mono (by decide) (by decide)⟩
    · exact retOut X69 hx Bd.returns rfl (Or.inl ⟨rfl, by simp, _, rfl⟩) (hb hby at_184) hr
    · show Qlaw Z sz f1 f2 vl h0 n0 _ T69.heap _
      rw [heq69]
      exact ⟨rfl, N69⟩
  · skip
    have pre74 : ∀ t, Steps p.tables e below (T5.setTop (mkF m 48 #[.val (.int sz), .val (.int f1), .val (.int f2), .val (.int vl), .val (.int nn), .val (.ref fa), .val (.int pp), .val (.int qq), .unset, .unset] [])) t → Steps p.tables e below (s₁.setTop (entryFrame m #[(.int sz), (.int f1), (.int f2), (.int vl)] maxLocals)) t := by
      intro t k
      refine pre12 t ?_
      refine XS.icmpYes X5.here hx rfl (pc0 := 38) (pc' := 48) rfl (hb hby at_38) rfl (XT.ii_ge_t hlt) (by decide) (by decide) ?_
      show Steps p.tables e below (T5.setTop (mkF m 48 #[.val (.int sz), .val (.int f1), .val (.int f2), .val (.int vl), .val (.int nn), .val (.ref fa), .val (.int pp), .val (.int qq), .unset, .unset] [])) _
      exact k
    obtain ⟨T75, h75, X75, e75, E75, A75, D75, -, st75⟩ := newO X5 hx hZ hown (hw _ (List.mem_of_getElem? (i := 2) rfl)) (hw _ (List.mem_of_getElem? (i := 3) rfl)) (hw _ (List.mem_of_getElem? (i := 4) rfl)) e5 (g := (mkF m 48 #[.val (.int sz), .val (.int f1), .val (.int f2), .val (.int vl), .val (.int nn), .val (.ref fa), .val (.int pp), .val (.int qq), .unset, .unset] [])) rfl (hb hby at_48) (by decide) (by decide)
    obtain ⟨b1, gz75⟩ : ∃ z, z = h5.size := ⟨_, rfl⟩
    rw [← gz75] at A75 D75 st75
    have g_b1 : n0 ≤ b1 := Nat.le_trans Z7 (Nat.le_of_eq gz75.symm)
    have ne_fa_b1 : fa ≠ b1 := by rw [gz75]; exact Nat.ne_of_lt V5.lt
    have F_bytes_b1 : Fld Z h75 b1 "com/example/byteweave/byteweave/codec/ByteReader" "bytes" "[B" .null := D75 (Or.inr (hw _ (List.mem_of_getElem? (i := 12) rfl))) (ty := (.array .byte)) (by decide)
    have F_position_b1 : Fld Z h75 b1 "com/example/byteweave/byteweave/codec/ByteReader" "position" "I" (.int (0 : Int32)) := D75 (Or.inl (hw _ (List.mem_of_getElem? (i := 19) rfl))) (ty := .int) (by decide)
    have pre76 : ∀ t, Steps p.tables e below (T75.setTop (mkF m 51 #[.val (.int sz), .val (.int f1), .val (.int f2), .val (.int vl), .val (.int nn), .val (.ref fa), .val (.int pp), .val (.int qq), .unset, .unset] [(.ref b1)])) t → Steps p.tables e below (s₁.setTop (entryFrame m #[(.int sz), (.int f1), (.int f2), (.int vl)] maxLocals)) t := fun t k => pre74 t (st75 t k)
    have V77_0 : Arv Z h75 fa cA5 .byte nn (List.replicate 15 (.int (0 : Int32))) (.int (0 : Int32)) := (V5.ext E75)
    have Z77 : n0 ≤ h75.size := (Nat.le_trans Z7 E75.1)
    have pre79 : ∀ t, Steps p.tables e below (T75.setTop (mkF m 54 #[.val (.int sz), .val (.int f1), .val (.int f2), .val (.int vl), .val (.int nn), .val (.ref fa), .val (.int pp), .val (.int qq), .unset, .unset] [(.ref fa), (.ref b1), (.ref b1)])) t → Steps p.tables e below (s₁.setTop (entryFrame m #[(.int sz), (.int f1), (.int f2), (.int vl)] maxLocals)) t := by
      intro t k
      refine pre76 t ?_
      refine XS.dup X75.here hx rfl (hb hby at_51) rfl rfl ?_
      show Steps p.tables e below (T75.setTop (mkF m 52 #[.val (.int sz), .val (.int f1), .val (.int f2), .val (.int vl), .val (.int nn), .val (.ref fa), .val (.int pp), .val (.int qq), .unset, .unset] [(.ref b1), (.ref b1)])) _
      refine XS.aload X75.here hx rfl (hb hby at_52) rfl rfl ?_
      show Steps p.tables e below (T75.setTop (mkF m 54 #[.val (.int sz), .val (.int f1), .val (.int f2), .val (.int vl), .val (.int nn), .val (.ref fa), .val (.int pp), .val (.int qq), .unset, .unset] [(.ref fa), (.ref b1), (.ref b1)])) _
      exact k
    obtain ⟨_, _, ⟨T81, L81, k81, n81⟩, -, X81, ⟨Lc81, hQ81, l81, y81, z81⟩, st81⟩ := X75.specialBack hx (y := (⟨"com/example/byteweave/byteweave/codec/ByteReader", "<init>", "([B)V"⟩ : MethodName)) rfl hown (mvT hZ (hw _ (List.mem_of_getElem? (i := 5) rfl))) (mvT hZ (hw _ (List.mem_of_getElem? (i := 6) rfl))) (mvT hZ (hw _ (List.mem_of_getElem? (i := 7) rfl))) (by decide) (backOf (W := 1) (rm1 l Z a0 hw [] b1 fa h75 n0 Z77 A75 g_b1  F_bytes_b1 F_position_b1) hZ (hw _ (List.mem_of_getElem? (i := 7) rfl)) (hw _ (List.mem_of_getElem? (i := 4) rfl)) (by decide) (by decide)) (g := (mkF m 54 #[.val (.int sz), .val (.int f1), .val (.int f2), .val (.int vl), .val (.int nn), .val (.ref fa), .val (.int pp), .val (.int qq), .unset, .unset] [(.ref fa), (.ref b1), (.ref b1)])) rfl (by rw [hml]; rfl) (Steps.refl _) (a := b1) (argsL := [(.ref fa)]) (rest := [(.ref b1)]) (lenOf pd_ini rfl) rfl (by show 2 * 0 + _ ≤ _; exact Nat.le_of_eq rfl) (hb hby at_54) (fun _ _ => ⟨rfl, e75, (by decide : 2 + 0 ≤ _), (by decide : 17 + 0 ≤ _)⟩)
    dsimp only [Pt.U, Pt.locs, Pt.cells, Pt.slots] at X81 l81 y81 z81 st81 hQ81
    subst l81 y81 z81
    obtain ⟨rfl, Nq81, Kq81, Fx0_81, Fx1_81⟩ := hQ81
    have N81 := Fr.app N0 Nq81
    have pre82 : ∀ t, Steps p.tables e below (T81.setTop (mkF m 57 #[.val (.int sz), .val (.int f1), .val (.int f2), .val (.int vl), .val (.int nn), .val (.ref fa), .val (.int pp), .val (.int qq), .unset, .unset] [(.ref b1)])) t → Steps p.tables e below (s₁.setTop (entryFrame m #[(.int sz), (.int f1), (.int f2), (.int vl)] maxLocals)) t := fun t k => pre79 t (st81.trans k)
    obtain ⟨h81, e81⟩ : ∃ z, T81.heap = z := ⟨_, rfl⟩
    rw [e81] at Kq81 Fx0_81 Fx1_81
    have E83_0 : Exa Z h81 b1 "com/example/byteweave/byteweave/codec/ByteReader" := (A75.keep Kq81)
    have V83_0 : Arv Z h81 fa cA5 .byte nn (List.replicate 15 (.int (0 : Int32))) (.int (0 : Int32)) := (V77_0.keep Kq81 (ninS ne_fa_b1 nin0))
    have Z83 : n0 ≤ h81.size := (Nat.le_trans Z77 Kq81.1)
    have pre85 : ∀ t, Steps p.tables e below (T81.setTop (mkF m 63 #[.val (.int sz), .val (.int f1), .val (.int f2), .val (.int vl), .val (.int nn), .val (.ref fa), .val (.int pp), .val (.int qq), .val (.ref b1), .unset] [(.int pp), (.ref b1)])) t → Steps p.tables e below (s₁.setTop (entryFrame m #[(.int sz), (.int f1), (.int f2), (.int vl)] maxLocals)) t := by
      intro t k
      refine pre82 t ?_
      refine XS.astore X81.here hx rfl (hb hby at_57) rfl rfl (l' := #[.val (.int sz), .val (.int f1), .val (.int f2), .val (.int vl), .val (.int nn), .val (.ref fa), .val (.int pp), .val (.int qq), .val (.ref b1), .unset]) rfl ?_
      show Steps p.tables e below (T81.setTop (mkF m 59 #[.val (.int sz), .val (.int f1), .val (.int f2), .val (.int vl), .val (.int nn), .val (.ref fa), .val (.int pp), .val (.int qq), .val (.ref b1), .unset] [])) _
      refine XS.aload X81.here hx rfl (hb hby at_59) rfl rfl ?_
      show Steps p.tables e below (T81.setTop (mkF m 61 #[.val (.int sz), .val (.int f1), .val (.int f2), .val (.int vl), .val (.int nn), .val (.ref fa), .val (.int pp), .val (.int qq), .val (.ref b1), .unset] [(.ref b1)])) _
      refine XS.iload X81.here hx rfl (hb hby at_61) rfl ?_
      show Steps p.tables e below (T81.setTop (mkF m 63 #[.val (.int sz), .val (.int f1), .val (.int f2), .val (.int vl), .val (.int nn), .val (.ref fa), .val (.int pp), .val (.int qq), .val (.ref b1), .unset] [(.int pp), (.ref b1)])) _
      exact k
    obtain ⟨cq87, kq87, q87a, q87b, q87c⟩ := isOf hZ e81 E83_0
    obtain ⟨_, _, ⟨T87, L87, k87, n87⟩, -, X87, ⟨Lc87, hQ87, l87, y87, z87⟩, st87⟩ := X81.virtualBack hx (y := (⟨"com/example/byteweave/byteweave/codec/ByteReader", "seek", "(I)V"⟩ : MethodName)) (z := (⟨"com/example/byteweave/byteweave/codec/ByteReader", "seek", "(I)V"⟩ : MethodName)) hown (mvT hZ (hw _ (List.mem_of_getElem? (i := 13) rfl))) (mvT hZ (hw _ (List.mem_of_getElem? (i := 14) rfl))) (notFace_of_selects (args := #[]) (mvT hZ (hw _ (List.mem_of_getElem? (i := 16) rfl)))) (mvT hZ (hw _ (List.mem_of_getElem? (i := 16) rfl))) (mvT hZ (hw _ (List.mem_of_getElem? (i := 15) rfl))) (by decide) (backOf (W := 0) (rm3 l Z a0 hw [] b1 pp fa (0 : Int32) cA5 nn (List.replicate 15 (.int (0 : Int32))) h81 n0 Z83 E83_0 g_b1 Fx0_81 Fx1_81 V83_0 ne_fa_b1.symm hp0 hp1) hZ (hw _ (List.mem_of_getElem? (i := 17) rfl)) (hw _ (List.mem_of_getElem? (i := 4) rfl)) (by decide) (by decide)) q87a q87c (g := (mkF m 63 #[.val (.int sz), .val (.int f1), .val (.int f2), .val (.int vl), .val (.int nn), .val (.ref fa), .val (.int pp), .val (.int qq), .val (.ref b1), .unset] [(.int pp), (.ref b1)])) rfl (by rw [hml]; rfl) (Steps.refl _) (argsL := [(.int pp)]) (rest := []) (lenOf pd_seek rfl) rfl (by show 2 * 0 + _ ≤ _; exact Nat.le_of_eq rfl) (hb hby at_63) (fun _ _ => ⟨rfl, e81, (by decide : 2 + 0 ≤ _), (by decide : 17 + 0 ≤ _)⟩)
    dsimp only [Pt.U, Pt.locs, Pt.cells, Pt.slots] at X87 l87 y87 z87 st87 hQ87
    subst l87 y87 z87
    obtain ⟨rfl, Nq87, Kq87, Fa87, Fb87⟩ := hQ87
    have N87 := Fr.app N81 Nq87
    have pre88 : ∀ t, Steps p.tables e below (T87.setTop (mkF m 66 #[.val (.int sz), .val (.int f1), .val (.int f2), .val (.int vl), .val (.int nn), .val (.ref fa), .val (.int pp), .val (.int qq), .val (.ref b1), .unset] [])) t → Steps p.tables e below (s₁.setTop (entryFrame m #[(.int sz), (.int f1), (.int f2), (.int vl)] maxLocals)) t := fun t k => pre85 t (st87.trans k)
    obtain ⟨h87, e87⟩ : ∃ z, T87.heap = z := ⟨_, rfl⟩
    rw [e87] at Kq87 Fa87 Fb87
    have E89_0 : Exa Z h87 b1 "com/example/byteweave/byteweave/codec/ByteReader" := (E83_0.keep Kq87)
    have V89_0 : Arv Z h87 fa cA5 .byte nn (List.replicate 15 (.int (0 : Int32))) (.int (0 : Int32)) := (V83_0.keep Kq87 (ninS ne_fa_b1 nin0))
    have Z89 : n0 ≤ h87.size := (Nat.le_trans Z83 Kq87.1)
    have pre91 : ∀ t, Steps p.tables e below (T87.setTop (mkF m 68 #[.val (.int sz), .val (.int f1), .val (.int f2), .val (.int vl), .val (.int nn), .val (.ref fa), .val (.int pp), .val (.int qq), .val (.ref b1), .unset] [(.ref b1)])) t → Steps p.tables e below (s₁.setTop (entryFrame m #[(.int sz), (.int f1), (.int f2), (.int vl)] maxLocals)) t := by
      intro t k
      refine pre88 t ?_
      refine XS.aload X87.here hx rfl (hb hby at_66) rfl rfl ?_
      show Steps p.tables e below (T87.setTop (mkF m 68 #[.val (.int sz), .val (.int f1), .val (.int f2), .val (.int vl), .val (.int nn), .val (.ref fa), .val (.int pp), .val (.int qq), .val (.ref b1), .unset] [(.ref b1)])) _
      exact k
    obtain ⟨cq93, kq93, q93a, q93b, q93c⟩ := isOf hZ e87 E89_0
    obtain ⟨_, _, ⟨T93, L93, k93, n93⟩, -, X93, ⟨Lc93, hQ93, l93, y93, z93⟩, st93⟩ := X87.virtualBack hx (y := (⟨"com/example/byteweave/byteweave/codec/ByteReader", "position", "()I"⟩ : MethodName)) (z := (⟨"com/example/byteweave/byteweave/codec/ByteReader", "position", "()I"⟩ : MethodName)) hown (mvT hZ (hw _ (List.mem_of_getElem? (i := 20) rfl))) (mvT hZ (hw _ (List.mem_of_getElem? (i := 21) rfl))) (notFace_of_selects (args := #[]) (mvT hZ (hw _ (List.mem_of_getElem? (i := 23) rfl)))) (mvT hZ (hw _ (List.mem_of_getElem? (i := 23) rfl))) (mvT hZ (hw _ (List.mem_of_getElem? (i := 22) rfl))) (by decide) (backOf (W := 0) (rm4 l Z a0 hw [] b1 fa pp cA5 nn (List.replicate 15 (.int (0 : Int32))) h87 n0 Z89 E89_0 g_b1 Fa87 Fb87 V89_0 ne_fa_b1.symm) hZ (hw _ (List.mem_of_getElem? (i := 24) rfl)) (hw _ (List.mem_of_getElem? (i := 4) rfl)) (by decide) (by decide)) q93a q93c (g := (mkF m 68 #[.val (.int sz), .val (.int f1), .val (.int f2), .val (.int vl), .val (.int nn), .val (.ref fa), .val (.int pp), .val (.int qq), .val (.ref b1), .unset] [(.ref b1)])) rfl (by rw [hml]; rfl) (Steps.refl _) (argsL := []) (rest := []) (lenOf pd_i rfl) rfl (by show 2 * 0 + _ ≤ _; exact Nat.le_of_eq rfl) (hb hby at_68) (fun _ _ => ⟨rfl, e87, (by decide : 2 + 0 ≤ _), (by decide : 17 + 0 ≤ _)⟩)
    dsimp only [Pt.U, Pt.locs, Pt.cells, Pt.slots] at X93 l93 y93 z93 st93 hQ93
    subst l93 y93 z93
    obtain ⟨rfl, Nq93, heq93⟩ := hQ93
    have N93 := Fr.app N87 Nq93
    have pre94 : ∀ t, Steps p.tables e below (T93.setTop (mkF m 71 #[.val (.int sz), .val (.int f1), .val (.int f2), .val (.int vl), .val (.int nn), .val (.ref fa), .val (.int pp), .val (.int qq), .val (.ref b1), .unset] [(.int pp)])) t → Steps p.tables e below (s₁.setTop (entryFrame m #[(.int sz), (.int f1), (.int f2), (.int vl)] maxLocals)) t := fun t k => pre91 t (st93.trans k)
    have pre96 : ∀ t, Steps p.tables e below (T93.setTop (mkF m 78 #[.val (.int sz), .val (.int f1), .val (.int f2), .val (.int vl), .val (.int nn), .val (.ref fa), .val (.int pp), .val (.int qq), .val (.ref b1), .unset] [(.ref b1)])) t → Steps p.tables e below (s₁.setTop (entryFrame m #[(.int sz), (.int f1), (.int f2), (.int vl)] maxLocals)) t := by
      intro t k
      refine pre94 t ?_
      refine XS.iload X93.here hx rfl (hb hby at_71) rfl ?_
      show Steps p.tables e below (T93.setTop (mkF m 73 #[.val (.int sz), .val (.int f1), .val (.int f2), .val (.int vl), .val (.int nn), .val (.ref fa), .val (.int pp), .val (.int qq), .val (.ref b1), .unset] [(.int pp), (.int pp)])) _
      refine XS.icmpNo X93.here hx rfl (hb hby at_73) rfl (XT.ii_ne_f rfl) ?_
      show Steps p.tables e below (T93.setTop (mkF m 76 #[.val (.int sz), .val (.int f1), .val (.int f2), .val (.int vl), .val (.int nn), .val (.ref fa), .val (.int pp), .val (.int qq), .val (.ref b1), .unset] [])) _
      refine XS.aload X93.here hx rfl (hb hby at_76) rfl rfl ?_
      show Steps p.tables e below (T93.setTop (mkF m 78 #[.val (.int sz), .val (.int f1), .val (.int f2), .val (.int vl), .val (.int nn), .val (.ref fa), .val (.int pp), .val (.int qq), .val (.ref b1), .unset] [(.ref b1)])) _
      exact k
    obtain ⟨cq98, kq98, q98a, q98b, q98c⟩ := isOf hZ heq93 E89_0
    obtain ⟨_, _, ⟨T98, L98, k98, n98⟩, -, X98, ⟨Lc98, hQ98, l98, y98, z98⟩, st98⟩ := X93.virtualBack hx (y := (⟨"com/example/byteweave/byteweave/codec/ByteReader", "remaining", "()I"⟩ : MethodName)) (z := (⟨"com/example/byteweave/byteweave/codec/ByteReader", "remaining", "()I"⟩ : MethodName)) hown (mvT hZ (hw _ (List.mem_of_getElem? (i := 25) rfl))) (mvT hZ (hw _ (List.mem_of_getElem? (i := 26) rfl))) (notFace_of_selects (args := #[]) (mvT hZ (hw _ (List.mem_of_getElem? (i := 28) rfl)))) (mvT hZ (hw _ (List.mem_of_getElem? (i := 28) rfl))) (mvT hZ (hw _ (List.mem_of_getElem? (i := 27) rfl))) (by decide) (backOf (W := 0) (rm5 l Z a0 hw [] b1 fa pp cA5 nn (List.replicate 15 (.int (0 : Int32))) h87 n0 Z89 E89_0 g_b1 Fa87 Fb87 V89_0 ne_fa_b1.symm) hZ (hw _ (List.mem_of_getElem? (i := 29) rfl)) (hw _ (List.mem_of_getElem? (i := 4) rfl)) (by decide) (by decide)) q98a q98c (g := (mkF m 78 #[.val (.int sz), .val (.int f1), .val (.int f2), .val (.int vl), .val (.int nn), .val (.ref fa), .val (.int pp), .val (.int qq), .val (.ref b1), .unset] [(.ref b1)])) rfl (by rw [hml]; rfl) (Steps.refl _) (argsL := []) (rest := []) (lenOf pd_i rfl) rfl (by show 2 * 0 + _ ≤ _; exact Nat.le_of_eq rfl) (hb hby at_78) (fun _ _ => ⟨rfl, heq93, (by decide : 2 + 0 ≤ _), (by decide : 17 + 0 ≤ _)⟩)
    dsimp only [Pt.U, Pt.locs, Pt.cells, Pt.slots] at X98 l98 y98 z98 st98 hQ98
    subst l98 y98 z98
    obtain ⟨rfl, Nq98, heq98⟩ := hQ98
    have N98 := Fr.app N93 Nq98
    have pre99 : ∀ t, Steps p.tables e below (T98.setTop (mkF m 81 #[.val (.int sz), .val (.int f1), .val (.int f2), .val (.int vl), .val (.int nn), .val (.ref fa), .val (.int pp), .val (.int qq), .val (.ref b1), .unset] [(.int (nn - pp))])) t → Steps p.tables e below (s₁.setTop (entryFrame m #[(.int sz), (.int f1), (.int f2), (.int vl)] maxLocals)) t := fun t k => pre96 t (st98.trans k)
    have pre101 : ∀ t, Steps p.tables e below (T98.setTop (mkF m 100 #[.val (.int sz), .val (.int f1), .val (.int f2), .val (.int vl), .val (.int nn), .val (.ref fa), .val (.int pp), .val (.int qq), .val (.ref b1), .val (.int (1 : Int32))] [(.int qq), (.ref b1)])) t → Steps p.tables e below (s₁.setTop (entryFrame m #[(.int sz), (.int f1), (.int f2), (.int vl)] maxLocals)) t := by
      intro t k
      refine pre99 t ?_
      refine XS.iload X98.here hx rfl (hb hby at_81) rfl ?_
      show Steps p.tables e below (T98.setTop (mkF m 83 #[.val (.int sz), .val (.int f1), .val (.int f2), .val (.int vl), .val (.int nn), .val (.ref fa), .val (.int pp), .val (.int qq), .val (.ref b1), .unset] [(.int nn), (.int (nn - pp))])) _
      refine XS.iload X98.here hx rfl (hb hby at_83) rfl ?_
      show Steps p.tables e below (T98.setTop (mkF m 85 #[.val (.int sz), .val (.int f1), .val (.int f2), .val (.int vl), .val (.int nn), .val (.ref fa), .val (.int pp), .val (.int qq), .val (.ref b1), .unset] [(.int pp), (.int nn), (.int (nn - pp))])) _
      refine XS.isub X98.here hx rfl (hb hby at_85) rfl ?_
      show Steps p.tables e below (T98.setTop (mkF m 86 #[.val (.int sz), .val (.int f1), .val (.int f2), .val (.int vl), .val (.int nn), .val (.ref fa), .val (.int pp), .val (.int qq), .val (.ref b1), .unset] [(.int (nn - pp)), (.int (nn - pp))])) _
      refine XS.icmpNo X98.here hx rfl (hb hby at_86) rfl (XT.ii_ne_f rfl) ?_
      show Steps p.tables e below (T98.setTop (mkF m 89 #[.val (.int sz), .val (.int f1), .val (.int f2), .val (.int vl), .val (.int nn), .val (.ref fa), .val (.int pp), .val (.int qq), .val (.ref b1), .unset] [])) _
      refine XS.iconst X98.here hx rfl (hb hby at_89) ?_
      show Steps p.tables e below (T98.setTop (mkF m 90 #[.val (.int sz), .val (.int f1), .val (.int f2), .val (.int vl), .val (.int nn), .val (.ref fa), .val (.int pp), .val (.int qq), .val (.ref b1), .unset] [(.int (1 : Int32))])) _
      refine XS.goto X98.here hx rfl (pc0 := 90) (pc' := 94) rfl (hb hby at_90) (by decide) (by decide) ?_
      show Steps p.tables e below (T98.setTop (mkF m 94 #[.val (.int sz), .val (.int f1), .val (.int f2), .val (.int vl), .val (.int nn), .val (.ref fa), .val (.int pp), .val (.int qq), .val (.ref b1), .unset] [(.int (1 : Int32))])) _
      refine XS.istore X98.here hx rfl (hb hby at_94) rfl (l' := #[.val (.int sz), .val (.int f1), .val (.int f2), .val (.int vl), .val (.int nn), .val (.ref fa), .val (.int pp), .val (.int qq), .val (.ref b1), .val (.int (1 : Int32))]) rfl ?_
      show Steps p.tables e below (T98.setTop (mkF m 96 #[.val (.int sz), .val (.int f1), .val (.int f2), .val (.int vl), .val (.int nn), .val (.ref fa), .val (.int pp), .val (.int qq), .val (.ref b1), .val (.int (1 : Int32))] [])) _
      refine XS.aload X98.here hx rfl (hb hby at_96) rfl rfl ?_
      show Steps p.tables e below (T98.setTop (mkF m 98 #[.val (.int sz), .val (.int f1), .val (.int f2), .val (.int vl), .val (.int nn), .val (.ref fa), .val (.int pp), .val (.int qq), .val (.ref b1), .val (.int (1 : Int32))] [(.ref b1)])) _
      refine XS.iload X98.here hx rfl (hb hby at_98) rfl ?_
      show Steps p.tables e below (T98.setTop (mkF m 100 #[.val (.int sz), .val (.int f1), .val (.int f2), .val (.int vl), .val (.int nn), .val (.ref fa), .val (.int pp), .val (.int qq), .val (.ref b1), .val (.int (1 : Int32))] [(.int qq), (.ref b1)])) _
      exact k
    obtain ⟨cq103, kq103, q103a, q103b, q103c⟩ := isOf hZ heq98 E89_0
    obtain ⟨_, _, ⟨T103, L103, k103, n103⟩, -, X103, ⟨Lc103, hQ103, l103, y103, z103⟩, st103⟩ := X98.virtualBack hx (y := (⟨"com/example/byteweave/byteweave/codec/ByteReader", "seek", "(I)V"⟩ : MethodName)) (z := (⟨"com/example/byteweave/byteweave/codec/ByteReader", "seek", "(I)V"⟩ : MethodName)) hown (mvT hZ (hw _ (List.mem_of_getElem? (i := 13) rfl))) (mvT hZ (hw _ (List.mem_of_getElem? (i := 14) rfl))) (notFace_of_selects (args := #[]) (mvT hZ (hw _ (List.mem_of_getElem? (i := 16) rfl)))) (mvT hZ (hw _ (List.mem_of_getElem? (i := 16) rfl))) (mvT hZ (hw _ (List.mem_of_getElem? (i := 15) rfl))) (by decide) (backOf (W := 0) (rm3 l Z a0 hw [] b1 qq fa pp cA5 nn (List.replicate 15 (.int (0 : Int32))) h87 n0 Z89 E89_0 g_b1 Fa87 Fb87 V89_0 ne_fa_b1.symm hq0 hq1) hZ (hw _ (List.mem_of_getElem? (i := 17) rfl)) (hw _ (List.mem_of_getElem? (i := 4) rfl)) (by decide) (by decide)) q103a q103c (g := (mkF m 100 #[.val (.int sz), .val (.int f1), .val (.int f2), .val (.int vl), .val (.int nn), .val (.ref fa), .val (.int pp), .val (.int qq), .val (.ref b1), .val (.int (1 : Int32))] [(.int qq), (.ref b1)])) rfl (by rw [hml]; rfl) (Steps.refl _) (argsL := [(.int qq)]) (rest := []) (lenOf pd_seek rfl) rfl (by show 2 * 0 + _ ≤ _; exact Nat.le_of_eq rfl) (hb hby at_100) (fun _ _ => ⟨rfl, heq98, (by decide : 2 + 0 ≤ _), (by decide : 17 + 0 ≤ _)⟩)
    dsimp only [Pt.U, Pt.locs, Pt.cells, Pt.slots] at X103 l103 y103 z103 st103 hQ103
    subst l103 y103 z103
    obtain ⟨rfl, Nq103, Kq103, Fa103, Fb103⟩ := hQ103
    have N103 := Fr.app N98 Nq103
    have pre104 : ∀ t, Steps p.tables e below (T103.setTop (mkF m 103 #[.val (.int sz), .val (.int f1), .val (.int f2), .val (.int vl), .val (.int nn), .val (.ref fa), .val (.int pp), .val (.int qq), .val (.ref b1), .val (.int (1 : Int32))] [])) t → Steps p.tables e below (s₁.setTop (entryFrame m #[(.int sz), (.int f1), (.int f2), (.int vl)] maxLocals)) t := fun t k => pre101 t (st103.trans k)
    obtain ⟨h103, e103⟩ : ∃ z, T103.heap = z := ⟨_, rfl⟩
    rw [e103] at Kq103 Fa103 Fb103
    have E105_0 : Exa Z h103 b1 "com/example/byteweave/byteweave/codec/ByteReader" := (E89_0.keep Kq103)
    have V105_0 : Arv Z h103 fa cA5 .byte nn (List.replicate 15 (.int (0 : Int32))) (.int (0 : Int32)) := (V89_0.keep Kq103 (ninS ne_fa_b1 nin0))
    have Z105 : n0 ≤ h103.size := (Nat.le_trans Z89 Kq103.1)
    have pre107 : ∀ t, Steps p.tables e below (T103.setTop (mkF m 110 #[.val (.int sz), .val (.int f1), .val (.int f2), .val (.int vl), .val (.int nn), .val (.ref fa), .val (.int pp), .val (.int qq), .val (.ref b1), .val (.int (1 : Int32))] [(.ref b1)])) t → Steps p.tables e below (s₁.setTop (entryFrame m #[(.int sz), (.int f1), (.int f2), (.int vl)] maxLocals)) t := by
      intro t k
      refine pre104 t ?_
      refine XS.iload X103.here hx rfl (hb hby at_103) rfl ?_
      show Steps p.tables e below (T103.setTop (mkF m 105 #[.val (.int sz), .val (.int f1), .val (.int f2), .val (.int vl), .val (.int nn), .val (.ref fa), .val (.int pp), .val (.int qq), .val (.ref b1), .val (.int (1 : Int32))] [(.int (1 : Int32))])) _
      refine XS.ifNo X103.here hx rfl (hb hby at_105) rfl (XT.i0_eq_f (by decide)) ?_
      show Steps p.tables e below (T103.setTop (mkF m 108 #[.val (.int sz), .val (.int f1), .val (.int f2), .val (.int vl), .val (.int nn), .val (.ref fa), .val (.int pp), .val (.int qq), .val (.ref b1), .val (.int (1 : Int32))] [])) _
      refine XS.aload X103.here hx rfl (hb hby at_108) rfl rfl ?_
      show Steps p.tables e below (T103.setTop (mkF m 110 #[.val (.int sz), .val (.int f1), .val (.int f2), .val (.int vl), .val (.int nn), .val (.ref fa), .val (.int pp), .val (.int qq), .val (.ref b1), .val (.int (1 : Int32))] [(.ref b1)])) _
      exact k
    obtain ⟨cq109, kq109, q109a, q109b, q109c⟩ := isOf hZ e103 E105_0
    obtain ⟨_, _, ⟨T109, L109, k109, n109⟩, -, X109, ⟨Lc109, hQ109, l109, y109, z109⟩, st109⟩ := X103.virtualBack hx (y := (⟨"com/example/byteweave/byteweave/codec/ByteReader", "position", "()I"⟩ : MethodName)) (z := (⟨"com/example/byteweave/byteweave/codec/ByteReader", "position", "()I"⟩ : MethodName)) hown (mvT hZ (hw _ (List.mem_of_getElem? (i := 20) rfl))) (mvT hZ (hw _ (List.mem_of_getElem? (i := 21) rfl))) (notFace_of_selects (args := #[]) (mvT hZ (hw _ (List.mem_of_getElem? (i := 23) rfl)))) (mvT hZ (hw _ (List.mem_of_getElem? (i := 23) rfl))) (mvT hZ (hw _ (List.mem_of_getElem? (i := 22) rfl))) (by decide) (backOf (W := 0) (rm4 l Z a0 hw [] b1 fa qq cA5 nn (List.replicate 15 (.int (0 : Int32))) h103 n0 Z105 E105_0 g_b1 Fa103 Fb103 V105_0 ne_fa_b1.symm) hZ (hw _ (List.mem_of_getElem? (i := 24) rfl)) (hw _ (List.mem_of_getElem? (i := 4) rfl)) (by decide) (by decide)) q109a q109c (g := (mkF m 110 #[.val (.int sz), .val (.int f1), .val (.int f2), .val (.int vl), .val (.int nn), .val (.ref fa), .val (.int pp), .val (.int qq), .val (.ref b1), .val (.int (1 : Int32))] [(.ref b1)])) rfl (by rw [hml]; rfl) (Steps.refl _) (argsL := []) (rest := []) (lenOf pd_i rfl) rfl (by show 2 * 0 + _ ≤ _; exact Nat.le_of_eq rfl) (hb hby at_110) (fun _ _ => ⟨rfl, e103, (by decide : 2 + 0 ≤ _), (by decide : 17 + 0 ≤ _)⟩)
    dsimp only [Pt.U, Pt.locs, Pt.cells, Pt.slots] at X109 l109 y109 z109 st109 hQ109
    subst l109 y109 z109
    obtain ⟨rfl, Nq109, heq109⟩ := hQ109
    have N109 := Fr.app N103 Nq109
    have pre110 : ∀ t, Steps p.tables e below (T109.setTop (mkF m 113 #[.val (.int sz), .val (.int f1), .val (.int f2), .val (.int vl), .val (.int nn), .val (.ref fa), .val (.int pp), .val (.int qq), .val (.ref b1), .val (.int (1 : Int32))] [(.int qq)])) t → Steps p.tables e below (s₁.setTop (entryFrame m #[(.int sz), (.int f1), (.int f2), (.int vl)] maxLocals)) t := fun t k => pre107 t (st109.trans k)
    have pre112 : ∀ t, Steps p.tables e below (T109.setTop (mkF m 120 #[.val (.int sz), .val (.int f1), .val (.int f2), .val (.int vl), .val (.int nn), .val (.ref fa), .val (.int pp), .val (.int qq), .val (.ref b1), .val (.int (1 : Int32))] [(.ref b1)])) t → Steps p.tables e below (s₁.setTop (entryFrame m #[(.int sz), (.int f1), (.int f2), (.int vl)] maxLocals)) t := by
      intro t k
      refine pre110 t ?_
      refine XS.iload X109.here hx rfl (hb hby at_113) rfl ?_
      show Steps p.tables e below (T109.setTop (mkF m 115 #[.val (.int sz), .val (.int f1), .val (.int f2), .val (.int vl), .val (.int nn), .val (.ref fa), .val (.int pp), .val (.int qq), .val (.ref b1), .val (.int (1 : Int32))] [(.int qq), (.int qq)])) _
      refine XS.icmpNo X109.here hx rfl (hb hby at_115) rfl (XT.ii_ne_f rfl) ?_
      show Steps p.tables e below (T109.setTop (mkF m 118 #[.val (.int sz), .val (.int f1), .val (.int f2), .val (.int vl), .val (.int nn), .val (.ref fa), .val (.int pp), .val (.int qq), .val (.ref b1), .val (.int (1 : Int32))] [])) _
      refine XS.aload X109.here hx rfl (hb hby at_118) rfl rfl ?_
      show Steps p.tables e below (T109.setTop (mkF m 120 #[.val (.int sz), .val (.int f1), .val (.int f2), .val (.int vl), .val (.int nn), .val (.ref fa), .val (.int pp), .val (.int qq), .val (.ref b1), .val (.int (1 : Int32))] [(.ref b1)])) _
      exact k
    obtain ⟨cq114, kq114, q114a, q114b, q114c⟩ := isOf hZ heq109 E105_0
    obtain ⟨_, _, ⟨T114, L114, k114, n114⟩, -, X114, ⟨Lc114, hQ114, l114, y114, z114⟩, st114⟩ := X109.virtualBack hx (y := (⟨"com/example/byteweave/byteweave/codec/ByteReader", "remaining", "()I"⟩ : MethodName)) (z := (⟨"com/example/byteweave/byteweave/codec/ByteReader", "remaining", "()I"⟩ : MethodName)) hown (mvT hZ (hw _ (List.mem_of_getElem? (i := 25) rfl))) (mvT hZ (hw _ (List.mem_of_getElem? (i := 26) rfl))) (notFace_of_selects (args := #[]) (mvT hZ (hw _ (List.mem_of_getElem? (i := 28) rfl)))) (mvT hZ (hw _ (List.mem_of_getElem? (i := 28) rfl))) (mvT hZ (hw _ (List.mem_of_getElem? (i := 27) rfl))) (by decide) (backOf (W := 0) (rm5 l Z a0 hw [] b1 fa qq cA5 nn (List.replicate 15 (.int (0 : Int32))) h103 n0 Z105 E105_0 g_b1 Fa103 Fb103 V105_0 ne_fa_b1.symm) hZ (hw _ (List.mem_of_getElem? (i := 29) rfl)) (hw _ (List.mem_of_getElem? (i := 4) rfl)) (by decide) (by decide)) q114a q114c (g := (mkF m 120 #[.val (.int sz), .val (.int f1), .val (.int f2), .val (.int vl), .val (.int nn), .val (.ref fa), .val (.int pp), .val (.int qq), .val (.ref b1), .val (.int (1 : Int32))] [(.ref b1)])) rfl (by rw [hml]; rfl) (Steps.refl _) (argsL := []) (rest := []) (lenOf pd_i rfl) rfl (by show 2 * 0 + _ ≤ _; exact Nat.le_of_eq rfl) (hb hby at_120) (fun _ _ => ⟨rfl, heq109, (by decide : 2 + 0 ≤ _), (by decide : 17 + 0 ≤ _)⟩)
    dsimp only [Pt.U, Pt.locs, Pt.cells, Pt.slots] at X114 l114 y114 z114 st114 hQ114
    subst l114 y114 z114
    obtain ⟨rfl, Nq114, heq114⟩ := hQ114
    have N114 := Fr.app N109 Nq114
    have pre115 : ∀ t, Steps p.tables e below (T114.setTop (mkF m 123 #[.val (.int sz), .val (.int f1), .val (.int f2), .val (.int vl), .val (.int nn), .val (.ref fa), .val (.int pp), .val (.int qq), .val (.ref b1), .val (.int (1 : Int32))] [(.int (nn - qq))])) t → Steps p.tables e below (s₁.setTop (entryFrame m #[(.int sz), (.int f1), (.int f2), (.int vl)] maxLocals)) t := fun t k => pre112 t (st114.trans k)
    have pre116 : ∀ t, Steps p.tables e below (T114.setTop (mkF m 184 #[.val (.int sz), .val (.int f1), .val (.int f2), .val (.int vl), .val (.int nn), .val (.ref fa), .val (.int pp), .val (.int qq), .val (.ref b1), .val (.int (1 : Int32))] [(.int (1 : Int32))])) t → Steps p.tables e below (s₁.setTop (entryFrame m #[(.int sz), (.int f1), (.int f2), (.int vl)] maxLocals)) t := by
      intro t k
      refine pre115 t ?_
      refine XS.iload X114.here hx rfl (hb hby at_123) rfl ?_
      show Steps p.tables e below (T114.setTop (mkF m 125 #[.val (.int sz), .val (.int f1), .val (.int f2), .val (.int vl), .val (.int nn), .val (.ref fa), .val (.int pp), .val (.int qq), .val (.ref b1), .val (.int (1 : Int32))] [(.int nn), (.int (nn - qq))])) _
      refine XS.iload X114.here hx rfl (hb hby at_125) rfl ?_
      show Steps p.tables e below (T114.setTop (mkF m 127 #[.val (.int sz), .val (.int f1), .val (.int f2), .val (.int vl), .val (.int nn), .val (.ref fa), .val (.int pp), .val (.int qq), .val (.ref b1), .val (.int (1 : Int32))] [(.int qq), (.int nn), (.int (nn - qq))])) _
      refine XS.isub X114.here hx rfl (hb hby at_127) rfl ?_
      show Steps p.tables e below (T114.setTop (mkF m 128 #[.val (.int sz), .val (.int f1), .val (.int f2), .val (.int vl), .val (.int nn), .val (.ref fa), .val (.int pp), .val (.int qq), .val (.ref b1), .val (.int (1 : Int32))] [(.int (nn - qq)), (.int (nn - qq))])) _
      refine XS.icmpNo X114.here hx rfl (hb hby at_128) rfl (XT.ii_ne_f rfl) ?_
      show Steps p.tables e below (T114.setTop (mkF m 131 #[.val (.int sz), .val (.int f1), .val (.int f2), .val (.int vl), .val (.int nn), .val (.ref fa), .val (.int pp), .val (.int qq), .val (.ref b1), .val (.int (1 : Int32))] [])) _
      refine XS.iconst X114.here hx rfl (hb hby at_131) ?_
      show Steps p.tables e below (T114.setTop (mkF m 132 #[.val (.int sz), .val (.int f1), .val (.int f2), .val (.int vl), .val (.int nn), .val (.ref fa), .val (.int pp), .val (.int qq), .val (.ref b1), .val (.int (1 : Int32))] [(.int (1 : Int32))])) _
      refine XS.goto X114.here hx rfl (pc0 := 132) (pc' := 136) rfl (hb hby at_132) (by decide) (by decide) ?_
      show Steps p.tables e below (T114.setTop (mkF m 136 #[.val (.int sz), .val (.int f1), .val (.int f2), .val (.int vl), .val (.int nn), .val (.ref fa), .val (.int pp), .val (.int qq), .val (.ref b1), .val (.int (1 : Int32))] [(.int (1 : Int32))])) _
      refine XS.istore X114.here hx rfl (hb hby at_136) rfl (l' := #[.val (.int sz), .val (.int f1), .val (.int f2), .val (.int vl), .val (.int nn), .val (.ref fa), .val (.int pp), .val (.int qq), .val (.ref b1), .val (.int (1 : Int32))]) rfl ?_
      show Steps p.tables e below (T114.setTop (mkF m 138 #[.val (.int sz), .val (.int f1), .val (.int f2), .val (.int vl), .val (.int nn), .val (.ref fa), .val (.int pp), .val (.int qq), .val (.ref b1), .val (.int (1 : Int32))] [])) _
      refine XS.iload X114.here hx rfl (hb hby at_138) rfl ?_
      show Steps p.tables e below (T114.setTop (mkF m 140 #[.val (.int sz), .val (.int f1), .val (.int f2), .val (.int vl), .val (.int nn), .val (.ref fa), .val (.int pp), .val (.int qq), .val (.ref b1), .val (.int (1 : Int32))] [(.int qq)])) _
      refine XS.iload X114.here hx rfl (hb hby at_140) rfl ?_
      show Steps p.tables e below (T114.setTop (mkF m 142 #[.val (.int sz), .val (.int f1), .val (.int f2), .val (.int vl), .val (.int nn), .val (.ref fa), .val (.int pp), .val (.int qq), .val (.ref b1), .val (.int (1 : Int32))] [(.int nn), (.int qq)])) _
      refine XS.icmpYes X114.here hx rfl (pc0 := 142) (pc' := 182) rfl (hb hby at_142) rfl (XT.ii_ge_t hlt) (by decide) (by decide) ?_
      show Steps p.tables e below (T114.setTop (mkF m 182 #[.val (.int sz), .val (.int f1), .val (.int f2), .val (.int vl), .val (.int nn), .val (.ref fa), .val (.int pp), .val (.int qq), .val (.ref b1), .val (.int (1 : Int32))] [])) _
      refine XS.iload X114.here hx rfl (hb hby at_182) rfl ?_
      show Steps p.tables e below (T114.setTop (mkF m 184 #[.val (.int sz), .val (.int f1), .val (.int f2), .val (.int vl), .val (.int nn), .val (.ref fa), .val (.int pp), .val (.int qq), .val (.ref b1), .val (.int (1 : Int32))] [(.int (1 : Int32))])) _
      exact k
    obtain ⟨fs, hr, hrun, hended, hW, hsame⟩ := X114.leave (v := some (.int (1 : Int32))) (fun h => by rw [Bd.returns] at h; cases h)
    refine ⟨_, _, pre116 _ ?_, hrun, hended, _, _, rfl, ?_, ⟨_, rfl⟩, hW, hsame.mono (by decide) (by decide)⟩
    · exact retOut X114 hx Bd.returns rfl (Or.inl ⟨rfl, by simp, _, rfl⟩) (hb hby at_184) hr
    · show Qlaw Z sz f1 f2 vl h0 n0 _ T114.heap _
      rw [heq114]
      exact ⟨rfl, N114⟩
set_option maxRecDepth 65536 in
set_option maxHeartbeats 40000000 in
theorem comes_1 {Post : Tables → Env → Array Value → State → Outcome → State → Prop} (hpost : ∀ tb e args s v u, (limb_1_1.after args s (.returned v) u = true ∧ limb_1_2.after args s (.returned v) u = true ∧ True) → FrameEnd s (.returned v) u (Jvm.fieldLocs frame_1_writes args s ++ Jvm.arrayLocs frame_1_arrays args s ++ Jvm.staticLocs frame_1_statics s) 16 128 → Post tb e args s (.returned v) u) :
    ArmFor flags0 classFile x code maxLocals ret World_1 tables_1 room_1 Calls_1 rest_1 Pre_1 Post := by
  intro l hfl _ _ p e ha hc hk s m args below hf hA hF happ hP
  obtain ⟨hcalls, hrest, hpre⟩ := hP
  obtain ⟨-, -, -, hnamed, -, -, -, hat⟩ := (Spec.applies_iff hf).mp happ
  obtain ⟨hg, hn⟩ := and_e (Cond.before_iff.mp (show (Jvm.Cond.and given_1 narrow_1).before args s = true from hpre))
  obtain ⟨gc, g0⟩ := and_e hg
  obtain ⟨w0, w1, w2, w3, rfl⟩ : ∃ w0 w1 w2 w3 : Value, args = #[w0, w1, w2, w3] := by
    have hs : args.size = 4 := by simpa [Cond.value, given_1] using gc
    obtain ⟨L⟩ := args
    match L, hs with
    | [w0, w1, w2, w3], _ => exact ⟨w0, w1, w2, w3, rfl⟩
  have hw := fun d (hd : d ∈ tables_1) => atoms_spec (ws := Jvm.Cond.code x code maxLocals ret :: tables_1) hat d (List.mem_cons_of_mem _ hd)
  have hfit : Fit s := fun {y c} hc i hi => by
    obtain ⟨ha, rfl⟩ := Array.getElem?_eq_some_iff.mp hc
    have q := List.all_eq_true.mp ((Array.all_eq_true_iff_forall_mem.mp hF) _ (Array.getElem_mem ha)) i (List.mem_range.mpr hi)
    simpa [Array.getElem?_eq_getElem hi] using q
  obtain ⟨ga0, gb0⟩ := and_e g0
  obtain ⟨i0, ei0⟩ := is_v ga0
  obtain rfl : w0 = (.int i0) := Option.some.inj ei0
  obtain ⟨ga1, gb1⟩ := and_e gb0
  obtain ⟨i1, ei1⟩ := is_v ga1
  obtain rfl : w1 = (.int i1) := Option.some.inj ei1
  obtain ⟨ga2, gb2⟩ := and_e gb1
  obtain ⟨i2, ei2⟩ := is_v ga2
  obtain rfl : w2 = (.int i2) := Option.some.inj ei2
  obtain ⟨i3, ei3⟩ := is_v gb2
  obtain rfl : w3 = (.int i3) := Option.some.inj ei3
  obtain ⟨n, o, h1, h2, h3, _, L, rfl, ⟨rfl, N⟩, hq⟩ := rmlaw l s _ hw tables_1 i0 i1 i2 i3 s.heap s.heap.size (Nat.le_refl _)  p e ha hc hk s m _ below hf ((Spec.applies_iff_loose hf).mp happ).1 ⟨rfl, State.Warmed39.refl s, rfl⟩ trivial
  refine ⟨n, _, h1, h2, h3, hpost _ _ _ _ _ _ ⟨Cond.after_iff.mpr rfl, Cond.after_iff.mpr (eq_i res_at (Term.int_eval (1)) rfl), trivial⟩ ⟨hq.1, hq.2.1, (hq.2.2.sift fun y hy => Or.inr (N y hy)).mono (by decide) (by decide)⟩⟩
theorem main_1_1 : Claimed_1_1 := comes_1 fun _ _ _ _ _ _ h hF => ⟨h.1, hF⟩
theorem main_1_2 : Claimed_1_2 := comes_1 fun _ _ _ _ _ _ h hF => ⟨h.2.1, hF⟩
end Jvm.Pilot.@@N@@
namespace Jvm.Pilot.@@N@@
open Jvm Jvm.ClassFile Sem Op Lib Jvm.Free Jvm.Stand Jvm.Pilot.@@N@@.Jvm.D
/-! MADE BY PROGRAM (witnessworld.py) out of the Statement's table words and the real class files: 9 classes; the members and pool entries that the words name. The judged class is class 1, her method 1. -/
namespace start1
open Jvm.ClassFile
def u (s : String) : CpInfo := .utf8 (stringToUtf16 s)
/-- a pool by its gaps: so many unusable entries, then the entry; so many at the end -/
def gap : Nat → List CpInfo → List CpInfo
  | 0, r => r
  | n + 1, r => .unusable :: gap n r
def poolList (es : List (Nat × CpInfo)) (last : Nat) : List CpInfo := es.foldr (fun e r => gap e.1 (e.2 :: r)) (gap last [])
def pool (es : List (Nat × CpInfo)) (last : Nat) : Array CpInfo := ⟨poolList es last⟩
def fileOf (pool : Array CpInfo) (this : Nat) (attrs : Array Attribute := #[]) (ms : Array MethodInfo := #[]) (fl : Nat := 33) (sup : Nat := 0) (ifs : Array Nat := #[]) (fds : Array FieldInfo := #[]) : ClassFile where
  minorVersion := 0
  majorVersion := 65
  constantPool := pool
  accessFlags := fl
  thisClass := this
  superClass := sup
  interfaces := ifs
  fields := fds
  methods := ms
  attributes := attrs
def plain (name : String) (sup : Option ClassId) : Class where
  name := name
  kind := .ordinary
  loader := none
  accessFlags := 33
  super := sup
  interfaces := #[]
  cf := none
  fields := #[]
  methods := #[]
  instanceTypes := #[]
  staticTypes := #[]
  resolved := #[]
  callSites := []
  init := .initialized
  statics := none
  mirror := none

def pool0 : Array CpInfo := pool [(5, u "<init>"), (0, u "()V"), (1, .class_ 10), (1, u "java/lang/Object")] 113

def k0c0 : Code := { maxStack := 0, maxLocals := 1, code := object_method_1_code, exceptionTable := #[], attributes := #[] }
def k0m0 : Method := { name := "<init>", desc := "()V", sig := { parameters := [], returnType := none }, accessFlags := 1, code := some k0c0 }
/-- java/lang/Object -/
def k0 : Class := { plain "java/lang/Object" none with
  accessFlags := 33
  interfaces := #[]
  cf := some (fileOf pool0 8 #[] #[{ accessFlags := 1, nameIndex := 5, descriptorIndex := 6, attributes := #[] }] 33 0 #[] #[])
  fields := #[]
  methods := #[k0m0]
  instanceTypes := #[]
  staticTypes := #[]
  resolved := Array.replicate 124 none
  statics := none }

def pool1 : Array CpInfo := pool [(2, .class_ 4), (1, u "java/lang/Object"), (0, u "<init>"), (0, u "()V"), (0, .integer 2147483647), (0, .class_ 9), (0, u "com/example/byteweave/byteweave/codec/ByteReader"), (0, .methodref 8 11), (0, .nameAndType 5 12), (0, u "([B)V"), (0, .methodref 8 14), (0, .nameAndType 15 16), (0, u "seek"), (0, u "(I)V"), (0, .methodref 8 18), (0, .nameAndType 19 20), (0, u "position"), (0, u "()I"), (0, .methodref 8 22), (0, .nameAndType 23 20), (0, u "remaining"), (0, .methodref 8 25), (0, .nameAndType 26 20), (0, u "readByte"), (0, .class_ 28), (0, u "com/example/byteweave/byteweave/codec/ByteReaderSeekPinLaw"), (2, u "law"), (0, u "(IIII)Z")] 8

def k1m0 : Method := { name := "<init>", desc := "()V", sig := { parameters := [], returnType := none }, accessFlags := 1, code := none }
def k1c1 : Code := { maxStack := 3, maxLocals := 10, code := code, exceptionTable := #[], attributes := #[] }
def k1m1 : Method := { name := "law", desc := "(IIII)Z", sig := { parameters := [.int, .int, .int, .int], returnType := some .boolean }, accessFlags := 9, code := some k1c1 }
/-- com/example/byteweave/byteweave/codec/ByteReaderSeekPinLaw -/
def k1 : Class := { plain "com/example/byteweave/byteweave/codec/ByteReaderSeekPinLaw" (some 0) with
  accessFlags := 49
  interfaces := #[]
  cf := some (fileOf pool1 27 #[] #[{ accessFlags := 1, nameIndex := 5, descriptorIndex := 6, attributes := #[] }, { accessFlags := 9, nameIndex := 31, descriptorIndex := 32, attributes := #[] }] 49 2 #[] #[])
  fields := #[]
  methods := #[k1m0, k1m1]
  instanceTypes := #[]
  staticTypes := #[]
  resolved := Array.replicate 41 none
  statics := none }

def pool2 : Array CpInfo := pool [(1, .methodref 2 3), (0, .class_ 4), (0, .nameAndType 5 6), (0, u "java/lang/Object"), (0, u "<init>"), (0, u "()V"), (0, .fieldref 8 9), (0, .class_ 10), (0, .nameAndType 11 12), (0, u "com/example/byteweave/byteweave/codec/ByteReader"), (0, u "bytes"), (0, u "[B"), (0, .fieldref 8 14), (0, .nameAndType 15 16), (0, u "position"), (0, u "I"), (12, .methodref 8 30), (0, .nameAndType 31 32), (0, u "require"), (0, u "(J)V"), (23, .methodref 8 57), (0, .nameAndType 58 59), (0, u "remaining"), (0, u "()I"), (19, u "([B)V"), (3, u "seek"), (0, u "(I)V"), (1, u "readByte")] 41

def k2c0 : Code := { maxStack := 2, maxLocals := 2, code := prog_4_method_1_code, exceptionTable := #[], attributes := #[] }
def k2m0 : Method := { name := "<init>", desc := "([B)V", sig := { parameters := [(.array .byte)], returnType := none }, accessFlags := 1, code := some k2c0 }
def k2c1 : Code := { maxStack := 1, maxLocals := 1, code := prog_4_method_2_code, exceptionTable := #[], attributes := #[] }
def k2m1 : Method := { name := "position", desc := "()I", sig := { parameters := [], returnType := some .int }, accessFlags := 1, code := some k2c1 }
def k2c2 : Code := { maxStack := 2, maxLocals := 1, code := prog_4_method_3_code, exceptionTable := #[], attributes := #[] }
def k2m2 : Method := { name := "remaining", desc := "()I", sig := { parameters := [], returnType := some .int }, accessFlags := 1, code := some k2c2 }
def k2c3 : Code := { maxStack := 5, maxLocals := 2, code := prog_4_method_5_code, exceptionTable := #[], attributes := #[] }
def k2m3 : Method := { name := "seek", desc := "(I)V", sig := { parameters := [.int], returnType := none }, accessFlags := 1, code := some k2c3 }
def k2c4 : Code := { maxStack := 5, maxLocals := 1, code := prog_4_method_6_code, exceptionTable := #[], attributes := #[] }
def k2m4 : Method := { name := "readByte", desc := "()I", sig := { parameters := [], returnType := some .int }, accessFlags := 1, code := some k2c4 }
def k2c5 : Code := { maxStack := 5, maxLocals := 3, code := prog_4_method_14_code, exceptionTable := #[], attributes := #[] }
def k2m5 : Method := { name := "require", desc := "(J)V", sig := { parameters := [.long], returnType := none }, accessFlags := 1, code := some k2c5 }
/-- com/example/byteweave/byteweave/codec/ByteReader -/
def k2 : Class := { plain "com/example/byteweave/byteweave/codec/ByteReader" (some 0) with
  accessFlags := 49
  interfaces := #[]
  cf := some (fileOf pool2 8 #[] #[{ accessFlags := 1, nameIndex := 5, descriptorIndex := 79, attributes := #[] }, { accessFlags := 1, nameIndex := 15, descriptorIndex := 59, attributes := #[] }, { accessFlags := 1, nameIndex := 58, descriptorIndex := 59, attributes := #[] }, { accessFlags := 1, nameIndex := 83, descriptorIndex := 84, attributes := #[] }, { accessFlags := 1, nameIndex := 86, descriptorIndex := 59, attributes := #[] }, { accessFlags := 1, nameIndex := 31, descriptorIndex := 32, attributes := #[] }] 49 2 #[] #[{ accessFlags := 18, nameIndex := 11, descriptorIndex := 12, attributes := #[] }, { accessFlags := 2, nameIndex := 15, descriptorIndex := 16, attributes := #[] }])
  fields := #[{ name := "bytes", type := (.array .byte), accessFlags := 18, slot := 0, constantValue := 0 }, { name := "position", type := .int, accessFlags := 2, slot := 1, constantValue := 0 }]
  methods := #[k2m0, k2m1, k2m2, k2m3, k2m4, k2m5]
  instanceTypes := #[(.array .byte), .int]
  staticTypes := #[]
  resolved := Array.replicate 128 none
  statics := none }

def pool3 : Array CpInfo := pool [(1, u "java/lang/Cloneable"), (0, .class_ 1), (0, u "java/lang/Object"), (0, .class_ 3)] 3

/-- java/lang/Cloneable -/
def k3 : Class := { plain "java/lang/Cloneable" (some 0) with
  accessFlags := 1537
  interfaces := #[]
  cf := some (fileOf pool3 2 #[] #[] 1537 4 #[] #[])
  fields := #[]
  methods := #[]
  instanceTypes := #[]
  staticTypes := #[]
  resolved := Array.replicate 8 none
  statics := none }

def pool4 : Array CpInfo := pool [(1, u "java/io/Serializable"), (0, .class_ 1), (0, u "java/lang/Object"), (0, .class_ 3)] 3

/-- java/io/Serializable -/
def k4 : Class := { plain "java/io/Serializable" (some 0) with
  accessFlags := 1537
  interfaces := #[]
  cf := some (fileOf pool4 2 #[] #[] 1537 4 #[] #[])
  fields := #[]
  methods := #[]
  instanceTypes := #[]
  staticTypes := #[]
  resolved := Array.replicate 8 none
  statics := none }

/-- the primitive byte -/
def k5 : Class := { plain "byte" none with kind := .primitive 'B', accessFlags := 0x411 }
/-- [B -/
def k6 : Class := { plain "[B" (some 0) with kind := .array 5 .byte, interfaces := #[3, 4], accessFlags := 1041 }

/-- the primitive int -/
def k7 : Class := { plain "int" none with kind := .primitive 'I', accessFlags := 0x411 }
/-- [I -/
def k8 : Class := { plain "[I" (some 0) with kind := .array 7 .int, interfaces := #[3, 4], accessFlags := 1041 }

def heap : Heap := #[]
def classes : Array Class := #[k0, k1, k2, k3, k4, k5, k6, k7, k8]
def interned : List (Array UInt16 × Addr) := []
def slotsUsed : Nat := 0
def theMethod : MethodId := ⟨1, 1⟩
def args0 : Array Value := #[.int 5, .int 2, .int 3, .int 4]
def aboutOver (below : List Frame) : State where
  vm := { classes := classes, interned := interned.toArray }
  heap := heap
  slotsUsed := slotsUsed
  threads := #[{ frames := .invoking theMethod args0 :: below }]
def below0 : List Frame := [.native { method := ⟨0, 0⟩, args := #[] }]
def about1 : State := aboutOver below0
def p0 : Program := .bare "" "" ""
def e0 : Env := launch0.env 0 0 0
theorem w_frames : about1.frames = Frame.invoking theMethod args0 :: below0 := rfl
set_option maxRecDepth 65536 in
theorem w_args : argsFit about1.vm theMethod args0 = true := by decide +kernel
set_option maxRecDepth 65536 in
theorem w_heap : heapFits about1 = true := by decide +kernel
set_option maxRecDepth 65536 in
theorem w_runnable : about1.curStatus? = some .runnable := by decide +kernel
set_option maxRecDepth 65536 in
theorem w_alone : about1.alone = true := by decide +kernel
set_option maxRecDepth 65536 in
theorem w_named : about1.methodNamed? x = some theMethod := by decide +kernel
set_option maxRecDepth 65536 in
theorem w_hears : about1.hears theMethod below0 = true := by decide +kernel
set_option maxRecDepth 65536 in
theorem w_ripe : about1.ripe theMethod args0 below0 = true := by decide +kernel
theorem w_running : about1.status = .running := rfl
set_option maxRecDepth 65536 in
theorem w_room : about1.hasRoom e0.platform room_1 = true :=
  launch0.hasRoom_least _ room_1 (by decide +kernel) (by decide +kernel) (by decide +kernel) (by decide +kernel) (by decide +kernel) (by decide +kernel)
theorem allAtoms_all (ts : List Jvm.Cond) (a : Array Jvm.Value) (st : Jvm.State) : (allAtoms ts).before a st = ts.all (fun c => c.before a st) := by
  induction ts with
  | nil => rfl
  | cons c t ih =>
    show (Jvm.Cond.and c (allAtoms t)).before a st = _
    rw [Jvm.Cond.before_and, ih, List.all_cons]
def words1 : List Jvm.Cond := Jvm.Cond.code x code maxLocals ret :: tables_1
/-- a 'code' word, met by the world's own term for the bytes: nothing is compared byte by byte -/
theorem code_word {y : MethodName} {bytes : ByteArray} {mx : Nat} {rt : Option FieldType} {a : Array Value} {s : State} {m : MethodId} {meth : Method} {c : Code} (h1 : s.methodNamed? y = some m) (h2 : s.vm.method? m = some meth) (h3 : meth.code = some c) (h4 : c.code = bytes)
    (h5 : (c.maxLocals == mx && c.exceptionTable.isEmpty && decide (c.maxStack ≤ mostOperands) && decide (meth.sig.returnType = rt) && !meth.locks && decide (parseMethodDescriptor y.desc = some meth.sig)) = true) : (Jvm.Cond.code y bytes mx rt).before a s = true := by
  simp only [Bool.and_eq_true, beq_iff_eq, Bool.not_eq_true', decide_eq_true_eq] at h5
  obtain ⟨⟨⟨⟨⟨g1, g2⟩, g3⟩, g4⟩, g5⟩, g6⟩ := h5
  simp [Cond.before, Cond.holds, Cond.value, h1, h2, h3, h4, g1, g2, g3, g4, g5, g6]
def isCode : Jvm.Cond → Bool
  | .code _ _ _ _ => true
  | _ => false
theorem all_split {L : List Jvm.Cond} {P : Jvm.Cond → Bool} (h1 : L.all (fun c => isCode c || P c) = true) (h2 : ∀ c ∈ L.filter isCode, P c = true) : L.all P = true := by
  refine List.all_eq_true.mpr fun c hc => ?_
  have h := List.all_eq_true.mp h1 c hc
  rcases Bool.eq_false_or_eq_true (isCode c) with hi | hi
  · exact h2 c (List.mem_filter.mpr ⟨hc, hi⟩)
  · simpa [hi] using h
set_option maxRecDepth 65536 in
theorem w_c0 : (Jvm.Cond.code x code maxLocals ret).before args0 about1 = true := code_word (m := ⟨1, 1⟩) (meth := k1m1) (c := k1c1) (by decide +kernel) rfl rfl rfl (by decide +kernel)
set_option maxRecDepth 65536 in
theorem w_c1 : (Jvm.Cond.code ({ cls := "com/example/byteweave/byteweave/codec/ByteReader", name := "<init>", desc := "([B)V" } : Jvm.MethodName) prog_4_method_1_code (2 : Nat) (Option.none : Option Jvm.ClassFile.FieldType)).before args0 about1 = true := code_word (m := ⟨2, 0⟩) (meth := k2m0) (c := k2c0) (by decide +kernel) rfl rfl rfl (by decide +kernel)
set_option maxRecDepth 65536 in
theorem w_c2 : (Jvm.Cond.code ({ cls := "java/lang/Object", name := "<init>", desc := "()V" } : Jvm.MethodName) object_method_1_code (1 : Nat) (Option.none : Option Jvm.ClassFile.FieldType)).before args0 about1 = true := code_word (m := ⟨0, 0⟩) (meth := k0m0) (c := k0c0) (by decide +kernel) rfl rfl rfl (by decide +kernel)
set_option maxRecDepth 65536 in
theorem w_c3 : (Jvm.Cond.code ({ cls := "com/example/byteweave/byteweave/codec/ByteReader", name := "seek", desc := "(I)V" } : Jvm.MethodName) prog_4_method_5_code (2 : Nat) (Option.none : Option Jvm.ClassFile.FieldType)).before args0 about1 = true := code_word (m := ⟨2, 3⟩) (meth := k2m3) (c := k2c3) (by decide +kernel) rfl rfl rfl (by decide +kernel)
set_option maxRecDepth 65536 in
theorem w_c4 : (Jvm.Cond.code ({ cls := "com/example/byteweave/byteweave/codec/ByteReader", name := "position", desc := "()I" } : Jvm.MethodName) prog_4_method_2_code (1 : Nat) (Option.some Jvm.ClassFile.FieldType.int)).before args0 about1 = true := code_word (m := ⟨2, 1⟩) (meth := k2m1) (c := k2c1) (by decide +kernel) rfl rfl rfl (by decide +kernel)
set_option maxRecDepth 65536 in
theorem w_c5 : (Jvm.Cond.code ({ cls := "com/example/byteweave/byteweave/codec/ByteReader", name := "remaining", desc := "()I" } : Jvm.MethodName) prog_4_method_3_code (1 : Nat) (Option.some Jvm.ClassFile.FieldType.int)).before args0 about1 = true := code_word (m := ⟨2, 2⟩) (meth := k2m2) (c := k2c2) (by decide +kernel) rfl rfl rfl (by decide +kernel)
set_option maxRecDepth 65536 in
theorem w_c6 : (Jvm.Cond.code ({ cls := "com/example/byteweave/byteweave/codec/ByteReader", name := "readByte", desc := "()I" } : Jvm.MethodName) prog_4_method_6_code (1 : Nat) (Option.some Jvm.ClassFile.FieldType.int)).before args0 about1 = true := code_word (m := ⟨2, 4⟩) (meth := k2m4) (c := k2c4) (by decide +kernel) rfl rfl rfl (by decide +kernel)
set_option maxRecDepth 65536 in
theorem w_c7 : (Jvm.Cond.code ({ cls := "com/example/byteweave/byteweave/codec/ByteReader", name := "require", desc := "(J)V" } : Jvm.MethodName) prog_4_method_14_code (3 : Nat) (Option.none : Option Jvm.ClassFile.FieldType)).before args0 about1 = true := code_word (m := ⟨2, 5⟩) (meth := k2m5) (c := k2c5) (by decide +kernel) rfl rfl rfl (by decide +kernel)
def codes1 : List Jvm.Cond := [Jvm.Cond.code x code maxLocals ret, Jvm.Cond.code ({ cls := "com/example/byteweave/byteweave/codec/ByteReader", name := "<init>", desc := "([B)V" } : Jvm.MethodName) prog_4_method_1_code (2 : Nat) (Option.none : Option Jvm.ClassFile.FieldType), Jvm.Cond.code ({ cls := "java/lang/Object", name := "<init>", desc := "()V" } : Jvm.MethodName) object_method_1_code (1 : Nat) (Option.none : Option Jvm.ClassFile.FieldType), Jvm.Cond.code ({ cls := "com/example/byteweave/byteweave/codec/ByteReader", name := "seek", desc := "(I)V" } : Jvm.MethodName) prog_4_method_5_code (2 : Nat) (Option.none : Option Jvm.ClassFile.FieldType), Jvm.Cond.code ({ cls := "com/example/byteweave/byteweave/codec/ByteReader", name := "position", desc := "()I" } : Jvm.MethodName) prog_4_method_2_code (1 : Nat) (Option.some Jvm.ClassFile.FieldType.int), Jvm.Cond.code ({ cls := "com/example/byteweave/byteweave/codec/ByteReader", name := "remaining", desc := "()I" } : Jvm.MethodName) prog_4_method_3_code (1 : Nat) (Option.some Jvm.ClassFile.FieldType.int), Jvm.Cond.code ({ cls := "com/example/byteweave/byteweave/codec/ByteReader", name := "readByte", desc := "()I" } : Jvm.MethodName) prog_4_method_6_code (1 : Nat) (Option.some Jvm.ClassFile.FieldType.int), Jvm.Cond.code ({ cls := "com/example/byteweave/byteweave/codec/ByteReader", name := "require", desc := "(J)V" } : Jvm.MethodName) prog_4_method_14_code (3 : Nat) (Option.none : Option Jvm.ClassFile.FieldType)]
set_option maxRecDepth 65536 in
theorem codes_eq : words1.filter isCode = codes1 := rfl
theorem w_codes : ∀ c ∈ words1.filter isCode, c.before args0 about1 = true := by
  rw [codes_eq]
  intro c hc
  simp only [codes1, List.mem_cons, List.not_mem_nil, or_false] at hc
  rcases hc with rfl | rfl | rfl | rfl | rfl | rfl | rfl | rfl
  · exact w_c0
  · exact w_c1
  · exact w_c2
  · exact w_c3
  · exact w_c4
  · exact w_c5
  · exact w_c6
  · exact w_c7
set_option maxRecDepth 65536 in
theorem w_t1 : (words1.take 24).all (fun c => isCode c || c.before args0 about1) = true := by decide +kernel
set_option maxRecDepth 65536 in
theorem w_t2 : (words1.drop 24).all (fun c => isCode c || c.before args0 about1) = true := by decide +kernel
theorem w_tables : (allAtoms (Jvm.Cond.code x code maxLocals ret :: tables_1)).before args0 about1 = true := by
  rw [allAtoms_all]
  show words1.all (fun c => c.before args0 about1) = true
  refine all_split ?_ w_codes
  rw [← List.take_append_drop 24 words1, List.all_append, w_t1, w_t2]
  rfl
set_option maxRecDepth 65536 in
theorem w_case : (Jvm.Cond.and given_1 narrow_1).before args0 about1 = true := by decide +kernel
theorem w_applies : (headSpec (Jvm.Cond.code x code maxLocals ret :: tables_1) room_1).applies x e0.platform about1 = true :=
  (Spec.applies_iff w_frames).mpr ⟨w_running, w_runnable, w_alone, w_named, w_hears, w_ripe, w_room, w_tables⟩
theorem atStart : AtStart classFile x code maxLocals ret World_1 tables_1 room_1 Calls_1 rest_1 Pre_1 launch0 p0 e0 about1 theMethod args0 below0 :=
  ⟨lists_1, trivial, launch0.admits_env _ _ _, launch0.least_env, fairChoices_fair.cas, fairChoices_fair.clock, w_frames, w_args, w_heap, w_applies, trivial, trivial, w_case⟩
end start1
theorem witness_1 : WitnessClaimed_1 := ⟨start1.p0, start1.e0, start1.about1, start1.theMethod, start1.args0, start1.below0, start1.atStart⟩
end Jvm.Pilot.@@N@@
