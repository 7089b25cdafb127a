import JvmDerived
import JvmDerived.Pilot.@@N@@Statement
import JvmDerived.Pilot.@@N@@Code
set_option linter.unusedVariables false
set_option linter.unusedSimpArgs false
namespace Jvm.Pilot.@@N@@
open Jvm Jvm.ClassFile Sem Op Lib Jvm.Free Jvm.Stand Jvm.LawKit Jvm.RoadKit Bundle Jvm.Pilot.@@N@@.Jvm.D
def own_bi (P : Prop) [Decidable P] : Int32 := if P then 1 else 0
theorem own_bi_t {P : Prop} [Decidable P] (h : P) : own_bi P = 1 := if_pos h
theorem own_bi_f {P : Prop} [Decidable P] (h : ¬ P) : own_bi P = 0 := if_neg h
theorem own_bi_01 (P : Prop) [Decidable P] : own_bi P = 0 ∨ own_bi P = 1 := by by_cases h : P <;> simp [own_bi, h]
theorem own_bi_eq {P Q : Prop} [Decidable P] [Decidable Q] (h : P ↔ Q) : own_bi P = own_bi Q := by by_cases q : P <;> simp [own_bi, q, ← h]
theorem own_bi_iff (P : Prop) [Decidable P] : own_bi P = 1 ↔ P := by by_cases q : P <;> simp [own_bi, q]
theorem own_bi_ne (P : Prop) [Decidable P] : own_bi P = 0 ↔ ¬ P := by by_cases q : P <;> simp [own_bi, q]
theorem own_ofNat {n : Nat} (h : n < 2147483648) : (Int32.ofNat n).toInt = (n : Int) := len_toInt h
theorem own_narZ {z : Int32} (h : z = 0 ∨ z = 1) : narrow .boolean (.int z) = .int z := by rcases h with rfl | rfl <;> rfl
theorem own_eqI {args : Array Value} {s : State} {t : Term} {n : Int32} (h : (Jvm.Cond.eq t (Term.int n)).value args s none s [] = some true) : t.eval args s none [] s = some (.int n) := by
  obtain ⟨x, y, hx, hy, k1, k2⟩ := cmp_v (Or.inl h)
  cases Option.some.inj (hy.symm.trans (show (Term.int n).eval args s none [] s = some (.int n) from rfl))
  obtain ⟨z, rfl⟩ := k2
  have q : z = n := by simpa [Cond.value, hx, hy] using h
  rw [hx, q]
theorem own_eqJ {args : Array Value} {s : State} {t : Term} {n : Int64} (h : (Jvm.Cond.eq t (Term.long n)).value args s none s [] = some true) : t.eval args s none [] s = some (.long n) := by
  obtain ⟨x, y, hx, hy, k1, k2⟩ := cmp_v (Or.inl h)
  cases Option.some.inj (hy.symm.trans (show (Term.long n).eval args s none [] s = some (.long n) from rfl))
  obtain ⟨z, rfl⟩ := k2
  have q : z = n := by simpa [Cond.value, hx, hy] using h
  rw [hx, q]
theorem own_ten {x i : Int32} (h : i = (x &&& (2147483647 : Int32)) % (10 : Int32)) : i = 0 ∨ i = 1 ∨ i = 2 ∨ i = 3 ∨ i = 4 ∨ i = 5 ∨ i = 6 ∨ i = 7 ∨ i = 8 ∨ i = 9 := by
  have h1 := c_mask x 2147483647 31 (by decide) (by decide)
  have h2 := (c_irem (x &&& (2147483647 : Int32)) 10 10 rfl).1 (by omega)
  rw [← h] at h2
  have h3 : 0 ≤ i.toInt ∧ i.toInt < 10 := by omega
  simp only [← Int32.toInt_inj]
  show i.toInt = 0 ∨ i.toInt = 1 ∨ i.toInt = 2 ∨ i.toInt = 3 ∨ i.toInt = 4 ∨ i.toInt = 5 ∨ i.toInt = 6 ∨ i.toInt = 7 ∨ i.toInt = 8 ∨ i.toInt = 9
  omega
theorem pn_1 : plainName "com/example/okra/okra/ValueType" = true := by first | (simp [plainName, overriddenIn]; done) | decide +kernel
theorem d1_0 : decode prog_14_method_5_code 0 = .ok (.aload_n 0, 1) := by decide +kernel
theorem d1_1 : decode prog_14_method_5_code 1 = .ok (.getstatic 13, 3) := by decide +kernel
theorem d1_4 : decode prog_14_method_5_code 4 = .ok (.if_acmp .eq 17, 3) := by decide +kernel
theorem d1_7 : decode prog_14_method_5_code 7 = .ok (.aload_n 0, 1) := by decide +kernel
theorem d1_8 : decode prog_14_method_5_code 8 = .ok (.getstatic 16, 3) := by decide +kernel
theorem d1_11 : decode prog_14_method_5_code 11 = .ok (.if_acmp .eq 10, 3) := by decide +kernel
theorem d1_14 : decode prog_14_method_5_code 14 = .ok (.aload_n 0, 1) := by decide +kernel
theorem d1_15 : decode prog_14_method_5_code 15 = .ok (.getstatic 25, 3) := by decide +kernel
theorem d1_18 : decode prog_14_method_5_code 18 = .ok (.if_acmp .ne 7, 3) := by decide +kernel
theorem d1_21 : decode prog_14_method_5_code 21 = .ok (.iconst 1, 1) := by decide +kernel
theorem d1_22 : decode prog_14_method_5_code 22 = .ok (.goto 4, 3) := by decide +kernel
theorem d1_25 : decode prog_14_method_5_code 25 = .ok (.iconst 0, 1) := by decide +kernel
theorem d1_26 : decode prog_14_method_5_code 26 = .ok (.ireturn, 1) := by decide +kernel
theorem ef_1 (m : MethodId) (a1 : Addr) : entryFrame m #[(.ref a1)] 1 = mkF m 0 #[.val (.ref a1)] [] := by first | (simp [entryFrame, mkF, argsToLocals, Value.category]; done) | rfl
def Q1 (Z : State) (a1 : Addr) (k_INTEGER : Addr) (k_STRING : Addr) (k_BLOB : Addr) (h0 : Heap) (n0 : Nat) (v : Option Value) (h : Heap) (L : List Loc) : Prop := v = some (.int (own_bi ((.ref a1 : Value) = .ref k_INTEGER ∨ (.ref a1 : Value) = .ref k_STRING ∨ (.ref a1 : Value) = .ref k_BLOB))) ∧ Fr n0 L ∧ h = h0
set_option maxRecDepth 65536 in
set_option maxHeartbeats 40000000 in
theorem rm1 (l : Launch) (Z : State) (a0 : Array Value) (hw : ∀ d ∈ tables_1, d.before a0 Z = true) (ws : List Jvm.Cond) (a1 : Addr) (k_INTEGER : Addr) (k_STRING : Addr) (k_BLOB : Addr) (h0 : Heap) (n0 : Nat) (Z0 : n0 ≤ h0.size) (S_INTEGER : Sta Z h0 "com/example/okra/okra/ValueType" "INTEGER" "Lcom/example/okra/okra/ValueType;" (.ref k_INTEGER)) (S_STRING : Sta Z h0 "com/example/okra/okra/ValueType" "STRING" "Lcom/example/okra/okra/ValueType;" (.ref k_STRING)) (S_BLOB : Sta Z h0 "com/example/okra/okra/ValueType" "BLOB" "Lcom/example/okra/okra/ValueType;" (.ref k_BLOB)) :
    MetFree l (⟨"com/example/okra/okra/ValueType", "isMapKey", "()Z"⟩ : MethodName) (head1 (Jvm.Cond.code (⟨"com/example/okra/okra/ValueType", "isMapKey", "()Z"⟩ : MethodName) prog_14_method_5_code 1 (some .boolean) :: ws) ({ frames := 0, cells := 0, slots := 0, locals := 0 } : Room)) (fun a U => a = #[(.ref a1)] ∧ Z.Warmed39 U.vm ∧ U.heap = h0) (fun _ _ _ _ _ => True) (fun _ U o U' => ∃ v L, o = .returned v ∧ Q1 Z a1 k_INTEGER k_STRING k_BLOB h0 n0 v U'.heap L ∧ FrameEnd U o U' L ({ frames := 0, cells := 0, slots := 0, locals := 0 } : Room).cells ({ frames := 0, cells := 0, slots := 0, locals := 0 } : Room).slots) := by
  refine MetFree.of_bodySF (plainFor_of_name pn_1) hisR ?_
  intro p e s m args below meth c s₁ Bd hml0 hP hK
  obtain ⟨rfl, hZ, hh⟩ := hP
  have hx := Bd.exec
  have hby := Bd.bytes
  have hml : c.maxLocals = 1 := hml0
  have hown : s.vm.findClass "com/example/okra/okra/ValueType" = some m.cls := findClass_of_methodNamed Bd.named
  have hnm := (name_of_methodNamed Bd.named Bd.method).1
  have X0 : Stand p l e ({ frames := 0, cells := 0, slots := 0, locals := 0 } : Room) s m #[(.ref a1)] below meth c s₁ [] 0 0 := Stand.of_body Bd
  have e0 : s₁.heap = h0 := by rw [← hh, Bd.state]; rfl
  have N0 := Fr.nil n0
  have pre0 : ∀ t, Steps p.tables e below (s₁.setTop (mkF m 0 #[.val (.ref a1)] [])) t → Steps p.tables e below (s₁.setTop (entryFrame m #[(.ref a1)] 1)) t := fun t k => castTop (ef_1 m a1) k
  have mrg1 : ∃ (b : Int32) (T1 : State) (Lo1 : List Loc), Stand p l e ({ frames := 0, cells := 0, slots := 0, locals := 0 } : Room) s m #[(.ref a1)] below meth c T1 Lo1 0 0 ∧ Fr n0 Lo1 ∧ T1.heap = h0 ∧ (b = own_bi ((.ref a1 : Value) = .ref k_INTEGER ∨ (.ref a1 : Value) = .ref k_STRING ∨ (.ref a1 : Value) = .ref k_BLOB)) ∧ ∀ t, Steps p.tables e below (T1.setTop (mkF m 26 #[.val (.ref a1)] [(.int b)])) t → Steps p.tables e below (s₁.setTop (entryFrame m #[(.ref a1)] 1)) t := by
    have pre3 : ∀ t, Steps p.tables e below (s₁.setTop (mkF m 1 #[.val (.ref a1)] [(.ref a1)])) t → Steps p.tables e below (s₁.setTop (entryFrame m #[(.ref a1)] 1)) t := by
      intro t k
      refine pre0 t ?_
      refine XS.aloadN X0.here hx rfl (hb hby d1_0) rfl rfl ?_
      show Steps p.tables e below (s₁.setTop (mkF m 1 #[.val (.ref a1)] [(.ref a1)])) _
      exact k
    obtain ⟨T4, X4, e4, st4⟩ := getS (host := "") X0 hx hZ hown (hw _ (List.mem_of_getElem? (i := 31) rfl)) Via.refl e0 S_INTEGER (g := (mkF m 1 #[.val (.ref a1)] [(.ref a1)])) rfl (hb hby d1_1)
    have pre5 : ∀ t, Steps p.tables e below (T4.setTop (mkF m 4 #[.val (.ref a1)] [(.ref k_INTEGER), (.ref a1)])) t → Steps p.tables e below (s₁.setTop (entryFrame m #[(.ref a1)] 1)) t := fun t k => pre3 t (st4 t k)
    by_cases hc4 : ((.ref a1) : Value) = (.ref k_INTEGER)
    · skip
      have pre6 : ∀ t, Steps p.tables e below (T4.setTop (mkF m 26 #[.val (.ref a1)] [(.int (1 : Int32))])) t → Steps p.tables e below (s₁.setTop (entryFrame m #[(.ref a1)] 1)) t := by
        intro t k
        refine pre5 t ?_
        refine XT.acmpYes X4.here hx rfl (pc0 := 4) (pc' := 21) rfl (hb hby d1_4) rfl rfl rfl (XT.aa_eq_t hc4) (by decide) (by decide) ?_
        show Steps p.tables e below (T4.setTop (mkF m 21 #[.val (.ref a1)] [])) _
        refine XS.iconst X4.here hx rfl (hb hby d1_21) ?_
        show Steps p.tables e below (T4.setTop (mkF m 22 #[.val (.ref a1)] [(.int (1 : Int32))])) _
        refine XS.goto X4.here hx rfl (pc0 := 22) (pc' := 26) rfl (hb hby d1_22) (by decide) (by decide) ?_
        show Steps p.tables e below (T4.setTop (mkF m 26 #[.val (.ref a1)] [(.int (1 : Int32))])) _
        exact k
      exact ⟨(1 : Int32), _, _, X4, N0, e4, (by first | exact (own_bi_t hc4).symm | exact (own_bi_f hc4).symm | (simp [own_bi, hc4]; done) | contradiction), pre6⟩
    · skip
      have pre8 : ∀ t, Steps p.tables e below (T4.setTop (mkF m 8 #[.val (.ref a1)] [(.ref a1)])) t → Steps p.tables e below (s₁.setTop (entryFrame m #[(.ref a1)] 1)) t := by
        intro t k
        refine pre5 t ?_
        refine XT.acmpNo X4.here hx rfl (hb hby d1_4) rfl rfl rfl (XT.aa_eq_f hc4) ?_
        show Steps p.tables e below (T4.setTop (mkF m 7 #[.val (.ref a1)] [])) _
        refine XS.aloadN X4.here hx rfl (hb hby d1_7) rfl rfl ?_
        show Steps p.tables e below (T4.setTop (mkF m 8 #[.val (.ref a1)] [(.ref a1)])) _
        exact k
      obtain ⟨T9, X9, e9, st9⟩ := getS (host := "") X4 hx hZ hown (hw _ (List.mem_of_getElem? (i := 32) rfl)) Via.refl e4 S_STRING (g := (mkF m 8 #[.val (.ref a1)] [(.ref a1)])) rfl (hb hby d1_8)
      have pre10 : ∀ t, Steps p.tables e below (T9.setTop (mkF m 11 #[.val (.ref a1)] [(.ref k_STRING), (.ref a1)])) t → Steps p.tables e below (s₁.setTop (entryFrame m #[(.ref a1)] 1)) t := fun t k => pre8 t (st9 t k)
      by_cases hc11 : ((.ref a1) : Value) = (.ref k_STRING)
      · skip
        have pre11 : ∀ t, Steps p.tables e below (T9.setTop (mkF m 26 #[.val (.ref a1)] [(.int (1 : Int32))])) t → Steps p.tables e below (s₁.setTop (entryFrame m #[(.ref a1)] 1)) t := by
          intro t k
          refine pre10 t ?_
          refine XT.acmpYes X9.here hx rfl (pc0 := 11) (pc' := 21) rfl (hb hby d1_11) rfl rfl rfl (XT.aa_eq_t hc11) (by decide) (by decide) ?_
          show Steps p.tables e below (T9.setTop (mkF m 21 #[.val (.ref a1)] [])) _
          refine XS.iconst X9.here hx rfl (hb hby d1_21) ?_
          show Steps p.tables e below (T9.setTop (mkF m 22 #[.val (.ref a1)] [(.int (1 : Int32))])) _
          refine XS.goto X9.here hx rfl (pc0 := 22) (pc' := 26) rfl (hb hby d1_22) (by decide) (by decide) ?_
          show Steps p.tables e below (T9.setTop (mkF m 26 #[.val (.ref a1)] [(.int (1 : Int32))])) _
          exact k
        exact ⟨(1 : Int32), _, _, X9, N0, e9, (by first | exact (own_bi_t hc11).symm | exact (own_bi_f hc11).symm | (simp [own_bi, hc4, hc11]; done) | contradiction), pre11⟩
      · skip
        have pre13 : ∀ t, Steps p.tables e below (T9.setTop (mkF m 15 #[.val (.ref a1)] [(.ref a1)])) t → Steps p.tables e below (s₁.setTop (entryFrame m #[(.ref a1)] 1)) t := by
          intro t k
          refine pre10 t ?_
          refine XT.acmpNo X9.here hx rfl (hb hby d1_11) rfl rfl rfl (XT.aa_eq_f hc11) ?_
          show Steps p.tables e below (T9.setTop (mkF m 14 #[.val (.ref a1)] [])) _
          refine XS.aloadN X9.here hx rfl (hb hby d1_14) rfl rfl ?_
          show Steps p.tables e below (T9.setTop (mkF m 15 #[.val (.ref a1)] [(.ref a1)])) _
          exact k
        obtain ⟨T14, X14, e14, st14⟩ := getS (host := "") X9 hx hZ hown (hw _ (List.mem_of_getElem? (i := 33) rfl)) Via.refl e9 S_BLOB (g := (mkF m 15 #[.val (.ref a1)] [(.ref a1)])) rfl (hb hby d1_15)
        have pre15 : ∀ t, Steps p.tables e below (T14.setTop (mkF m 18 #[.val (.ref a1)] [(.ref k_BLOB), (.ref a1)])) t → Steps p.tables e below (s₁.setTop (entryFrame m #[(.ref a1)] 1)) t := fun t k => pre13 t (st14 t k)
        by_cases hc18 : ((.ref a1) : Value) = (.ref k_BLOB)
        · skip
          have pre16 : ∀ t, Steps p.tables e below (T14.setTop (mkF m 26 #[.val (.ref a1)] [(.int (1 : Int32))])) t → Steps p.tables e below (s₁.setTop (entryFrame m #[(.ref a1)] 1)) t := by
            intro t k
            refine pre15 t ?_
            refine XT.acmpNo X14.here hx rfl (hb hby d1_18) rfl rfl rfl (XT.aa_ne_f hc18) ?_
            show Steps p.tables e below (T14.setTop (mkF m 21 #[.val (.ref a1)] [])) _
            refine XS.iconst X14.here hx rfl (hb hby d1_21) ?_
            show Steps p.tables e below (T14.setTop (mkF m 22 #[.val (.ref a1)] [(.int (1 : Int32))])) _
            refine XS.goto X14.here hx rfl (pc0 := 22) (pc' := 26) rfl (hb hby d1_22) (by decide) (by decide) ?_
            show Steps p.tables e below (T14.setTop (mkF m 26 #[.val (.ref a1)] [(.int (1 : Int32))])) _
            exact k
          exact ⟨(1 : Int32), _, _, X14, N0, e14, (by first | exact (own_bi_t hc18).symm | exact (own_bi_f hc18).symm | (simp [own_bi, hc4, hc11, hc18]; done) | contradiction), pre16⟩
        · skip
          have pre17 : ∀ t, Steps p.tables e below (T14.setTop (mkF m 26 #[.val (.ref a1)] [(.int (0 : Int32))])) t → Steps p.tables e below (s₁.setTop (entryFrame m #[(.ref a1)] 1)) t := by
            intro t k
            refine pre15 t ?_
            refine XT.acmpYes X14.here hx rfl (pc0 := 18) (pc' := 25) rfl (hb hby d1_18) rfl rfl rfl (XT.aa_ne_t hc18) (by decide) (by decide) ?_
            show Steps p.tables e below (T14.setTop (mkF m 25 #[.val (.ref a1)] [])) _
            refine XS.iconst X14.here hx rfl (hb hby d1_25) ?_
            show Steps p.tables e below (T14.setTop (mkF m 26 #[.val (.ref a1)] [(.int (0 : Int32))])) _
            exact k
          exact ⟨(0 : Int32), _, _, X14, N0, e14, (by first | exact (own_bi_t hc18).symm | exact (own_bi_f hc18).symm | (simp [own_bi, hc4, hc11, hc18]; done) | contradiction), pre17⟩
  obtain ⟨b, T1, Lo1, X1, N1, e1, hb, pre1⟩ := mrg1
  subst hb
  obtain ⟨fs, hr, hrun, hended, hW, hsame⟩ := X1.leave (v := some (.int (own_bi ((.ref a1 : Value) = .ref k_INTEGER ∨ (.ref a1 : Value) = .ref k_STRING ∨ (.ref a1 : Value) = .ref k_BLOB)))) (fun h => by rw [Bd.returns] at h; cases h)
  refine ⟨_, _, pre1 _ ?_, hrun, hended, _, _, rfl, ?_, ⟨_, rfl⟩, hW, hsame.mono (by decide) (by decide)⟩
  · exact retOut X1 hx Bd.returns (own_narZ (own_bi_01 _)) (Or.inl ⟨rfl, by simp, _, rfl⟩) (hb hby d1_26) hr
  · show Q1 Z a1 k_INTEGER k_STRING k_BLOB h0 n0 _ T1.heap _
    rw [e1]
    exact ⟨rfl, N1, rfl⟩
theorem pd_imk : parseMethodDescriptor "()Z" = some ⟨[], some .boolean⟩ := by decide +kernel
theorem pn_law : plainName "com/example/okra/okra/ValueTypeIsMapKeyPinLaw" = true := by first | (simp [plainName, overriddenIn]; done) | decide +kernel
theorem ef_law (m : MethodId) (k0 : Int32) : entryFrame m #[(.int k0)] maxLocals = mkF m 0 #[.val (.int k0), .unset, .unset, .unset] [] := by first | (simp [entryFrame, mkF, argsToLocals, Value.category, maxLocals]; done) | rfl
def Qlaw (Z : State) (k0 : Int32) (k_NIL : Addr) (k_FALSE : Addr) (k_TRUE : Addr) (k_INTEGER : Addr) (k_STRING : Addr) (k_LIST : Addr) (k_MAP : Addr) (k_BLOB : Addr) (k_FLOAT : Addr) (k_INF : Addr) (h0 : Heap) (n0 : Nat) (v : Option Value) (h : Heap) (L : List Loc) : Prop := v = some (.int (1 : Int32)) ∧ Fr n0 L
set_option maxRecDepth 65536 in
set_option maxHeartbeats 40000000 in
theorem rmlaw (l : Launch) (Z : State) (a0 : Array Value) (hw : ∀ d ∈ tables_1, d.before a0 Z = true) (ws : List Jvm.Cond) (k0 : Int32) (k_NIL : Addr) (k_FALSE : Addr) (k_TRUE : Addr) (k_INTEGER : Addr) (k_STRING : Addr) (k_LIST : Addr) (k_MAP : Addr) (k_BLOB : Addr) (k_FLOAT : Addr) (k_INF : Addr) (h0 : Heap) (n0 : Nat) (Z0 : n0 ≤ h0.size) (OL : Old Z n0 h0) (S_NIL : Sta Z Z.heap "com/example/okra/okra/ValueType" "NIL" "Lcom/example/okra/okra/ValueType;" (.ref k_NIL)) (E_NIL : Exa Z Z.heap k_NIL "com/example/okra/okra/ValueType") (F_NIL : Fld Z Z.heap k_NIL "java/lang/Enum" "ordinal" "I" (.int (0 : Int32))) (S_FALSE : Sta Z Z.heap "com/example/okra/okra/ValueType" "FALSE" "Lcom/example/okra/okra/ValueType;" (.ref k_FALSE)) (E_FALSE : Exa Z Z.heap k_FALSE "com/example/okra/okra/ValueType") (F_FALSE : Fld Z Z.heap k_FALSE "java/lang/Enum" "ordinal" "I" (.int (1 : Int32))) (S_TRUE : Sta Z Z.heap "com/example/okra/okra/ValueType" "TRUE" "Lcom/example/okra/okra/ValueType;" (.ref k_TRUE)) (E_TRUE : Exa Z Z.heap k_TRUE "com/example/okra/okra/ValueType") (F_TRUE : Fld Z Z.heap k_TRUE "java/lang/Enum" "ordinal" "I" (.int (2 : Int32))) (S_INTEGER : Sta Z Z.heap "com/example/okra/okra/ValueType" "INTEGER" "Lcom/example/okra/okra/ValueType;" (.ref k_INTEGER)) (E_INTEGER : Exa Z Z.heap k_INTEGER "com/example/okra/okra/ValueType") (F_INTEGER : Fld Z Z.heap k_INTEGER "java/lang/Enum" "ordinal" "I" (.int (3 : Int32))) (S_STRING : Sta Z Z.heap "com/example/okra/okra/ValueType" "STRING" "Lcom/example/okra/okra/ValueType;" (.ref k_STRING)) (E_STRING : Exa Z Z.heap k_STRING "com/example/okra/okra/ValueType") (F_STRING : Fld Z Z.heap k_STRING "java/lang/Enum" "ordinal" "I" (.int (4 : Int32))) (S_LIST : Sta Z Z.heap "com/example/okra/okra/ValueType" "LIST" "Lcom/example/okra/okra/ValueType;" (.ref k_LIST)) (E_LIST : Exa Z Z.heap k_LIST "com/example/okra/okra/ValueType") (F_LIST : Fld Z Z.heap k_LIST "java/lang/Enum" "ordinal" "I" (.int (5 : Int32))) (S_MAP : Sta Z Z.heap "com/example/okra/okra/ValueType" "MAP" "Lcom/example/okra/okra/ValueType;" (.ref k_MAP)) (E_MAP : Exa Z Z.heap k_MAP "com/example/okra/okra/ValueType") (F_MAP : Fld Z Z.heap k_MAP "java/lang/Enum" "ordinal" "I" (.int (6 : Int32))) (S_BLOB : Sta Z Z.heap "com/example/okra/okra/ValueType" "BLOB" "Lcom/example/okra/okra/ValueType;" (.ref k_BLOB)) (E_BLOB : Exa Z Z.heap k_BLOB "com/example/okra/okra/ValueType") (F_BLOB : Fld Z Z.heap k_BLOB "java/lang/Enum" "ordinal" "I" (.int (7 : Int32))) (S_FLOAT : Sta Z Z.heap "com/example/okra/okra/ValueType" "FLOAT" "Lcom/example/okra/okra/ValueType;" (.ref k_FLOAT)) (E_FLOAT : Exa Z Z.heap k_FLOAT "com/example/okra/okra/ValueType") (F_FLOAT : Fld Z Z.heap k_FLOAT "java/lang/Enum" "ordinal" "I" (.int (8 : Int32))) (S_INF : Sta Z Z.heap "com/example/okra/okra/ValueType" "INF" "Lcom/example/okra/okra/ValueType;" (.ref k_INF)) (E_INF : Exa Z Z.heap k_INF "com/example/okra/okra/ValueType") (F_INF : Fld Z Z.heap k_INF "java/lang/Enum" "ordinal" "I" (.int (9 : Int32))) :
    MetFree l x (head1 (Jvm.Cond.code x code maxLocals ret :: ws) room_1) (fun a U => a = #[(.int k0)] ∧ Z.Warmed39 U.vm ∧ U.heap = h0) (fun _ _ _ _ _ => True) (fun _ U o U' => ∃ v L, o = .returned v ∧ Qlaw Z k0 k_NIL k_FALSE k_TRUE k_INTEGER k_STRING k_LIST k_MAP k_BLOB k_FLOAT k_INF h0 n0 v U'.heap L ∧ FrameEnd U o U' L room_1.cells room_1.slots) := by
  refine MetFree.of_bodySF (plainFor_of_name pn_law) hisR ?_
  intro p e s m args below meth c s₁ Bd hml0 hP hK
  obtain ⟨rfl, hZ, hh⟩ := hP
  have hx := Bd.exec
  have hby := Bd.bytes
  have hml : c.maxLocals = 4 := hml0
  have hown : s.vm.findClass "com/example/okra/okra/ValueTypeIsMapKeyPinLaw" = some m.cls := findClass_of_methodNamed Bd.named
  have hnm := (name_of_methodNamed Bd.named Bd.method).1
  have X0 : Stand p l e room_1 s m #[(.int k0)] below meth c s₁ [] 0 0 := Stand.of_body Bd
  have e0 : s₁.heap = h0 := by rw [← hh, Bd.state]; rfl
  have N0 := Fr.nil n0
  have pre0 : ∀ t, Steps p.tables e below (s₁.setTop (mkF m 0 #[.val (.int k0), .unset, .unset, .unset] [])) t → Steps p.tables e below (s₁.setTop (entryFrame m #[(.int k0)] maxLocals)) t := fun t k => castTop (ef_law m k0) k
  have pre2 : ∀ t, Steps p.tables e below (s₁.setTop (mkF m 2 #[.val (.int k0), .unset, .unset, .unset] [(.int (10 : Int32))])) t → Steps p.tables e below (s₁.setTop (entryFrame m #[(.int k0)] maxLocals)) t := by
    intro t k
    refine pre0 t ?_
    refine XS.bipush X0.here hx rfl (hb hby at_0) ?_
    show Steps p.tables e below (s₁.setTop (mkF m 2 #[.val (.int k0), .unset, .unset, .unset] [(.int (10 : Int32))])) _
    exact k
  obtain ⟨T3, h3, cA3, X3, e3, E3, A3, Ov3, st3⟩ := newR X0 hx hZ hown (hw _ (List.mem_of_getElem? (i := 0) rfl)) (hw _ (List.mem_of_getElem? (i := 1) rfl)) e0 (g := (mkF m 2 #[.val (.int k0), .unset, .unset, .unset] [(.int (10 : Int32))])) rfl (hb hby at_2) rfl (by decide) (cap := 10) (by decide) (by decide) (by decide) (by decide)
  obtain ⟨b1, gz3⟩ : ∃ z, z = h0.size := ⟨_, rfl⟩
  rw [← gz3] at A3 st3
  have g_b1 : n0 ≤ b1 := Nat.le_trans Z0 (Nat.le_of_eq gz3.symm)
  have V3 : Arv Z h3 b1 cA3 (.object "com/example/okra/okra/ValueType") (10 : Int32) [.null, .null, .null, .null, .null, .null, .null, .null, .null, .null] .null := Arv.pad (Arv.new A3 (by decide)) (pad_rep [] .null 10)
  have pre4 : ∀ t, Steps p.tables e below (T3.setTop (mkF m 5 #[.val (.int k0), .unset, .unset, .unset] [(.ref b1)])) t → Steps p.tables e below (s₁.setTop (entryFrame m #[(.int k0)] maxLocals)) t := fun t k => pre2 t (st3 t k)
  have Z5 : n0 ≤ h3.size := (Nat.le_trans Z0 E3.1)
  have O5 : Old Z n0 h3 := (OL.ext E3)
  have pre7 : ∀ t, Steps p.tables e below (T3.setTop (mkF m 7 #[.val (.int k0), .unset, .unset, .unset] [(.int (0 : Int32)), (.ref b1), (.ref b1)])) t → Steps p.tables e below (s₁.setTop (entryFrame m #[(.int k0)] maxLocals)) t := by
    intro t k
    refine pre4 t ?_
    refine XS.dup X3.here hx rfl (hb hby at_5) rfl rfl ?_
    show Steps p.tables e below (T3.setTop (mkF m 6 #[.val (.int k0), .unset, .unset, .unset] [(.ref b1), (.ref b1)])) _
    refine XS.iconst X3.here hx rfl (hb hby at_6) ?_
    show Steps p.tables e below (T3.setTop (mkF m 7 #[.val (.int k0), .unset, .unset, .unset] [(.int (0 : Int32)), (.ref b1), (.ref b1)])) _
    exact k
  obtain ⟨T8, X8, e8, st8⟩ := getS (host := "") X3 hx hZ hown (hw _ (List.mem_of_getElem? (i := 2) rfl)) Via.refl e3 (S_NIL.ext O5.2) (g := (mkF m 7 #[.val (.int k0), .unset, .unset, .unset] [(.int (0 : Int32)), (.ref b1), (.ref b1)])) rfl (hb hby at_7)
  have pre9 : ∀ t, Steps p.tables e below (T8.setTop (mkF m 10 #[.val (.int k0), .unset, .unset, .unset] [(.ref k_NIL), (.int (0 : Int32)), (.ref b1), (.ref b1)])) t → Steps p.tables e below (s₁.setTop (entryFrame m #[(.int k0)] maxLocals)) t := fun t k => pre7 t (st8 t k)
  obtain ⟨cc10, Ar10, q1_10, Sz10, q3_10, Hs10, G10⟩ := id V3
  have hin10 : ¬ ((0 : Int32) < 0 ∨ cc10.slots.size ≤ ((0 : Int32) : Int32).toNatClampNeg) := inb_of Sz10 ⟨(by decide), (by decide)⟩
  obtain ⟨T10, h10, X10, e10, W10, st10⟩ := stR X8 hx hZ e8 Ar10 hin10 rfl (Sto.ofV Ar10 q1_10 Ov3 (Ins.self (E_NIL.ext O5.2))) (g := (mkF m 10 #[.val (.int k0), .unset, .unset, .unset] [(.ref k_NIL), (.int (0 : Int32)), (.ref b1), (.ref b1)])) rfl rfl (hb hby at_10)
  have N10 := Fr.snoc X10 N0 g_b1
  have V10 : Arv Z h10 b1 cA3 (.object "com/example/okra/okra/ValueType") (10 : Int32) [(.ref k_NIL), .null, .null, .null, .null, .null, .null, .null, .null, .null] .null := Arv.set Ar10 q1_10 Sz10 q3_10 Hs10 G10 rfl W10 0 (by decide) (show 0 < 10 by decide)
  have pre12 : ∀ t, Steps p.tables e below (T10.setTop (mkF m 11 #[.val (.int k0), .unset, .unset, .unset] [(.ref b1)])) t → Steps p.tables e below (s₁.setTop (entryFrame m #[(.int k0)] maxLocals)) t := fun t k => pre9 t (st10 t k)
  obtain ⟨Lo13, Xo13, No13⟩ : ∃ L, Stand p l e room_1 s m #[(.int k0)] below meth c T10 L 1 10 ∧ Fr n0 L := ⟨_, X10, N10⟩
  have Z14 : n0 ≤ h10.size := (Nat.le_trans Z5 (Nat.le_of_eq W10.size.symm))
  have O14 : Old Z n0 h10 := (O5.wr W10 g_b1)
  have pre16 : ∀ t, Steps p.tables e below (T10.setTop (mkF m 13 #[.val (.int k0), .unset, .unset, .unset] [(.int (1 : Int32)), (.ref b1), (.ref b1)])) t → Steps p.tables e below (s₁.setTop (entryFrame m #[(.int k0)] maxLocals)) t := by
    intro t k
    refine pre12 t ?_
    refine XS.dup Xo13.here hx rfl (hb hby at_11) rfl rfl ?_
    show Steps p.tables e below (T10.setTop (mkF m 12 #[.val (.int k0), .unset, .unset, .unset] [(.ref b1), (.ref b1)])) _
    refine XS.iconst Xo13.here hx rfl (hb hby at_12) ?_
    show Steps p.tables e below (T10.setTop (mkF m 13 #[.val (.int k0), .unset, .unset, .unset] [(.int (1 : Int32)), (.ref b1), (.ref b1)])) _
    exact k
  obtain ⟨T17, X17, e17, st17⟩ := getS (host := "") Xo13 hx hZ hown (hw _ (List.mem_of_getElem? (i := 6) rfl)) Via.refl e10 (S_FALSE.ext O14.2) (g := (mkF m 13 #[.val (.int k0), .unset, .unset, .unset] [(.int (1 : Int32)), (.ref b1), (.ref b1)])) rfl (hb hby at_13)
  have pre18 : ∀ t, Steps p.tables e below (T17.setTop (mkF m 16 #[.val (.int k0), .unset, .unset, .unset] [(.ref k_FALSE), (.int (1 : Int32)), (.ref b1), (.ref b1)])) t → Steps p.tables e below (s₁.setTop (entryFrame m #[(.int k0)] maxLocals)) t := fun t k => pre16 t (st17 t k)
  obtain ⟨cc19, Ar19, q1_19, Sz19, q3_19, Hs19, G19⟩ := id V10
  have hin19 : ¬ ((1 : Int32) < 0 ∨ cc19.slots.size ≤ ((1 : Int32) : Int32).toNatClampNeg) := inb_of Sz19 ⟨(by decide), (by decide)⟩
  obtain ⟨T19, h19, X19, e19, W19, st19⟩ := stR X17 hx hZ e17 Ar19 hin19 rfl (Sto.ofV Ar19 q1_19 Ov3 (Ins.self (E_FALSE.ext O14.2))) (g := (mkF m 16 #[.val (.int k0), .unset, .unset, .unset] [(.ref k_FALSE), (.int (1 : Int32)), (.ref b1), (.ref b1)])) rfl rfl (hb hby at_16)
  have N19 := Fr.snoc X19 No13 g_b1
  have V19 : Arv Z h19 b1 cA3 (.object "com/example/okra/okra/ValueType") (10 : Int32) [(.ref k_NIL), (.ref k_FALSE), .null, .null, .null, .null, .null, .null, .null, .null] .null := Arv.set Ar19 q1_19 Sz19 q3_19 Hs19 G19 rfl W19 1 (by decide) (show 1 < 10 by decide)
  have pre21 : ∀ t, Steps p.tables e below (T19.setTop (mkF m 17 #[.val (.int k0), .unset, .unset, .unset] [(.ref b1)])) t → Steps p.tables e below (s₁.setTop (entryFrame m #[(.int k0)] maxLocals)) t := fun t k => pre18 t (st19 t k)
  obtain ⟨Lo22, Xo22, No22⟩ : ∃ L, Stand p l e room_1 s m #[(.int k0)] below meth c T19 L 1 10 ∧ Fr n0 L := ⟨_, X19, N19⟩
  have Z23 : n0 ≤ h19.size := (Nat.le_trans Z14 (Nat.le_of_eq W19.size.symm))
  have O23 : Old Z n0 h19 := (O14.wr W19 g_b1)
  have pre25 : ∀ t, Steps p.tables e below (T19.setTop (mkF m 19 #[.val (.int k0), .unset, .unset, .unset] [(.int (2 : Int32)), (.ref b1), (.ref b1)])) t → Steps p.tables e below (s₁.setTop (entryFrame m #[(.int k0)] maxLocals)) t := by
    intro t k
    refine pre21 t ?_
    refine XS.dup Xo22.here hx rfl (hb hby at_17) rfl rfl ?_
    show Steps p.tables e below (T19.setTop (mkF m 18 #[.val (.int k0), .unset, .unset, .unset] [(.ref b1), (.ref b1)])) _
    refine XS.iconst Xo22.here hx rfl (hb hby at_18) ?_
    show Steps p.tables e below (T19.setTop (mkF m 19 #[.val (.int k0), .unset, .unset, .unset] [(.int (2 : Int32)), (.ref b1), (.ref b1)])) _
    exact k
  obtain ⟨T26, X26, e26, st26⟩ := getS (host := "") Xo22 hx hZ hown (hw _ (List.mem_of_getElem? (i := 8) rfl)) Via.refl e19 (S_TRUE.ext O23.2) (g := (mkF m 19 #[.val (.int k0), .unset, .unset, .unset] [(.int (2 : Int32)), (.ref b1), (.ref b1)])) rfl (hb hby at_19)
  have pre27 : ∀ t, Steps p.tables e below (T26.setTop (mkF m 22 #[.val (.int k0), .unset, .unset, .unset] [(.ref k_TRUE), (.int (2 : Int32)), (.ref b1), (.ref b1)])) t → Steps p.tables e below (s₁.setTop (entryFrame m #[(.int k0)] maxLocals)) t := fun t k => pre25 t (st26 t k)
  obtain ⟨cc28, Ar28, q1_28, Sz28, q3_28, Hs28, G28⟩ := id V19
  have hin28 : ¬ ((2 : Int32) < 0 ∨ cc28.slots.size ≤ ((2 : Int32) : Int32).toNatClampNeg) := inb_of Sz28 ⟨(by decide), (by decide)⟩
  obtain ⟨T28, h28, X28, e28, W28, st28⟩ := stR X26 hx hZ e26 Ar28 hin28 rfl (Sto.ofV Ar28 q1_28 Ov3 (Ins.self (E_TRUE.ext O23.2))) (g := (mkF m 22 #[.val (.int k0), .unset, .unset, .unset] [(.ref k_TRUE), (.int (2 : Int32)), (.ref b1), (.ref b1)])) rfl rfl (hb hby at_22)
  have N28 := Fr.snoc X28 No22 g_b1
  have V28 : Arv Z h28 b1 cA3 (.object "com/example/okra/okra/ValueType") (10 : Int32) [(.ref k_NIL), (.ref k_FALSE), (.ref k_TRUE), .null, .null, .null, .null, .null, .null, .null] .null := Arv.set Ar28 q1_28 Sz28 q3_28 Hs28 G28 rfl W28 2 (by decide) (show 2 < 10 by decide)
  have pre30 : ∀ t, Steps p.tables e below (T28.setTop (mkF m 23 #[.val (.int k0), .unset, .unset, .unset] [(.ref b1)])) t → Steps p.tables e below (s₁.setTop (entryFrame m #[(.int k0)] maxLocals)) t := fun t k => pre27 t (st28 t k)
  obtain ⟨Lo31, Xo31, No31⟩ : ∃ L, Stand p l e room_1 s m #[(.int k0)] below meth c T28 L 1 10 ∧ Fr n0 L := ⟨_, X28, N28⟩
  have Z32 : n0 ≤ h28.size := (Nat.le_trans Z23 (Nat.le_of_eq W28.size.symm))
  have O32 : Old Z n0 h28 := (O23.wr W28 g_b1)
  have pre34 : ∀ t, Steps p.tables e below (T28.setTop (mkF m 25 #[.val (.int k0), .unset, .unset, .unset] [(.int (3 : Int32)), (.ref b1), (.ref b1)])) t → Steps p.tables e below (s₁.setTop (entryFrame m #[(.int k0)] maxLocals)) t := by
    intro t k
    refine pre30 t ?_
    refine XS.dup Xo31.here hx rfl (hb hby at_23) rfl rfl ?_
    show Steps p.tables e below (T28.setTop (mkF m 24 #[.val (.int k0), .unset, .unset, .unset] [(.ref b1), (.ref b1)])) _
    refine XS.iconst Xo31.here hx rfl (hb hby at_24) ?_
    show Steps p.tables e below (T28.setTop (mkF m 25 #[.val (.int k0), .unset, .unset, .unset] [(.int (3 : Int32)), (.ref b1), (.ref b1)])) _
    exact k
  obtain ⟨T35, X35, e35, st35⟩ := getS (host := "") Xo31 hx hZ hown (hw _ (List.mem_of_getElem? (i := 10) rfl)) Via.refl e28 (S_INTEGER.ext O32.2) (g := (mkF m 25 #[.val (.int k0), .unset, .unset, .unset] [(.int (3 : Int32)), (.ref b1), (.ref b1)])) rfl (hb hby at_25)
  have pre36 : ∀ t, Steps p.tables e below (T35.setTop (mkF m 28 #[.val (.int k0), .unset, .unset, .unset] [(.ref k_INTEGER), (.int (3 : Int32)), (.ref b1), (.ref b1)])) t → Steps p.tables e below (s₁.setTop (entryFrame m #[(.int k0)] maxLocals)) t := fun t k => pre34 t (st35 t k)
  obtain ⟨cc37, Ar37, q1_37, Sz37, q3_37, Hs37, G37⟩ := id V28
  have hin37 : ¬ ((3 : Int32) < 0 ∨ cc37.slots.size ≤ ((3 : Int32) : Int32).toNatClampNeg) := inb_of Sz37 ⟨(by decide), (by decide)⟩
  obtain ⟨T37, h37, X37, e37, W37, st37⟩ := stR X35 hx hZ e35 Ar37 hin37 rfl (Sto.ofV Ar37 q1_37 Ov3 (Ins.self (E_INTEGER.ext O32.2))) (g := (mkF m 28 #[.val (.int k0), .unset, .unset, .unset] [(.ref k_INTEGER), (.int (3 : Int32)), (.ref b1), (.ref b1)])) rfl rfl (hb hby at_28)
  have N37 := Fr.snoc X37 No31 g_b1
  have V37 : Arv Z h37 b1 cA3 (.object "com/example/okra/okra/ValueType") (10 : Int32) [(.ref k_NIL), (.ref k_FALSE), (.ref k_TRUE), (.ref k_INTEGER), .null, .null, .null, .null, .null, .null] .null := Arv.set Ar37 q1_37 Sz37 q3_37 Hs37 G37 rfl W37 3 (by decide) (show 3 < 10 by decide)
  have pre39 : ∀ t, Steps p.tables e below (T37.setTop (mkF m 29 #[.val (.int k0), .unset, .unset, .unset] [(.ref b1)])) t → Steps p.tables e below (s₁.setTop (entryFrame m #[(.int k0)] maxLocals)) t := fun t k => pre36 t (st37 t k)
  obtain ⟨Lo40, Xo40, No40⟩ : ∃ L, Stand p l e room_1 s m #[(.int k0)] below meth c T37 L 1 10 ∧ Fr n0 L := ⟨_, X37, N37⟩
  have Z41 : n0 ≤ h37.size := (Nat.le_trans Z32 (Nat.le_of_eq W37.size.symm))
  have O41 : Old Z n0 h37 := (O32.wr W37 g_b1)
  have pre43 : ∀ t, Steps p.tables e below (T37.setTop (mkF m 31 #[.val (.int k0), .unset, .unset, .unset] [(.int (4 : Int32)), (.ref b1), (.ref b1)])) t → Steps p.tables e below (s₁.setTop (entryFrame m #[(.int k0)] maxLocals)) t := by
    intro t k
    refine pre39 t ?_
    refine XS.dup Xo40.here hx rfl (hb hby at_29) rfl rfl ?_
    show Steps p.tables e below (T37.setTop (mkF m 30 #[.val (.int k0), .unset, .unset, .unset] [(.ref b1), (.ref b1)])) _
    refine XS.iconst Xo40.here hx rfl (hb hby at_30) ?_
    show Steps p.tables e below (T37.setTop (mkF m 31 #[.val (.int k0), .unset, .unset, .unset] [(.int (4 : Int32)), (.ref b1), (.ref b1)])) _
    exact k
  obtain ⟨T44, X44, e44, st44⟩ := getS (host := "") Xo40 hx hZ hown (hw _ (List.mem_of_getElem? (i := 12) rfl)) Via.refl e37 (S_STRING.ext O41.2) (g := (mkF m 31 #[.val (.int k0), .unset, .unset, .unset] [(.int (4 : Int32)), (.ref b1), (.ref b1)])) rfl (hb hby at_31)
  have pre45 : ∀ t, Steps p.tables e below (T44.setTop (mkF m 34 #[.val (.int k0), .unset, .unset, .unset] [(.ref k_STRING), (.int (4 : Int32)), (.ref b1), (.ref b1)])) t → Steps p.tables e below (s₁.setTop (entryFrame m #[(.int k0)] maxLocals)) t := fun t k => pre43 t (st44 t k)
  obtain ⟨cc46, Ar46, q1_46, Sz46, q3_46, Hs46, G46⟩ := id V37
  have hin46 : ¬ ((4 : Int32) < 0 ∨ cc46.slots.size ≤ ((4 : Int32) : Int32).toNatClampNeg) := inb_of Sz46 ⟨(by decide), (by decide)⟩
  obtain ⟨T46, h46, X46, e46, W46, st46⟩ := stR X44 hx hZ e44 Ar46 hin46 rfl (Sto.ofV Ar46 q1_46 Ov3 (Ins.self (E_STRING.ext O41.2))) (g := (mkF m 34 #[.val (.int k0), .unset, .unset, .unset] [(.ref k_STRING), (.int (4 : Int32)), (.ref b1), (.ref b1)])) rfl rfl (hb hby at_34)
  have N46 := Fr.snoc X46 No40 g_b1
  have V46 : Arv Z h46 b1 cA3 (.object "com/example/okra/okra/ValueType") (10 : Int32) [(.ref k_NIL), (.ref k_FALSE), (.ref k_TRUE), (.ref k_INTEGER), (.ref k_STRING), .null, .null, .null, .null, .null] .null := Arv.set Ar46 q1_46 Sz46 q3_46 Hs46 G46 rfl W46 4 (by decide) (show 4 < 10 by decide)
  have pre48 : ∀ t, Steps p.tables e below (T46.setTop (mkF m 35 #[.val (.int k0), .unset, .unset, .unset] [(.ref b1)])) t → Steps p.tables e below (s₁.setTop (entryFrame m #[(.int k0)] maxLocals)) t := fun t k => pre45 t (st46 t k)
  obtain ⟨Lo49, Xo49, No49⟩ : ∃ L, Stand p l e room_1 s m #[(.int k0)] below meth c T46 L 1 10 ∧ Fr n0 L := ⟨_, X46, N46⟩
  have Z50 : n0 ≤ h46.size := (Nat.le_trans Z41 (Nat.le_of_eq W46.size.symm))
  have O50 : Old Z n0 h46 := (O41.wr W46 g_b1)
  have pre52 : ∀ t, Steps p.tables e below (T46.setTop (mkF m 37 #[.val (.int k0), .unset, .unset, .unset] [(.int (5 : Int32)), (.ref b1), (.ref b1)])) t → Steps p.tables e below (s₁.setTop (entryFrame m #[(.int k0)] maxLocals)) t := by
    intro t k
    refine pre48 t ?_
    refine XS.dup Xo49.here hx rfl (hb hby at_35) rfl rfl ?_
    show Steps p.tables e below (T46.setTop (mkF m 36 #[.val (.int k0), .unset, .unset, .unset] [(.ref b1), (.ref b1)])) _
    refine XS.iconst Xo49.here hx rfl (hb hby at_36) ?_
    show Steps p.tables e below (T46.setTop (mkF m 37 #[.val (.int k0), .unset, .unset, .unset] [(.int (5 : Int32)), (.ref b1), (.ref b1)])) _
    exact k
  obtain ⟨T53, X53, e53, st53⟩ := getS (host := "") Xo49 hx hZ hown (hw _ (List.mem_of_getElem? (i := 14) rfl)) Via.refl e46 (S_LIST.ext O50.2) (g := (mkF m 37 #[.val (.int k0), .unset, .unset, .unset] [(.int (5 : Int32)), (.ref b1), (.ref b1)])) rfl (hb hby at_37)
  have pre54 : ∀ t, Steps p.tables e below (T53.setTop (mkF m 40 #[.val (.int k0), .unset, .unset, .unset] [(.ref k_LIST), (.int (5 : Int32)), (.ref b1), (.ref b1)])) t → Steps p.tables e below (s₁.setTop (entryFrame m #[(.int k0)] maxLocals)) t := fun t k => pre52 t (st53 t k)
  obtain ⟨cc55, Ar55, q1_55, Sz55, q3_55, Hs55, G55⟩ := id V46
  have hin55 : ¬ ((5 : Int32) < 0 ∨ cc55.slots.size ≤ ((5 : Int32) : Int32).toNatClampNeg) := inb_of Sz55 ⟨(by decide), (by decide)⟩
  obtain ⟨T55, h55, X55, e55, W55, st55⟩ := stR X53 hx hZ e53 Ar55 hin55 rfl (Sto.ofV Ar55 q1_55 Ov3 (Ins.self (E_LIST.ext O50.2))) (g := (mkF m 40 #[.val (.int k0), .unset, .unset, .unset] [(.ref k_LIST), (.int (5 : Int32)), (.ref b1), (.ref b1)])) rfl rfl (hb hby at_40)
  have N55 := Fr.snoc X55 No49 g_b1
  have V55 : Arv Z h55 b1 cA3 (.object "com/example/okra/okra/ValueType") (10 : Int32) [(.ref k_NIL), (.ref k_FALSE), (.ref k_TRUE), (.ref k_INTEGER), (.ref k_STRING), (.ref k_LIST), .null, .null, .null, .null] .null := Arv.set Ar55 q1_55 Sz55 q3_55 Hs55 G55 rfl W55 5 (by decide) (show 5 < 10 by decide)
  have pre57 : ∀ t, Steps p.tables e below (T55.setTop (mkF m 41 #[.val (.int k0), .unset, .unset, .unset] [(.ref b1)])) t → Steps p.tables e below (s₁.setTop (entryFrame m #[(.int k0)] maxLocals)) t := fun t k => pre54 t (st55 t k)
  obtain ⟨Lo58, Xo58, No58⟩ : ∃ L, Stand p l e room_1 s m #[(.int k0)] below meth c T55 L 1 10 ∧ Fr n0 L := ⟨_, X55, N55⟩
  have Z59 : n0 ≤ h55.size := (Nat.le_trans Z50 (Nat.le_of_eq W55.size.symm))
  have O59 : Old Z n0 h55 := (O50.wr W55 g_b1)
  have pre61 : ∀ t, Steps p.tables e below (T55.setTop (mkF m 44 #[.val (.int k0), .unset, .unset, .unset] [(.int (6 : Int32)), (.ref b1), (.ref b1)])) t → Steps p.tables e below (s₁.setTop (entryFrame m #[(.int k0)] maxLocals)) t := by
    intro t k
    refine pre57 t ?_
    refine XS.dup Xo58.here hx rfl (hb hby at_41) rfl rfl ?_
    show Steps p.tables e below (T55.setTop (mkF m 42 #[.val (.int k0), .unset, .unset, .unset] [(.ref b1), (.ref b1)])) _
    refine XS.bipush Xo58.here hx rfl (hb hby at_42) ?_
    show Steps p.tables e below (T55.setTop (mkF m 44 #[.val (.int k0), .unset, .unset, .unset] [(.int (6 : Int32)), (.ref b1), (.ref b1)])) _
    exact k
  obtain ⟨T62, X62, e62, st62⟩ := getS (host := "") Xo58 hx hZ hown (hw _ (List.mem_of_getElem? (i := 16) rfl)) Via.refl e55 (S_MAP.ext O59.2) (g := (mkF m 44 #[.val (.int k0), .unset, .unset, .unset] [(.int (6 : Int32)), (.ref b1), (.ref b1)])) rfl (hb hby at_44)
  have pre63 : ∀ t, Steps p.tables e below (T62.setTop (mkF m 47 #[.val (.int k0), .unset, .unset, .unset] [(.ref k_MAP), (.int (6 : Int32)), (.ref b1), (.ref b1)])) t → Steps p.tables e below (s₁.setTop (entryFrame m #[(.int k0)] maxLocals)) t := fun t k => pre61 t (st62 t k)
  obtain ⟨cc64, Ar64, q1_64, Sz64, q3_64, Hs64, G64⟩ := id V55
  have hin64 : ¬ ((6 : Int32) < 0 ∨ cc64.slots.size ≤ ((6 : Int32) : Int32).toNatClampNeg) := inb_of Sz64 ⟨(by decide), (by decide)⟩
  obtain ⟨T64, h64, X64, e64, W64, st64⟩ := stR X62 hx hZ e62 Ar64 hin64 rfl (Sto.ofV Ar64 q1_64 Ov3 (Ins.self (E_MAP.ext O59.2))) (g := (mkF m 47 #[.val (.int k0), .unset, .unset, .unset] [(.ref k_MAP), (.int (6 : Int32)), (.ref b1), (.ref b1)])) rfl rfl (hb hby at_47)
  have N64 := Fr.snoc X64 No58 g_b1
  have V64 : Arv Z h64 b1 cA3 (.object "com/example/okra/okra/ValueType") (10 : Int32) [(.ref k_NIL), (.ref k_FALSE), (.ref k_TRUE), (.ref k_INTEGER), (.ref k_STRING), (.ref k_LIST), (.ref k_MAP), .null, .null, .null] .null := Arv.set Ar64 q1_64 Sz64 q3_64 Hs64 G64 rfl W64 6 (by decide) (show 6 < 10 by decide)
  have pre66 : ∀ t, Steps p.tables e below (T64.setTop (mkF m 48 #[.val (.int k0), .unset, .unset, .unset] [(.ref b1)])) t → Steps p.tables e below (s₁.setTop (entryFrame m #[(.int k0)] maxLocals)) t := fun t k => pre63 t (st64 t k)
  obtain ⟨Lo67, Xo67, No67⟩ : ∃ L, Stand p l e room_1 s m #[(.int k0)] below meth c T64 L 1 10 ∧ Fr n0 L := ⟨_, X64, N64⟩
  have Z68 : n0 ≤ h64.size := (Nat.le_trans Z59 (Nat.le_of_eq W64.size.symm))
  have O68 : Old Z n0 h64 := (O59.wr W64 g_b1)
  have pre70 : ∀ t, Steps p.tables e below (T64.setTop (mkF m 51 #[.val (.int k0), .unset, .unset, .unset] [(.int (7 : Int32)), (.ref b1), (.ref b1)])) t → Steps p.tables e below (s₁.setTop (entryFrame m #[(.int k0)] maxLocals)) t := by
    intro t k
    refine pre66 t ?_
    refine XS.dup Xo67.here hx rfl (hb hby at_48) rfl rfl ?_
    show Steps p.tables e below (T64.setTop (mkF m 49 #[.val (.int k0), .unset, .unset, .unset] [(.ref b1), (.ref b1)])) _
    refine XS.bipush Xo67.here hx rfl (hb hby at_49) ?_
    show Steps p.tables e below (T64.setTop (mkF m 51 #[.val (.int k0), .unset, .unset, .unset] [(.int (7 : Int32)), (.ref b1), (.ref b1)])) _
    exact k
  obtain ⟨T71, X71, e71, st71⟩ := getS (host := "") Xo67 hx hZ hown (hw _ (List.mem_of_getElem? (i := 18) rfl)) Via.refl e64 (S_BLOB.ext O68.2) (g := (mkF m 51 #[.val (.int k0), .unset, .unset, .unset] [(.int (7 : Int32)), (.ref b1), (.ref b1)])) rfl (hb hby at_51)
  have pre72 : ∀ t, Steps p.tables e below (T71.setTop (mkF m 54 #[.val (.int k0), .unset, .unset, .unset] [(.ref k_BLOB), (.int (7 : Int32)), (.ref b1), (.ref b1)])) t → Steps p.tables e below (s₁.setTop (entryFrame m #[(.int k0)] maxLocals)) t := fun t k => pre70 t (st71 t k)
  obtain ⟨cc73, Ar73, q1_73, Sz73, q3_73, Hs73, G73⟩ := id V64
  have hin73 : ¬ ((7 : Int32) < 0 ∨ cc73.slots.size ≤ ((7 : Int32) : Int32).toNatClampNeg) := inb_of Sz73 ⟨(by decide), (by decide)⟩
  obtain ⟨T73, h73, X73, e73, W73, st73⟩ := stR X71 hx hZ e71 Ar73 hin73 rfl (Sto.ofV Ar73 q1_73 Ov3 (Ins.self (E_BLOB.ext O68.2))) (g := (mkF m 54 #[.val (.int k0), .unset, .unset, .unset] [(.ref k_BLOB), (.int (7 : Int32)), (.ref b1), (.ref b1)])) rfl rfl (hb hby at_54)
  have N73 := Fr.snoc X73 No67 g_b1
  have V73 : Arv Z h73 b1 cA3 (.object "com/example/okra/okra/ValueType") (10 : Int32) [(.ref k_NIL), (.ref k_FALSE), (.ref k_TRUE), (.ref k_INTEGER), (.ref k_STRING), (.ref k_LIST), (.ref k_MAP), (.ref k_BLOB), .null, .null] .null := Arv.set Ar73 q1_73 Sz73 q3_73 Hs73 G73 rfl W73 7 (by decide) (show 7 < 10 by decide)
  have pre75 : ∀ t, Steps p.tables e below (T73.setTop (mkF m 55 #[.val (.int k0), .unset, .unset, .unset] [(.ref b1)])) t → Steps p.tables e below (s₁.setTop (entryFrame m #[(.int k0)] maxLocals)) t := fun t k => pre72 t (st73 t k)
  obtain ⟨Lo76, Xo76, No76⟩ : ∃ L, Stand p l e room_1 s m #[(.int k0)] below meth c T73 L 1 10 ∧ Fr n0 L := ⟨_, X73, N73⟩
  have Z77 : n0 ≤ h73.size := (Nat.le_trans Z68 (Nat.le_of_eq W73.size.symm))
  have O77 : Old Z n0 h73 := (O68.wr W73 g_b1)
  have pre79 : ∀ t, Steps p.tables e below (T73.setTop (mkF m 58 #[.val (.int k0), .unset, .unset, .unset] [(.int (8 : Int32)), (.ref b1), (.ref b1)])) t → Steps p.tables e below (s₁.setTop (entryFrame m #[(.int k0)] maxLocals)) t := by
    intro t k
    refine pre75 t ?_
    refine XS.dup Xo76.here hx rfl (hb hby at_55) rfl rfl ?_
    show Steps p.tables e below (T73.setTop (mkF m 56 #[.val (.int k0), .unset, .unset, .unset] [(.ref b1), (.ref b1)])) _
    refine XS.bipush Xo76.here hx rfl (hb hby at_56) ?_
    show Steps p.tables e below (T73.setTop (mkF m 58 #[.val (.int k0), .unset, .unset, .unset] [(.int (8 : Int32)), (.ref b1), (.ref b1)])) _
    exact k
  obtain ⟨T80, X80, e80, st80⟩ := getS (host := "") Xo76 hx hZ hown (hw _ (List.mem_of_getElem? (i := 20) rfl)) Via.refl e73 (S_FLOAT.ext O77.2) (g := (mkF m 58 #[.val (.int k0), .unset, .unset, .unset] [(.int (8 : Int32)), (.ref b1), (.ref b1)])) rfl (hb hby at_58)
  have pre81 : ∀ t, Steps p.tables e below (T80.setTop (mkF m 61 #[.val (.int k0), .unset, .unset, .unset] [(.ref k_FLOAT), (.int (8 : Int32)), (.ref b1), (.ref b1)])) t → Steps p.tables e below (s₁.setTop (entryFrame m #[(.int k0)] maxLocals)) t := fun t k => pre79 t (st80 t k)
  obtain ⟨cc82, Ar82, q1_82, Sz82, q3_82, Hs82, G82⟩ := id V73
  have hin82 : ¬ ((8 : Int32) < 0 ∨ cc82.slots.size ≤ ((8 : Int32) : Int32).toNatClampNeg) := inb_of Sz82 ⟨(by decide), (by decide)⟩
  obtain ⟨T82, h82, X82, e82, W82, st82⟩ := stR X80 hx hZ e80 Ar82 hin82 rfl (Sto.ofV Ar82 q1_82 Ov3 (Ins.self (E_FLOAT.ext O77.2))) (g := (mkF m 61 #[.val (.int k0), .unset, .unset, .unset] [(.ref k_FLOAT), (.int (8 : Int32)), (.ref b1), (.ref b1)])) rfl rfl (hb hby at_61)
  have N82 := Fr.snoc X82 No76 g_b1
  have V82 : Arv Z h82 b1 cA3 (.object "com/example/okra/okra/ValueType") (10 : Int32) [(.ref k_NIL), (.ref k_FALSE), (.ref k_TRUE), (.ref k_INTEGER), (.ref k_STRING), (.ref k_LIST), (.ref k_MAP), (.ref k_BLOB), (.ref k_FLOAT), .null] .null := Arv.set Ar82 q1_82 Sz82 q3_82 Hs82 G82 rfl W82 8 (by decide) (show 8 < 10 by decide)
  have pre84 : ∀ t, Steps p.tables e below (T82.setTop (mkF m 62 #[.val (.int k0), .unset, .unset, .unset] [(.ref b1)])) t → Steps p.tables e below (s₁.setTop (entryFrame m #[(.int k0)] maxLocals)) t := fun t k => pre81 t (st82 t k)
  obtain ⟨Lo85, Xo85, No85⟩ : ∃ L, Stand p l e room_1 s m #[(.int k0)] below meth c T82 L 1 10 ∧ Fr n0 L := ⟨_, X82, N82⟩
  have Z86 : n0 ≤ h82.size := (Nat.le_trans Z77 (Nat.le_of_eq W82.size.symm))
  have O86 : Old Z n0 h82 := (O77.wr W82 g_b1)
  have pre88 : ∀ t, Steps p.tables e below (T82.setTop (mkF m 65 #[.val (.int k0), .unset, .unset, .unset] [(.int (9 : Int32)), (.ref b1), (.ref b1)])) t → Steps p.tables e below (s₁.setTop (entryFrame m #[(.int k0)] maxLocals)) t := by
    intro t k
    refine pre84 t ?_
    refine XS.dup Xo85.here hx rfl (hb hby at_62) rfl rfl ?_
    show Steps p.tables e below (T82.setTop (mkF m 63 #[.val (.int k0), .unset, .unset, .unset] [(.ref b1), (.ref b1)])) _
    refine XS.bipush Xo85.here hx rfl (hb hby at_63) ?_
    show Steps p.tables e below (T82.setTop (mkF m 65 #[.val (.int k0), .unset, .unset, .unset] [(.int (9 : Int32)), (.ref b1), (.ref b1)])) _
    exact k
  obtain ⟨T89, X89, e89, st89⟩ := getS (host := "") Xo85 hx hZ hown (hw _ (List.mem_of_getElem? (i := 22) rfl)) Via.refl e82 (S_INF.ext O86.2) (g := (mkF m 65 #[.val (.int k0), .unset, .unset, .unset] [(.int (9 : Int32)), (.ref b1), (.ref b1)])) rfl (hb hby at_65)
  have pre90 : ∀ t, Steps p.tables e below (T89.setTop (mkF m 68 #[.val (.int k0), .unset, .unset, .unset] [(.ref k_INF), (.int (9 : Int32)), (.ref b1), (.ref b1)])) t → Steps p.tables e below (s₁.setTop (entryFrame m #[(.int k0)] maxLocals)) t := fun t k => pre88 t (st89 t k)
  obtain ⟨cc91, Ar91, q1_91, Sz91, q3_91, Hs91, G91⟩ := id V82
  have hin91 : ¬ ((9 : Int32) < 0 ∨ cc91.slots.size ≤ ((9 : Int32) : Int32).toNatClampNeg) := inb_of Sz91 ⟨(by decide), (by decide)⟩
  obtain ⟨T91, h91, X91, e91, W91, st91⟩ := stR X89 hx hZ e89 Ar91 hin91 rfl (Sto.ofV Ar91 q1_91 Ov3 (Ins.self (E_INF.ext O86.2))) (g := (mkF m 68 #[.val (.int k0), .unset, .unset, .unset] [(.ref k_INF), (.int (9 : Int32)), (.ref b1), (.ref b1)])) rfl rfl (hb hby at_68)
  have N91 := Fr.snoc X91 No85 g_b1
  have V91 : Arv Z h91 b1 cA3 (.object "com/example/okra/okra/ValueType") (10 : Int32) [(.ref k_NIL), (.ref k_FALSE), (.ref k_TRUE), (.ref k_INTEGER), (.ref k_STRING), (.ref k_LIST), (.ref k_MAP), (.ref k_BLOB), (.ref k_FLOAT), (.ref k_INF)] .null := Arv.set Ar91 q1_91 Sz91 q3_91 Hs91 G91 rfl W91 9 (by decide) (show 9 < 10 by decide)
  have pre93 : ∀ t, Steps p.tables e below (T91.setTop (mkF m 69 #[.val (.int k0), .unset, .unset, .unset] [(.ref b1)])) t → Steps p.tables e below (s₁.setTop (entryFrame m #[(.int k0)] maxLocals)) t := fun t k => pre90 t (st91 t k)
  obtain ⟨Lo94, Xo94, No94⟩ : ∃ L, Stand p l e room_1 s m #[(.int k0)] below meth c T91 L 1 10 ∧ Fr n0 L := ⟨_, X91, N91⟩
  have Z95 : n0 ≤ h91.size := (Nat.le_trans Z86 (Nat.le_of_eq W91.size.symm))
  have O95 : Old Z n0 h91 := (O86.wr W91 g_b1)
  have pre97 : ∀ t, Steps p.tables e below (T91.setTop (mkF m 72 #[.val (.int k0), .val (.ref b1), .unset, .unset] [(.int (10 : Int32))])) t → Steps p.tables e below (s₁.setTop (entryFrame m #[(.int k0)] maxLocals)) t := by
    intro t k
    refine pre93 t ?_
    refine XS.astoreN Xo94.here hx rfl (hb hby at_69) rfl rfl (l' := #[.val (.int k0), .val (.ref b1), .unset, .unset]) rfl ?_
    show Steps p.tables e below (T91.setTop (mkF m 70 #[.val (.int k0), .val (.ref b1), .unset, .unset] [])) _
    refine XS.bipush Xo94.here hx rfl (hb hby at_70) ?_
    show Steps p.tables e below (T91.setTop (mkF m 72 #[.val (.int k0), .val (.ref b1), .unset, .unset] [(.int (10 : Int32))])) _
    exact k
  obtain ⟨T98, h98, cA98, X98, e98, E98, A98, st98⟩ := newP Xo94 hx hZ (hw _ (List.mem_of_getElem? (i := 24) rfl)) e91 (g := (mkF m 72 #[.val (.int k0), .val (.ref b1), .unset, .unset] [(.int (10 : Int32))])) rfl (hb hby at_72) rfl (by decide) (cap := 10) (by decide) (by decide) (by decide) (by decide)
  obtain ⟨b2, gz98⟩ : ∃ z, z = h91.size := ⟨_, rfl⟩
  rw [← gz98] at A98 st98
  have g_b2 : n0 ≤ b2 := Nat.le_trans Z95 (Nat.le_of_eq gz98.symm)
  have ne_b1_b2 : b1 ≠ b2 := by rw [gz98]; exact Nat.ne_of_lt V91.lt
  have V98 : Arv Z h98 b2 cA98 .boolean (10 : Int32) [(.int (0 : Int32)), (.int (0 : Int32)), (.int (0 : Int32)), (.int (0 : Int32)), (.int (0 : Int32)), (.int (0 : Int32)), (.int (0 : Int32)), (.int (0 : Int32)), (.int (0 : Int32)), (.int (0 : Int32))] (.int (0 : Int32)) := Arv.pad (Arv.new A98 (by decide)) (pad_rep [] (.int (0 : Int32)) 10)
  have pre99 : ∀ t, Steps p.tables e below (T98.setTop (mkF m 74 #[.val (.int k0), .val (.ref b1), .unset, .unset] [(.ref b2)])) t → Steps p.tables e below (s₁.setTop (entryFrame m #[(.int k0)] maxLocals)) t := fun t k => pre97 t (st98 t k)
  have V100_0 : Arv Z h98 b1 cA3 (.object "com/example/okra/okra/ValueType") (10 : Int32) [(.ref k_NIL), (.ref k_FALSE), (.ref k_TRUE), (.ref k_INTEGER), (.ref k_STRING), (.ref k_LIST), (.ref k_MAP), (.ref k_BLOB), (.ref k_FLOAT), (.ref k_INF)] .null := (V91.ext E98)
  have Z100 : n0 ≤ h98.size := (Nat.le_trans Z95 E98.1)
  have O100 : Old Z n0 h98 := (O95.ext E98)
  have pre101 : ∀ t, Steps p.tables e below (T98.setTop (mkF m 77 #[.val (.int k0), .val (.ref b1), .unset, .unset] [(.int (0 : Int32)), (.int (0 : Int32)), (.ref b2), (.ref b2)])) t → Steps p.tables e below (s₁.setTop (entryFrame m #[(.int k0)] maxLocals)) t := by
    intro t k
    refine pre99 t ?_
    refine XS.dup X98.here hx rfl (hb hby at_74) rfl rfl ?_
    show Steps p.tables e below (T98.setTop (mkF m 75 #[.val (.int k0), .val (.ref b1), .unset, .unset] [(.ref b2), (.ref b2)])) _
    refine XS.iconst X98.here hx rfl (hb hby at_75) ?_
    show Steps p.tables e below (T98.setTop (mkF m 76 #[.val (.int k0), .val (.ref b1), .unset, .unset] [(.int (0 : Int32)), (.ref b2), (.ref b2)])) _
    refine XS.iconst X98.here hx rfl (hb hby at_76) ?_
    show Steps p.tables e below (T98.setTop (mkF m 77 #[.val (.int k0), .val (.ref b1), .unset, .unset] [(.int (0 : Int32)), (.int (0 : Int32)), (.ref b2), (.ref b2)])) _
    exact k
  obtain ⟨cc102, Ar102, q1_102, Sz102, q3_102, Hs102, G102⟩ := id V98
  have hin102 : ¬ ((0 : Int32) < 0 ∨ cc102.slots.size ≤ ((0 : Int32) : Int32).toNatClampNeg) := inb_of Sz102 ⟨(by decide), (by decide)⟩
  obtain ⟨T102, h102, X102, e102, W102, st102⟩ := stZ X98 hx hZ e98 Ar102 hin102 (g := (mkF m 77 #[.val (.int k0), .val (.ref b1), .unset, .unset] [(.int (0 : Int32)), (.int (0 : Int32)), (.ref b2), (.ref b2)])) rfl rfl (hb hby at_77)
  have N102 := Fr.snoc X102 No94 g_b2
  have V102 : Arv Z h102 b2 cA98 .boolean (10 : Int32) [(.int (nar .boolean (0 : Int32))), (.int (0 : Int32)), (.int (0 : Int32)), (.int (0 : Int32)), (.int (0 : Int32)), (.int (0 : Int32)), (.int (0 : Int32)), (.int (0 : Int32)), (.int (0 : Int32)), (.int (0 : Int32))] (.int (0 : Int32)) := Arv.set Ar102 q1_102 Sz102 q3_102 Hs102 G102 (fits_nar_bool _) W102 0 (by decide) (show 0 < 10 by decide)
  have pre104 : ∀ t, Steps p.tables e below (T102.setTop (mkF m 78 #[.val (.int k0), .val (.ref b1), .unset, .unset] [(.ref b2)])) t → Steps p.tables e below (s₁.setTop (entryFrame m #[(.int k0)] maxLocals)) t := fun t k => pre101 t (st102 t k)
  obtain ⟨Lo105, Xo105, No105⟩ : ∃ L, Stand p l e room_1 s m #[(.int k0)] below meth c T102 L 2 20 ∧ Fr n0 L := ⟨_, X102, N102⟩
  have V106_0 : Arv Z h102 b1 cA3 (.object "com/example/okra/okra/ValueType") (10 : Int32) [(.ref k_NIL), (.ref k_FALSE), (.ref k_TRUE), (.ref k_INTEGER), (.ref k_STRING), (.ref k_LIST), (.ref k_MAP), (.ref k_BLOB), (.ref k_FLOAT), (.ref k_INF)] .null := (V100_0.other W102 ne_b1_b2)
  have Z106 : n0 ≤ h102.size := (Nat.le_trans Z100 (Nat.le_of_eq W102.size.symm))
  have O106 : Old Z n0 h102 := (O100.wr W102 g_b2)
  have pre107 : ∀ t, Steps p.tables e below (T102.setTop (mkF m 81 #[.val (.int k0), .val (.ref b1), .unset, .unset] [(.int (0 : Int32)), (.int (1 : Int32)), (.ref b2), (.ref b2)])) t → Steps p.tables e below (s₁.setTop (entryFrame m #[(.int k0)] maxLocals)) t := by
    intro t k
    refine pre104 t ?_
    refine XS.dup Xo105.here hx rfl (hb hby at_78) rfl rfl ?_
    show Steps p.tables e below (T102.setTop (mkF m 79 #[.val (.int k0), .val (.ref b1), .unset, .unset] [(.ref b2), (.ref b2)])) _
    refine XS.iconst Xo105.here hx rfl (hb hby at_79) ?_
    show Steps p.tables e below (T102.setTop (mkF m 80 #[.val (.int k0), .val (.ref b1), .unset, .unset] [(.int (1 : Int32)), (.ref b2), (.ref b2)])) _
    refine XS.iconst Xo105.here hx rfl (hb hby at_80) ?_
    show Steps p.tables e below (T102.setTop (mkF m 81 #[.val (.int k0), .val (.ref b1), .unset, .unset] [(.int (0 : Int32)), (.int (1 : Int32)), (.ref b2), (.ref b2)])) _
    exact k
  obtain ⟨cc108, Ar108, q1_108, Sz108, q3_108, Hs108, G108⟩ := id V102
  have hin108 : ¬ ((1 : Int32) < 0 ∨ cc108.slots.size ≤ ((1 : Int32) : Int32).toNatClampNeg) := inb_of Sz108 ⟨(by decide), (by decide)⟩
  obtain ⟨T108, h108, X108, e108, W108, st108⟩ := stZ Xo105 hx hZ e102 Ar108 hin108 (g := (mkF m 81 #[.val (.int k0), .val (.ref b1), .unset, .unset] [(.int (0 : Int32)), (.int (1 : Int32)), (.ref b2), (.ref b2)])) rfl rfl (hb hby at_81)
  have N108 := Fr.snoc X108 No105 g_b2
  have V108 : Arv Z h108 b2 cA98 .boolean (10 : Int32) [(.int (nar .boolean (0 : Int32))), (.int (nar .boolean (0 : Int32))), (.int (0 : Int32)), (.int (0 : Int32)), (.int (0 : Int32)), (.int (0 : Int32)), (.int (0 : Int32)), (.int (0 : Int32)), (.int (0 : Int32)), (.int (0 : Int32))] (.int (0 : Int32)) := Arv.set Ar108 q1_108 Sz108 q3_108 Hs108 G108 (fits_nar_bool _) W108 1 (by decide) (show 1 < 10 by decide)
  have pre110 : ∀ t, Steps p.tables e below (T108.setTop (mkF m 82 #[.val (.int k0), .val (.ref b1), .unset, .unset] [(.ref b2)])) t → Steps p.tables e below (s₁.setTop (entryFrame m #[(.int k0)] maxLocals)) t := fun t k => pre107 t (st108 t k)
  obtain ⟨Lo111, Xo111, No111⟩ : ∃ L, Stand p l e room_1 s m #[(.int k0)] below meth c T108 L 2 20 ∧ Fr n0 L := ⟨_, X108, N108⟩
  have V112_0 : Arv Z h108 b1 cA3 (.object "com/example/okra/okra/ValueType") (10 : Int32) [(.ref k_NIL), (.ref k_FALSE), (.ref k_TRUE), (.ref k_INTEGER), (.ref k_STRING), (.ref k_LIST), (.ref k_MAP), (.ref k_BLOB), (.ref k_FLOAT), (.ref k_INF)] .null := (V106_0.other W108 ne_b1_b2)
  have Z112 : n0 ≤ h108.size := (Nat.le_trans Z106 (Nat.le_of_eq W108.size.symm))
  have O112 : Old Z n0 h108 := (O106.wr W108 g_b2)
  have pre113 : ∀ t, Steps p.tables e below (T108.setTop (mkF m 85 #[.val (.int k0), .val (.ref b1), .unset, .unset] [(.int (0 : Int32)), (.int (2 : Int32)), (.ref b2), (.ref b2)])) t → Steps p.tables e below (s₁.setTop (entryFrame m #[(.int k0)] maxLocals)) t := by
    intro t k
    refine pre110 t ?_
    refine XS.dup Xo111.here hx rfl (hb hby at_82) rfl rfl ?_
    show Steps p.tables e below (T108.setTop (mkF m 83 #[.val (.int k0), .val (.ref b1), .unset, .unset] [(.ref b2), (.ref b2)])) _
    refine XS.iconst Xo111.here hx rfl (hb hby at_83) ?_
    show Steps p.tables e below (T108.setTop (mkF m 84 #[.val (.int k0), .val (.ref b1), .unset, .unset] [(.int (2 : Int32)), (.ref b2), (.ref b2)])) _
    refine XS.iconst Xo111.here hx rfl (hb hby at_84) ?_
    show Steps p.tables e below (T108.setTop (mkF m 85 #[.val (.int k0), .val (.ref b1), .unset, .unset] [(.int (0 : Int32)), (.int (2 : Int32)), (.ref b2), (.ref b2)])) _
    exact k
  obtain ⟨cc114, Ar114, q1_114, Sz114, q3_114, Hs114, G114⟩ := id V108
  have hin114 : ¬ ((2 : Int32) < 0 ∨ cc114.slots.size ≤ ((2 : Int32) : Int32).toNatClampNeg) := inb_of Sz114 ⟨(by decide), (by decide)⟩
  obtain ⟨T114, h114, X114, e114, W114, st114⟩ := stZ Xo111 hx hZ e108 Ar114 hin114 (g := (mkF m 85 #[.val (.int k0), .val (.ref b1), .unset, .unset] [(.int (0 : Int32)), (.int (2 : Int32)), (.ref b2), (.ref b2)])) rfl rfl (hb hby at_85)
  have N114 := Fr.snoc X114 No111 g_b2
  have V114 : Arv Z h114 b2 cA98 .boolean (10 : Int32) [(.int (nar .boolean (0 : Int32))), (.int (nar .boolean (0 : Int32))), (.int (nar .boolean (0 : Int32))), (.int (0 : Int32)), (.int (0 : Int32)), (.int (0 : Int32)), (.int (0 : Int32)), (.int (0 : Int32)), (.int (0 : Int32)), (.int (0 : Int32))] (.int (0 : Int32)) := Arv.set Ar114 q1_114 Sz114 q3_114 Hs114 G114 (fits_nar_bool _) W114 2 (by decide) (show 2 < 10 by decide)
  have pre116 : ∀ t, Steps p.tables e below (T114.setTop (mkF m 86 #[.val (.int k0), .val (.ref b1), .unset, .unset] [(.ref b2)])) t → Steps p.tables e below (s₁.setTop (entryFrame m #[(.int k0)] maxLocals)) t := fun t k => pre113 t (st114 t k)
  obtain ⟨Lo117, Xo117, No117⟩ : ∃ L, Stand p l e room_1 s m #[(.int k0)] below meth c T114 L 2 20 ∧ Fr n0 L := ⟨_, X114, N114⟩
  have V118_0 : Arv Z h114 b1 cA3 (.object "com/example/okra/okra/ValueType") (10 : Int32) [(.ref k_NIL), (.ref k_FALSE), (.ref k_TRUE), (.ref k_INTEGER), (.ref k_STRING), (.ref k_LIST), (.ref k_MAP), (.ref k_BLOB), (.ref k_FLOAT), (.ref k_INF)] .null := (V112_0.other W114 ne_b1_b2)
  have Z118 : n0 ≤ h114.size := (Nat.le_trans Z112 (Nat.le_of_eq W114.size.symm))
  have O118 : Old Z n0 h114 := (O112.wr W114 g_b2)
  have pre119 : ∀ t, Steps p.tables e below (T114.setTop (mkF m 89 #[.val (.int k0), .val (.ref b1), .unset, .unset] [(.int (1 : Int32)), (.int (3 : Int32)), (.ref b2), (.ref b2)])) t → Steps p.tables e below (s₁.setTop (entryFrame m #[(.int k0)] maxLocals)) t := by
    intro t k
    refine pre116 t ?_
    refine XS.dup Xo117.here hx rfl (hb hby at_86) rfl rfl ?_
    show Steps p.tables e below (T114.setTop (mkF m 87 #[.val (.int k0), .val (.ref b1), .unset, .unset] [(.ref b2), (.ref b2)])) _
    refine XS.iconst Xo117.here hx rfl (hb hby at_87) ?_
    show Steps p.tables e below (T114.setTop (mkF m 88 #[.val (.int k0), .val (.ref b1), .unset, .unset] [(.int (3 : Int32)), (.ref b2), (.ref b2)])) _
    refine XS.iconst Xo117.here hx rfl (hb hby at_88) ?_
    show Steps p.tables e below (T114.setTop (mkF m 89 #[.val (.int k0), .val (.ref b1), .unset, .unset] [(.int (1 : Int32)), (.int (3 : Int32)), (.ref b2), (.ref b2)])) _
    exact k
  obtain ⟨cc120, Ar120, q1_120, Sz120, q3_120, Hs120, G120⟩ := id V114
  have hin120 : ¬ ((3 : Int32) < 0 ∨ cc120.slots.size ≤ ((3 : Int32) : Int32).toNatClampNeg) := inb_of Sz120 ⟨(by decide), (by decide)⟩
  obtain ⟨T120, h120, X120, e120, W120, st120⟩ := stZ Xo117 hx hZ e114 Ar120 hin120 (g := (mkF m 89 #[.val (.int k0), .val (.ref b1), .unset, .unset] [(.int (1 : Int32)), (.int (3 : Int32)), (.ref b2), (.ref b2)])) rfl rfl (hb hby at_89)
  have N120 := Fr.snoc X120 No117 g_b2
  have V120 : Arv Z h120 b2 cA98 .boolean (10 : Int32) [(.int (nar .boolean (0 : Int32))), (.int (nar .boolean (0 : Int32))), (.int (nar .boolean (0 : Int32))), (.int (nar .boolean (1 : Int32))), (.int (0 : Int32)), (.int (0 : Int32)), (.int (0 : Int32)), (.int (0 : Int32)), (.int (0 : Int32)), (.int (0 : Int32))] (.int (0 : Int32)) := Arv.set Ar120 q1_120 Sz120 q3_120 Hs120 G120 (fits_nar_bool _) W120 3 (by decide) (show 3 < 10 by decide)
  have pre122 : ∀ t, Steps p.tables e below (T120.setTop (mkF m 90 #[.val (.int k0), .val (.ref b1), .unset, .unset] [(.ref b2)])) t → Steps p.tables e below (s₁.setTop (entryFrame m #[(.int k0)] maxLocals)) t := fun t k => pre119 t (st120 t k)
  obtain ⟨Lo123, Xo123, No123⟩ : ∃ L, Stand p l e room_1 s m #[(.int k0)] below meth c T120 L 2 20 ∧ Fr n0 L := ⟨_, X120, N120⟩
  have V124_0 : Arv Z h120 b1 cA3 (.object "com/example/okra/okra/ValueType") (10 : Int32) [(.ref k_NIL), (.ref k_FALSE), (.ref k_TRUE), (.ref k_INTEGER), (.ref k_STRING), (.ref k_LIST), (.ref k_MAP), (.ref k_BLOB), (.ref k_FLOAT), (.ref k_INF)] .null := (V118_0.other W120 ne_b1_b2)
  have Z124 : n0 ≤ h120.size := (Nat.le_trans Z118 (Nat.le_of_eq W120.size.symm))
  have O124 : Old Z n0 h120 := (O118.wr W120 g_b2)
  have pre125 : ∀ t, Steps p.tables e below (T120.setTop (mkF m 93 #[.val (.int k0), .val (.ref b1), .unset, .unset] [(.int (1 : Int32)), (.int (4 : Int32)), (.ref b2), (.ref b2)])) t → Steps p.tables e below (s₁.setTop (entryFrame m #[(.int k0)] maxLocals)) t := by
    intro t k
    refine pre122 t ?_
    refine XS.dup Xo123.here hx rfl (hb hby at_90) rfl rfl ?_
    show Steps p.tables e below (T120.setTop (mkF m 91 #[.val (.int k0), .val (.ref b1), .unset, .unset] [(.ref b2), (.ref b2)])) _
    refine XS.iconst Xo123.here hx rfl (hb hby at_91) ?_
    show Steps p.tables e below (T120.setTop (mkF m 92 #[.val (.int k0), .val (.ref b1), .unset, .unset] [(.int (4 : Int32)), (.ref b2), (.ref b2)])) _
    refine XS.iconst Xo123.here hx rfl (hb hby at_92) ?_
    show Steps p.tables e below (T120.setTop (mkF m 93 #[.val (.int k0), .val (.ref b1), .unset, .unset] [(.int (1 : Int32)), (.int (4 : Int32)), (.ref b2), (.ref b2)])) _
    exact k
  obtain ⟨cc126, Ar126, q1_126, Sz126, q3_126, Hs126, G126⟩ := id V120
  have hin126 : ¬ ((4 : Int32) < 0 ∨ cc126.slots.size ≤ ((4 : Int32) : Int32).toNatClampNeg) := inb_of Sz126 ⟨(by decide), (by decide)⟩
  obtain ⟨T126, h126, X126, e126, W126, st126⟩ := stZ Xo123 hx hZ e120 Ar126 hin126 (g := (mkF m 93 #[.val (.int k0), .val (.ref b1), .unset, .unset] [(.int (1 : Int32)), (.int (4 : Int32)), (.ref b2), (.ref b2)])) rfl rfl (hb hby at_93)
  have N126 := Fr.snoc X126 No123 g_b2
  have V126 : Arv Z h126 b2 cA98 .boolean (10 : Int32) [(.int (nar .boolean (0 : Int32))), (.int (nar .boolean (0 : Int32))), (.int (nar .boolean (0 : Int32))), (.int (nar .boolean (1 : Int32))), (.int (nar .boolean (1 : Int32))), (.int (0 : Int32)), (.int (0 : Int32)), (.int (0 : Int32)), (.int (0 : Int32)), (.int (0 : Int32))] (.int (0 : Int32)) := Arv.set Ar126 q1_126 Sz126 q3_126 Hs126 G126 (fits_nar_bool _) W126 4 (by decide) (show 4 < 10 by decide)
  have pre128 : ∀ t, Steps p.tables e below (T126.setTop (mkF m 94 #[.val (.int k0), .val (.ref b1), .unset, .unset] [(.ref b2)])) t → Steps p.tables e below (s₁.setTop (entryFrame m #[(.int k0)] maxLocals)) t := fun t k => pre125 t (st126 t k)
  obtain ⟨Lo129, Xo129, No129⟩ : ∃ L, Stand p l e room_1 s m #[(.int k0)] below meth c T126 L 2 20 ∧ Fr n0 L := ⟨_, X126, N126⟩
  have V130_0 : Arv Z h126 b1 cA3 (.object "com/example/okra/okra/ValueType") (10 : Int32) [(.ref k_NIL), (.ref k_FALSE), (.ref k_TRUE), (.ref k_INTEGER), (.ref k_STRING), (.ref k_LIST), (.ref k_MAP), (.ref k_BLOB), (.ref k_FLOAT), (.ref k_INF)] .null := (V124_0.other W126 ne_b1_b2)
  have Z130 : n0 ≤ h126.size := (Nat.le_trans Z124 (Nat.le_of_eq W126.size.symm))
  have O130 : Old Z n0 h126 := (O124.wr W126 g_b2)
  have pre131 : ∀ t, Steps p.tables e below (T126.setTop (mkF m 97 #[.val (.int k0), .val (.ref b1), .unset, .unset] [(.int (0 : Int32)), (.int (5 : Int32)), (.ref b2), (.ref b2)])) t → Steps p.tables e below (s₁.setTop (entryFrame m #[(.int k0)] maxLocals)) t := by
    intro t k
    refine pre128 t ?_
    refine XS.dup Xo129.here hx rfl (hb hby at_94) rfl rfl ?_
    show Steps p.tables e below (T126.setTop (mkF m 95 #[.val (.int k0), .val (.ref b1), .unset, .unset] [(.ref b2), (.ref b2)])) _
    refine XS.iconst Xo129.here hx rfl (hb hby at_95) ?_
    show Steps p.tables e below (T126.setTop (mkF m 96 #[.val (.int k0), .val (.ref b1), .unset, .unset] [(.int (5 : Int32)), (.ref b2), (.ref b2)])) _
    refine XS.iconst Xo129.here hx rfl (hb hby at_96) ?_
    show Steps p.tables e below (T126.setTop (mkF m 97 #[.val (.int k0), .val (.ref b1), .unset, .unset] [(.int (0 : Int32)), (.int (5 : Int32)), (.ref b2), (.ref b2)])) _
    exact k
  obtain ⟨cc132, Ar132, q1_132, Sz132, q3_132, Hs132, G132⟩ := id V126
  have hin132 : ¬ ((5 : Int32) < 0 ∨ cc132.slots.size ≤ ((5 : Int32) : Int32).toNatClampNeg) := inb_of Sz132 ⟨(by decide), (by decide)⟩
  obtain ⟨T132, h132, X132, e132, W132, st132⟩ := stZ Xo129 hx hZ e126 Ar132 hin132 (g := (mkF m 97 #[.val (.int k0), .val (.ref b1), .unset, .unset] [(.int (0 : Int32)), (.int (5 : Int32)), (.ref b2), (.ref b2)])) rfl rfl (hb hby at_97)
  have N132 := Fr.snoc X132 No129 g_b2
  have V132 : Arv Z h132 b2 cA98 .boolean (10 : Int32) [(.int (nar .boolean (0 : Int32))), (.int (nar .boolean (0 : Int32))), (.int (nar .boolean (0 : Int32))), (.int (nar .boolean (1 : Int32))), (.int (nar .boolean (1 : Int32))), (.int (nar .boolean (0 : Int32))), (.int (0 : Int32)), (.int (0 : Int32)), (.int (0 : Int32)), (.int (0 : Int32))] (.int (0 : Int32)) := Arv.set Ar132 q1_132 Sz132 q3_132 Hs132 G132 (fits_nar_bool _) W132 5 (by decide) (show 5 < 10 by decide)
  have pre134 : ∀ t, Steps p.tables e below (T132.setTop (mkF m 98 #[.val (.int k0), .val (.ref b1), .unset, .unset] [(.ref b2)])) t → Steps p.tables e below (s₁.setTop (entryFrame m #[(.int k0)] maxLocals)) t := fun t k => pre131 t (st132 t k)
  obtain ⟨Lo135, Xo135, No135⟩ : ∃ L, Stand p l e room_1 s m #[(.int k0)] below meth c T132 L 2 20 ∧ Fr n0 L := ⟨_, X132, N132⟩
  have V136_0 : Arv Z h132 b1 cA3 (.object "com/example/okra/okra/ValueType") (10 : Int32) [(.ref k_NIL), (.ref k_FALSE), (.ref k_TRUE), (.ref k_INTEGER), (.ref k_STRING), (.ref k_LIST), (.ref k_MAP), (.ref k_BLOB), (.ref k_FLOAT), (.ref k_INF)] .null := (V130_0.other W132 ne_b1_b2)
  have Z136 : n0 ≤ h132.size := (Nat.le_trans Z130 (Nat.le_of_eq W132.size.symm))
  have O136 : Old Z n0 h132 := (O130.wr W132 g_b2)
  have pre137 : ∀ t, Steps p.tables e below (T132.setTop (mkF m 102 #[.val (.int k0), .val (.ref b1), .unset, .unset] [(.int (0 : Int32)), (.int (6 : Int32)), (.ref b2), (.ref b2)])) t → Steps p.tables e below (s₁.setTop (entryFrame m #[(.int k0)] maxLocals)) t := by
    intro t k
    refine pre134 t ?_
    refine XS.dup Xo135.here hx rfl (hb hby at_98) rfl rfl ?_
    show Steps p.tables e below (T132.setTop (mkF m 99 #[.val (.int k0), .val (.ref b1), .unset, .unset] [(.ref b2), (.ref b2)])) _
    refine XS.bipush Xo135.here hx rfl (hb hby at_99) ?_
    show Steps p.tables e below (T132.setTop (mkF m 101 #[.val (.int k0), .val (.ref b1), .unset, .unset] [(.int (6 : Int32)), (.ref b2), (.ref b2)])) _
    refine XS.iconst Xo135.here hx rfl (hb hby at_101) ?_
    show Steps p.tables e below (T132.setTop (mkF m 102 #[.val (.int k0), .val (.ref b1), .unset, .unset] [(.int (0 : Int32)), (.int (6 : Int32)), (.ref b2), (.ref b2)])) _
    exact k
  obtain ⟨cc138, Ar138, q1_138, Sz138, q3_138, Hs138, G138⟩ := id V132
  have hin138 : ¬ ((6 : Int32) < 0 ∨ cc138.slots.size ≤ ((6 : Int32) : Int32).toNatClampNeg) := inb_of Sz138 ⟨(by decide), (by decide)⟩
  obtain ⟨T138, h138, X138, e138, W138, st138⟩ := stZ Xo135 hx hZ e132 Ar138 hin138 (g := (mkF m 102 #[.val (.int k0), .val (.ref b1), .unset, .unset] [(.int (0 : Int32)), (.int (6 : Int32)), (.ref b2), (.ref b2)])) rfl rfl (hb hby at_102)
  have N138 := Fr.snoc X138 No135 g_b2
  have V138 : Arv Z h138 b2 cA98 .boolean (10 : Int32) [(.int (nar .boolean (0 : Int32))), (.int (nar .boolean (0 : Int32))), (.int (nar .boolean (0 : Int32))), (.int (nar .boolean (1 : Int32))), (.int (nar .boolean (1 : Int32))), (.int (nar .boolean (0 : Int32))), (.int (nar .boolean (0 : Int32))), (.int (0 : Int32)), (.int (0 : Int32)), (.int (0 : Int32))] (.int (0 : Int32)) := Arv.set Ar138 q1_138 Sz138 q3_138 Hs138 G138 (fits_nar_bool _) W138 6 (by decide) (show 6 < 10 by decide)
  have pre140 : ∀ t, Steps p.tables e below (T138.setTop (mkF m 103 #[.val (.int k0), .val (.ref b1), .unset, .unset] [(.ref b2)])) t → Steps p.tables e below (s₁.setTop (entryFrame m #[(.int k0)] maxLocals)) t := fun t k => pre137 t (st138 t k)
  obtain ⟨Lo141, Xo141, No141⟩ : ∃ L, Stand p l e room_1 s m #[(.int k0)] below meth c T138 L 2 20 ∧ Fr n0 L := ⟨_, X138, N138⟩
  have V142_0 : Arv Z h138 b1 cA3 (.object "com/example/okra/okra/ValueType") (10 : Int32) [(.ref k_NIL), (.ref k_FALSE), (.ref k_TRUE), (.ref k_INTEGER), (.ref k_STRING), (.ref k_LIST), (.ref k_MAP), (.ref k_BLOB), (.ref k_FLOAT), (.ref k_INF)] .null := (V136_0.other W138 ne_b1_b2)
  have Z142 : n0 ≤ h138.size := (Nat.le_trans Z136 (Nat.le_of_eq W138.size.symm))
  have O142 : Old Z n0 h138 := (O136.wr W138 g_b2)
  have pre143 : ∀ t, Steps p.tables e below (T138.setTop (mkF m 107 #[.val (.int k0), .val (.ref b1), .unset, .unset] [(.int (1 : Int32)), (.int (7 : Int32)), (.ref b2), (.ref b2)])) t → Steps p.tables e below (s₁.setTop (entryFrame m #[(.int k0)] maxLocals)) t := by
    intro t k
    refine pre140 t ?_
    refine XS.dup Xo141.here hx rfl (hb hby at_103) rfl rfl ?_
    show Steps p.tables e below (T138.setTop (mkF m 104 #[.val (.int k0), .val (.ref b1), .unset, .unset] [(.ref b2), (.ref b2)])) _
    refine XS.bipush Xo141.here hx rfl (hb hby at_104) ?_
    show Steps p.tables e below (T138.setTop (mkF m 106 #[.val (.int k0), .val (.ref b1), .unset, .unset] [(.int (7 : Int32)), (.ref b2), (.ref b2)])) _
    refine XS.iconst Xo141.here hx rfl (hb hby at_106) ?_
    show Steps p.tables e below (T138.setTop (mkF m 107 #[.val (.int k0), .val (.ref b1), .unset, .unset] [(.int (1 : Int32)), (.int (7 : Int32)), (.ref b2), (.ref b2)])) _
    exact k
  obtain ⟨cc144, Ar144, q1_144, Sz144, q3_144, Hs144, G144⟩ := id V138
  have hin144 : ¬ ((7 : Int32) < 0 ∨ cc144.slots.size ≤ ((7 : Int32) : Int32).toNatClampNeg) := inb_of Sz144 ⟨(by decide), (by decide)⟩
  obtain ⟨T144, h144, X144, e144, W144, st144⟩ := stZ Xo141 hx hZ e138 Ar144 hin144 (g := (mkF m 107 #[.val (.int k0), .val (.ref b1), .unset, .unset] [(.int (1 : Int32)), (.int (7 : Int32)), (.ref b2), (.ref b2)])) rfl rfl (hb hby at_107)
  have N144 := Fr.snoc X144 No141 g_b2
  have V144 : Arv Z h144 b2 cA98 .boolean (10 : Int32) [(.int (nar .boolean (0 : Int32))), (.int (nar .boolean (0 : Int32))), (.int (nar .boolean (0 : Int32))), (.int (nar .boolean (1 : Int32))), (.int (nar .boolean (1 : Int32))), (.int (nar .boolean (0 : Int32))), (.int (nar .boolean (0 : Int32))), (.int (nar .boolean (1 : Int32))), (.int (0 : Int32)), (.int (0 : Int32))] (.int (0 : Int32)) := Arv.set Ar144 q1_144 Sz144 q3_144 Hs144 G144 (fits_nar_bool _) W144 7 (by decide) (show 7 < 10 by decide)
  have pre146 : ∀ t, Steps p.tables e below (T144.setTop (mkF m 108 #[.val (.int k0), .val (.ref b1), .unset, .unset] [(.ref b2)])) t → Steps p.tables e below (s₁.setTop (entryFrame m #[(.int k0)] maxLocals)) t := fun t k => pre143 t (st144 t k)
  obtain ⟨Lo147, Xo147, No147⟩ : ∃ L, Stand p l e room_1 s m #[(.int k0)] below meth c T144 L 2 20 ∧ Fr n0 L := ⟨_, X144, N144⟩
  have V148_0 : Arv Z h144 b1 cA3 (.object "com/example/okra/okra/ValueType") (10 : Int32) [(.ref k_NIL), (.ref k_FALSE), (.ref k_TRUE), (.ref k_INTEGER), (.ref k_STRING), (.ref k_LIST), (.ref k_MAP), (.ref k_BLOB), (.ref k_FLOAT), (.ref k_INF)] .null := (V142_0.other W144 ne_b1_b2)
  have Z148 : n0 ≤ h144.size := (Nat.le_trans Z142 (Nat.le_of_eq W144.size.symm))
  have O148 : Old Z n0 h144 := (O142.wr W144 g_b2)
  have pre149 : ∀ t, Steps p.tables e below (T144.setTop (mkF m 112 #[.val (.int k0), .val (.ref b1), .unset, .unset] [(.int (0 : Int32)), (.int (8 : Int32)), (.ref b2), (.ref b2)])) t → Steps p.tables e below (s₁.setTop (entryFrame m #[(.int k0)] maxLocals)) t := by
    intro t k
    refine pre146 t ?_
    refine XS.dup Xo147.here hx rfl (hb hby at_108) rfl rfl ?_
    show Steps p.tables e below (T144.setTop (mkF m 109 #[.val (.int k0), .val (.ref b1), .unset, .unset] [(.ref b2), (.ref b2)])) _
    refine XS.bipush Xo147.here hx rfl (hb hby at_109) ?_
    show Steps p.tables e below (T144.setTop (mkF m 111 #[.val (.int k0), .val (.ref b1), .unset, .unset] [(.int (8 : Int32)), (.ref b2), (.ref b2)])) _
    refine XS.iconst Xo147.here hx rfl (hb hby at_111) ?_
    show Steps p.tables e below (T144.setTop (mkF m 112 #[.val (.int k0), .val (.ref b1), .unset, .unset] [(.int (0 : Int32)), (.int (8 : Int32)), (.ref b2), (.ref b2)])) _
    exact k
  obtain ⟨cc150, Ar150, q1_150, Sz150, q3_150, Hs150, G150⟩ := id V144
  have hin150 : ¬ ((8 : Int32) < 0 ∨ cc150.slots.size ≤ ((8 : Int32) : Int32).toNatClampNeg) := inb_of Sz150 ⟨(by decide), (by decide)⟩
  obtain ⟨T150, h150, X150, e150, W150, st150⟩ := stZ Xo147 hx hZ e144 Ar150 hin150 (g := (mkF m 112 #[.val (.int k0), .val (.ref b1), .unset, .unset] [(.int (0 : Int32)), (.int (8 : Int32)), (.ref b2), (.ref b2)])) rfl rfl (hb hby at_112)
  have N150 := Fr.snoc X150 No147 g_b2
  have V150 : Arv Z h150 b2 cA98 .boolean (10 : Int32) [(.int (nar .boolean (0 : Int32))), (.int (nar .boolean (0 : Int32))), (.int (nar .boolean (0 : Int32))), (.int (nar .boolean (1 : Int32))), (.int (nar .boolean (1 : Int32))), (.int (nar .boolean (0 : Int32))), (.int (nar .boolean (0 : Int32))), (.int (nar .boolean (1 : Int32))), (.int (nar .boolean (0 : Int32))), (.int (0 : Int32))] (.int (0 : Int32)) := Arv.set Ar150 q1_150 Sz150 q3_150 Hs150 G150 (fits_nar_bool _) W150 8 (by decide) (show 8 < 10 by decide)
  have pre152 : ∀ t, Steps p.tables e below (T150.setTop (mkF m 113 #[.val (.int k0), .val (.ref b1), .unset, .unset] [(.ref b2)])) t → Steps p.tables e below (s₁.setTop (entryFrame m #[(.int k0)] maxLocals)) t := fun t k => pre149 t (st150 t k)
  obtain ⟨Lo153, Xo153, No153⟩ : ∃ L, Stand p l e room_1 s m #[(.int k0)] below meth c T150 L 2 20 ∧ Fr n0 L := ⟨_, X150, N150⟩
  have V154_0 : Arv Z h150 b1 cA3 (.object "com/example/okra/okra/ValueType") (10 : Int32) [(.ref k_NIL), (.ref k_FALSE), (.ref k_TRUE), (.ref k_INTEGER), (.ref k_STRING), (.ref k_LIST), (.ref k_MAP), (.ref k_BLOB), (.ref k_FLOAT), (.ref k_INF)] .null := (V148_0.other W150 ne_b1_b2)
  have Z154 : n0 ≤ h150.size := (Nat.le_trans Z148 (Nat.le_of_eq W150.size.symm))
  have O154 : Old Z n0 h150 := (O148.wr W150 g_b2)
  have pre155 : ∀ t, Steps p.tables e below (T150.setTop (mkF m 117 #[.val (.int k0), .val (.ref b1), .unset, .unset] [(.int (0 : Int32)), (.int (9 : Int32)), (.ref b2), (.ref b2)])) t → Steps p.tables e below (s₁.setTop (entryFrame m #[(.int k0)] maxLocals)) t := by
    intro t k
    refine pre152 t ?_
    refine XS.dup Xo153.here hx rfl (hb hby at_113) rfl rfl ?_
    show Steps p.tables e below (T150.setTop (mkF m 114 #[.val (.int k0), .val (.ref b1), .unset, .unset] [(.ref b2), (.ref b2)])) _
    refine XS.bipush Xo153.here hx rfl (hb hby at_114) ?_
    show Steps p.tables e below (T150.setTop (mkF m 116 #[.val (.int k0), .val (.ref b1), .unset, .unset] [(.int (9 : Int32)), (.ref b2), (.ref b2)])) _
    refine XS.iconst Xo153.here hx rfl (hb hby at_116) ?_
    show Steps p.tables e below (T150.setTop (mkF m 117 #[.val (.int k0), .val (.ref b1), .unset, .unset] [(.int (0 : Int32)), (.int (9 : Int32)), (.ref b2), (.ref b2)])) _
    exact k
  obtain ⟨cc156, Ar156, q1_156, Sz156, q3_156, Hs156, G156⟩ := id V150
  have hin156 : ¬ ((9 : Int32) < 0 ∨ cc156.slots.size ≤ ((9 : Int32) : Int32).toNatClampNeg) := inb_of Sz156 ⟨(by decide), (by decide)⟩
  obtain ⟨T156, h156, X156, e156, W156, st156⟩ := stZ Xo153 hx hZ e150 Ar156 hin156 (g := (mkF m 117 #[.val (.int k0), .val (.ref b1), .unset, .unset] [(.int (0 : Int32)), (.int (9 : Int32)), (.ref b2), (.ref b2)])) rfl rfl (hb hby at_117)
  have N156 := Fr.snoc X156 No153 g_b2
  have V156 : Arv Z h156 b2 cA98 .boolean (10 : Int32) [(.int (nar .boolean (0 : Int32))), (.int (nar .boolean (0 : Int32))), (.int (nar .boolean (0 : Int32))), (.int (nar .boolean (1 : Int32))), (.int (nar .boolean (1 : Int32))), (.int (nar .boolean (0 : Int32))), (.int (nar .boolean (0 : Int32))), (.int (nar .boolean (1 : Int32))), (.int (nar .boolean (0 : Int32))), (.int (nar .boolean (0 : Int32)))] (.int (0 : Int32)) := Arv.set Ar156 q1_156 Sz156 q3_156 Hs156 G156 (fits_nar_bool _) W156 9 (by decide) (show 9 < 10 by decide)
  have pre158 : ∀ t, Steps p.tables e below (T156.setTop (mkF m 118 #[.val (.int k0), .val (.ref b1), .unset, .unset] [(.ref b2)])) t → Steps p.tables e below (s₁.setTop (entryFrame m #[(.int k0)] maxLocals)) t := fun t k => pre155 t (st156 t k)
  obtain ⟨Lo159, Xo159, No159⟩ : ∃ L, Stand p l e room_1 s m #[(.int k0)] below meth c T156 L 2 20 ∧ Fr n0 L := ⟨_, X156, N156⟩
  have V160_0 : Arv Z h156 b1 cA3 (.object "com/example/okra/okra/ValueType") (10 : Int32) [(.ref k_NIL), (.ref k_FALSE), (.ref k_TRUE), (.ref k_INTEGER), (.ref k_STRING), (.ref k_LIST), (.ref k_MAP), (.ref k_BLOB), (.ref k_FLOAT), (.ref k_INF)] .null := (V154_0.other W156 ne_b1_b2)
  have Z160 : n0 ≤ h156.size := (Nat.le_trans Z154 (Nat.le_of_eq W156.size.symm))
  have O160 : Old Z n0 h156 := (O154.wr W156 g_b2)
  have pre161 : ∀ t, Steps p.tables e below (T156.setTop (mkF m 127 #[.val (.int k0), .val (.ref b1), .val (.ref b2), .val (.int ((k0 &&& (2147483647 : Int32)) % (10 : Int32)))] [])) t → Steps p.tables e below (s₁.setTop (entryFrame m #[(.int k0)] maxLocals)) t := by
    intro t k
    refine pre158 t ?_
    refine XS.astoreN Xo159.here hx rfl (hb hby at_118) rfl rfl (l' := #[.val (.int k0), .val (.ref b1), .val (.ref b2), .unset]) rfl ?_
    show Steps p.tables e below (T156.setTop (mkF m 119 #[.val (.int k0), .val (.ref b1), .val (.ref b2), .unset] [])) _
    refine XS.iloadN Xo159.here hx rfl (hb hby at_119) rfl ?_
    show Steps p.tables e below (T156.setTop (mkF m 120 #[.val (.int k0), .val (.ref b1), .val (.ref b2), .unset] [(.int k0)])) _
    refine Stand.ldcI Xo159 hx hown (mvT hZ (hw _ (List.mem_of_getElem? (i := 25) rfl))) rfl (hb hby at_120) ?_
    show Steps p.tables e below (T156.setTop (mkF m 122 #[.val (.int k0), .val (.ref b1), .val (.ref b2), .unset] [(.int (2147483647 : Int32)), (.int k0)])) _
    refine XS.iand Xo159.here hx rfl (hb hby at_122) rfl ?_
    show Steps p.tables e below (T156.setTop (mkF m 123 #[.val (.int k0), .val (.ref b1), .val (.ref b2), .unset] [(.int (k0 &&& (2147483647 : Int32)))])) _
    refine XS.bipush Xo159.here hx rfl (hb hby at_123) ?_
    show Steps p.tables e below (T156.setTop (mkF m 125 #[.val (.int k0), .val (.ref b1), .val (.ref b2), .unset] [(.int (10 : Int32)), (.int (k0 &&& (2147483647 : Int32)))])) _
    refine iremM Xo159 hx rfl (hb hby at_125) rfl (by decide) ?_
    show Steps p.tables e below (T156.setTop (mkF m 126 #[.val (.int k0), .val (.ref b1), .val (.ref b2), .unset] [(.int ((k0 &&& (2147483647 : Int32)) % (10 : Int32)))])) _
    refine XS.istoreN Xo159.here hx rfl (hb hby at_126) rfl (l' := #[.val (.int k0), .val (.ref b1), .val (.ref b2), .val (.int ((k0 &&& (2147483647 : Int32)) % (10 : Int32)))]) rfl ?_
    show Steps p.tables e below (T156.setTop (mkF m 127 #[.val (.int k0), .val (.ref b1), .val (.ref b2), .val (.int ((k0 &&& (2147483647 : Int32)) % (10 : Int32)))] [])) _
    exact k
  obtain ⟨ii, hn_ii, pre162⟩ : ∃ ii : Int32, ii = ((k0 &&& (2147483647 : Int32)) % (10 : Int32)) ∧ ∀ t, Steps p.tables e below (T156.setTop (mkF m 127 #[.val (.int k0), .val (.ref b1), .val (.ref b2), .val (.int ii)] [])) t → Steps p.tables e below (s₁.setTop (entryFrame m #[(.int k0)] maxLocals)) t := ⟨_, rfl, pre161⟩
  rcases own_ten hn_ii with hq | hq | hq | hq | hq | hq | hq | hq | hq | hq
  · subst hq
    have pre163 : ∀ t, Steps p.tables e below (T156.setTop (mkF m 129 #[.val (.int k0), .val (.ref b1), .val (.ref b2), .val (.int (0 : Int32))] [(.int (0 : Int32)), (.ref b1)])) t → Steps p.tables e below (s₁.setTop (entryFrame m #[(.int k0)] maxLocals)) t := by
      intro t k
      refine pre162 t ?_
      refine XS.aloadN Xo159.here hx rfl (hb hby at_127) rfl rfl ?_
      show Steps p.tables e below (T156.setTop (mkF m 128 #[.val (.int k0), .val (.ref b1), .val (.ref b2), .val (.int (0 : Int32))] [(.ref b1)])) _
      refine XS.iloadN Xo159.here hx rfl (hb hby at_128) rfl ?_
      show Steps p.tables e below (T156.setTop (mkF m 129 #[.val (.int k0), .val (.ref b1), .val (.ref b2), .val (.int (0 : Int32))] [(.int (0 : Int32)), (.ref b1)])) _
      exact k
    obtain ⟨cc164, Ar164, q1_164, Sz164, q3_164, Hs164, G164⟩ := id V160_0
    have hin164 : ¬ ((0 : Int32) < 0 ∨ cc164.slots.size ≤ ((0 : Int32) : Int32).toNatClampNeg) := inb_of Sz164 ⟨(by decide), (by decide)⟩
    have hat164 : cc164.slots[((0 : Int32) : Int32).toNatClampNeg]? = some (.ref k_NIL) := Hs164.at hin164 rfl
    have pre166 : ∀ t, Steps p.tables e below (T156.setTop (mkF m 130 #[.val (.int k0), .val (.ref b1), .val (.ref b2), .val (.int (0 : Int32))] [(.ref k_NIL)])) t → Steps p.tables e below (s₁.setTop (entryFrame m #[(.int k0)] maxLocals)) t := by
      intro t k
      refine pre163 t ?_
      refine Xo159.aaload hx (j := (0 : Int32)) (v := (.ref k_NIL)) (by rw [e156]; exact Ar164.1) (State.isArrayOf_alike hZ.alike Ar164.2.1) rfl Ar164.2.2 hin164 hat164 (g := (mkF m 129 #[.val (.int k0), .val (.ref b1), .val (.ref b2), .val (.int (0 : Int32))] [(.int (0 : Int32)), (.ref b1)])) rfl rfl (hb hby at_129) _ ?_
      show Steps p.tables e below (T156.setTop (mkF m 130 #[.val (.int k0), .val (.ref b1), .val (.ref b2), .val (.int (0 : Int32))] [(.ref k_NIL)])) _
      exact k
    obtain ⟨cq168, kq168, q168a, q168b, q168c⟩ := isOf hZ e156 (E_NIL.ext O160.2)
    obtain ⟨_, _, ⟨T168, L168, k168, n168⟩, -, X168, ⟨Lc168, hQ168, l168, y168, z168⟩, st168⟩ := Xo159.virtualBack hx (y := (⟨"com/example/okra/okra/ValueType", "isMapKey", "()Z"⟩ : MethodName)) (z := (⟨"com/example/okra/okra/ValueType", "isMapKey", "()Z"⟩ : MethodName)) hown (mvT hZ (hw _ (List.mem_of_getElem? (i := 26) rfl))) (mvT hZ (hw _ (List.mem_of_getElem? (i := 27) rfl))) (notFace_of_selects (args := #[]) (mvT hZ (hw _ (List.mem_of_getElem? (i := 29) rfl)))) (mvT hZ (hw _ (List.mem_of_getElem? (i := 29) rfl))) (mvT hZ (hw _ (List.mem_of_getElem? (i := 28) rfl))) (by decide) (backOf (W := 0) (rm1 l Z a0 hw [] k_NIL k_INTEGER k_STRING k_BLOB h156 n0 Z160 (S_INTEGER.ext O160.2) (S_STRING.ext O160.2) (S_BLOB.ext O160.2)) hZ (hw _ (List.mem_of_getElem? (i := 30) rfl)) (hw _ (List.mem_of_getElem? (i := 3) rfl)) (by decide) (by decide)) q168a q168c (g := (mkF m 130 #[.val (.int k0), .val (.ref b1), .val (.ref b2), .val (.int (0 : Int32))] [(.ref k_NIL)])) rfl (by rw [hml]; rfl) (Steps.refl _) (argsL := []) (rest := []) (lenOf pd_imk rfl) rfl (by show 2 * 0 + _ ≤ _; exact Nat.le_of_eq rfl) (hb hby at_130) (fun _ _ => ⟨rfl, e156, (by decide : 2 + 0 ≤ _), (by decide : 20 + 0 ≤ _)⟩)
    dsimp only [Pt.U, Pt.locs, Pt.cells, Pt.slots] at X168 l168 y168 z168 st168 hQ168
    subst l168 y168 z168
    obtain ⟨rfl, Nq168, heq168⟩ := hQ168
    have N168 := Fr.app No159 Nq168
    have pre169 : ∀ t, Steps p.tables e below (T168.setTop (mkF m 133 #[.val (.int k0), .val (.ref b1), .val (.ref b2), .val (.int (0 : Int32))] [(.int (own_bi ((.ref k_NIL : Value) = .ref k_INTEGER ∨ (.ref k_NIL : Value) = .ref k_STRING ∨ (.ref k_NIL : Value) = .ref k_BLOB)))])) t → Steps p.tables e below (s₁.setTop (entryFrame m #[(.int k0)] maxLocals)) t := fun t k => pre166 t (st168.trans k)
    obtain ⟨Lo170, Xo170, No170⟩ : ∃ L, Stand p l e room_1 s m #[(.int k0)] below meth c T168 L 2 20 ∧ Fr n0 L := ⟨_, X168, N168⟩
    have pre171 : ∀ t, Steps p.tables e below (T168.setTop (mkF m 135 #[.val (.int k0), .val (.ref b1), .val (.ref b2), .val (.int (0 : Int32))] [(.int (0 : Int32)), (.ref b2), (.int (own_bi ((.ref k_NIL : Value) = .ref k_INTEGER ∨ (.ref k_NIL : Value) = .ref k_STRING ∨ (.ref k_NIL : Value) = .ref k_BLOB)))])) t → Steps p.tables e below (s₁.setTop (entryFrame m #[(.int k0)] maxLocals)) t := by
      intro t k
      refine pre169 t ?_
      refine XS.aloadN Xo170.here hx rfl (hb hby at_133) rfl rfl ?_
      show Steps p.tables e below (T168.setTop (mkF m 134 #[.val (.int k0), .val (.ref b1), .val (.ref b2), .val (.int (0 : Int32))] [(.ref b2), (.int (own_bi ((.ref k_NIL : Value) = .ref k_INTEGER ∨ (.ref k_NIL : Value) = .ref k_STRING ∨ (.ref k_NIL : Value) = .ref k_BLOB)))])) _
      refine XS.iloadN Xo170.here hx rfl (hb hby at_134) rfl ?_
      show Steps p.tables e below (T168.setTop (mkF m 135 #[.val (.int k0), .val (.ref b1), .val (.ref b2), .val (.int (0 : Int32))] [(.int (0 : Int32)), (.ref b2), (.int (own_bi ((.ref k_NIL : Value) = .ref k_INTEGER ∨ (.ref k_NIL : Value) = .ref k_STRING ∨ (.ref k_NIL : Value) = .ref k_BLOB)))])) _
      exact k
    obtain ⟨cc172, Ar172, q1_172, Sz172, q3_172, Hs172, G172⟩ := id V156
    have hin172 : ¬ ((0 : Int32) < 0 ∨ cc172.slots.size ≤ ((0 : Int32) : Int32).toNatClampNeg) := inb_of Sz172 ⟨(by decide), (by decide)⟩
    have hat172 : cc172.slots[((0 : Int32) : Int32).toNatClampNeg]? = some (.int (nar .boolean (0 : Int32))) := Hs172.at hin172 rfl
    have pre174 : ∀ t, Steps p.tables e below (T168.setTop (mkF m 136 #[.val (.int k0), .val (.ref b1), .val (.ref b2), .val (.int (0 : Int32))] [(.int (nar .boolean (0 : Int32))), (.int (own_bi ((.ref k_NIL : Value) = .ref k_INTEGER ∨ (.ref k_NIL : Value) = .ref k_STRING ∨ (.ref k_NIL : Value) = .ref k_BLOB)))])) t → Steps p.tables e below (s₁.setTop (entryFrame m #[(.int k0)] maxLocals)) t := by
      intro t k
      refine pre171 t ?_
      refine Xo170.baloadBooleans hx (j := (0 : Int32)) (v := (.int (nar .boolean (0 : Int32)))) (by rw [heq168]; exact Ar172.1) (State.isArrayOf_alike hZ.alike Ar172.2.1) Ar172.2.2 hin172 hat172 (g := (mkF m 135 #[.val (.int k0), .val (.ref b1), .val (.ref b2), .val (.int (0 : Int32))] [(.int (0 : Int32)), (.ref b2), (.int (own_bi ((.ref k_NIL : Value) = .ref k_INTEGER ∨ (.ref k_NIL : Value) = .ref k_STRING ∨ (.ref k_NIL : Value) = .ref k_BLOB)))])) rfl rfl (hb hby at_135) _ ?_
      show Steps p.tables e below (T168.setTop (mkF m 136 #[.val (.int k0), .val (.ref b1), .val (.ref b2), .val (.int (0 : Int32))] [(.int (nar .boolean (0 : Int32))), (.int (own_bi ((.ref k_NIL : Value) = .ref k_INTEGER ∨ (.ref k_NIL : Value) = .ref k_STRING ∨ (.ref k_NIL : Value) = .ref k_BLOB)))])) _
      exact k
    have pre175 : ∀ t, Steps p.tables e below (T168.setTop (mkF m 144 #[.val (.int k0), .val (.ref b1), .val (.ref b2), .val (.int (0 : Int32))] [(.int (1 : Int32))])) t → Steps p.tables e below (s₁.setTop (entryFrame m #[(.int k0)] maxLocals)) t := by
      intro t k
      refine pre174 t ?_
      refine XS.icmpNo Xo170.here hx rfl (hb hby at_136) rfl (XT.ii_ne_f ((own_bi_f (fun q => by rcases q with q | q | q; exact Fld.ne F_NIL F_INTEGER (by decide) (Value.ref.inj q); exact Fld.ne F_NIL F_STRING (by decide) (Value.ref.inj q); exact Fld.ne F_NIL F_BLOB (by decide) (Value.ref.inj q))).trans (by decide))) ?_
      show Steps p.tables e below (T168.setTop (mkF m 139 #[.val (.int k0), .val (.ref b1), .val (.ref b2), .val (.int (0 : Int32))] [])) _
      refine XS.iconst Xo170.here hx rfl (hb hby at_139) ?_
      show Steps p.tables e below (T168.setTop (mkF m 140 #[.val (.int k0), .val (.ref b1), .val (.ref b2), .val (.int (0 : Int32))] [(.int (1 : Int32))])) _
      refine XS.goto Xo170.here hx rfl (pc0 := 140) (pc' := 144) rfl (hb hby at_140) (by decide) (by decide) ?_
      show Steps p.tables e below (T168.setTop (mkF m 144 #[.val (.int k0), .val (.ref b1), .val (.ref b2), .val (.int (0 : Int32))] [(.int (1 : Int32))])) _
      exact k
    obtain ⟨fs, hr, hrun, hended, hW, hsame⟩ := Xo170.leave (v := some (.int (1 : Int32))) (fun h => by rw [Bd.returns] at h; cases h)
    refine ⟨_, _, pre175 _ ?_, hrun, hended, _, _, rfl, ?_, ⟨_, rfl⟩, hW, hsame.mono (by decide) (by decide)⟩
    · exact retOut Xo170 hx Bd.returns rfl (Or.inl ⟨rfl, by simp, _, rfl⟩) (hb hby at_144) hr
    · show Qlaw Z k0 k_NIL k_FALSE k_TRUE k_INTEGER k_STRING k_LIST k_MAP k_BLOB k_FLOAT k_INF h0 n0 _ T168.heap _
      rw [heq168]
      exact ⟨rfl, No170⟩
  · subst hq
    have pre177 : ∀ t, Steps p.tables e below (T156.setTop (mkF m 129 #[.val (.int k0), .val (.ref b1), .val (.ref b2), .val (.int (1 : Int32))] [(.int (1 : Int32)), (.ref b1)])) t → Steps p.tables e below (s₁.setTop (entryFrame m #[(.int k0)] maxLocals)) t := by
      intro t k
      refine pre162 t ?_
      refine XS.aloadN Xo159.here hx rfl (hb hby at_127) rfl rfl ?_
      show Steps p.tables e below (T156.setTop (mkF m 128 #[.val (.int k0), .val (.ref b1), .val (.ref b2), .val (.int (1 : Int32))] [(.ref b1)])) _
      refine XS.iloadN Xo159.here hx rfl (hb hby at_128) rfl ?_
      show Steps p.tables e below (T156.setTop (mkF m 129 #[.val (.int k0), .val (.ref b1), .val (.ref b2), .val (.int (1 : Int32))] [(.int (1 : Int32)), (.ref b1)])) _
      exact k
    obtain ⟨cc178, Ar178, q1_178, Sz178, q3_178, Hs178, G178⟩ := id V160_0
    have hin178 : ¬ ((1 : Int32) < 0 ∨ cc178.slots.size ≤ ((1 : Int32) : Int32).toNatClampNeg) := inb_of Sz178 ⟨(by decide), (by decide)⟩
    have hat178 : cc178.slots[((1 : Int32) : Int32).toNatClampNeg]? = some (.ref k_FALSE) := Hs178.at hin178 rfl
    have pre180 : ∀ t, Steps p.tables e below (T156.setTop (mkF m 130 #[.val (.int k0), .val (.ref b1), .val (.ref b2), .val (.int (1 : Int32))] [(.ref k_FALSE)])) t → Steps p.tables e below (s₁.setTop (entryFrame m #[(.int k0)] maxLocals)) t := by
      intro t k
      refine pre177 t ?_
      refine Xo159.aaload hx (j := (1 : Int32)) (v := (.ref k_FALSE)) (by rw [e156]; exact Ar178.1) (State.isArrayOf_alike hZ.alike Ar178.2.1) rfl Ar178.2.2 hin178 hat178 (g := (mkF m 129 #[.val (.int k0), .val (.ref b1), .val (.ref b2), .val (.int (1 : Int32))] [(.int (1 : Int32)), (.ref b1)])) rfl rfl (hb hby at_129) _ ?_
      show Steps p.tables e below (T156.setTop (mkF m 130 #[.val (.int k0), .val (.ref b1), .val (.ref b2), .val (.int (1 : Int32))] [(.ref k_FALSE)])) _
      exact k
    obtain ⟨cq182, kq182, q182a, q182b, q182c⟩ := isOf hZ e156 (E_FALSE.ext O160.2)
    obtain ⟨_, _, ⟨T182, L182, k182, n182⟩, -, X182, ⟨Lc182, hQ182, l182, y182, z182⟩, st182⟩ := Xo159.virtualBack hx (y := (⟨"com/example/okra/okra/ValueType", "isMapKey", "()Z"⟩ : MethodName)) (z := (⟨"com/example/okra/okra/ValueType", "isMapKey", "()Z"⟩ : MethodName)) hown (mvT hZ (hw _ (List.mem_of_getElem? (i := 26) rfl))) (mvT hZ (hw _ (List.mem_of_getElem? (i := 27) rfl))) (notFace_of_selects (args := #[]) (mvT hZ (hw _ (List.mem_of_getElem? (i := 29) rfl)))) (mvT hZ (hw _ (List.mem_of_getElem? (i := 29) rfl))) (mvT hZ (hw _ (List.mem_of_getElem? (i := 28) rfl))) (by decide) (backOf (W := 0) (rm1 l Z a0 hw [] k_FALSE k_INTEGER k_STRING k_BLOB h156 n0 Z160 (S_INTEGER.ext O160.2) (S_STRING.ext O160.2) (S_BLOB.ext O160.2)) hZ (hw _ (List.mem_of_getElem? (i := 30) rfl)) (hw _ (List.mem_of_getElem? (i := 3) rfl)) (by decide) (by decide)) q182a q182c (g := (mkF m 130 #[.val (.int k0), .val (.ref b1), .val (.ref b2), .val (.int (1 : Int32))] [(.ref k_FALSE)])) rfl (by rw [hml]; rfl) (Steps.refl _) (argsL := []) (rest := []) (lenOf pd_imk rfl) rfl (by show 2 * 0 + _ ≤ _; exact Nat.le_of_eq rfl) (hb hby at_130) (fun _ _ => ⟨rfl, e156, (by decide : 2 + 0 ≤ _), (by decide : 20 + 0 ≤ _)⟩)
    dsimp only [Pt.U, Pt.locs, Pt.cells, Pt.slots] at X182 l182 y182 z182 st182 hQ182
    subst l182 y182 z182
    obtain ⟨rfl, Nq182, heq182⟩ := hQ182
    have N182 := Fr.app No159 Nq182
    have pre183 : ∀ t, Steps p.tables e below (T182.setTop (mkF m 133 #[.val (.int k0), .val (.ref b1), .val (.ref b2), .val (.int (1 : Int32))] [(.int (own_bi ((.ref k_FALSE : Value) = .ref k_INTEGER ∨ (.ref k_FALSE : Value) = .ref k_STRING ∨ (.ref k_FALSE : Value) = .ref k_BLOB)))])) t → Steps p.tables e below (s₁.setTop (entryFrame m #[(.int k0)] maxLocals)) t := fun t k => pre180 t (st182.trans k)
    obtain ⟨Lo184, Xo184, No184⟩ : ∃ L, Stand p l e room_1 s m #[(.int k0)] below meth c T182 L 2 20 ∧ Fr n0 L := ⟨_, X182, N182⟩
    have pre185 : ∀ t, Steps p.tables e below (T182.setTop (mkF m 135 #[.val (.int k0), .val (.ref b1), .val (.ref b2), .val (.int (1 : Int32))] [(.int (1 : Int32)), (.ref b2), (.int (own_bi ((.ref k_FALSE : Value) = .ref k_INTEGER ∨ (.ref k_FALSE : Value) = .ref k_STRING ∨ (.ref k_FALSE : Value) = .ref k_BLOB)))])) t → Steps p.tables e below (s₁.setTop (entryFrame m #[(.int k0)] maxLocals)) t := by
      intro t k
      refine pre183 t ?_
      refine XS.aloadN Xo184.here hx rfl (hb hby at_133) rfl rfl ?_
      show Steps p.tables e below (T182.setTop (mkF m 134 #[.val (.int k0), .val (.ref b1), .val (.ref b2), .val (.int (1 : Int32))] [(.ref b2), (.int (own_bi ((.ref k_FALSE : Value) = .ref k_INTEGER ∨ (.ref k_FALSE : Value) = .ref k_STRING ∨ (.ref k_FALSE : Value) = .ref k_BLOB)))])) _
      refine XS.iloadN Xo184.here hx rfl (hb hby at_134) rfl ?_
      show Steps p.tables e below (T182.setTop (mkF m 135 #[.val (.int k0), .val (.ref b1), .val (.ref b2), .val (.int (1 : Int32))] [(.int (1 : Int32)), (.ref b2), (.int (own_bi ((.ref k_FALSE : Value) = .ref k_INTEGER ∨ (.ref k_FALSE : Value) = .ref k_STRING ∨ (.ref k_FALSE : Value) = .ref k_BLOB)))])) _
      exact k
    obtain ⟨cc186, Ar186, q1_186, Sz186, q3_186, Hs186, G186⟩ := id V156
    have hin186 : ¬ ((1 : Int32) < 0 ∨ cc186.slots.size ≤ ((1 : Int32) : Int32).toNatClampNeg) := inb_of Sz186 ⟨(by decide), (by decide)⟩
    have hat186 : cc186.slots[((1 : Int32) : Int32).toNatClampNeg]? = some (.int (nar .boolean (0 : Int32))) := Hs186.at hin186 rfl
    have pre188 : ∀ t, Steps p.tables e below (T182.setTop (mkF m 136 #[.val (.int k0), .val (.ref b1), .val (.ref b2), .val (.int (1 : Int32))] [(.int (nar .boolean (0 : Int32))), (.int (own_bi ((.ref k_FALSE : Value) = .ref k_INTEGER ∨ (.ref k_FALSE : Value) = .ref k_STRING ∨ (.ref k_FALSE : Value) = .ref k_BLOB)))])) t → Steps p.tables e below (s₁.setTop (entryFrame m #[(.int k0)] maxLocals)) t := by
      intro t k
      refine pre185 t ?_
      refine Xo184.baloadBooleans hx (j := (1 : Int32)) (v := (.int (nar .boolean (0 : Int32)))) (by rw [heq182]; exact Ar186.1) (State.isArrayOf_alike hZ.alike Ar186.2.1) Ar186.2.2 hin186 hat186 (g := (mkF m 135 #[.val (.int k0), .val (.ref b1), .val (.ref b2), .val (.int (1 : Int32))] [(.int (1 : Int32)), (.ref b2), (.int (own_bi ((.ref k_FALSE : Value) = .ref k_INTEGER ∨ (.ref k_FALSE : Value) = .ref k_STRING ∨ (.ref k_FALSE : Value) = .ref k_BLOB)))])) rfl rfl (hb hby at_135) _ ?_
      show Steps p.tables e below (T182.setTop (mkF m 136 #[.val (.int k0), .val (.ref b1), .val (.ref b2), .val (.int (1 : Int32))] [(.int (nar .boolean (0 : Int32))), (.int (own_bi ((.ref k_FALSE : Value) = .ref k_INTEGER ∨ (.ref k_FALSE : Value) = .ref k_STRING ∨ (.ref k_FALSE : Value) = .ref k_BLOB)))])) _
      exact k
    have pre189 : ∀ t, Steps p.tables e below (T182.setTop (mkF m 144 #[.val (.int k0), .val (.ref b1), .val (.ref b2), .val (.int (1 : Int32))] [(.int (1 : Int32))])) t → Steps p.tables e below (s₁.setTop (entryFrame m #[(.int k0)] maxLocals)) t := by
      intro t k
      refine pre188 t ?_
      refine XS.icmpNo Xo184.here hx rfl (hb hby at_136) rfl (XT.ii_ne_f ((own_bi_f (fun q => by rcases q with q | q | q; exact Fld.ne F_FALSE F_INTEGER (by decide) (Value.ref.inj q); exact Fld.ne F_FALSE F_STRING (by decide) (Value.ref.inj q); exact Fld.ne F_FALSE F_BLOB (by decide) (Value.ref.inj q))).trans (by decide))) ?_
      show Steps p.tables e below (T182.setTop (mkF m 139 #[.val (.int k0), .val (.ref b1), .val (.ref b2), .val (.int (1 : Int32))] [])) _
      refine XS.iconst Xo184.here hx rfl (hb hby at_139) ?_
      show Steps p.tables e below (T182.setTop (mkF m 140 #[.val (.int k0), .val (.ref b1), .val (.ref b2), .val (.int (1 : Int32))] [(.int (1 : Int32))])) _
      refine XS.goto Xo184.here hx rfl (pc0 := 140) (pc' := 144) rfl (hb hby at_140) (by decide) (by decide) ?_
      show Steps p.tables e below (T182.setTop (mkF m 144 #[.val (.int k0), .val (.ref b1), .val (.ref b2), .val (.int (1 : Int32))] [(.int (1 : Int32))])) _
      exact k
    obtain ⟨fs, hr, hrun, hended, hW, hsame⟩ := Xo184.leave (v := some (.int (1 : Int32))) (fun h => by rw [Bd.returns] at h; cases h)
    refine ⟨_, _, pre189 _ ?_, hrun, hended, _, _, rfl, ?_, ⟨_, rfl⟩, hW, hsame.mono (by decide) (by decide)⟩
    · exact retOut Xo184 hx Bd.returns rfl (Or.inl ⟨rfl, by simp, _, rfl⟩) (hb hby at_144) hr
    · show Qlaw Z k0 k_NIL k_FALSE k_TRUE k_INTEGER k_STRING k_LIST k_MAP k_BLOB k_FLOAT k_INF h0 n0 _ T182.heap _
      rw [heq182]
      exact ⟨rfl, No184⟩
  · subst hq
    have pre191 : ∀ t, Steps p.tables e below (T156.setTop (mkF m 129 #[.val (.int k0), .val (.ref b1), .val (.ref b2), .val (.int (2 : Int32))] [(.int (2 : Int32)), (.ref b1)])) t → Steps p.tables e below (s₁.setTop (entryFrame m #[(.int k0)] maxLocals)) t := by
      intro t k
      refine pre162 t ?_
      refine XS.aloadN Xo159.here hx rfl (hb hby at_127) rfl rfl ?_
      show Steps p.tables e below (T156.setTop (mkF m 128 #[.val (.int k0), .val (.ref b1), .val (.ref b2), .val (.int (2 : Int32))] [(.ref b1)])) _
      refine XS.iloadN Xo159.here hx rfl (hb hby at_128) rfl ?_
      show Steps p.tables e below (T156.setTop (mkF m 129 #[.val (.int k0), .val (.ref b1), .val (.ref b2), .val (.int (2 : Int32))] [(.int (2 : Int32)), (.ref b1)])) _
      exact k
    obtain ⟨cc192, Ar192, q1_192, Sz192, q3_192, Hs192, G192⟩ := id V160_0
    have hin192 : ¬ ((2 : Int32) < 0 ∨ cc192.slots.size ≤ ((2 : Int32) : Int32).toNatClampNeg) := inb_of Sz192 ⟨(by decide), (by decide)⟩
    have hat192 : cc192.slots[((2 : Int32) : Int32).toNatClampNeg]? = some (.ref k_TRUE) := Hs192.at hin192 rfl
    have pre194 : ∀ t, Steps p.tables e below (T156.setTop (mkF m 130 #[.val (.int k0), .val (.ref b1), .val (.ref b2), .val (.int (2 : Int32))] [(.ref k_TRUE)])) t → Steps p.tables e below (s₁.setTop (entryFrame m #[(.int k0)] maxLocals)) t := by
      intro t k
      refine pre191 t ?_
      refine Xo159.aaload hx (j := (2 : Int32)) (v := (.ref k_TRUE)) (by rw [e156]; exact Ar192.1) (State.isArrayOf_alike hZ.alike Ar192.2.1) rfl Ar192.2.2 hin192 hat192 (g := (mkF m 129 #[.val (.int k0), .val (.ref b1), .val (.ref b2), .val (.int (2 : Int32))] [(.int (2 : Int32)), (.ref b1)])) rfl rfl (hb hby at_129) _ ?_
      show Steps p.tables e below (T156.setTop (mkF m 130 #[.val (.int k0), .val (.ref b1), .val (.ref b2), .val (.int (2 : Int32))] [(.ref k_TRUE)])) _
      exact k
    obtain ⟨cq196, kq196, q196a, q196b, q196c⟩ := isOf hZ e156 (E_TRUE.ext O160.2)
    obtain ⟨_, _, ⟨T196, L196, k196, n196⟩, -, X196, ⟨Lc196, hQ196, l196, y196, z196⟩, st196⟩ := Xo159.virtualBack hx (y := (⟨"com/example/okra/okra/ValueType", "isMapKey", "()Z"⟩ : MethodName)) (z := (⟨"com/example/okra/okra/ValueType", "isMapKey", "()Z"⟩ : MethodName)) hown (mvT hZ (hw _ (List.mem_of_getElem? (i := 26) rfl))) (mvT hZ (hw _ (List.mem_of_getElem? (i := 27) rfl))) (notFace_of_selects (args := #[]) (mvT hZ (hw _ (List.mem_of_getElem? (i := 29) rfl)))) (mvT hZ (hw _ (List.mem_of_getElem? (i := 29) rfl))) (mvT hZ (hw _ (List.mem_of_getElem? (i := 28) rfl))) (by decide) (backOf (W := 0) (rm1 l Z a0 hw [] k_TRUE k_INTEGER k_STRING k_BLOB h156 n0 Z160 (S_INTEGER.ext O160.2) (S_STRING.ext O160.2) (S_BLOB.ext O160.2)) hZ (hw _ (List.mem_of_getElem? (i := 30) rfl)) (hw _ (List.mem_of_getElem? (i := 3) rfl)) (by decide) (by decide)) q196a q196c (g := (mkF m 130 #[.val (.int k0), .val (.ref b1), .val (.ref b2), .val (.int (2 : Int32))] [(.ref k_TRUE)])) rfl (by rw [hml]; rfl) (Steps.refl _) (argsL := []) (rest := []) (lenOf pd_imk rfl) rfl (by show 2 * 0 + _ ≤ _; exact Nat.le_of_eq rfl) (hb hby at_130) (fun _ _ => ⟨rfl, e156, (by decide : 2 + 0 ≤ _), (by decide : 20 + 0 ≤ _)⟩)
    dsimp only [Pt.U, Pt.locs, Pt.cells, Pt.slots] at X196 l196 y196 z196 st196 hQ196
    subst l196 y196 z196
    obtain ⟨rfl, Nq196, heq196⟩ := hQ196
    have N196 := Fr.app No159 Nq196
    have pre197 : ∀ t, Steps p.tables e below (T196.setTop (mkF m 133 #[.val (.int k0), .val (.ref b1), .val (.ref b2), .val (.int (2 : Int32))] [(.int (own_bi ((.ref k_TRUE : Value) = .ref k_INTEGER ∨ (.ref k_TRUE : Value) = .ref k_STRING ∨ (.ref k_TRUE : Value) = .ref k_BLOB)))])) t → Steps p.tables e below (s₁.setTop (entryFrame m #[(.int k0)] maxLocals)) t := fun t k => pre194 t (st196.trans k)
    obtain ⟨Lo198, Xo198, No198⟩ : ∃ L, Stand p l e room_1 s m #[(.int k0)] below meth c T196 L 2 20 ∧ Fr n0 L := ⟨_, X196, N196⟩
    have pre199 : ∀ t, Steps p.tables e below (T196.setTop (mkF m 135 #[.val (.int k0), .val (.ref b1), .val (.ref b2), .val (.int (2 : Int32))] [(.int (2 : Int32)), (.ref b2), (.int (own_bi ((.ref k_TRUE : Value) = .ref k_INTEGER ∨ (.ref k_TRUE : Value) = .ref k_STRING ∨ (.ref k_TRUE : Value) = .ref k_BLOB)))])) t → Steps p.tables e below (s₁.setTop (entryFrame m #[(.int k0)] maxLocals)) t := by
      intro t k
      refine pre197 t ?_
      refine XS.aloadN Xo198.here hx rfl (hb hby at_133) rfl rfl ?_
      show Steps p.tables e below (T196.setTop (mkF m 134 #[.val (.int k0), .val (.ref b1), .val (.ref b2), .val (.int (2 : Int32))] [(.ref b2), (.int (own_bi ((.ref k_TRUE : Value) = .ref k_INTEGER ∨ (.ref k_TRUE : Value) = .ref k_STRING ∨ (.ref k_TRUE : Value) = .ref k_BLOB)))])) _
      refine XS.iloadN Xo198.here hx rfl (hb hby at_134) rfl ?_
      show Steps p.tables e below (T196.setTop (mkF m 135 #[.val (.int k0), .val (.ref b1), .val (.ref b2), .val (.int (2 : Int32))] [(.int (2 : Int32)), (.ref b2), (.int (own_bi ((.ref k_TRUE : Value) = .ref k_INTEGER ∨ (.ref k_TRUE : Value) = .ref k_STRING ∨ (.ref k_TRUE : Value) = .ref k_BLOB)))])) _
      exact k
    obtain ⟨cc200, Ar200, q1_200, Sz200, q3_200, Hs200, G200⟩ := id V156
    have hin200 : ¬ ((2 : Int32) < 0 ∨ cc200.slots.size ≤ ((2 : Int32) : Int32).toNatClampNeg) := inb_of Sz200 ⟨(by decide), (by decide)⟩
    have hat200 : cc200.slots[((2 : Int32) : Int32).toNatClampNeg]? = some (.int (nar .boolean (0 : Int32))) := Hs200.at hin200 rfl
    have pre202 : ∀ t, Steps p.tables e below (T196.setTop (mkF m 136 #[.val (.int k0), .val (.ref b1), .val (.ref b2), .val (.int (2 : Int32))] [(.int (nar .boolean (0 : Int32))), (.int (own_bi ((.ref k_TRUE : Value) = .ref k_INTEGER ∨ (.ref k_TRUE : Value) = .ref k_STRING ∨ (.ref k_TRUE : Value) = .ref k_BLOB)))])) t → Steps p.tables e below (s₁.setTop (entryFrame m #[(.int k0)] maxLocals)) t := by
      intro t k
      refine pre199 t ?_
      refine Xo198.baloadBooleans hx (j := (2 : Int32)) (v := (.int (nar .boolean (0 : Int32)))) (by rw [heq196]; exact Ar200.1) (State.isArrayOf_alike hZ.alike Ar200.2.1) Ar200.2.2 hin200 hat200 (g := (mkF m 135 #[.val (.int k0), .val (.ref b1), .val (.ref b2), .val (.int (2 : Int32))] [(.int (2 : Int32)), (.ref b2), (.int (own_bi ((.ref k_TRUE : Value) = .ref k_INTEGER ∨ (.ref k_TRUE : Value) = .ref k_STRING ∨ (.ref k_TRUE : Value) = .ref k_BLOB)))])) rfl rfl (hb hby at_135) _ ?_
      show Steps p.tables e below (T196.setTop (mkF m 136 #[.val (.int k0), .val (.ref b1), .val (.ref b2), .val (.int (2 : Int32))] [(.int (nar .boolean (0 : Int32))), (.int (own_bi ((.ref k_TRUE : Value) = .ref k_INTEGER ∨ (.ref k_TRUE : Value) = .ref k_STRING ∨ (.ref k_TRUE : Value) = .ref k_BLOB)))])) _
      exact k
    have pre203 : ∀ t, Steps p.tables e below (T196.setTop (mkF m 144 #[.val (.int k0), .val (.ref b1), .val (.ref b2), .val (.int (2 : Int32))] [(.int (1 : Int32))])) t → Steps p.tables e below (s₁.setTop (entryFrame m #[(.int k0)] maxLocals)) t := by
      intro t k
      refine pre202 t ?_
      refine XS.icmpNo Xo198.here hx rfl (hb hby at_136) rfl (XT.ii_ne_f ((own_bi_f (fun q => by rcases q with q | q | q; exact Fld.ne F_TRUE F_INTEGER (by decide) (Value.ref.inj q); exact Fld.ne F_TRUE F_STRING (by decide) (Value.ref.inj q); exact Fld.ne F_TRUE F_BLOB (by decide) (Value.ref.inj q))).trans (by decide))) ?_
      show Steps p.tables e below (T196.setTop (mkF m 139 #[.val (.int k0), .val (.ref b1), .val (.ref b2), .val (.int (2 : Int32))] [])) _
      refine XS.iconst Xo198.here hx rfl (hb hby at_139) ?_
      show Steps p.tables e below (T196.setTop (mkF m 140 #[.val (.int k0), .val (.ref b1), .val (.ref b2), .val (.int (2 : Int32))] [(.int (1 : Int32))])) _
      refine XS.goto Xo198.here hx rfl (pc0 := 140) (pc' := 144) rfl (hb hby at_140) (by decide) (by decide) ?_
      show Steps p.tables e below (T196.setTop (mkF m 144 #[.val (.int k0), .val (.ref b1), .val (.ref b2), .val (.int (2 : Int32))] [(.int (1 : Int32))])) _
      exact k
    obtain ⟨fs, hr, hrun, hended, hW, hsame⟩ := Xo198.leave (v := some (.int (1 : Int32))) (fun h => by rw [Bd.returns] at h; cases h)
    refine ⟨_, _, pre203 _ ?_, hrun, hended, _, _, rfl, ?_, ⟨_, rfl⟩, hW, hsame.mono (by decide) (by decide)⟩
    · exact retOut Xo198 hx Bd.returns rfl (Or.inl ⟨rfl, by simp, _, rfl⟩) (hb hby at_144) hr
    · show Qlaw Z k0 k_NIL k_FALSE k_TRUE k_INTEGER k_STRING k_LIST k_MAP k_BLOB k_FLOAT k_INF h0 n0 _ T196.heap _
      rw [heq196]
      exact ⟨rfl, No198⟩
  · subst hq
    have pre205 : ∀ t, Steps p.tables e below (T156.setTop (mkF m 129 #[.val (.int k0), .val (.ref b1), .val (.ref b2), .val (.int (3 : Int32))] [(.int (3 : Int32)), (.ref b1)])) t → Steps p.tables e below (s₁.setTop (entryFrame m #[(.int k0)] maxLocals)) t := by
      intro t k
      refine pre162 t ?_
      refine XS.aloadN Xo159.here hx rfl (hb hby at_127) rfl rfl ?_
      show Steps p.tables e below (T156.setTop (mkF m 128 #[.val (.int k0), .val (.ref b1), .val (.ref b2), .val (.int (3 : Int32))] [(.ref b1)])) _
      refine XS.iloadN Xo159.here hx rfl (hb hby at_128) rfl ?_
      show Steps p.tables e below (T156.setTop (mkF m 129 #[.val (.int k0), .val (.ref b1), .val (.ref b2), .val (.int (3 : Int32))] [(.int (3 : Int32)), (.ref b1)])) _
      exact k
    obtain ⟨cc206, Ar206, q1_206, Sz206, q3_206, Hs206, G206⟩ := id V160_0
    have hin206 : ¬ ((3 : Int32) < 0 ∨ cc206.slots.size ≤ ((3 : Int32) : Int32).toNatClampNeg) := inb_of Sz206 ⟨(by decide), (by decide)⟩
    have hat206 : cc206.slots[((3 : Int32) : Int32).toNatClampNeg]? = some (.ref k_INTEGER) := Hs206.at hin206 rfl
    have pre208 : ∀ t, Steps p.tables e below (T156.setTop (mkF m 130 #[.val (.int k0), .val (.ref b1), .val (.ref b2), .val (.int (3 : Int32))] [(.ref k_INTEGER)])) t → Steps p.tables e below (s₁.setTop (entryFrame m #[(.int k0)] maxLocals)) t := by
      intro t k
      refine pre205 t ?_
      refine Xo159.aaload hx (j := (3 : Int32)) (v := (.ref k_INTEGER)) (by rw [e156]; exact Ar206.1) (State.isArrayOf_alike hZ.alike Ar206.2.1) rfl Ar206.2.2 hin206 hat206 (g := (mkF m 129 #[.val (.int k0), .val (.ref b1), .val (.ref b2), .val (.int (3 : Int32))] [(.int (3 : Int32)), (.ref b1)])) rfl rfl (hb hby at_129) _ ?_
      show Steps p.tables e below (T156.setTop (mkF m 130 #[.val (.int k0), .val (.ref b1), .val (.ref b2), .val (.int (3 : Int32))] [(.ref k_INTEGER)])) _
      exact k
    obtain ⟨cq210, kq210, q210a, q210b, q210c⟩ := isOf hZ e156 (E_INTEGER.ext O160.2)
    obtain ⟨_, _, ⟨T210, L210, k210, n210⟩, -, X210, ⟨Lc210, hQ210, l210, y210, z210⟩, st210⟩ := Xo159.virtualBack hx (y := (⟨"com/example/okra/okra/ValueType", "isMapKey", "()Z"⟩ : MethodName)) (z := (⟨"com/example/okra/okra/ValueType", "isMapKey", "()Z"⟩ : MethodName)) hown (mvT hZ (hw _ (List.mem_of_getElem? (i := 26) rfl))) (mvT hZ (hw _ (List.mem_of_getElem? (i := 27) rfl))) (notFace_of_selects (args := #[]) (mvT hZ (hw _ (List.mem_of_getElem? (i := 29) rfl)))) (mvT hZ (hw _ (List.mem_of_getElem? (i := 29) rfl))) (mvT hZ (hw _ (List.mem_of_getElem? (i := 28) rfl))) (by decide) (backOf (W := 0) (rm1 l Z a0 hw [] k_INTEGER k_INTEGER k_STRING k_BLOB h156 n0 Z160 (S_INTEGER.ext O160.2) (S_STRING.ext O160.2) (S_BLOB.ext O160.2)) hZ (hw _ (List.mem_of_getElem? (i := 30) rfl)) (hw _ (List.mem_of_getElem? (i := 3) rfl)) (by decide) (by decide)) q210a q210c (g := (mkF m 130 #[.val (.int k0), .val (.ref b1), .val (.ref b2), .val (.int (3 : Int32))] [(.ref k_INTEGER)])) rfl (by rw [hml]; rfl) (Steps.refl _) (argsL := []) (rest := []) (lenOf pd_imk rfl) rfl (by show 2 * 0 + _ ≤ _; exact Nat.le_of_eq rfl) (hb hby at_130) (fun _ _ => ⟨rfl, e156, (by decide : 2 + 0 ≤ _), (by decide : 20 + 0 ≤ _)⟩)
    dsimp only [Pt.U, Pt.locs, Pt.cells, Pt.slots] at X210 l210 y210 z210 st210 hQ210
    subst l210 y210 z210
    obtain ⟨rfl, Nq210, heq210⟩ := hQ210
    have N210 := Fr.app No159 Nq210
    have pre211 : ∀ t, Steps p.tables e below (T210.setTop (mkF m 133 #[.val (.int k0), .val (.ref b1), .val (.ref b2), .val (.int (3 : Int32))] [(.int (own_bi ((.ref k_INTEGER : Value) = .ref k_INTEGER ∨ (.ref k_INTEGER : Value) = .ref k_STRING ∨ (.ref k_INTEGER : Value) = .ref k_BLOB)))])) t → Steps p.tables e below (s₁.setTop (entryFrame m #[(.int k0)] maxLocals)) t := fun t k => pre208 t (st210.trans k)
    obtain ⟨Lo212, Xo212, No212⟩ : ∃ L, Stand p l e room_1 s m #[(.int k0)] below meth c T210 L 2 20 ∧ Fr n0 L := ⟨_, X210, N210⟩
    have pre213 : ∀ t, Steps p.tables e below (T210.setTop (mkF m 135 #[.val (.int k0), .val (.ref b1), .val (.ref b2), .val (.int (3 : Int32))] [(.int (3 : Int32)), (.ref b2), (.int (own_bi ((.ref k_INTEGER : Value) = .ref k_INTEGER ∨ (.ref k_INTEGER : Value) = .ref k_STRING ∨ (.ref k_INTEGER : Value) = .ref k_BLOB)))])) t → Steps p.tables e below (s₁.setTop (entryFrame m #[(.int k0)] maxLocals)) t := by
      intro t k
      refine pre211 t ?_
      refine XS.aloadN Xo212.here hx rfl (hb hby at_133) rfl rfl ?_
      show Steps p.tables e below (T210.setTop (mkF m 134 #[.val (.int k0), .val (.ref b1), .val (.ref b2), .val (.int (3 : Int32))] [(.ref b2), (.int (own_bi ((.ref k_INTEGER : Value) = .ref k_INTEGER ∨ (.ref k_INTEGER : Value) = .ref k_STRING ∨ (.ref k_INTEGER : Value) = .ref k_BLOB)))])) _
      refine XS.iloadN Xo212.here hx rfl (hb hby at_134) rfl ?_
      show Steps p.tables e below (T210.setTop (mkF m 135 #[.val (.int k0), .val (.ref b1), .val (.ref b2), .val (.int (3 : Int32))] [(.int (3 : Int32)), (.ref b2), (.int (own_bi ((.ref k_INTEGER : Value) = .ref k_INTEGER ∨ (.ref k_INTEGER : Value) = .ref k_STRING ∨ (.ref k_INTEGER : Value) = .ref k_BLOB)))])) _
      exact k
    obtain ⟨cc214, Ar214, q1_214, Sz214, q3_214, Hs214, G214⟩ := id V156
    have hin214 : ¬ ((3 : Int32) < 0 ∨ cc214.slots.size ≤ ((3 : Int32) : Int32).toNatClampNeg) := inb_of Sz214 ⟨(by decide), (by decide)⟩
    have hat214 : cc214.slots[((3 : Int32) : Int32).toNatClampNeg]? = some (.int (nar .boolean (1 : Int32))) := Hs214.at hin214 rfl
    have pre216 : ∀ t, Steps p.tables e below (T210.setTop (mkF m 136 #[.val (.int k0), .val (.ref b1), .val (.ref b2), .val (.int (3 : Int32))] [(.int (nar .boolean (1 : Int32))), (.int (own_bi ((.ref k_INTEGER : Value) = .ref k_INTEGER ∨ (.ref k_INTEGER : Value) = .ref k_STRING ∨ (.ref k_INTEGER : Value) = .ref k_BLOB)))])) t → Steps p.tables e below (s₁.setTop (entryFrame m #[(.int k0)] maxLocals)) t := by
      intro t k
      refine pre213 t ?_
      refine Xo212.baloadBooleans hx (j := (3 : Int32)) (v := (.int (nar .boolean (1 : Int32)))) (by rw [heq210]; exact Ar214.1) (State.isArrayOf_alike hZ.alike Ar214.2.1) Ar214.2.2 hin214 hat214 (g := (mkF m 135 #[.val (.int k0), .val (.ref b1), .val (.ref b2), .val (.int (3 : Int32))] [(.int (3 : Int32)), (.ref b2), (.int (own_bi ((.ref k_INTEGER : Value) = .ref k_INTEGER ∨ (.ref k_INTEGER : Value) = .ref k_STRING ∨ (.ref k_INTEGER : Value) = .ref k_BLOB)))])) rfl rfl (hb hby at_135) _ ?_
      show Steps p.tables e below (T210.setTop (mkF m 136 #[.val (.int k0), .val (.ref b1), .val (.ref b2), .val (.int (3 : Int32))] [(.int (nar .boolean (1 : Int32))), (.int (own_bi ((.ref k_INTEGER : Value) = .ref k_INTEGER ∨ (.ref k_INTEGER : Value) = .ref k_STRING ∨ (.ref k_INTEGER : Value) = .ref k_BLOB)))])) _
      exact k
    have pre217 : ∀ t, Steps p.tables e below (T210.setTop (mkF m 144 #[.val (.int k0), .val (.ref b1), .val (.ref b2), .val (.int (3 : Int32))] [(.int (1 : Int32))])) t → Steps p.tables e below (s₁.setTop (entryFrame m #[(.int k0)] maxLocals)) t := by
      intro t k
      refine pre216 t ?_
      refine XS.icmpNo Xo212.here hx rfl (hb hby at_136) rfl (XT.ii_ne_f ((own_bi_t (Or.inl rfl)).trans (by decide))) ?_
      show Steps p.tables e below (T210.setTop (mkF m 139 #[.val (.int k0), .val (.ref b1), .val (.ref b2), .val (.int (3 : Int32))] [])) _
      refine XS.iconst Xo212.here hx rfl (hb hby at_139) ?_
      show Steps p.tables e below (T210.setTop (mkF m 140 #[.val (.int k0), .val (.ref b1), .val (.ref b2), .val (.int (3 : Int32))] [(.int (1 : Int32))])) _
      refine XS.goto Xo212.here hx rfl (pc0 := 140) (pc' := 144) rfl (hb hby at_140) (by decide) (by decide) ?_
      show Steps p.tables e below (T210.setTop (mkF m 144 #[.val (.int k0), .val (.ref b1), .val (.ref b2), .val (.int (3 : Int32))] [(.int (1 : Int32))])) _
      exact k
    obtain ⟨fs, hr, hrun, hended, hW, hsame⟩ := Xo212.leave (v := some (.int (1 : Int32))) (fun h => by rw [Bd.returns] at h; cases h)
    refine ⟨_, _, pre217 _ ?_, hrun, hended, _, _, rfl, ?_, ⟨_, rfl⟩, hW, hsame.mono (by decide) (by decide)⟩
    · exact retOut Xo212 hx Bd.returns rfl (Or.inl ⟨rfl, by simp, _, rfl⟩) (hb hby at_144) hr
    · show Qlaw Z k0 k_NIL k_FALSE k_TRUE k_INTEGER k_STRING k_LIST k_MAP k_BLOB k_FLOAT k_INF h0 n0 _ T210.heap _
      rw [heq210]
      exact ⟨rfl, No212⟩
  · subst hq
    have pre219 : ∀ t, Steps p.tables e below (T156.setTop (mkF m 129 #[.val (.int k0), .val (.ref b1), .val (.ref b2), .val (.int (4 : Int32))] [(.int (4 : Int32)), (.ref b1)])) t → Steps p.tables e below (s₁.setTop (entryFrame m #[(.int k0)] maxLocals)) t := by
      intro t k
      refine pre162 t ?_
      refine XS.aloadN Xo159.here hx rfl (hb hby at_127) rfl rfl ?_
      show Steps p.tables e below (T156.setTop (mkF m 128 #[.val (.int k0), .val (.ref b1), .val (.ref b2), .val (.int (4 : Int32))] [(.ref b1)])) _
      refine XS.iloadN Xo159.here hx rfl (hb hby at_128) rfl ?_
      show Steps p.tables e below (T156.setTop (mkF m 129 #[.val (.int k0), .val (.ref b1), .val (.ref b2), .val (.int (4 : Int32))] [(.int (4 : Int32)), (.ref b1)])) _
      exact k
    obtain ⟨cc220, Ar220, q1_220, Sz220, q3_220, Hs220, G220⟩ := id V160_0
    have hin220 : ¬ ((4 : Int32) < 0 ∨ cc220.slots.size ≤ ((4 : Int32) : Int32).toNatClampNeg) := inb_of Sz220 ⟨(by decide), (by decide)⟩
    have hat220 : cc220.slots[((4 : Int32) : Int32).toNatClampNeg]? = some (.ref k_STRING) := Hs220.at hin220 rfl
    have pre222 : ∀ t, Steps p.tables e below (T156.setTop (mkF m 130 #[.val (.int k0), .val (.ref b1), .val (.ref b2), .val (.int (4 : Int32))] [(.ref k_STRING)])) t → Steps p.tables e below (s₁.setTop (entryFrame m #[(.int k0)] maxLocals)) t := by
      intro t k
      refine pre219 t ?_
      refine Xo159.aaload hx (j := (4 : Int32)) (v := (.ref k_STRING)) (by rw [e156]; exact Ar220.1) (State.isArrayOf_alike hZ.alike Ar220.2.1) rfl Ar220.2.2 hin220 hat220 (g := (mkF m 129 #[.val (.int k0), .val (.ref b1), .val (.ref b2), .val (.int (4 : Int32))] [(.int (4 : Int32)), (.ref b1)])) rfl rfl (hb hby at_129) _ ?_
      show Steps p.tables e below (T156.setTop (mkF m 130 #[.val (.int k0), .val (.ref b1), .val (.ref b2), .val (.int (4 : Int32))] [(.ref k_STRING)])) _
      exact k
    obtain ⟨cq224, kq224, q224a, q224b, q224c⟩ := isOf hZ e156 (E_STRING.ext O160.2)
    obtain ⟨_, _, ⟨T224, L224, k224, n224⟩, -, X224, ⟨Lc224, hQ224, l224, y224, z224⟩, st224⟩ := Xo159.virtualBack hx (y := (⟨"com/example/okra/okra/ValueType", "isMapKey", "()Z"⟩ : MethodName)) (z := (⟨"com/example/okra/okra/ValueType", "isMapKey", "()Z"⟩ : MethodName)) hown (mvT hZ (hw _ (List.mem_of_getElem? (i := 26) rfl))) (mvT hZ (hw _ (List.mem_of_getElem? (i := 27) rfl))) (notFace_of_selects (args := #[]) (mvT hZ (hw _ (List.mem_of_getElem? (i := 29) rfl)))) (mvT hZ (hw _ (List.mem_of_getElem? (i := 29) rfl))) (mvT hZ (hw _ (List.mem_of_getElem? (i := 28) rfl))) (by decide) (backOf (W := 0) (rm1 l Z a0 hw [] k_STRING k_INTEGER k_STRING k_BLOB h156 n0 Z160 (S_INTEGER.ext O160.2) (S_STRING.ext O160.2) (S_BLOB.ext O160.2)) hZ (hw _ (List.mem_of_getElem? (i := 30) rfl)) (hw _ (List.mem_of_getElem? (i := 3) rfl)) (by decide) (by decide)) q224a q224c (g := (mkF m 130 #[.val (.int k0), .val (.ref b1), .val (.ref b2), .val (.int (4 : Int32))] [(.ref k_STRING)])) rfl (by rw [hml]; rfl) (Steps.refl _) (argsL := []) (rest := []) (lenOf pd_imk rfl) rfl (by show 2 * 0 + _ ≤ _; exact Nat.le_of_eq rfl) (hb hby at_130) (fun _ _ => ⟨rfl, e156, (by decide : 2 + 0 ≤ _), (by decide : 20 + 0 ≤ _)⟩)
    dsimp only [Pt.U, Pt.locs, Pt.cells, Pt.slots] at X224 l224 y224 z224 st224 hQ224
    subst l224 y224 z224
    obtain ⟨rfl, Nq224, heq224⟩ := hQ224
    have N224 := Fr.app No159 Nq224
    have pre225 : ∀ t, Steps p.tables e below (T224.setTop (mkF m 133 #[.val (.int k0), .val (.ref b1), .val (.ref b2), .val (.int (4 : Int32))] [(.int (own_bi ((.ref k_STRING : Value) = .ref k_INTEGER ∨ (.ref k_STRING : Value) = .ref k_STRING ∨ (.ref k_STRING : Value) = .ref k_BLOB)))])) t → Steps p.tables e below (s₁.setTop (entryFrame m #[(.int k0)] maxLocals)) t := fun t k => pre222 t (st224.trans k)
    obtain ⟨Lo226, Xo226, No226⟩ : ∃ L, Stand p l e room_1 s m #[(.int k0)] below meth c T224 L 2 20 ∧ Fr n0 L := ⟨_, X224, N224⟩
    have pre227 : ∀ t, Steps p.tables e below (T224.setTop (mkF m 135 #[.val (.int k0), .val (.ref b1), .val (.ref b2), .val (.int (4 : Int32))] [(.int (4 : Int32)), (.ref b2), (.int (own_bi ((.ref k_STRING : Value) = .ref k_INTEGER ∨ (.ref k_STRING : Value) = .ref k_STRING ∨ (.ref k_STRING : Value) = .ref k_BLOB)))])) t → Steps p.tables e below (s₁.setTop (entryFrame m #[(.int k0)] maxLocals)) t := by
      intro t k
      refine pre225 t ?_
      refine XS.aloadN Xo226.here hx rfl (hb hby at_133) rfl rfl ?_
      show Steps p.tables e below (T224.setTop (mkF m 134 #[.val (.int k0), .val (.ref b1), .val (.ref b2), .val (.int (4 : Int32))] [(.ref b2), (.int (own_bi ((.ref k_STRING : Value) = .ref k_INTEGER ∨ (.ref k_STRING : Value) = .ref k_STRING ∨ (.ref k_STRING : Value) = .ref k_BLOB)))])) _
      refine XS.iloadN Xo226.here hx rfl (hb hby at_134) rfl ?_
      show Steps p.tables e below (T224.setTop (mkF m 135 #[.val (.int k0), .val (.ref b1), .val (.ref b2), .val (.int (4 : Int32))] [(.int (4 : Int32)), (.ref b2), (.int (own_bi ((.ref k_STRING : Value) = .ref k_INTEGER ∨ (.ref k_STRING : Value) = .ref k_STRING ∨ (.ref k_STRING : Value) = .ref k_BLOB)))])) _
      exact k
    obtain ⟨cc228, Ar228, q1_228, Sz228, q3_228, Hs228, G228⟩ := id V156
    have hin228 : ¬ ((4 : Int32) < 0 ∨ cc228.slots.size ≤ ((4 : Int32) : Int32).toNatClampNeg) := inb_of Sz228 ⟨(by decide), (by decide)⟩
    have hat228 : cc228.slots[((4 : Int32) : Int32).toNatClampNeg]? = some (.int (nar .boolean (1 : Int32))) := Hs228.at hin228 rfl
    have pre230 : ∀ t, Steps p.tables e below (T224.setTop (mkF m 136 #[.val (.int k0), .val (.ref b1), .val (.ref b2), .val (.int (4 : Int32))] [(.int (nar .boolean (1 : Int32))), (.int (own_bi ((.ref k_STRING : Value) = .ref k_INTEGER ∨ (.ref k_STRING : Value) = .ref k_STRING ∨ (.ref k_STRING : Value) = .ref k_BLOB)))])) t → Steps p.tables e below (s₁.setTop (entryFrame m #[(.int k0)] maxLocals)) t := by
      intro t k
      refine pre227 t ?_
      refine Xo226.baloadBooleans hx (j := (4 : Int32)) (v := (.int (nar .boolean (1 : Int32)))) (by rw [heq224]; exact Ar228.1) (State.isArrayOf_alike hZ.alike Ar228.2.1) Ar228.2.2 hin228 hat228 (g := (mkF m 135 #[.val (.int k0), .val (.ref b1), .val (.ref b2), .val (.int (4 : Int32))] [(.int (4 : Int32)), (.ref b2), (.int (own_bi ((.ref k_STRING : Value) = .ref k_INTEGER ∨ (.ref k_STRING : Value) = .ref k_STRING ∨ (.ref k_STRING : Value) = .ref k_BLOB)))])) rfl rfl (hb hby at_135) _ ?_
      show Steps p.tables e below (T224.setTop (mkF m 136 #[.val (.int k0), .val (.ref b1), .val (.ref b2), .val (.int (4 : Int32))] [(.int (nar .boolean (1 : Int32))), (.int (own_bi ((.ref k_STRING : Value) = .ref k_INTEGER ∨ (.ref k_STRING : Value) = .ref k_STRING ∨ (.ref k_STRING : Value) = .ref k_BLOB)))])) _
      exact k
    have pre231 : ∀ t, Steps p.tables e below (T224.setTop (mkF m 144 #[.val (.int k0), .val (.ref b1), .val (.ref b2), .val (.int (4 : Int32))] [(.int (1 : Int32))])) t → Steps p.tables e below (s₁.setTop (entryFrame m #[(.int k0)] maxLocals)) t := by
      intro t k
      refine pre230 t ?_
      refine XS.icmpNo Xo226.here hx rfl (hb hby at_136) rfl (XT.ii_ne_f ((own_bi_t (Or.inr (Or.inl rfl))).trans (by decide))) ?_
      show Steps p.tables e below (T224.setTop (mkF m 139 #[.val (.int k0), .val (.ref b1), .val (.ref b2), .val (.int (4 : Int32))] [])) _
      refine XS.iconst Xo226.here hx rfl (hb hby at_139) ?_
      show Steps p.tables e below (T224.setTop (mkF m 140 #[.val (.int k0), .val (.ref b1), .val (.ref b2), .val (.int (4 : Int32))] [(.int (1 : Int32))])) _
      refine XS.goto Xo226.here hx rfl (pc0 := 140) (pc' := 144) rfl (hb hby at_140) (by decide) (by decide) ?_
      show Steps p.tables e below (T224.setTop (mkF m 144 #[.val (.int k0), .val (.ref b1), .val (.ref b2), .val (.int (4 : Int32))] [(.int (1 : Int32))])) _
      exact k
    obtain ⟨fs, hr, hrun, hended, hW, hsame⟩ := Xo226.leave (v := some (.int (1 : Int32))) (fun h => by rw [Bd.returns] at h; cases h)
    refine ⟨_, _, pre231 _ ?_, hrun, hended, _, _, rfl, ?_, ⟨_, rfl⟩, hW, hsame.mono (by decide) (by decide)⟩
    · exact retOut Xo226 hx Bd.returns rfl (Or.inl ⟨rfl, by simp, _, rfl⟩) (hb hby at_144) hr
    · show Qlaw Z k0 k_NIL k_FALSE k_TRUE k_INTEGER k_STRING k_LIST k_MAP k_BLOB k_FLOAT k_INF h0 n0 _ T224.heap _
      rw [heq224]
      exact ⟨rfl, No226⟩
  · subst hq
    have pre233 : ∀ t, Steps p.tables e below (T156.setTop (mkF m 129 #[.val (.int k0), .val (.ref b1), .val (.ref b2), .val (.int (5 : Int32))] [(.int (5 : Int32)), (.ref b1)])) t → Steps p.tables e below (s₁.setTop (entryFrame m #[(.int k0)] maxLocals)) t := by
      intro t k
      refine pre162 t ?_
      refine XS.aloadN Xo159.here hx rfl (hb hby at_127) rfl rfl ?_
      show Steps p.tables e below (T156.setTop (mkF m 128 #[.val (.int k0), .val (.ref b1), .val (.ref b2), .val (.int (5 : Int32))] [(.ref b1)])) _
      refine XS.iloadN Xo159.here hx rfl (hb hby at_128) rfl ?_
      show Steps p.tables e below (T156.setTop (mkF m 129 #[.val (.int k0), .val (.ref b1), .val (.ref b2), .val (.int (5 : Int32))] [(.int (5 : Int32)), (.ref b1)])) _
      exact k
    obtain ⟨cc234, Ar234, q1_234, Sz234, q3_234, Hs234, G234⟩ := id V160_0
    have hin234 : ¬ ((5 : Int32) < 0 ∨ cc234.slots.size ≤ ((5 : Int32) : Int32).toNatClampNeg) := inb_of Sz234 ⟨(by decide), (by decide)⟩
    have hat234 : cc234.slots[((5 : Int32) : Int32).toNatClampNeg]? = some (.ref k_LIST) := Hs234.at hin234 rfl
    have pre236 : ∀ t, Steps p.tables e below (T156.setTop (mkF m 130 #[.val (.int k0), .val (.ref b1), .val (.ref b2), .val (.int (5 : Int32))] [(.ref k_LIST)])) t → Steps p.tables e below (s₁.setTop (entryFrame m #[(.int k0)] maxLocals)) t := by
      intro t k
      refine pre233 t ?_
      refine Xo159.aaload hx (j := (5 : Int32)) (v := (.ref k_LIST)) (by rw [e156]; exact Ar234.1) (State.isArrayOf_alike hZ.alike Ar234.2.1) rfl Ar234.2.2 hin234 hat234 (g := (mkF m 129 #[.val (.int k0), .val (.ref b1), .val (.ref b2), .val (.int (5 : Int32))] [(.int (5 : Int32)), (.ref b1)])) rfl rfl (hb hby at_129) _ ?_
      show Steps p.tables e below (T156.setTop (mkF m 130 #[.val (.int k0), .val (.ref b1), .val (.ref b2), .val (.int (5 : Int32))] [(.ref k_LIST)])) _
      exact k
    obtain ⟨cq238, kq238, q238a, q238b, q238c⟩ := isOf hZ e156 (E_LIST.ext O160.2)
    obtain ⟨_, _, ⟨T238, L238, k238, n238⟩, -, X238, ⟨Lc238, hQ238, l238, y238, z238⟩, st238⟩ := Xo159.virtualBack hx (y := (⟨"com/example/okra/okra/ValueType", "isMapKey", "()Z"⟩ : MethodName)) (z := (⟨"com/example/okra/okra/ValueType", "isMapKey", "()Z"⟩ : MethodName)) hown (mvT hZ (hw _ (List.mem_of_getElem? (i := 26) rfl))) (mvT hZ (hw _ (List.mem_of_getElem? (i := 27) rfl))) (notFace_of_selects (args := #[]) (mvT hZ (hw _ (List.mem_of_getElem? (i := 29) rfl)))) (mvT hZ (hw _ (List.mem_of_getElem? (i := 29) rfl))) (mvT hZ (hw _ (List.mem_of_getElem? (i := 28) rfl))) (by decide) (backOf (W := 0) (rm1 l Z a0 hw [] k_LIST k_INTEGER k_STRING k_BLOB h156 n0 Z160 (S_INTEGER.ext O160.2) (S_STRING.ext O160.2) (S_BLOB.ext O160.2)) hZ (hw _ (List.mem_of_getElem? (i := 30) rfl)) (hw _ (List.mem_of_getElem? (i := 3) rfl)) (by decide) (by decide)) q238a q238c (g := (mkF m 130 #[.val (.int k0), .val (.ref b1), .val (.ref b2), .val (.int (5 : Int32))] [(.ref k_LIST)])) rfl (by rw [hml]; rfl) (Steps.refl _) (argsL := []) (rest := []) (lenOf pd_imk rfl) rfl (by show 2 * 0 + _ ≤ _; exact Nat.le_of_eq rfl) (hb hby at_130) (fun _ _ => ⟨rfl, e156, (by decide : 2 + 0 ≤ _), (by decide : 20 + 0 ≤ _)⟩)
    dsimp only [Pt.U, Pt.locs, Pt.cells, Pt.slots] at X238 l238 y238 z238 st238 hQ238
    subst l238 y238 z238
    obtain ⟨rfl, Nq238, heq238⟩ := hQ238
    have N238 := Fr.app No159 Nq238
    have pre239 : ∀ t, Steps p.tables e below (T238.setTop (mkF m 133 #[.val (.int k0), .val (.ref b1), .val (.ref b2), .val (.int (5 : Int32))] [(.int (own_bi ((.ref k_LIST : Value) = .ref k_INTEGER ∨ (.ref k_LIST : Value) = .ref k_STRING ∨ (.ref k_LIST : Value) = .ref k_BLOB)))])) t → Steps p.tables e below (s₁.setTop (entryFrame m #[(.int k0)] maxLocals)) t := fun t k => pre236 t (st238.trans k)
    obtain ⟨Lo240, Xo240, No240⟩ : ∃ L, Stand p l e room_1 s m #[(.int k0)] below meth c T238 L 2 20 ∧ Fr n0 L := ⟨_, X238, N238⟩
    have pre241 : ∀ t, Steps p.tables e below (T238.setTop (mkF m 135 #[.val (.int k0), .val (.ref b1), .val (.ref b2), .val (.int (5 : Int32))] [(.int (5 : Int32)), (.ref b2), (.int (own_bi ((.ref k_LIST : Value) = .ref k_INTEGER ∨ (.ref k_LIST : Value) = .ref k_STRING ∨ (.ref k_LIST : Value) = .ref k_BLOB)))])) t → Steps p.tables e below (s₁.setTop (entryFrame m #[(.int k0)] maxLocals)) t := by
      intro t k
      refine pre239 t ?_
      refine XS.aloadN Xo240.here hx rfl (hb hby at_133) rfl rfl ?_
      show Steps p.tables e below (T238.setTop (mkF m 134 #[.val (.int k0), .val (.ref b1), .val (.ref b2), .val (.int (5 : Int32))] [(.ref b2), (.int (own_bi ((.ref k_LIST : Value) = .ref k_INTEGER ∨ (.ref k_LIST : Value) = .ref k_STRING ∨ (.ref k_LIST : Value) = .ref k_BLOB)))])) _
      refine XS.iloadN Xo240.here hx rfl (hb hby at_134) rfl ?_
      show Steps p.tables e below (T238.setTop (mkF m 135 #[.val (.int k0), .val (.ref b1), .val (.ref b2), .val (.int (5 : Int32))] [(.int (5 : Int32)), (.ref b2), (.int (own_bi ((.ref k_LIST : Value) = .ref k_INTEGER ∨ (.ref k_LIST : Value) = .ref k_STRING ∨ (.ref k_LIST : Value) = .ref k_BLOB)))])) _
      exact k
    obtain ⟨cc242, Ar242, q1_242, Sz242, q3_242, Hs242, G242⟩ := id V156
    have hin242 : ¬ ((5 : Int32) < 0 ∨ cc242.slots.size ≤ ((5 : Int32) : Int32).toNatClampNeg) := inb_of Sz242 ⟨(by decide), (by decide)⟩
    have hat242 : cc242.slots[((5 : Int32) : Int32).toNatClampNeg]? = some (.int (nar .boolean (0 : Int32))) := Hs242.at hin242 rfl
    have pre244 : ∀ t, Steps p.tables e below (T238.setTop (mkF m 136 #[.val (.int k0), .val (.ref b1), .val (.ref b2), .val (.int (5 : Int32))] [(.int (nar .boolean (0 : Int32))), (.int (own_bi ((.ref k_LIST : Value) = .ref k_INTEGER ∨ (.ref k_LIST : Value) = .ref k_STRING ∨ (.ref k_LIST : Value) = .ref k_BLOB)))])) t → Steps p.tables e below (s₁.setTop (entryFrame m #[(.int k0)] maxLocals)) t := by
      intro t k
      refine pre241 t ?_
      refine Xo240.baloadBooleans hx (j := (5 : Int32)) (v := (.int (nar .boolean (0 : Int32)))) (by rw [heq238]; exact Ar242.1) (State.isArrayOf_alike hZ.alike Ar242.2.1) Ar242.2.2 hin242 hat242 (g := (mkF m 135 #[.val (.int k0), .val (.ref b1), .val (.ref b2), .val (.int (5 : Int32))] [(.int (5 : Int32)), (.ref b2), (.int (own_bi ((.ref k_LIST : Value) = .ref k_INTEGER ∨ (.ref k_LIST : Value) = .ref k_STRING ∨ (.ref k_LIST : Value) = .ref k_BLOB)))])) rfl rfl (hb hby at_135) _ ?_
      show Steps p.tables e below (T238.setTop (mkF m 136 #[.val (.int k0), .val (.ref b1), .val (.ref b2), .val (.int (5 : Int32))] [(.int (nar .boolean (0 : Int32))), (.int (own_bi ((.ref k_LIST : Value) = .ref k_INTEGER ∨ (.ref k_LIST : Value) = .ref k_STRING ∨ (.ref k_LIST : Value) = .ref k_BLOB)))])) _
      exact k
    have pre245 : ∀ t, Steps p.tables e below (T238.setTop (mkF m 144 #[.val (.int k0), .val (.ref b1), .val (.ref b2), .val (.int (5 : Int32))] [(.int (1 : Int32))])) t → Steps p.tables e below (s₁.setTop (entryFrame m #[(.int k0)] maxLocals)) t := by
      intro t k
      refine pre244 t ?_
      refine XS.icmpNo Xo240.here hx rfl (hb hby at_136) rfl (XT.ii_ne_f ((own_bi_f (fun q => by rcases q with q | q | q; exact Fld.ne F_LIST F_INTEGER (by decide) (Value.ref.inj q); exact Fld.ne F_LIST F_STRING (by decide) (Value.ref.inj q); exact Fld.ne F_LIST F_BLOB (by decide) (Value.ref.inj q))).trans (by decide))) ?_
      show Steps p.tables e below (T238.setTop (mkF m 139 #[.val (.int k0), .val (.ref b1), .val (.ref b2), .val (.int (5 : Int32))] [])) _
      refine XS.iconst Xo240.here hx rfl (hb hby at_139) ?_
      show Steps p.tables e below (T238.setTop (mkF m 140 #[.val (.int k0), .val (.ref b1), .val (.ref b2), .val (.int (5 : Int32))] [(.int (1 : Int32))])) _
      refine XS.goto Xo240.here hx rfl (pc0 := 140) (pc' := 144) rfl (hb hby at_140) (by decide) (by decide) ?_
      show Steps p.tables e below (T238.setTop (mkF m 144 #[.val (.int k0), .val (.ref b1), .val (.ref b2), .val (.int (5 : Int32))] [(.int (1 : Int32))])) _
      exact k
    obtain ⟨fs, hr, hrun, hended, hW, hsame⟩ := Xo240.leave (v := some (.int (1 : Int32))) (fun h => by rw [Bd.returns] at h; cases h)
    refine ⟨_, _, pre245 _ ?_, hrun, hended, _, _, rfl, ?_, ⟨_, rfl⟩, hW, hsame.mono (by decide) (by decide)⟩
    · exact retOut Xo240 hx Bd.returns rfl (Or.inl ⟨rfl, by simp, _, rfl⟩) (hb hby at_144) hr
    · show Qlaw Z k0 k_NIL k_FALSE k_TRUE k_INTEGER k_STRING k_LIST k_MAP k_BLOB k_FLOAT k_INF h0 n0 _ T238.heap _
      rw [heq238]
      exact ⟨rfl, No240⟩
  · subst hq
    have pre247 : ∀ t, Steps p.tables e below (T156.setTop (mkF m 129 #[.val (.int k0), .val (.ref b1), .val (.ref b2), .val (.int (6 : Int32))] [(.int (6 : Int32)), (.ref b1)])) t → Steps p.tables e below (s₁.setTop (entryFrame m #[(.int k0)] maxLocals)) t := by
      intro t k
      refine pre162 t ?_
      refine XS.aloadN Xo159.here hx rfl (hb hby at_127) rfl rfl ?_
      show Steps p.tables e below (T156.setTop (mkF m 128 #[.val (.int k0), .val (.ref b1), .val (.ref b2), .val (.int (6 : Int32))] [(.ref b1)])) _
      refine XS.iloadN Xo159.here hx rfl (hb hby at_128) rfl ?_
      show Steps p.tables e below (T156.setTop (mkF m 129 #[.val (.int k0), .val (.ref b1), .val (.ref b2), .val (.int (6 : Int32))] [(.int (6 : Int32)), (.ref b1)])) _
      exact k
    obtain ⟨cc248, Ar248, q1_248, Sz248, q3_248, Hs248, G248⟩ := id V160_0
    have hin248 : ¬ ((6 : Int32) < 0 ∨ cc248.slots.size ≤ ((6 : Int32) : Int32).toNatClampNeg) := inb_of Sz248 ⟨(by decide), (by decide)⟩
    have hat248 : cc248.slots[((6 : Int32) : Int32).toNatClampNeg]? = some (.ref k_MAP) := Hs248.at hin248 rfl
    have pre250 : ∀ t, Steps p.tables e below (T156.setTop (mkF m 130 #[.val (.int k0), .val (.ref b1), .val (.ref b2), .val (.int (6 : Int32))] [(.ref k_MAP)])) t → Steps p.tables e below (s₁.setTop (entryFrame m #[(.int k0)] maxLocals)) t := by
      intro t k
      refine pre247 t ?_
      refine Xo159.aaload hx (j := (6 : Int32)) (v := (.ref k_MAP)) (by rw [e156]; exact Ar248.1) (State.isArrayOf_alike hZ.alike Ar248.2.1) rfl Ar248.2.2 hin248 hat248 (g := (mkF m 129 #[.val (.int k0), .val (.ref b1), .val (.ref b2), .val (.int (6 : Int32))] [(.int (6 : Int32)), (.ref b1)])) rfl rfl (hb hby at_129) _ ?_
      show Steps p.tables e below (T156.setTop (mkF m 130 #[.val (.int k0), .val (.ref b1), .val (.ref b2), .val (.int (6 : Int32))] [(.ref k_MAP)])) _
      exact k
    obtain ⟨cq252, kq252, q252a, q252b, q252c⟩ := isOf hZ e156 (E_MAP.ext O160.2)
    obtain ⟨_, _, ⟨T252, L252, k252, n252⟩, -, X252, ⟨Lc252, hQ252, l252, y252, z252⟩, st252⟩ := Xo159.virtualBack hx (y := (⟨"com/example/okra/okra/ValueType", "isMapKey", "()Z"⟩ : MethodName)) (z := (⟨"com/example/okra/okra/ValueType", "isMapKey", "()Z"⟩ : MethodName)) hown (mvT hZ (hw _ (List.mem_of_getElem? (i := 26) rfl))) (mvT hZ (hw _ (List.mem_of_getElem? (i := 27) rfl))) (notFace_of_selects (args := #[]) (mvT hZ (hw _ (List.mem_of_getElem? (i := 29) rfl)))) (mvT hZ (hw _ (List.mem_of_getElem? (i := 29) rfl))) (mvT hZ (hw _ (List.mem_of_getElem? (i := 28) rfl))) (by decide) (backOf (W := 0) (rm1 l Z a0 hw [] k_MAP k_INTEGER k_STRING k_BLOB h156 n0 Z160 (S_INTEGER.ext O160.2) (S_STRING.ext O160.2) (S_BLOB.ext O160.2)) hZ (hw _ (List.mem_of_getElem? (i := 30) rfl)) (hw _ (List.mem_of_getElem? (i := 3) rfl)) (by decide) (by decide)) q252a q252c (g := (mkF m 130 #[.val (.int k0), .val (.ref b1), .val (.ref b2), .val (.int (6 : Int32))] [(.ref k_MAP)])) rfl (by rw [hml]; rfl) (Steps.refl _) (argsL := []) (rest := []) (lenOf pd_imk rfl) rfl (by show 2 * 0 + _ ≤ _; exact Nat.le_of_eq rfl) (hb hby at_130) (fun _ _ => ⟨rfl, e156, (by decide : 2 + 0 ≤ _), (by decide : 20 + 0 ≤ _)⟩)
    dsimp only [Pt.U, Pt.locs, Pt.cells, Pt.slots] at X252 l252 y252 z252 st252 hQ252
    subst l252 y252 z252
    obtain ⟨rfl, Nq252, heq252⟩ := hQ252
    have N252 := Fr.app No159 Nq252
    have pre253 : ∀ t, Steps p.tables e below (T252.setTop (mkF m 133 #[.val (.int k0), .val (.ref b1), .val (.ref b2), .val (.int (6 : Int32))] [(.int (own_bi ((.ref k_MAP : Value) = .ref k_INTEGER ∨ (.ref k_MAP : Value) = .ref k_STRING ∨ (.ref k_MAP : Value) = .ref k_BLOB)))])) t → Steps p.tables e below (s₁.setTop (entryFrame m #[(.int k0)] maxLocals)) t := fun t k => pre250 t (st252.trans k)
    obtain ⟨Lo254, Xo254, No254⟩ : ∃ L, Stand p l e room_1 s m #[(.int k0)] below meth c T252 L 2 20 ∧ Fr n0 L := ⟨_, X252, N252⟩
    have pre255 : ∀ t, Steps p.tables e below (T252.setTop (mkF m 135 #[.val (.int k0), .val (.ref b1), .val (.ref b2), .val (.int (6 : Int32))] [(.int (6 : Int32)), (.ref b2), (.int (own_bi ((.ref k_MAP : Value) = .ref k_INTEGER ∨ (.ref k_MAP : Value) = .ref k_STRING ∨ (.ref k_MAP : Value) = .ref k_BLOB)))])) t → Steps p.tables e below (s₁.setTop (entryFrame m #[(.int k0)] maxLocals)) t := by
      intro t k
      refine pre253 t ?_
      refine XS.aloadN Xo254.here hx rfl (hb hby at_133) rfl rfl ?_
      show Steps p.tables e below (T252.setTop (mkF m 134 #[.val (.int k0), .val (.ref b1), .val (.ref b2), .val (.int (6 : Int32))] [(.ref b2), (.int (own_bi ((.ref k_MAP : Value) = .ref k_INTEGER ∨ (.ref k_MAP : Value) = .ref k_STRING ∨ (.ref k_MAP : Value) = .ref k_BLOB)))])) _
      refine XS.iloadN Xo254.here hx rfl (hb hby at_134) rfl ?_
      show Steps p.tables e below (T252.setTop (mkF m 135 #[.val (.int k0), .val (.ref b1), .val (.ref b2), .val (.int (6 : Int32))] [(.int (6 : Int32)), (.ref b2), (.int (own_bi ((.ref k_MAP : Value) = .ref k_INTEGER ∨ (.ref k_MAP : Value) = .ref k_STRING ∨ (.ref k_MAP : Value) = .ref k_BLOB)))])) _
      exact k
    obtain ⟨cc256, Ar256, q1_256, Sz256, q3_256, Hs256, G256⟩ := id V156
    have hin256 : ¬ ((6 : Int32) < 0 ∨ cc256.slots.size ≤ ((6 : Int32) : Int32).toNatClampNeg) := inb_of Sz256 ⟨(by decide), (by decide)⟩
    have hat256 : cc256.slots[((6 : Int32) : Int32).toNatClampNeg]? = some (.int (nar .boolean (0 : Int32))) := Hs256.at hin256 rfl
    have pre258 : ∀ t, Steps p.tables e below (T252.setTop (mkF m 136 #[.val (.int k0), .val (.ref b1), .val (.ref b2), .val (.int (6 : Int32))] [(.int (nar .boolean (0 : Int32))), (.int (own_bi ((.ref k_MAP : Value) = .ref k_INTEGER ∨ (.ref k_MAP : Value) = .ref k_STRING ∨ (.ref k_MAP : Value) = .ref k_BLOB)))])) t → Steps p.tables e below (s₁.setTop (entryFrame m #[(.int k0)] maxLocals)) t := by
      intro t k
      refine pre255 t ?_
      refine Xo254.baloadBooleans hx (j := (6 : Int32)) (v := (.int (nar .boolean (0 : Int32)))) (by rw [heq252]; exact Ar256.1) (State.isArrayOf_alike hZ.alike Ar256.2.1) Ar256.2.2 hin256 hat256 (g := (mkF m 135 #[.val (.int k0), .val (.ref b1), .val (.ref b2), .val (.int (6 : Int32))] [(.int (6 : Int32)), (.ref b2), (.int (own_bi ((.ref k_MAP : Value) = .ref k_INTEGER ∨ (.ref k_MAP : Value) = .ref k_STRING ∨ (.ref k_MAP : Value) = .ref k_BLOB)))])) rfl rfl (hb hby at_135) _ ?_
      show Steps p.tables e below (T252.setTop (mkF m 136 #[.val (.int k0), .val (.ref b1), .val (.ref b2), .val (.int (6 : Int32))] [(.int (nar .boolean (0 : Int32))), (.int (own_bi ((.ref k_MAP : Value) = .ref k_INTEGER ∨ (.ref k_MAP : Value) = .ref k_STRING ∨ (.ref k_MAP : Value) = .ref k_BLOB)))])) _
      exact k
    have pre259 : ∀ t, Steps p.tables e below (T252.setTop (mkF m 144 #[.val (.int k0), .val (.ref b1), .val (.ref b2), .val (.int (6 : Int32))] [(.int (1 : Int32))])) t → Steps p.tables e below (s₁.setTop (entryFrame m #[(.int k0)] maxLocals)) t := by
      intro t k
      refine pre258 t ?_
      refine XS.icmpNo Xo254.here hx rfl (hb hby at_136) rfl (XT.ii_ne_f ((own_bi_f (fun q => by rcases q with q | q | q; exact Fld.ne F_MAP F_INTEGER (by decide) (Value.ref.inj q); exact Fld.ne F_MAP F_STRING (by decide) (Value.ref.inj q); exact Fld.ne F_MAP F_BLOB (by decide) (Value.ref.inj q))).trans (by decide))) ?_
      show Steps p.tables e below (T252.setTop (mkF m 139 #[.val (.int k0), .val (.ref b1), .val (.ref b2), .val (.int (6 : Int32))] [])) _
      refine XS.iconst Xo254.here hx rfl (hb hby at_139) ?_
      show Steps p.tables e below (T252.setTop (mkF m 140 #[.val (.int k0), .val (.ref b1), .val (.ref b2), .val (.int (6 : Int32))] [(.int (1 : Int32))])) _
      refine XS.goto Xo254.here hx rfl (pc0 := 140) (pc' := 144) rfl (hb hby at_140) (by decide) (by decide) ?_
      show Steps p.tables e below (T252.setTop (mkF m 144 #[.val (.int k0), .val (.ref b1), .val (.ref b2), .val (.int (6 : Int32))] [(.int (1 : Int32))])) _
      exact k
    obtain ⟨fs, hr, hrun, hended, hW, hsame⟩ := Xo254.leave (v := some (.int (1 : Int32))) (fun h => by rw [Bd.returns] at h; cases h)
    refine ⟨_, _, pre259 _ ?_, hrun, hended, _, _, rfl, ?_, ⟨_, rfl⟩, hW, hsame.mono (by decide) (by decide)⟩
    · exact retOut Xo254 hx Bd.returns rfl (Or.inl ⟨rfl, by simp, _, rfl⟩) (hb hby at_144) hr
    · show Qlaw Z k0 k_NIL k_FALSE k_TRUE k_INTEGER k_STRING k_LIST k_MAP k_BLOB k_FLOAT k_INF h0 n0 _ T252.heap _
      rw [heq252]
      exact ⟨rfl, No254⟩
  · subst hq
    have pre261 : ∀ t, Steps p.tables e below (T156.setTop (mkF m 129 #[.val (.int k0), .val (.ref b1), .val (.ref b2), .val (.int (7 : Int32))] [(.int (7 : Int32)), (.ref b1)])) t → Steps p.tables e below (s₁.setTop (entryFrame m #[(.int k0)] maxLocals)) t := by
      intro t k
      refine pre162 t ?_
      refine XS.aloadN Xo159.here hx rfl (hb hby at_127) rfl rfl ?_
      show Steps p.tables e below (T156.setTop (mkF m 128 #[.val (.int k0), .val (.ref b1), .val (.ref b2), .val (.int (7 : Int32))] [(.ref b1)])) _
      refine XS.iloadN Xo159.here hx rfl (hb hby at_128) rfl ?_
      show Steps p.tables e below (T156.setTop (mkF m 129 #[.val (.int k0), .val (.ref b1), .val (.ref b2), .val (.int (7 : Int32))] [(.int (7 : Int32)), (.ref b1)])) _
      exact k
    obtain ⟨cc262, Ar262, q1_262, Sz262, q3_262, Hs262, G262⟩ := id V160_0
    have hin262 : ¬ ((7 : Int32) < 0 ∨ cc262.slots.size ≤ ((7 : Int32) : Int32).toNatClampNeg) := inb_of Sz262 ⟨(by decide), (by decide)⟩
    have hat262 : cc262.slots[((7 : Int32) : Int32).toNatClampNeg]? = some (.ref k_BLOB) := Hs262.at hin262 rfl
    have pre264 : ∀ t, Steps p.tables e below (T156.setTop (mkF m 130 #[.val (.int k0), .val (.ref b1), .val (.ref b2), .val (.int (7 : Int32))] [(.ref k_BLOB)])) t → Steps p.tables e below (s₁.setTop (entryFrame m #[(.int k0)] maxLocals)) t := by
      intro t k
      refine pre261 t ?_
      refine Xo159.aaload hx (j := (7 : Int32)) (v := (.ref k_BLOB)) (by rw [e156]; exact Ar262.1) (State.isArrayOf_alike hZ.alike Ar262.2.1) rfl Ar262.2.2 hin262 hat262 (g := (mkF m 129 #[.val (.int k0), .val (.ref b1), .val (.ref b2), .val (.int (7 : Int32))] [(.int (7 : Int32)), (.ref b1)])) rfl rfl (hb hby at_129) _ ?_
      show Steps p.tables e below (T156.setTop (mkF m 130 #[.val (.int k0), .val (.ref b1), .val (.ref b2), .val (.int (7 : Int32))] [(.ref k_BLOB)])) _
      exact k
    obtain ⟨cq266, kq266, q266a, q266b, q266c⟩ := isOf hZ e156 (E_BLOB.ext O160.2)
    obtain ⟨_, _, ⟨T266, L266, k266, n266⟩, -, X266, ⟨Lc266, hQ266, l266, y266, z266⟩, st266⟩ := Xo159.virtualBack hx (y := (⟨"com/example/okra/okra/ValueType", "isMapKey", "()Z"⟩ : MethodName)) (z := (⟨"com/example/okra/okra/ValueType", "isMapKey", "()Z"⟩ : MethodName)) hown (mvT hZ (hw _ (List.mem_of_getElem? (i := 26) rfl))) (mvT hZ (hw _ (List.mem_of_getElem? (i := 27) rfl))) (notFace_of_selects (args := #[]) (mvT hZ (hw _ (List.mem_of_getElem? (i := 29) rfl)))) (mvT hZ (hw _ (List.mem_of_getElem? (i := 29) rfl))) (mvT hZ (hw _ (List.mem_of_getElem? (i := 28) rfl))) (by decide) (backOf (W := 0) (rm1 l Z a0 hw [] k_BLOB k_INTEGER k_STRING k_BLOB h156 n0 Z160 (S_INTEGER.ext O160.2) (S_STRING.ext O160.2) (S_BLOB.ext O160.2)) hZ (hw _ (List.mem_of_getElem? (i := 30) rfl)) (hw _ (List.mem_of_getElem? (i := 3) rfl)) (by decide) (by decide)) q266a q266c (g := (mkF m 130 #[.val (.int k0), .val (.ref b1), .val (.ref b2), .val (.int (7 : Int32))] [(.ref k_BLOB)])) rfl (by rw [hml]; rfl) (Steps.refl _) (argsL := []) (rest := []) (lenOf pd_imk rfl) rfl (by show 2 * 0 + _ ≤ _; exact Nat.le_of_eq rfl) (hb hby at_130) (fun _ _ => ⟨rfl, e156, (by decide : 2 + 0 ≤ _), (by decide : 20 + 0 ≤ _)⟩)
    dsimp only [Pt.U, Pt.locs, Pt.cells, Pt.slots] at X266 l266 y266 z266 st266 hQ266
    subst l266 y266 z266
    obtain ⟨rfl, Nq266, heq266⟩ := hQ266
    have N266 := Fr.app No159 Nq266
    have pre267 : ∀ t, Steps p.tables e below (T266.setTop (mkF m 133 #[.val (.int k0), .val (.ref b1), .val (.ref b2), .val (.int (7 : Int32))] [(.int (own_bi ((.ref k_BLOB : Value) = .ref k_INTEGER ∨ (.ref k_BLOB : Value) = .ref k_STRING ∨ (.ref k_BLOB : Value) = .ref k_BLOB)))])) t → Steps p.tables e below (s₁.setTop (entryFrame m #[(.int k0)] maxLocals)) t := fun t k => pre264 t (st266.trans k)
    obtain ⟨Lo268, Xo268, No268⟩ : ∃ L, Stand p l e room_1 s m #[(.int k0)] below meth c T266 L 2 20 ∧ Fr n0 L := ⟨_, X266, N266⟩
    have pre269 : ∀ t, Steps p.tables e below (T266.setTop (mkF m 135 #[.val (.int k0), .val (.ref b1), .val (.ref b2), .val (.int (7 : Int32))] [(.int (7 : Int32)), (.ref b2), (.int (own_bi ((.ref k_BLOB : Value) = .ref k_INTEGER ∨ (.ref k_BLOB : Value) = .ref k_STRING ∨ (.ref k_BLOB : Value) = .ref k_BLOB)))])) t → Steps p.tables e below (s₁.setTop (entryFrame m #[(.int k0)] maxLocals)) t := by
      intro t k
      refine pre267 t ?_
      refine XS.aloadN Xo268.here hx rfl (hb hby at_133) rfl rfl ?_
      show Steps p.tables e below (T266.setTop (mkF m 134 #[.val (.int k0), .val (.ref b1), .val (.ref b2), .val (.int (7 : Int32))] [(.ref b2), (.int (own_bi ((.ref k_BLOB : Value) = .ref k_INTEGER ∨ (.ref k_BLOB : Value) = .ref k_STRING ∨ (.ref k_BLOB : Value) = .ref k_BLOB)))])) _
      refine XS.iloadN Xo268.here hx rfl (hb hby at_134) rfl ?_
      show Steps p.tables e below (T266.setTop (mkF m 135 #[.val (.int k0), .val (.ref b1), .val (.ref b2), .val (.int (7 : Int32))] [(.int (7 : Int32)), (.ref b2), (.int (own_bi ((.ref k_BLOB : Value) = .ref k_INTEGER ∨ (.ref k_BLOB : Value) = .ref k_STRING ∨ (.ref k_BLOB : Value) = .ref k_BLOB)))])) _
      exact k
    obtain ⟨cc270, Ar270, q1_270, Sz270, q3_270, Hs270, G270⟩ := id V156
    have hin270 : ¬ ((7 : Int32) < 0 ∨ cc270.slots.size ≤ ((7 : Int32) : Int32).toNatClampNeg) := inb_of Sz270 ⟨(by decide), (by decide)⟩
    have hat270 : cc270.slots[((7 : Int32) : Int32).toNatClampNeg]? = some (.int (nar .boolean (1 : Int32))) := Hs270.at hin270 rfl
    have pre272 : ∀ t, Steps p.tables e below (T266.setTop (mkF m 136 #[.val (.int k0), .val (.ref b1), .val (.ref b2), .val (.int (7 : Int32))] [(.int (nar .boolean (1 : Int32))), (.int (own_bi ((.ref k_BLOB : Value) = .ref k_INTEGER ∨ (.ref k_BLOB : Value) = .ref k_STRING ∨ (.ref k_BLOB : Value) = .ref k_BLOB)))])) t → Steps p.tables e below (s₁.setTop (entryFrame m #[(.int k0)] maxLocals)) t := by
      intro t k
      refine pre269 t ?_
      refine Xo268.baloadBooleans hx (j := (7 : Int32)) (v := (.int (nar .boolean (1 : Int32)))) (by rw [heq266]; exact Ar270.1) (State.isArrayOf_alike hZ.alike Ar270.2.1) Ar270.2.2 hin270 hat270 (g := (mkF m 135 #[.val (.int k0), .val (.ref b1), .val (.ref b2), .val (.int (7 : Int32))] [(.int (7 : Int32)), (.ref b2), (.int (own_bi ((.ref k_BLOB : Value) = .ref k_INTEGER ∨ (.ref k_BLOB : Value) = .ref k_STRING ∨ (.ref k_BLOB : Value) = .ref k_BLOB)))])) rfl rfl (hb hby at_135) _ ?_
      show Steps p.tables e below (T266.setTop (mkF m 136 #[.val (.int k0), .val (.ref b1), .val (.ref b2), .val (.int (7 : Int32))] [(.int (nar .boolean (1 : Int32))), (.int (own_bi ((.ref k_BLOB : Value) = .ref k_INTEGER ∨ (.ref k_BLOB : Value) = .ref k_STRING ∨ (.ref k_BLOB : Value) = .ref k_BLOB)))])) _
      exact k
    have pre273 : ∀ t, Steps p.tables e below (T266.setTop (mkF m 144 #[.val (.int k0), .val (.ref b1), .val (.ref b2), .val (.int (7 : Int32))] [(.int (1 : Int32))])) t → Steps p.tables e below (s₁.setTop (entryFrame m #[(.int k0)] maxLocals)) t := by
      intro t k
      refine pre272 t ?_
      refine XS.icmpNo Xo268.here hx rfl (hb hby at_136) rfl (XT.ii_ne_f ((own_bi_t (Or.inr (Or.inr rfl))).trans (by decide))) ?_
      show Steps p.tables e below (T266.setTop (mkF m 139 #[.val (.int k0), .val (.ref b1), .val (.ref b2), .val (.int (7 : Int32))] [])) _
      refine XS.iconst Xo268.here hx rfl (hb hby at_139) ?_
      show Steps p.tables e below (T266.setTop (mkF m 140 #[.val (.int k0), .val (.ref b1), .val (.ref b2), .val (.int (7 : Int32))] [(.int (1 : Int32))])) _
      refine XS.goto Xo268.here hx rfl (pc0 := 140) (pc' := 144) rfl (hb hby at_140) (by decide) (by decide) ?_
      show Steps p.tables e below (T266.setTop (mkF m 144 #[.val (.int k0), .val (.ref b1), .val (.ref b2), .val (.int (7 : Int32))] [(.int (1 : Int32))])) _
      exact k
    obtain ⟨fs, hr, hrun, hended, hW, hsame⟩ := Xo268.leave (v := some (.int (1 : Int32))) (fun h => by rw [Bd.returns] at h; cases h)
    refine ⟨_, _, pre273 _ ?_, hrun, hended, _, _, rfl, ?_, ⟨_, rfl⟩, hW, hsame.mono (by decide) (by decide)⟩
    · exact retOut Xo268 hx Bd.returns rfl (Or.inl ⟨rfl, by simp, _, rfl⟩) (hb hby at_144) hr
    · show Qlaw Z k0 k_NIL k_FALSE k_TRUE k_INTEGER k_STRING k_LIST k_MAP k_BLOB k_FLOAT k_INF h0 n0 _ T266.heap _
      rw [heq266]
      exact ⟨rfl, No268⟩
  · subst hq
    have pre275 : ∀ t, Steps p.tables e below (T156.setTop (mkF m 129 #[.val (.int k0), .val (.ref b1), .val (.ref b2), .val (.int (8 : Int32))] [(.int (8 : Int32)), (.ref b1)])) t → Steps p.tables e below (s₁.setTop (entryFrame m #[(.int k0)] maxLocals)) t := by
      intro t k
      refine pre162 t ?_
      refine XS.aloadN Xo159.here hx rfl (hb hby at_127) rfl rfl ?_
      show Steps p.tables e below (T156.setTop (mkF m 128 #[.val (.int k0), .val (.ref b1), .val (.ref b2), .val (.int (8 : Int32))] [(.ref b1)])) _
      refine XS.iloadN Xo159.here hx rfl (hb hby at_128) rfl ?_
      show Steps p.tables e below (T156.setTop (mkF m 129 #[.val (.int k0), .val (.ref b1), .val (.ref b2), .val (.int (8 : Int32))] [(.int (8 : Int32)), (.ref b1)])) _
      exact k
    obtain ⟨cc276, Ar276, q1_276, Sz276, q3_276, Hs276, G276⟩ := id V160_0
    have hin276 : ¬ ((8 : Int32) < 0 ∨ cc276.slots.size ≤ ((8 : Int32) : Int32).toNatClampNeg) := inb_of Sz276 ⟨(by decide), (by decide)⟩
    have hat276 : cc276.slots[((8 : Int32) : Int32).toNatClampNeg]? = some (.ref k_FLOAT) := Hs276.at hin276 rfl
    have pre278 : ∀ t, Steps p.tables e below (T156.setTop (mkF m 130 #[.val (.int k0), .val (.ref b1), .val (.ref b2), .val (.int (8 : Int32))] [(.ref k_FLOAT)])) t → Steps p.tables e below (s₁.setTop (entryFrame m #[(.int k0)] maxLocals)) t := by
      intro t k
      refine pre275 t ?_
      refine Xo159.aaload hx (j := (8 : Int32)) (v := (.ref k_FLOAT)) (by rw [e156]; exact Ar276.1) (State.isArrayOf_alike hZ.alike Ar276.2.1) rfl Ar276.2.2 hin276 hat276 (g := (mkF m 129 #[.val (.int k0), .val (.ref b1), .val (.ref b2), .val (.int (8 : Int32))] [(.int (8 : Int32)), (.ref b1)])) rfl rfl (hb hby at_129) _ ?_
      show Steps p.tables e below (T156.setTop (mkF m 130 #[.val (.int k0), .val (.ref b1), .val (.ref b2), .val (.int (8 : Int32))] [(.ref k_FLOAT)])) _
      exact k
    obtain ⟨cq280, kq280, q280a, q280b, q280c⟩ := isOf hZ e156 (E_FLOAT.ext O160.2)
    obtain ⟨_, _, ⟨T280, L280, k280, n280⟩, -, X280, ⟨Lc280, hQ280, l280, y280, z280⟩, st280⟩ := Xo159.virtualBack hx (y := (⟨"com/example/okra/okra/ValueType", "isMapKey", "()Z"⟩ : MethodName)) (z := (⟨"com/example/okra/okra/ValueType", "isMapKey", "()Z"⟩ : MethodName)) hown (mvT hZ (hw _ (List.mem_of_getElem? (i := 26) rfl))) (mvT hZ (hw _ (List.mem_of_getElem? (i := 27) rfl))) (notFace_of_selects (args := #[]) (mvT hZ (hw _ (List.mem_of_getElem? (i := 29) rfl)))) (mvT hZ (hw _ (List.mem_of_getElem? (i := 29) rfl))) (mvT hZ (hw _ (List.mem_of_getElem? (i := 28) rfl))) (by decide) (backOf (W := 0) (rm1 l Z a0 hw [] k_FLOAT k_INTEGER k_STRING k_BLOB h156 n0 Z160 (S_INTEGER.ext O160.2) (S_STRING.ext O160.2) (S_BLOB.ext O160.2)) hZ (hw _ (List.mem_of_getElem? (i := 30) rfl)) (hw _ (List.mem_of_getElem? (i := 3) rfl)) (by decide) (by decide)) q280a q280c (g := (mkF m 130 #[.val (.int k0), .val (.ref b1), .val (.ref b2), .val (.int (8 : Int32))] [(.ref k_FLOAT)])) rfl (by rw [hml]; rfl) (Steps.refl _) (argsL := []) (rest := []) (lenOf pd_imk rfl) rfl (by show 2 * 0 + _ ≤ _; exact Nat.le_of_eq rfl) (hb hby at_130) (fun _ _ => ⟨rfl, e156, (by decide : 2 + 0 ≤ _), (by decide : 20 + 0 ≤ _)⟩)
    dsimp only [Pt.U, Pt.locs, Pt.cells, Pt.slots] at X280 l280 y280 z280 st280 hQ280
    subst l280 y280 z280
    obtain ⟨rfl, Nq280, heq280⟩ := hQ280
    have N280 := Fr.app No159 Nq280
    have pre281 : ∀ t, Steps p.tables e below (T280.setTop (mkF m 133 #[.val (.int k0), .val (.ref b1), .val (.ref b2), .val (.int (8 : Int32))] [(.int (own_bi ((.ref k_FLOAT : Value) = .ref k_INTEGER ∨ (.ref k_FLOAT : Value) = .ref k_STRING ∨ (.ref k_FLOAT : Value) = .ref k_BLOB)))])) t → Steps p.tables e below (s₁.setTop (entryFrame m #[(.int k0)] maxLocals)) t := fun t k => pre278 t (st280.trans k)
    obtain ⟨Lo282, Xo282, No282⟩ : ∃ L, Stand p l e room_1 s m #[(.int k0)] below meth c T280 L 2 20 ∧ Fr n0 L := ⟨_, X280, N280⟩
    have pre283 : ∀ t, Steps p.tables e below (T280.setTop (mkF m 135 #[.val (.int k0), .val (.ref b1), .val (.ref b2), .val (.int (8 : Int32))] [(.int (8 : Int32)), (.ref b2), (.int (own_bi ((.ref k_FLOAT : Value) = .ref k_INTEGER ∨ (.ref k_FLOAT : Value) = .ref k_STRING ∨ (.ref k_FLOAT : Value) = .ref k_BLOB)))])) t → Steps p.tables e below (s₁.setTop (entryFrame m #[(.int k0)] maxLocals)) t := by
      intro t k
      refine pre281 t ?_
      refine XS.aloadN Xo282.here hx rfl (hb hby at_133) rfl rfl ?_
      show Steps p.tables e below (T280.setTop (mkF m 134 #[.val (.int k0), .val (.ref b1), .val (.ref b2), .val (.int (8 : Int32))] [(.ref b2), (.int (own_bi ((.ref k_FLOAT : Value) = .ref k_INTEGER ∨ (.ref k_FLOAT : Value) = .ref k_STRING ∨ (.ref k_FLOAT : Value) = .ref k_BLOB)))])) _
      refine XS.iloadN Xo282.here hx rfl (hb hby at_134) rfl ?_
      show Steps p.tables e below (T280.setTop (mkF m 135 #[.val (.int k0), .val (.ref b1), .val (.ref b2), .val (.int (8 : Int32))] [(.int (8 : Int32)), (.ref b2), (.int (own_bi ((.ref k_FLOAT : Value) = .ref k_INTEGER ∨ (.ref k_FLOAT : Value) = .ref k_STRING ∨ (.ref k_FLOAT : Value) = .ref k_BLOB)))])) _
      exact k
    obtain ⟨cc284, Ar284, q1_284, Sz284, q3_284, Hs284, G284⟩ := id V156
    have hin284 : ¬ ((8 : Int32) < 0 ∨ cc284.slots.size ≤ ((8 : Int32) : Int32).toNatClampNeg) := inb_of Sz284 ⟨(by decide), (by decide)⟩
    have hat284 : cc284.slots[((8 : Int32) : Int32).toNatClampNeg]? = some (.int (nar .boolean (0 : Int32))) := Hs284.at hin284 rfl
    have pre286 : ∀ t, Steps p.tables e below (T280.setTop (mkF m 136 #[.val (.int k0), .val (.ref b1), .val (.ref b2), .val (.int (8 : Int32))] [(.int (nar .boolean (0 : Int32))), (.int (own_bi ((.ref k_FLOAT : Value) = .ref k_INTEGER ∨ (.ref k_FLOAT : Value) = .ref k_STRING ∨ (.ref k_FLOAT : Value) = .ref k_BLOB)))])) t → Steps p.tables e below (s₁.setTop (entryFrame m #[(.int k0)] maxLocals)) t := by
      intro t k
      refine pre283 t ?_
      refine Xo282.baloadBooleans hx (j := (8 : Int32)) (v := (.int (nar .boolean (0 : Int32)))) (by rw [heq280]; exact Ar284.1) (State.isArrayOf_alike hZ.alike Ar284.2.1) Ar284.2.2 hin284 hat284 (g := (mkF m 135 #[.val (.int k0), .val (.ref b1), .val (.ref b2), .val (.int (8 : Int32))] [(.int (8 : Int32)), (.ref b2), (.int (own_bi ((.ref k_FLOAT : Value) = .ref k_INTEGER ∨ (.ref k_FLOAT : Value) = .ref k_STRING ∨ (.ref k_FLOAT : Value) = .ref k_BLOB)))])) rfl rfl (hb hby at_135) _ ?_
      show Steps p.tables e below (T280.setTop (mkF m 136 #[.val (.int k0), .val (.ref b1), .val (.ref b2), .val (.int (8 : Int32))] [(.int (nar .boolean (0 : Int32))), (.int (own_bi ((.ref k_FLOAT : Value) = .ref k_INTEGER ∨ (.ref k_FLOAT : Value) = .ref k_STRING ∨ (.ref k_FLOAT : Value) = .ref k_BLOB)))])) _
      exact k
    have pre287 : ∀ t, Steps p.tables e below (T280.setTop (mkF m 144 #[.val (.int k0), .val (.ref b1), .val (.ref b2), .val (.int (8 : Int32))] [(.int (1 : Int32))])) t → Steps p.tables e below (s₁.setTop (entryFrame m #[(.int k0)] maxLocals)) t := by
      intro t k
      refine pre286 t ?_
      refine XS.icmpNo Xo282.here hx rfl (hb hby at_136) rfl (XT.ii_ne_f ((own_bi_f (fun q => by rcases q with q | q | q; exact Fld.ne F_FLOAT F_INTEGER (by decide) (Value.ref.inj q); exact Fld.ne F_FLOAT F_STRING (by decide) (Value.ref.inj q); exact Fld.ne F_FLOAT F_BLOB (by decide) (Value.ref.inj q))).trans (by decide))) ?_
      show Steps p.tables e below (T280.setTop (mkF m 139 #[.val (.int k0), .val (.ref b1), .val (.ref b2), .val (.int (8 : Int32))] [])) _
      refine XS.iconst Xo282.here hx rfl (hb hby at_139) ?_
      show Steps p.tables e below (T280.setTop (mkF m 140 #[.val (.int k0), .val (.ref b1), .val (.ref b2), .val (.int (8 : Int32))] [(.int (1 : Int32))])) _
      refine XS.goto Xo282.here hx rfl (pc0 := 140) (pc' := 144) rfl (hb hby at_140) (by decide) (by decide) ?_
      show Steps p.tables e below (T280.setTop (mkF m 144 #[.val (.int k0), .val (.ref b1), .val (.ref b2), .val (.int (8 : Int32))] [(.int (1 : Int32))])) _
      exact k
    obtain ⟨fs, hr, hrun, hended, hW, hsame⟩ := Xo282.leave (v := some (.int (1 : Int32))) (fun h => by rw [Bd.returns] at h; cases h)
    refine ⟨_, _, pre287 _ ?_, hrun, hended, _, _, rfl, ?_, ⟨_, rfl⟩, hW, hsame.mono (by decide) (by decide)⟩
    · exact retOut Xo282 hx Bd.returns rfl (Or.inl ⟨rfl, by simp, _, rfl⟩) (hb hby at_144) hr
    · show Qlaw Z k0 k_NIL k_FALSE k_TRUE k_INTEGER k_STRING k_LIST k_MAP k_BLOB k_FLOAT k_INF h0 n0 _ T280.heap _
      rw [heq280]
      exact ⟨rfl, No282⟩
  · subst hq
    have pre289 : ∀ t, Steps p.tables e below (T156.setTop (mkF m 129 #[.val (.int k0), .val (.ref b1), .val (.ref b2), .val (.int (9 : Int32))] [(.int (9 : Int32)), (.ref b1)])) t → Steps p.tables e below (s₁.setTop (entryFrame m #[(.int k0)] maxLocals)) t := by
      intro t k
      refine pre162 t ?_
      refine XS.aloadN Xo159.here hx rfl (hb hby at_127) rfl rfl ?_
      show Steps p.tables e below (T156.setTop (mkF m 128 #[.val (.int k0), .val (.ref b1), .val (.ref b2), .val (.int (9 : Int32))] [(.ref b1)])) _
      refine XS.iloadN Xo159.here hx rfl (hb hby at_128) rfl ?_
      show Steps p.tables e below (T156.setTop (mkF m 129 #[.val (.int k0), .val (.ref b1), .val (.ref b2), .val (.int (9 : Int32))] [(.int (9 : Int32)), (.ref b1)])) _
      exact k
    obtain ⟨cc290, Ar290, q1_290, Sz290, q3_290, Hs290, G290⟩ := id V160_0
    have hin290 : ¬ ((9 : Int32) < 0 ∨ cc290.slots.size ≤ ((9 : Int32) : Int32).toNatClampNeg) := inb_of Sz290 ⟨(by decide), (by decide)⟩
    have hat290 : cc290.slots[((9 : Int32) : Int32).toNatClampNeg]? = some (.ref k_INF) := Hs290.at hin290 rfl
    have pre292 : ∀ t, Steps p.tables e below (T156.setTop (mkF m 130 #[.val (.int k0), .val (.ref b1), .val (.ref b2), .val (.int (9 : Int32))] [(.ref k_INF)])) t → Steps p.tables e below (s₁.setTop (entryFrame m #[(.int k0)] maxLocals)) t := by
      intro t k
      refine pre289 t ?_
      refine Xo159.aaload hx (j := (9 : Int32)) (v := (.ref k_INF)) (by rw [e156]; exact Ar290.1) (State.isArrayOf_alike hZ.alike Ar290.2.1) rfl Ar290.2.2 hin290 hat290 (g := (mkF m 129 #[.val (.int k0), .val (.ref b1), .val (.ref b2), .val (.int (9 : Int32))] [(.int (9 : Int32)), (.ref b1)])) rfl rfl (hb hby at_129) _ ?_
      show Steps p.tables e below (T156.setTop (mkF m 130 #[.val (.int k0), .val (.ref b1), .val (.ref b2), .val (.int (9 : Int32))] [(.ref k_INF)])) _
      exact k
    obtain ⟨cq294, kq294, q294a, q294b, q294c⟩ := isOf hZ e156 (E_INF.ext O160.2)
    obtain ⟨_, _, ⟨T294, L294, k294, n294⟩, -, X294, ⟨Lc294, hQ294, l294, y294, z294⟩, st294⟩ := Xo159.virtualBack hx (y := (⟨"com/example/okra/okra/ValueType", "isMapKey", "()Z"⟩ : MethodName)) (z := (⟨"com/example/okra/okra/ValueType", "isMapKey", "()Z"⟩ : MethodName)) hown (mvT hZ (hw _ (List.mem_of_getElem? (i := 26) rfl))) (mvT hZ (hw _ (List.mem_of_getElem? (i := 27) rfl))) (notFace_of_selects (args := #[]) (mvT hZ (hw _ (List.mem_of_getElem? (i := 29) rfl)))) (mvT hZ (hw _ (List.mem_of_getElem? (i := 29) rfl))) (mvT hZ (hw _ (List.mem_of_getElem? (i := 28) rfl))) (by decide) (backOf (W := 0) (rm1 l Z a0 hw [] k_INF k_INTEGER k_STRING k_BLOB h156 n0 Z160 (S_INTEGER.ext O160.2) (S_STRING.ext O160.2) (S_BLOB.ext O160.2)) hZ (hw _ (List.mem_of_getElem? (i := 30) rfl)) (hw _ (List.mem_of_getElem? (i := 3) rfl)) (by decide) (by decide)) q294a q294c (g := (mkF m 130 #[.val (.int k0), .val (.ref b1), .val (.ref b2), .val (.int (9 : Int32))] [(.ref k_INF)])) rfl (by rw [hml]; rfl) (Steps.refl _) (argsL := []) (rest := []) (lenOf pd_imk rfl) rfl (by show 2 * 0 + _ ≤ _; exact Nat.le_of_eq rfl) (hb hby at_130) (fun _ _ => ⟨rfl, e156, (by decide : 2 + 0 ≤ _), (by decide : 20 + 0 ≤ _)⟩)
    dsimp only [Pt.U, Pt.locs, Pt.cells, Pt.slots] at X294 l294 y294 z294 st294 hQ294
    subst l294 y294 z294
    obtain ⟨rfl, Nq294, heq294⟩ := hQ294
    have N294 := Fr.app No159 Nq294
    have pre295 : ∀ t, Steps p.tables e below (T294.setTop (mkF m 133 #[.val (.int k0), .val (.ref b1), .val (.ref b2), .val (.int (9 : Int32))] [(.int (own_bi ((.ref k_INF : Value) = .ref k_INTEGER ∨ (.ref k_INF : Value) = .ref k_STRING ∨ (.ref k_INF : Value) = .ref k_BLOB)))])) t → Steps p.tables e below (s₁.setTop (entryFrame m #[(.int k0)] maxLocals)) t := fun t k => pre292 t (st294.trans k)
    obtain ⟨Lo296, Xo296, No296⟩ : ∃ L, Stand p l e room_1 s m #[(.int k0)] below meth c T294 L 2 20 ∧ Fr n0 L := ⟨_, X294, N294⟩
    have pre297 : ∀ t, Steps p.tables e below (T294.setTop (mkF m 135 #[.val (.int k0), .val (.ref b1), .val (.ref b2), .val (.int (9 : Int32))] [(.int (9 : Int32)), (.ref b2), (.int (own_bi ((.ref k_INF : Value) = .ref k_INTEGER ∨ (.ref k_INF : Value) = .ref k_STRING ∨ (.ref k_INF : Value) = .ref k_BLOB)))])) t → Steps p.tables e below (s₁.setTop (entryFrame m #[(.int k0)] maxLocals)) t := by
      intro t k
      refine pre295 t ?_
      refine XS.aloadN Xo296.here hx rfl (hb hby at_133) rfl rfl ?_
      show Steps p.tables e below (T294.setTop (mkF m 134 #[.val (.int k0), .val (.ref b1), .val (.ref b2), .val (.int (9 : Int32))] [(.ref b2), (.int (own_bi ((.ref k_INF : Value) = .ref k_INTEGER ∨ (.ref k_INF : Value) = .ref k_STRING ∨ (.ref k_INF : Value) = .ref k_BLOB)))])) _
      refine XS.iloadN Xo296.here hx rfl (hb hby at_134) rfl ?_
      show Steps p.tables e below (T294.setTop (mkF m 135 #[.val (.int k0), .val (.ref b1), .val (.ref b2), .val (.int (9 : Int32))] [(.int (9 : Int32)), (.ref b2), (.int (own_bi ((.ref k_INF : Value) = .ref k_INTEGER ∨ (.ref k_INF : Value) = .ref k_STRING ∨ (.ref k_INF : Value) = .ref k_BLOB)))])) _
      exact k
    obtain ⟨cc298, Ar298, q1_298, Sz298, q3_298, Hs298, G298⟩ := id V156
    have hin298 : ¬ ((9 : Int32) < 0 ∨ cc298.slots.size ≤ ((9 : Int32) : Int32).toNatClampNeg) := inb_of Sz298 ⟨(by decide), (by decide)⟩
    have hat298 : cc298.slots[((9 : Int32) : Int32).toNatClampNeg]? = some (.int (nar .boolean (0 : Int32))) := Hs298.at hin298 rfl
    have pre300 : ∀ t, Steps p.tables e below (T294.setTop (mkF m 136 #[.val (.int k0), .val (.ref b1), .val (.ref b2), .val (.int (9 : Int32))] [(.int (nar .boolean (0 : Int32))), (.int (own_bi ((.ref k_INF : Value) = .ref k_INTEGER ∨ (.ref k_INF : Value) = .ref k_STRING ∨ (.ref k_INF : Value) = .ref k_BLOB)))])) t → Steps p.tables e below (s₁.setTop (entryFrame m #[(.int k0)] maxLocals)) t := by
      intro t k
      refine pre297 t ?_
      refine Xo296.baloadBooleans hx (j := (9 : Int32)) (v := (.int (nar .boolean (0 : Int32)))) (by rw [heq294]; exact Ar298.1) (State.isArrayOf_alike hZ.alike Ar298.2.1) Ar298.2.2 hin298 hat298 (g := (mkF m 135 #[.val (.int k0), .val (.ref b1), .val (.ref b2), .val (.int (9 : Int32))] [(.int (9 : Int32)), (.ref b2), (.int (own_bi ((.ref k_INF : Value) = .ref k_INTEGER ∨ (.ref k_INF : Value) = .ref k_STRING ∨ (.ref k_INF : Value) = .ref k_BLOB)))])) rfl rfl (hb hby at_135) _ ?_
      show Steps p.tables e below (T294.setTop (mkF m 136 #[.val (.int k0), .val (.ref b1), .val (.ref b2), .val (.int (9 : Int32))] [(.int (nar .boolean (0 : Int32))), (.int (own_bi ((.ref k_INF : Value) = .ref k_INTEGER ∨ (.ref k_INF : Value) = .ref k_STRING ∨ (.ref k_INF : Value) = .ref k_BLOB)))])) _
      exact k
    have pre301 : ∀ t, Steps p.tables e below (T294.setTop (mkF m 144 #[.val (.int k0), .val (.ref b1), .val (.ref b2), .val (.int (9 : Int32))] [(.int (1 : Int32))])) t → Steps p.tables e below (s₁.setTop (entryFrame m #[(.int k0)] maxLocals)) t := by
      intro t k
      refine pre300 t ?_
      refine XS.icmpNo Xo296.here hx rfl (hb hby at_136) rfl (XT.ii_ne_f ((own_bi_f (fun q => by rcases q with q | q | q; exact Fld.ne F_INF F_INTEGER (by decide) (Value.ref.inj q); exact Fld.ne F_INF F_STRING (by decide) (Value.ref.inj q); exact Fld.ne F_INF F_BLOB (by decide) (Value.ref.inj q))).trans (by decide))) ?_
      show Steps p.tables e below (T294.setTop (mkF m 139 #[.val (.int k0), .val (.ref b1), .val (.ref b2), .val (.int (9 : Int32))] [])) _
      refine XS.iconst Xo296.here hx rfl (hb hby at_139) ?_
      show Steps p.tables e below (T294.setTop (mkF m 140 #[.val (.int k0), .val (.ref b1), .val (.ref b2), .val (.int (9 : Int32))] [(.int (1 : Int32))])) _
      refine XS.goto Xo296.here hx rfl (pc0 := 140) (pc' := 144) rfl (hb hby at_140) (by decide) (by decide) ?_
      show Steps p.tables e below (T294.setTop (mkF m 144 #[.val (.int k0), .val (.ref b1), .val (.ref b2), .val (.int (9 : Int32))] [(.int (1 : Int32))])) _
      exact k
    obtain ⟨fs, hr, hrun, hended, hW, hsame⟩ := Xo296.leave (v := some (.int (1 : Int32))) (fun h => by rw [Bd.returns] at h; cases h)
    refine ⟨_, _, pre301 _ ?_, hrun, hended, _, _, rfl, ?_, ⟨_, rfl⟩, hW, hsame.mono (by decide) (by decide)⟩
    · exact retOut Xo296 hx Bd.returns rfl (Or.inl ⟨rfl, by simp, _, rfl⟩) (hb hby at_144) hr
    · show Qlaw Z k0 k_NIL k_FALSE k_TRUE k_INTEGER k_STRING k_LIST k_MAP k_BLOB k_FLOAT k_INF h0 n0 _ T294.heap _
      rw [heq294]
      exact ⟨rfl, No296⟩
set_option maxRecDepth 65536 in
set_option maxHeartbeats 40000000 in
theorem comes_1 {Post : Tables → Env → Array Value → State → Outcome → State → Prop} (hpost : ∀ tb e args s v u, (limb_1_1.after args s (.returned v) u = true ∧ limb_1_2.after args s (.returned v) u = true ∧ True) → FrameEnd s (.returned v) u (Jvm.fieldLocs frame_1_writes args s ++ Jvm.arrayLocs frame_1_arrays args s ++ Jvm.staticLocs frame_1_statics s) 16 128 → Post tb e args s (.returned v) u) :
    ArmFor flags0 classFile x code maxLocals ret World_1 tables_1 room_1 Calls_1 rest_1 Pre_1 Post := by
  intro l hfl _ _ p e ha hc hk s m args below hf hA hF happ hP
  obtain ⟨hcalls, hrest, hpre⟩ := hP
  obtain ⟨-, -, -, hnamed, -, -, -, hat⟩ := (Spec.applies_iff hf).mp happ
  obtain ⟨hg, hn⟩ := and_e (Cond.before_iff.mp (show (Jvm.Cond.and given_1 narrow_1).before args s = true from hpre))
  obtain ⟨gc, g0⟩ := and_e hg
  obtain ⟨w0, rfl⟩ : ∃ w0 : Value, args = #[w0] := by
    have hs : args.size = 1 := by simpa [Cond.value, given_1] using gc
    obtain ⟨L⟩ := args
    match L, hs with
    | [w0], _ => exact ⟨w0, rfl⟩
  have hw := fun d (hd : d ∈ tables_1) => atoms_spec (ws := Jvm.Cond.code x code maxLocals ret :: tables_1) hat d (List.mem_cons_of_mem _ hd)
  have hfit : Fit s := fun {y c} hc i hi => by
    obtain ⟨ha, rfl⟩ := Array.getElem?_eq_some_iff.mp hc
    have q := List.all_eq_true.mp ((Array.all_eq_true_iff_forall_mem.mp hF) _ (Array.getElem_mem ha)) i (List.mem_range.mpr hi)
    simpa [Array.getElem?_eq_getElem hi] using q
  obtain ⟨i0, ei0⟩ := is_v g0
  obtain rfl : w0 = (.int i0) := Option.some.inj ei0
  obtain ⟨x0, r0⟩ := and_e hn
  obtain ⟨x1, r1⟩ := and_e r0
  obtain ⟨x2, r2⟩ := and_e r1
  obtain ⟨x3, r3⟩ := and_e r2
  obtain ⟨x4, r4⟩ := and_e r3
  obtain ⟨x5, r5⟩ := and_e r4
  obtain ⟨x6, r6⟩ := and_e r5
  obtain ⟨x7, r7⟩ := and_e r6
  obtain ⟨x8, r8⟩ := and_e r7
  obtain ⟨x9, r9⟩ := and_e r8
  obtain ⟨x10, r10⟩ := and_e r9
  obtain ⟨x11, r11⟩ := and_e r10
  obtain ⟨x12, r12⟩ := and_e r11
  obtain ⟨x13, r13⟩ := and_e r12
  obtain ⟨x14, r14⟩ := and_e r13
  obtain ⟨x15, r15⟩ := and_e r14
  obtain ⟨x16, r16⟩ := and_e r15
  obtain ⟨x17, r17⟩ := and_e r16
  obtain ⟨x18, r18⟩ := and_e r17
  have x19 := r18
  obtain ⟨k_NIL, ev_NIL⟩ := exa_v x0
  have E_NIL : Exa s s.heap k_NIL "com/example/okra/okra/ValueType" := Exa.start ev_NIL x0
  have S_NIL : Sta s s.heap "com/example/okra/okra/ValueType" "NIL" "Lcom/example/okra/okra/ValueType;" (.ref k_NIL) := Sta.start ev_NIL (Or.inr ⟨(hw _ (List.mem_of_getElem? (i := 3) rfl)), (hw _ (List.mem_of_getElem? (i := 4) rfl))⟩)
  obtain ⟨k_FALSE, ev_FALSE⟩ := exa_v x1
  have E_FALSE : Exa s s.heap k_FALSE "com/example/okra/okra/ValueType" := Exa.start ev_FALSE x1
  have S_FALSE : Sta s s.heap "com/example/okra/okra/ValueType" "FALSE" "Lcom/example/okra/okra/ValueType;" (.ref k_FALSE) := Sta.start ev_FALSE (Or.inr ⟨(hw _ (List.mem_of_getElem? (i := 3) rfl)), (hw _ (List.mem_of_getElem? (i := 7) rfl))⟩)
  obtain ⟨k_TRUE, ev_TRUE⟩ := exa_v x2
  have E_TRUE : Exa s s.heap k_TRUE "com/example/okra/okra/ValueType" := Exa.start ev_TRUE x2
  have S_TRUE : Sta s s.heap "com/example/okra/okra/ValueType" "TRUE" "Lcom/example/okra/okra/ValueType;" (.ref k_TRUE) := Sta.start ev_TRUE (Or.inr ⟨(hw _ (List.mem_of_getElem? (i := 3) rfl)), (hw _ (List.mem_of_getElem? (i := 9) rfl))⟩)
  obtain ⟨k_INTEGER, ev_INTEGER⟩ := exa_v x3
  have E_INTEGER : Exa s s.heap k_INTEGER "com/example/okra/okra/ValueType" := Exa.start ev_INTEGER x3
  have S_INTEGER : Sta s s.heap "com/example/okra/okra/ValueType" "INTEGER" "Lcom/example/okra/okra/ValueType;" (.ref k_INTEGER) := Sta.start ev_INTEGER (Or.inr ⟨(hw _ (List.mem_of_getElem? (i := 3) rfl)), (hw _ (List.mem_of_getElem? (i := 11) rfl))⟩)
  obtain ⟨k_STRING, ev_STRING⟩ := exa_v x4
  have E_STRING : Exa s s.heap k_STRING "com/example/okra/okra/ValueType" := Exa.start ev_STRING x4
  have S_STRING : Sta s s.heap "com/example/okra/okra/ValueType" "STRING" "Lcom/example/okra/okra/ValueType;" (.ref k_STRING) := Sta.start ev_STRING (Or.inr ⟨(hw _ (List.mem_of_getElem? (i := 3) rfl)), (hw _ (List.mem_of_getElem? (i := 13) rfl))⟩)
  obtain ⟨k_LIST, ev_LIST⟩ := exa_v x5
  have E_LIST : Exa s s.heap k_LIST "com/example/okra/okra/ValueType" := Exa.start ev_LIST x5
  have S_LIST : Sta s s.heap "com/example/okra/okra/ValueType" "LIST" "Lcom/example/okra/okra/ValueType;" (.ref k_LIST) := Sta.start ev_LIST (Or.inr ⟨(hw _ (List.mem_of_getElem? (i := 3) rfl)), (hw _ (List.mem_of_getElem? (i := 15) rfl))⟩)
  obtain ⟨k_MAP, ev_MAP⟩ := exa_v x6
  have E_MAP : Exa s s.heap k_MAP "com/example/okra/okra/ValueType" := Exa.start ev_MAP x6
  have S_MAP : Sta s s.heap "com/example/okra/okra/ValueType" "MAP" "Lcom/example/okra/okra/ValueType;" (.ref k_MAP) := Sta.start ev_MAP (Or.inr ⟨(hw _ (List.mem_of_getElem? (i := 3) rfl)), (hw _ (List.mem_of_getElem? (i := 17) rfl))⟩)
  obtain ⟨k_BLOB, ev_BLOB⟩ := exa_v x7
  have E_BLOB : Exa s s.heap k_BLOB "com/example/okra/okra/ValueType" := Exa.start ev_BLOB x7
  have S_BLOB : Sta s s.heap "com/example/okra/okra/ValueType" "BLOB" "Lcom/example/okra/okra/ValueType;" (.ref k_BLOB) := Sta.start ev_BLOB (Or.inr ⟨(hw _ (List.mem_of_getElem? (i := 3) rfl)), (hw _ (List.mem_of_getElem? (i := 19) rfl))⟩)
  obtain ⟨k_FLOAT, ev_FLOAT⟩ := exa_v x8
  have E_FLOAT : Exa s s.heap k_FLOAT "com/example/okra/okra/ValueType" := Exa.start ev_FLOAT x8
  have S_FLOAT : Sta s s.heap "com/example/okra/okra/ValueType" "FLOAT" "Lcom/example/okra/okra/ValueType;" (.ref k_FLOAT) := Sta.start ev_FLOAT (Or.inr ⟨(hw _ (List.mem_of_getElem? (i := 3) rfl)), (hw _ (List.mem_of_getElem? (i := 21) rfl))⟩)
  obtain ⟨k_INF, ev_INF⟩ := exa_v x9
  have E_INF : Exa s s.heap k_INF "com/example/okra/okra/ValueType" := Exa.start ev_INF x9
  have S_INF : Sta s s.heap "com/example/okra/okra/ValueType" "INF" "Lcom/example/okra/okra/ValueType;" (.ref k_INF) := Sta.start ev_INF (Or.inr ⟨(hw _ (List.mem_of_getElem? (i := 3) rfl)), (hw _ (List.mem_of_getElem? (i := 23) rfl))⟩)
  have F_NIL : Fld s s.heap k_NIL "java/lang/Enum" "ordinal" "I" (.int (0 : Int32)) := Fld.start ((fld_at ev_NIL).symm.trans (own_eqI x10))
  have F_INTEGER : Fld s s.heap k_INTEGER "java/lang/Enum" "ordinal" "I" (.int (3 : Int32)) := Fld.start ((fld_at ev_INTEGER).symm.trans (own_eqI x11))
  have F_STRING : Fld s s.heap k_STRING "java/lang/Enum" "ordinal" "I" (.int (4 : Int32)) := Fld.start ((fld_at ev_STRING).symm.trans (own_eqI x12))
  have F_BLOB : Fld s s.heap k_BLOB "java/lang/Enum" "ordinal" "I" (.int (7 : Int32)) := Fld.start ((fld_at ev_BLOB).symm.trans (own_eqI x13))
  have F_FALSE : Fld s s.heap k_FALSE "java/lang/Enum" "ordinal" "I" (.int (1 : Int32)) := Fld.start ((fld_at ev_FALSE).symm.trans (own_eqI x14))
  have F_TRUE : Fld s s.heap k_TRUE "java/lang/Enum" "ordinal" "I" (.int (2 : Int32)) := Fld.start ((fld_at ev_TRUE).symm.trans (own_eqI x15))
  have F_FLOAT : Fld s s.heap k_FLOAT "java/lang/Enum" "ordinal" "I" (.int (8 : Int32)) := Fld.start ((fld_at ev_FLOAT).symm.trans (own_eqI x16))
  have F_INF : Fld s s.heap k_INF "java/lang/Enum" "ordinal" "I" (.int (9 : Int32)) := Fld.start ((fld_at ev_INF).symm.trans (own_eqI x17))
  have F_LIST : Fld s s.heap k_LIST "java/lang/Enum" "ordinal" "I" (.int (5 : Int32)) := Fld.start ((fld_at ev_LIST).symm.trans (own_eqI x18))
  have F_MAP : Fld s s.heap k_MAP "java/lang/Enum" "ordinal" "I" (.int (6 : Int32)) := Fld.start ((fld_at ev_MAP).symm.trans (own_eqI x19))
  obtain ⟨n, o, h1, h2, h3, _, L, rfl, ⟨rfl, N⟩, hq⟩ := rmlaw l s _ hw tables_1 i0 k_NIL k_FALSE k_TRUE k_INTEGER k_STRING k_LIST k_MAP k_BLOB k_FLOAT k_INF s.heap s.heap.size (Nat.le_refl _) (Old.start s) S_NIL E_NIL F_NIL S_FALSE E_FALSE F_FALSE S_TRUE E_TRUE F_TRUE S_INTEGER E_INTEGER F_INTEGER S_STRING E_STRING F_STRING S_LIST E_LIST F_LIST S_MAP E_MAP F_MAP S_BLOB E_BLOB F_BLOB S_FLOAT E_FLOAT F_FLOAT S_INF E_INF F_INF p e ha hc hk s m _ below hf ((Spec.applies_iff_loose hf).mp happ).1 ⟨rfl, State.Warmed39.refl s, rfl⟩ trivial
  refine ⟨n, _, h1, h2, h3, hpost _ _ _ _ _ _ ⟨Cond.after_iff.mpr rfl, Cond.after_iff.mpr (eq_i res_at (Term.int_eval (1)) rfl), trivial⟩ ⟨hq.1, hq.2.1, (hq.2.2.sift fun y hy => Or.inr (N y hy)).mono (by decide) (by decide)⟩⟩
theorem main_1_1 : Claimed_1_1 := comes_1 fun _ _ _ _ _ _ h hF => ⟨h.1, hF⟩
theorem main_1_2 : Claimed_1_2 := comes_1 fun _ _ _ _ _ _ h hF => ⟨h.2.1, hF⟩
end Jvm.Pilot.@@N@@
namespace Jvm.Pilot.@@N@@
open Jvm Jvm.ClassFile Sem Op Lib Jvm.Free Jvm.Stand Jvm.Pilot.@@N@@.Jvm.D
/-! MADE BY PROGRAM (witnessworld.py) out of the Statement's table words and the real class files: 15 classes; the members and pool entries that the words name. The judged class is class 1, her method 1. -/
namespace start1
open Jvm.ClassFile
def u (s : String) : CpInfo := .utf8 (stringToUtf16 s)
/-- a pool by its gaps: so many unusable entries, then the entry; so many at the end -/
def gap : Nat → List CpInfo → List CpInfo
  | 0, r => r
  | n + 1, r => .unusable :: gap n r
def poolList (es : List (Nat × CpInfo)) (last : Nat) : List CpInfo := es.foldr (fun e r => gap e.1 (e.2 :: r)) (gap last [])
def pool (es : List (Nat × CpInfo)) (last : Nat) : Array CpInfo := ⟨poolList es last⟩
def fileOf (pool : Array CpInfo) (this : Nat) (attrs : Array Attribute := #[]) (ms : Array MethodInfo := #[]) (fl : Nat := 33) (sup : Nat := 0) (ifs : Array Nat := #[]) (fds : Array FieldInfo := #[]) : ClassFile where
  minorVersion := 0
  majorVersion := 65
  constantPool := pool
  accessFlags := fl
  thisClass := this
  superClass := sup
  interfaces := ifs
  fields := fds
  methods := ms
  attributes := attrs
def plain (name : String) (sup : Option ClassId) : Class where
  name := name
  kind := .ordinary
  loader := none
  accessFlags := 33
  super := sup
  interfaces := #[]
  cf := none
  fields := #[]
  methods := #[]
  instanceTypes := #[]
  staticTypes := #[]
  resolved := #[]
  callSites := []
  init := .initialized
  statics := none
  mirror := none

def pool0 : Array CpInfo := pool [(5, u "<init>"), (0, u "()V"), (1, .class_ 10), (1, u "java/lang/Object")] 113

def k0m0 : Method := { name := "<init>", desc := "()V", sig := { parameters := [], returnType := none }, accessFlags := 1, code := none }
/-- java/lang/Object -/
def k0 : Class := { plain "java/lang/Object" none with
  accessFlags := 33
  interfaces := #[]
  cf := some (fileOf pool0 8 #[] #[{ accessFlags := 1, nameIndex := 5, descriptorIndex := 6, attributes := #[] }] 33 0 #[] #[])
  fields := #[]
  methods := #[k0m0]
  instanceTypes := #[]
  staticTypes := #[]
  resolved := Array.replicate 124 none
  statics := none }

def pool1 : Array CpInfo := pool [(2, .class_ 4), (1, u "java/lang/Object"), (0, u "<init>"), (0, u "()V"), (0, .class_ 8), (0, u "com/example/okra/okra/ValueType"), (0, .fieldref 7 10), (0, .nameAndType 11 12), (0, u "NIL"), (0, u "Lcom/example/okra/okra/ValueType;"), (0, .fieldref 7 14), (0, .nameAndType 15 12), (0, u "FALSE"), (0, .fieldref 7 17), (0, .nameAndType 18 12), (0, u "TRUE"), (0, .fieldref 7 20), (0, .nameAndType 21 12), (0, u "INTEGER"), (0, .fieldref 7 23), (0, .nameAndType 24 12), (0, u "STRING"), (0, .fieldref 7 26), (0, .nameAndType 27 12), (0, u "LIST"), (0, .fieldref 7 29), (0, .nameAndType 30 12), (0, u "MAP"), (0, .fieldref 7 32), (0, .nameAndType 33 12), (0, u "BLOB"), (0, .fieldref 7 35), (0, .nameAndType 36 12), (0, u "FLOAT"), (0, .fieldref 7 38), (0, .nameAndType 39 12), (0, u "INF"), (0, .integer 2147483647), (0, .methodref 7 42), (0, .nameAndType 43 44), (0, u "isMapKey"), (0, u "()Z"), (0, .class_ 46), (0, u "com/example/okra/okra/ValueTypeIsMapKeyPinLaw"), (2, u "law"), (0, u "(I)Z")] 7

def k1m0 : Method := { name := "<init>", desc := "()V", sig := { parameters := [], returnType := none }, accessFlags := 1, code := none }
def k1c1 : Code := { maxStack := 4, maxLocals := 4, code := code, exceptionTable := #[], attributes := #[] }
def k1m1 : Method := { name := "law", desc := "(I)Z", sig := { parameters := [.int], returnType := some .boolean }, accessFlags := 9, code := some k1c1 }
/-- com/example/okra/okra/ValueTypeIsMapKeyPinLaw -/
def k1 : Class := { plain "com/example/okra/okra/ValueTypeIsMapKeyPinLaw" (some 0) with
  accessFlags := 49
  interfaces := #[]
  cf := some (fileOf pool1 45 #[] #[{ accessFlags := 1, nameIndex := 5, descriptorIndex := 6, attributes := #[] }, { accessFlags := 9, nameIndex := 49, descriptorIndex := 50, attributes := #[] }] 49 2 #[] #[])
  fields := #[]
  methods := #[k1m0, k1m1]
  instanceTypes := #[]
  staticTypes := #[]
  resolved := Array.replicate 58 none
  statics := none }

def pool2 : Array CpInfo := pool [(1, .class_ 2), (0, u "java/lang/constant/Constable"), (0, .class_ 4), (0, u "java/lang/Object")] 6

/-- java/lang/constant/Constable -/
def k2 : Class := { plain "java/lang/constant/Constable" (some 0) with
  accessFlags := 1537
  interfaces := #[]
  cf := some (fileOf pool2 1 #[] #[] 1537 3 #[] #[])
  fields := #[]
  methods := #[]
  instanceTypes := #[]
  staticTypes := #[]
  resolved := Array.replicate 11 none
  statics := none }

def pool3 : Array CpInfo := pool [(1, .class_ 2), (0, u "java/lang/Comparable"), (0, .class_ 4), (0, u "java/lang/Object")] 7

/-- java/lang/Comparable -/
def k3 : Class := { plain "java/lang/Comparable" (some 0) with
  accessFlags := 1537
  interfaces := #[]
  cf := some (fileOf pool3 1 #[] #[] 1537 3 #[] #[])
  fields := #[]
  methods := #[]
  instanceTypes := #[]
  staticTypes := #[]
  resolved := Array.replicate 12 none
  statics := none }

def pool4 : Array CpInfo := pool [(1, .class_ 2), (0, u "java/io/Serializable"), (0, .class_ 4), (0, u "java/lang/Object")] 2

/-- java/io/Serializable -/
def k4 : Class := { plain "java/io/Serializable" (some 0) with
  accessFlags := 1537
  interfaces := #[]
  cf := some (fileOf pool4 1 #[] #[] 1537 3 #[] #[])
  fields := #[]
  methods := #[]
  instanceTypes := #[]
  staticTypes := #[]
  resolved := Array.replicate 7 none
  statics := none }

def pool5 : Array CpInfo := pool [(2, .class_ 4), (1, u "java/lang/Enum"), (0, u "name"), (0, u "Ljava/lang/String;"), (2, u "ordinal"), (0, u "I"), (1, .class_ 14), (1, u "java/lang/Object"), (4, u "hash"), (86, .class_ 108), (1, u "java/lang/Enum$EnumDesc"), (2, .class_ 112), (0, u "java/lang/constant/Constable"), (0, .class_ 114), (0, u "java/lang/Comparable"), (0, .class_ 116), (0, u "java/io/Serializable")] 87

/-- java/lang/Enum -/
def k5 : Class := { plain "java/lang/Enum" (some 0) with
  accessFlags := 1057
  interfaces := #[2, 3, 4]
  cf := some (fileOf pool5 2 #[.nestMembers #[106]] #[] 1057 12 #[111, 113, 115] #[{ accessFlags := 18, nameIndex := 5, descriptorIndex := 6, attributes := #[] }, { accessFlags := 18, nameIndex := 9, descriptorIndex := 10, attributes := #[] }, { accessFlags := 2, nameIndex := 19, descriptorIndex := 10, attributes := #[] }])
  fields := #[{ name := "name", type := (.object "java/lang/String"), accessFlags := 18, slot := 0, constantValue := 0 }, { name := "ordinal", type := .int, accessFlags := 18, slot := 1, constantValue := 0 }, { name := "hash", type := .int, accessFlags := 2, slot := 2, constantValue := 0 }]
  methods := #[]
  instanceTypes := #[(.object "java/lang/String"), .int, .int]
  staticTypes := #[]
  resolved := Array.replicate 204 none
  statics := none }

def pool6 : Array CpInfo := pool [(1, .class_ 2), (0, u "com/example/okra/okra/ValueType"), (2, u "NIL"), (0, u "Lcom/example/okra/okra/ValueType;"), (2, u "FALSE"), (2, u "TRUE"), (0, .fieldref 1 14), (0, .nameAndType 15 6), (0, u "INTEGER"), (0, .fieldref 1 17), (0, .nameAndType 18 6), (0, u "STRING"), (2, u "LIST"), (2, u "MAP"), (0, .fieldref 1 26), (0, .nameAndType 27 6), (0, u "BLOB"), (2, u "FLOAT"), (2, u "INF"), (2, u "$VALUES"), (0, u "[Lcom/example/okra/okra/ValueType;"), (6, .class_ 46), (1, u "java/lang/Enum"), (11, u "()Z"), (63, u "isMapKey")] 19

def k6c0 : Code := { maxStack := 2, maxLocals := 1, code := prog_14_method_5_code, exceptionTable := #[], attributes := #[] }
def k6m0 : Method := { name := "isMapKey", desc := "()Z", sig := { parameters := [], returnType := some .boolean }, accessFlags := 1, code := some k6c0 }
/-- com/example/okra/okra/ValueType -/
def k6 : Class := { plain "com/example/okra/okra/ValueType" (some 5) with
  accessFlags := 16433
  interfaces := #[]
  cf := some (fileOf pool6 1 #[] #[{ accessFlags := 1, nameIndex := 122, descriptorIndex := 58, attributes := #[] }] 16433 44 #[] #[{ accessFlags := 16409, nameIndex := 5, descriptorIndex := 6, attributes := #[] }, { accessFlags := 16409, nameIndex := 9, descriptorIndex := 6, attributes := #[] }, { accessFlags := 16409, nameIndex := 12, descriptorIndex := 6, attributes := #[] }, { accessFlags := 16409, nameIndex := 15, descriptorIndex := 6, attributes := #[] }, { accessFlags := 16409, nameIndex := 18, descriptorIndex := 6, attributes := #[] }, { accessFlags := 16409, nameIndex := 21, descriptorIndex := 6, attributes := #[] }, { accessFlags := 16409, nameIndex := 24, descriptorIndex := 6, attributes := #[] }, { accessFlags := 16409, nameIndex := 27, descriptorIndex := 6, attributes := #[] }, { accessFlags := 16409, nameIndex := 30, descriptorIndex := 6, attributes := #[] }, { accessFlags := 16409, nameIndex := 33, descriptorIndex := 6, attributes := #[] }, { accessFlags := 4122, nameIndex := 36, descriptorIndex := 37, attributes := #[] }])
  fields := #[{ name := "NIL", type := (.object "com/example/okra/okra/ValueType"), accessFlags := 16409, slot := 0, constantValue := 0 }, { name := "FALSE", type := (.object "com/example/okra/okra/ValueType"), accessFlags := 16409, slot := 1, constantValue := 0 }, { name := "TRUE", type := (.object "com/example/okra/okra/ValueType"), accessFlags := 16409, slot := 2, constantValue := 0 }, { name := "INTEGER", type := (.object "com/example/okra/okra/ValueType"), accessFlags := 16409, slot := 3, constantValue := 0 }, { name := "STRING", type := (.object "com/example/okra/okra/ValueType"), accessFlags := 16409, slot := 4, constantValue := 0 }, { name := "LIST", type := (.object "com/example/okra/okra/ValueType"), accessFlags := 16409, slot := 5, constantValue := 0 }, { name := "MAP", type := (.object "com/example/okra/okra/ValueType"), accessFlags := 16409, slot := 6, constantValue := 0 }, { name := "BLOB", type := (.object "com/example/okra/okra/ValueType"), accessFlags := 16409, slot := 7, constantValue := 0 }, { name := "FLOAT", type := (.object "com/example/okra/okra/ValueType"), accessFlags := 16409, slot := 8, constantValue := 0 }, { name := "INF", type := (.object "com/example/okra/okra/ValueType"), accessFlags := 16409, slot := 9, constantValue := 0 }, { name := "$VALUES", type := (.array (.object "com/example/okra/okra/ValueType")), accessFlags := 4122, slot := 10, constantValue := 0 }]
  methods := #[k6m0]
  instanceTypes := #[(.object "java/lang/String"), .int, .int]
  staticTypes := #[(.object "com/example/okra/okra/ValueType"), (.object "com/example/okra/okra/ValueType"), (.object "com/example/okra/okra/ValueType"), (.object "com/example/okra/okra/ValueType"), (.object "com/example/okra/okra/ValueType"), (.object "com/example/okra/okra/ValueType"), (.object "com/example/okra/okra/ValueType"), (.object "com/example/okra/okra/ValueType"), (.object "com/example/okra/okra/ValueType"), (.object "com/example/okra/okra/ValueType"), (.array (.object "com/example/okra/okra/ValueType"))]
  resolved := Array.replicate 142 none
  statics := some 0 }

def pool7 : Array CpInfo := pool [(1, u "java/lang/Cloneable"), (0, .class_ 1), (0, u "java/lang/Object"), (0, .class_ 3)] 3

/-- java/lang/Cloneable -/
def k7 : Class := { plain "java/lang/Cloneable" (some 0) with
  accessFlags := 1537
  interfaces := #[]
  cf := some (fileOf pool7 2 #[] #[] 1537 4 #[] #[])
  fields := #[]
  methods := #[]
  instanceTypes := #[]
  staticTypes := #[]
  resolved := Array.replicate 8 none
  statics := none }

/-- the primitive boolean -/
def k8 : Class := { plain "boolean" none with kind := .primitive 'Z', accessFlags := 0x411 }
/-- [Z -/
def k9 : Class := { plain "[Z" (some 0) with kind := .array 8 .boolean, interfaces := #[7, 4], accessFlags := 1041 }

/-- the primitive byte -/
def k10 : Class := { plain "byte" none with kind := .primitive 'B', accessFlags := 0x411 }
/-- [B -/
def k11 : Class := { plain "[B" (some 0) with kind := .array 10 .byte, interfaces := #[7, 4], accessFlags := 1041 }

/-- the primitive int -/
def k12 : Class := { plain "int" none with kind := .primitive 'I', accessFlags := 0x411 }
/-- [I -/
def k13 : Class := { plain "[I" (some 0) with kind := .array 12 .int, interfaces := #[7, 4], accessFlags := 1041 }

/-- [Lcom/example/okra/okra/ValueType; -/
def k14 : Class := { plain "[Lcom/example/okra/okra/ValueType;" (some 0) with kind := .array 6 (.object "com/example/okra/okra/ValueType"), interfaces := #[7, 4], accessFlags := 1041 }

def heap : Heap := #[{ cls := 6, slots := #[.ref 1, .ref 2, .ref 3, .ref 4, .ref 5, .ref 6, .ref 7, .ref 8, .ref 9, .ref 10, .null], vm := .statics 6 },
  { cls := 6, slots := #[.null, .int 0, .int 0], vm := .none },
  { cls := 6, slots := #[.null, .int 1, .int 0], vm := .none },
  { cls := 6, slots := #[.null, .int 2, .int 0], vm := .none },
  { cls := 6, slots := #[.null, .int 3, .int 0], vm := .none },
  { cls := 6, slots := #[.null, .int 4, .int 0], vm := .none },
  { cls := 6, slots := #[.null, .int 5, .int 0], vm := .none },
  { cls := 6, slots := #[.null, .int 6, .int 0], vm := .none },
  { cls := 6, slots := #[.null, .int 7, .int 0], vm := .none },
  { cls := 6, slots := #[.null, .int 8, .int 0], vm := .none },
  { cls := 6, slots := #[.null, .int 9, .int 0], vm := .none }]
def classes : Array Class := #[k0, k1, k2, k3, k4, k5, k6, k7, k8, k9, k10, k11, k12, k13, k14]
def interned : List (Array UInt16 × Addr) := []
def slotsUsed : Nat := 41
def theMethod : MethodId := ⟨1, 1⟩
def args0 : Array Value := #[.int 3]
def aboutOver (below : List Frame) : State where
  vm := { classes := classes, interned := interned.toArray }
  heap := heap
  slotsUsed := slotsUsed
  threads := #[{ frames := .invoking theMethod args0 :: below }]
def below0 : List Frame := [.native { method := ⟨0, 0⟩, args := #[] }]
def about1 : State := aboutOver below0
def p0 : Program := .bare "" "" ""
def e0 : Env := launch0.env 0 0 0
theorem w_frames : about1.frames = Frame.invoking theMethod args0 :: below0 := rfl
set_option maxRecDepth 65536 in
theorem w_args : argsFit about1.vm theMethod args0 = true := by decide +kernel
set_option maxRecDepth 65536 in
theorem w_heap : heapFits about1 = true := by decide +kernel
set_option maxRecDepth 65536 in
theorem w_runnable : about1.curStatus? = some .runnable := by decide +kernel
set_option maxRecDepth 65536 in
theorem w_alone : about1.alone = true := by decide +kernel
set_option maxRecDepth 65536 in
theorem w_named : about1.methodNamed? x = some theMethod := by decide +kernel
set_option maxRecDepth 65536 in
theorem w_hears : about1.hears theMethod below0 = true := by decide +kernel
set_option maxRecDepth 65536 in
theorem w_ripe : about1.ripe theMethod args0 below0 = true := by decide +kernel
theorem w_running : about1.status = .running := rfl
set_option maxRecDepth 65536 in
theorem w_room : about1.hasRoom e0.platform room_1 = true :=
  launch0.hasRoom_least _ room_1 (by decide +kernel) (by decide +kernel) (by decide +kernel) (by decide +kernel) (by decide +kernel) (by decide +kernel)
theorem allAtoms_all (ts : List Jvm.Cond) (a : Array Jvm.Value) (st : Jvm.State) : (allAtoms ts).before a st = ts.all (fun c => c.before a st) := by
  induction ts with
  | nil => rfl
  | cons c t ih =>
    show (Jvm.Cond.and c (allAtoms t)).before a st = _
    rw [Jvm.Cond.before_and, ih, List.all_cons]
def words1 : List Jvm.Cond := Jvm.Cond.code x code maxLocals ret :: tables_1
/-- a 'code' word, met by the world's own term for the bytes: nothing is compared byte by byte -/
theorem code_word {y : MethodName} {bytes : ByteArray} {mx : Nat} {rt : Option FieldType} {a : Array Value} {s : State} {m : MethodId} {meth : Method} {c : Code} (h1 : s.methodNamed? y = some m) (h2 : s.vm.method? m = some meth) (h3 : meth.code = some c) (h4 : c.code = bytes)
    (h5 : (c.maxLocals == mx && c.exceptionTable.isEmpty && decide (c.maxStack ≤ mostOperands) && decide (meth.sig.returnType = rt) && !meth.locks && decide (parseMethodDescriptor y.desc = some meth.sig)) = true) : (Jvm.Cond.code y bytes mx rt).before a s = true := by
  simp only [Bool.and_eq_true, beq_iff_eq, Bool.not_eq_true', decide_eq_true_eq] at h5
  obtain ⟨⟨⟨⟨⟨g1, g2⟩, g3⟩, g4⟩, g5⟩, g6⟩ := h5
  simp [Cond.before, Cond.holds, Cond.value, h1, h2, h3, h4, g1, g2, g3, g4, g5, g6]
def isCode : Jvm.Cond → Bool
  | .code _ _ _ _ => true
  | _ => false
theorem all_split {L : List Jvm.Cond} {P : Jvm.Cond → Bool} (h1 : L.all (fun c => isCode c || P c) = true) (h2 : ∀ c ∈ L.filter isCode, P c = true) : L.all P = true := by
  refine List.all_eq_true.mpr fun c hc => ?_
  have h := List.all_eq_true.mp h1 c hc
  rcases Bool.eq_false_or_eq_true (isCode c) with hi | hi
  · exact h2 c (List.mem_filter.mpr ⟨hc, hi⟩)
  · simpa [hi] using h
set_option maxRecDepth 65536 in
theorem w_c0 : (Jvm.Cond.code x code maxLocals ret).before args0 about1 = true := code_word (m := ⟨1, 1⟩) (meth := k1m1) (c := k1c1) (by decide +kernel) rfl rfl rfl (by decide +kernel)
set_option maxRecDepth 65536 in
theorem w_c1 : (Jvm.Cond.code ({ cls := "com/example/okra/okra/ValueType", name := "isMapKey", desc := "()Z" } : Jvm.MethodName) prog_14_method_5_code (1 : Nat) (Option.some Jvm.ClassFile.FieldType.boolean)).before args0 about1 = true := code_word (m := ⟨6, 0⟩) (meth := k6m0) (c := k6c0) (by decide +kernel) rfl rfl rfl (by decide +kernel)
def codes1 : List Jvm.Cond := [Jvm.Cond.code x code maxLocals ret, Jvm.Cond.code ({ cls := "com/example/okra/okra/ValueType", name := "isMapKey", desc := "()Z" } : Jvm.MethodName) prog_14_method_5_code (1 : Nat) (Option.some Jvm.ClassFile.FieldType.boolean)]
set_option maxRecDepth 65536 in
theorem codes_eq : words1.filter isCode = codes1 := rfl
theorem w_codes : ∀ c ∈ words1.filter isCode, c.before args0 about1 = true := by
  rw [codes_eq]
  intro c hc
  simp only [codes1, List.mem_cons, List.not_mem_nil, or_false] at hc
  rcases hc with rfl | rfl
  · exact w_c0
  · exact w_c1
set_option maxRecDepth 65536 in
theorem w_t1 : (words1.take 24).all (fun c => isCode c || c.before args0 about1) = true := by decide +kernel
set_option maxRecDepth 65536 in
theorem w_t2 : (words1.drop 24).all (fun c => isCode c || c.before args0 about1) = true := by decide +kernel
theorem w_tables : (allAtoms (Jvm.Cond.code x code maxLocals ret :: tables_1)).before args0 about1 = true := by
  rw [allAtoms_all]
  show words1.all (fun c => c.before args0 about1) = true
  refine all_split ?_ w_codes
  rw [← List.take_append_drop 24 words1, List.all_append, w_t1, w_t2]
  rfl
set_option maxRecDepth 65536 in
theorem w_case : (Jvm.Cond.and given_1 narrow_1).before args0 about1 = true := by decide +kernel
theorem w_applies : (headSpec (Jvm.Cond.code x code maxLocals ret :: tables_1) room_1).applies x e0.platform about1 = true :=
  (Spec.applies_iff w_frames).mpr ⟨w_running, w_runnable, w_alone, w_named, w_hears, w_ripe, w_room, w_tables⟩
theorem atStart : AtStart classFile x code maxLocals ret World_1 tables_1 room_1 Calls_1 rest_1 Pre_1 launch0 p0 e0 about1 theMethod args0 below0 :=
  ⟨lists_1, trivial, launch0.admits_env _ _ _, launch0.least_env, fairChoices_fair.cas, fairChoices_fair.clock, w_frames, w_args, w_heap, w_applies, trivial, trivial, w_case⟩
end start1
theorem witness_1 : WitnessClaimed_1 := ⟨start1.p0, start1.e0, start1.about1, start1.theMethod, start1.args0, start1.below0, start1.atStart⟩
end Jvm.Pilot.@@N@@
