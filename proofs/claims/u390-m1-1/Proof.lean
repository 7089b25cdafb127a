import JvmDerived
import JvmDerived.Pilot.@@N@@Statement
import JvmDerived.Pilot.@@N@@Code
set_option linter.unusedVariables false
set_option linter.unusedSimpArgs false
namespace Jvm.Pilot.@@N@@
open Jvm Jvm.ClassFile Sem Op Lib Jvm.Free Jvm.Stand Jvm.LawKit Jvm.RoadKit Bundle Jvm.Pilot.@@N@@.Jvm.D
def own_bi (P : Prop) [Decidable P] : Int32 := if P then 1 else 0
theorem own_bi_t {P : Prop} [Decidable P] (h : P) : own_bi P = 1 := if_pos h
theorem own_bi_f {P : Prop} [Decidable P] (h : ¬ P) : own_bi P = 0 := if_neg h
theorem own_bi_01 (P : Prop) [Decidable P] : own_bi P = 0 ∨ own_bi P = 1 := by by_cases h : P <;> simp [own_bi, h]
theorem own_bi_eq {P Q : Prop} [Decidable P] [Decidable Q] (h : P ↔ Q) : own_bi P = own_bi Q := by by_cases q : P <;> simp [own_bi, q, ← h]
theorem own_bi_iff (P : Prop) [Decidable P] : own_bi P = 1 ↔ P := by by_cases q : P <;> simp [own_bi, q]
theorem own_bi_ne (P : Prop) [Decidable P] : own_bi P = 0 ↔ ¬ P := by by_cases q : P <;> simp [own_bi, q]
theorem own_ofNat {n : Nat} (h : n < 2147483648) : (Int32.ofNat n).toInt = (n : Int) := len_toInt h
theorem own_narZ {z : Int32} (h : z = 0 ∨ z = 1) : narrow .boolean (.int z) = .int z := by rcases h with rfl | rfl <;> rfl
abbrev own_np (c : Int32) : Prop := (¬ c < 97 ∧ ¬ 122 < c) ∨ (¬ c < 65 ∧ ¬ 90 < c) ∨ (¬ c < 48 ∧ ¬ 57 < c) ∨ c = 95
theorem own_fin : ∀ n : Fin 123, ((¬ ((Int32.ofNat n.1) ||| 32) < 97 ∧ ¬ 122 < ((Int32.ofNat n.1) ||| 32)) ↔ ((¬ (Int32.ofNat n.1) < 97 ∧ ¬ 122 < (Int32.ofNat n.1)) ∨ (¬ (Int32.ofNat n.1) < 65 ∧ ¬ 90 < (Int32.ofNat n.1)))) := by decide +kernel
theorem own_fold {c : Int32} (hc : ¬ c < 0) : (¬ (c ||| 32) < 97 ∧ ¬ 122 < (c ||| 32)) ↔ ((¬ c < 97 ∧ ¬ 122 < c) ∨ (¬ c < 65 ∧ ¬ 90 < c)) := by
  have h0 : 0 ≤ c.toInt := by rw [Int32.lt_iff_toInt_lt] at hc; have : (0 : Int32).toInt = 0 := rfl; omega
  by_cases h : (122 : Int32) < c
  · have q := (c_or0 c 32 h0 (by decide)).1
    have h' : (122 : Int) < c.toInt := by rw [Int32.lt_iff_toInt_lt] at h; exact h
    have e1 : (122 : Int32) < (c ||| 32) := by rw [Int32.lt_iff_toInt_lt]; show (122 : Int) < _; omega
    have e2 : (90 : Int32) < c := by rw [Int32.lt_iff_toInt_lt]; show (90 : Int) < _; omega
    simp [h, e1, e2]
  · have h' : c.toInt ≤ 122 := by rw [Int32.lt_iff_toInt_lt] at h; have : (122 : Int32).toInt = 122 := rfl; omega
    have e : c = Int32.ofNat c.toInt.toNat := by
      apply Int32.toInt_inj.mp
      refine Eq.trans ?_ (own_ofNat ?_).symm <;> omega
    have := own_fin ⟨c.toInt.toNat, by omega⟩
    rw [← e] at this
    exact this
theorem own_law {c f L D U ex : Int32} (hc : ¬ c < 0) (hf : f = c ||| 32) (hL : L = own_bi (¬ f < 97 ∧ ¬ 122 < f)) (hD : D = own_bi (¬ c < 48 ∧ ¬ 57 < c)) (hU : U = own_bi (c = 95)) (hx : ex = own_bi (¬ L = 0 ∨ ¬ D = 0 ∨ ¬ U = 0)) : own_bi (own_np c) = ex := by
  subst hf hL hD hU hx
  refine own_bi_eq ?_
  simp only [own_bi_ne, own_fold hc, Classical.not_not]
  unfold own_np
  exact or_assoc.symm
theorem own_nn {y : Int32} : ¬ y.toUInt32.toUInt16.toUInt32.toInt32 < 0 := by
  have := (c_i2c y).2.1
  rw [Int32.lt_iff_toInt_lt]; show ¬ _ < (0 : Int); omega
theorem pn_1 : plainName "com/example/hasselt/hasselt/values/SymbolValue" = true := by first | (simp [plainName, overriddenIn]; done) | decide +kernel
theorem d1_0 : decode prog_182_method_4_code 0 = .ok (.iload_n 0, 1) := by decide +kernel
theorem d1_1 : decode prog_182_method_4_code 1 = .ok (.bipush 97, 2) := by decide +kernel
theorem d1_3 : decode prog_182_method_4_code 3 = .ok (.if_icmp .lt 9, 3) := by decide +kernel
theorem d1_6 : decode prog_182_method_4_code 6 = .ok (.iload_n 0, 1) := by decide +kernel
theorem d1_7 : decode prog_182_method_4_code 7 = .ok (.bipush 122, 2) := by decide +kernel
theorem d1_9 : decode prog_182_method_4_code 9 = .ok (.if_icmp .le 33, 3) := by decide +kernel
theorem d1_12 : decode prog_182_method_4_code 12 = .ok (.iload_n 0, 1) := by decide +kernel
theorem d1_13 : decode prog_182_method_4_code 13 = .ok (.bipush 65, 2) := by decide +kernel
theorem d1_15 : decode prog_182_method_4_code 15 = .ok (.if_icmp .lt 9, 3) := by decide +kernel
theorem d1_18 : decode prog_182_method_4_code 18 = .ok (.iload_n 0, 1) := by decide +kernel
theorem d1_19 : decode prog_182_method_4_code 19 = .ok (.bipush 90, 2) := by decide +kernel
theorem d1_21 : decode prog_182_method_4_code 21 = .ok (.if_icmp .le 21, 3) := by decide +kernel
theorem d1_24 : decode prog_182_method_4_code 24 = .ok (.iload_n 0, 1) := by decide +kernel
theorem d1_25 : decode prog_182_method_4_code 25 = .ok (.bipush 48, 2) := by decide +kernel
theorem d1_27 : decode prog_182_method_4_code 27 = .ok (.if_icmp .lt 9, 3) := by decide +kernel
theorem d1_30 : decode prog_182_method_4_code 30 = .ok (.iload_n 0, 1) := by decide +kernel
theorem d1_31 : decode prog_182_method_4_code 31 = .ok (.bipush 57, 2) := by decide +kernel
theorem d1_33 : decode prog_182_method_4_code 33 = .ok (.if_icmp .le 9, 3) := by decide +kernel
theorem d1_36 : decode prog_182_method_4_code 36 = .ok (.iload_n 0, 1) := by decide +kernel
theorem d1_37 : decode prog_182_method_4_code 37 = .ok (.bipush 95, 2) := by decide +kernel
theorem d1_39 : decode prog_182_method_4_code 39 = .ok (.if_icmp .ne 7, 3) := by decide +kernel
theorem d1_42 : decode prog_182_method_4_code 42 = .ok (.iconst 1, 1) := by decide +kernel
theorem d1_43 : decode prog_182_method_4_code 43 = .ok (.goto 4, 3) := by decide +kernel
theorem d1_46 : decode prog_182_method_4_code 46 = .ok (.iconst 0, 1) := by decide +kernel
theorem d1_47 : decode prog_182_method_4_code 47 = .ok (.ireturn, 1) := by decide +kernel
theorem ef_1 (m : MethodId) (cc : Int32) : entryFrame m #[(.int cc)] 1 = mkF m 0 #[.val (.int cc)] [] := by first | (simp [entryFrame, mkF, argsToLocals, Value.category]; done) | rfl
def Q1 (Z : State) (cc : Int32) (h0 : Heap) (n0 : Nat) (v : Option Value) (h : Heap) (L : List Loc) : Prop := v = some (.int (own_bi (own_np cc))) ∧ Fr n0 L ∧ h = h0
set_option maxRecDepth 65536 in
set_option maxHeartbeats 40000000 in
theorem rm1 (l : Launch) (Z : State) (a0 : Array Value) (hw : ∀ d ∈ tables_1, d.before a0 Z = true) (ws : List Jvm.Cond) (cc : Int32) (h0 : Heap) (n0 : Nat) (Z0 : n0 ≤ h0.size) :
    MetFree l (⟨"com/example/hasselt/hasselt/values/SymbolValue", "isNamePart", "(C)Z"⟩ : MethodName) (head1 (Jvm.Cond.code (⟨"com/example/hasselt/hasselt/values/SymbolValue", "isNamePart", "(C)Z"⟩ : MethodName) prog_182_method_4_code 1 (some .boolean) :: ws) ({ frames := 0, cells := 0, slots := 0, locals := 0 } : Room)) (fun a U => a = #[(.int cc)] ∧ Z.Warmed39 U.vm ∧ U.heap = h0) (fun _ _ _ _ _ => True) (fun _ U o U' => ∃ v L, o = .returned v ∧ Q1 Z cc h0 n0 v U'.heap L ∧ FrameEnd U o U' L ({ frames := 0, cells := 0, slots := 0, locals := 0 } : Room).cells ({ frames := 0, cells := 0, slots := 0, locals := 0 } : Room).slots) := by
  refine MetFree.of_bodySF (plainFor_of_name pn_1) hisR ?_
  intro p e s m args below meth c s₁ Bd hml0 hP hK
  obtain ⟨rfl, hZ, hh⟩ := hP
  have hx := Bd.exec
  have hby := Bd.bytes
  have hml : c.maxLocals = 1 := hml0
  have hown : s.vm.findClass "com/example/hasselt/hasselt/values/SymbolValue" = some m.cls := findClass_of_methodNamed Bd.named
  have hnm := (name_of_methodNamed Bd.named Bd.method).1
  have X0 : Stand p l e ({ frames := 0, cells := 0, slots := 0, locals := 0 } : Room) s m #[(.int cc)] below meth c s₁ [] 0 0 := Stand.of_body Bd
  have e0 : s₁.heap = h0 := by rw [← hh, Bd.state]; rfl
  have N0 := Fr.nil n0
  have pre0 : ∀ t, Steps p.tables e below (s₁.setTop (mkF m 0 #[.val (.int cc)] [])) t → Steps p.tables e below (s₁.setTop (entryFrame m #[(.int cc)] 1)) t := fun t k => castTop (ef_1 m cc) k
  have mrg1 : ∃ (b : Int32) (T1 : State) (Lo1 : List Loc), Stand p l e ({ frames := 0, cells := 0, slots := 0, locals := 0 } : Room) s m #[(.int cc)] below meth c T1 Lo1 0 0 ∧ Fr n0 Lo1 ∧ T1.heap = h0 ∧ (b = own_bi (own_np cc)) ∧ ∀ t, Steps p.tables e below (T1.setTop (mkF m 47 #[.val (.int cc)] [(.int b)])) t → Steps p.tables e below (s₁.setTop (entryFrame m #[(.int cc)] 1)) t := by
    have pre2 : ∀ t, Steps p.tables e below (s₁.setTop (mkF m 3 #[.val (.int cc)] [(.int (97 : Int32)), (.int cc)])) t → Steps p.tables e below (s₁.setTop (entryFrame m #[(.int cc)] 1)) t := by
      intro t k
      refine pre0 t ?_
      refine XS.iloadN X0.here hx rfl (hb hby d1_0) rfl ?_
      show Steps p.tables e below (s₁.setTop (mkF m 1 #[.val (.int cc)] [(.int cc)])) _
      refine XS.bipush X0.here hx rfl (hb hby d1_1) ?_
      show Steps p.tables e below (s₁.setTop (mkF m 3 #[.val (.int cc)] [(.int (97 : Int32)), (.int cc)])) _
      exact k
    by_cases hc3 : cc < (97 : Int32)
    · skip
      have pre3 : ∀ t, Steps p.tables e below (s₁.setTop (mkF m 15 #[.val (.int cc)] [(.int (65 : Int32)), (.int cc)])) t → Steps p.tables e below (s₁.setTop (entryFrame m #[(.int cc)] 1)) t := by
        intro t k
        refine pre2 t ?_
        refine XS.icmpYes X0.here hx rfl (pc0 := 3) (pc' := 12) rfl (hb hby d1_3) rfl (XT.ii_lt_t hc3) (by decide) (by decide) ?_
        show Steps p.tables e below (s₁.setTop (mkF m 12 #[.val (.int cc)] [])) _
        refine XS.iloadN X0.here hx rfl (hb hby d1_12) rfl ?_
        show Steps p.tables e below (s₁.setTop (mkF m 13 #[.val (.int cc)] [(.int cc)])) _
        refine XS.bipush X0.here hx rfl (hb hby d1_13) ?_
        show Steps p.tables e below (s₁.setTop (mkF m 15 #[.val (.int cc)] [(.int (65 : Int32)), (.int cc)])) _
        exact k
      by_cases hc15 : cc < (65 : Int32)
      · skip
        have pre4 : ∀ t, Steps p.tables e below (s₁.setTop (mkF m 27 #[.val (.int cc)] [(.int (48 : Int32)), (.int cc)])) t → Steps p.tables e below (s₁.setTop (entryFrame m #[(.int cc)] 1)) t := by
          intro t k
          refine pre3 t ?_
          refine XS.icmpYes X0.here hx rfl (pc0 := 15) (pc' := 24) rfl (hb hby d1_15) rfl (XT.ii_lt_t hc15) (by decide) (by decide) ?_
          show Steps p.tables e below (s₁.setTop (mkF m 24 #[.val (.int cc)] [])) _
          refine XS.iloadN X0.here hx rfl (hb hby d1_24) rfl ?_
          show Steps p.tables e below (s₁.setTop (mkF m 25 #[.val (.int cc)] [(.int cc)])) _
          refine XS.bipush X0.here hx rfl (hb hby d1_25) ?_
          show Steps p.tables e below (s₁.setTop (mkF m 27 #[.val (.int cc)] [(.int (48 : Int32)), (.int cc)])) _
          exact k
        by_cases hc27 : cc < (48 : Int32)
        · skip
          have pre5 : ∀ t, Steps p.tables e below (s₁.setTop (mkF m 39 #[.val (.int cc)] [(.int (95 : Int32)), (.int cc)])) t → Steps p.tables e below (s₁.setTop (entryFrame m #[(.int cc)] 1)) t := by
            intro t k
            refine pre4 t ?_
            refine XS.icmpYes X0.here hx rfl (pc0 := 27) (pc' := 36) rfl (hb hby d1_27) rfl (XT.ii_lt_t hc27) (by decide) (by decide) ?_
            show Steps p.tables e below (s₁.setTop (mkF m 36 #[.val (.int cc)] [])) _
            refine XS.iloadN X0.here hx rfl (hb hby d1_36) rfl ?_
            show Steps p.tables e below (s₁.setTop (mkF m 37 #[.val (.int cc)] [(.int cc)])) _
            refine XS.bipush X0.here hx rfl (hb hby d1_37) ?_
            show Steps p.tables e below (s₁.setTop (mkF m 39 #[.val (.int cc)] [(.int (95 : Int32)), (.int cc)])) _
            exact k
          by_cases hc39 : cc = (95 : Int32)
          · skip
            have pre6 : ∀ t, Steps p.tables e below (s₁.setTop (mkF m 47 #[.val (.int cc)] [(.int (1 : Int32))])) t → Steps p.tables e below (s₁.setTop (entryFrame m #[(.int cc)] 1)) t := by
              intro t k
              refine pre5 t ?_
              refine XS.icmpNo X0.here hx rfl (hb hby d1_39) rfl (XT.ii_ne_f hc39) ?_
              show Steps p.tables e below (s₁.setTop (mkF m 42 #[.val (.int cc)] [])) _
              refine XS.iconst X0.here hx rfl (hb hby d1_42) ?_
              show Steps p.tables e below (s₁.setTop (mkF m 43 #[.val (.int cc)] [(.int (1 : Int32))])) _
              refine XS.goto X0.here hx rfl (pc0 := 43) (pc' := 47) rfl (hb hby d1_43) (by decide) (by decide) ?_
              show Steps p.tables e below (s₁.setTop (mkF m 47 #[.val (.int cc)] [(.int (1 : Int32))])) _
              exact k
            exact ⟨(1 : Int32), _, _, X0, N0, e0, (by first | (simp [own_bi, own_np, hc3, hc15, hc27, hc39]; done) | contradiction), pre6⟩
          · skip
            have pre7 : ∀ t, Steps p.tables e below (s₁.setTop (mkF m 47 #[.val (.int cc)] [(.int (0 : Int32))])) t → Steps p.tables e below (s₁.setTop (entryFrame m #[(.int cc)] 1)) t := by
              intro t k
              refine pre5 t ?_
              refine XS.icmpYes X0.here hx rfl (pc0 := 39) (pc' := 46) rfl (hb hby d1_39) rfl (XT.ii_ne_t hc39) (by decide) (by decide) ?_
              show Steps p.tables e below (s₁.setTop (mkF m 46 #[.val (.int cc)] [])) _
              refine XS.iconst X0.here hx rfl (hb hby d1_46) ?_
              show Steps p.tables e below (s₁.setTop (mkF m 47 #[.val (.int cc)] [(.int (0 : Int32))])) _
              exact k
            exact ⟨(0 : Int32), _, _, X0, N0, e0, (by first | (simp [own_bi, own_np, hc3, hc15, hc27, hc39]; done) | contradiction), pre7⟩
        · skip
          have pre8 : ∀ t, Steps p.tables e below (s₁.setTop (mkF m 33 #[.val (.int cc)] [(.int (57 : Int32)), (.int cc)])) t → Steps p.tables e below (s₁.setTop (entryFrame m #[(.int cc)] 1)) t := by
            intro t k
            refine pre4 t ?_
            refine XS.icmpNo X0.here hx rfl (hb hby d1_27) rfl (XT.ii_lt_f hc27) ?_
            show Steps p.tables e below (s₁.setTop (mkF m 30 #[.val (.int cc)] [])) _
            refine XS.iloadN X0.here hx rfl (hb hby d1_30) rfl ?_
            show Steps p.tables e below (s₁.setTop (mkF m 31 #[.val (.int cc)] [(.int cc)])) _
            refine XS.bipush X0.here hx rfl (hb hby d1_31) ?_
            show Steps p.tables e below (s₁.setTop (mkF m 33 #[.val (.int cc)] [(.int (57 : Int32)), (.int cc)])) _
            exact k
          by_cases hc33 : (57 : Int32) < cc
          · skip
            have pre9 : ∀ t, Steps p.tables e below (s₁.setTop (mkF m 39 #[.val (.int cc)] [(.int (95 : Int32)), (.int cc)])) t → Steps p.tables e below (s₁.setTop (entryFrame m #[(.int cc)] 1)) t := by
              intro t k
              refine pre8 t ?_
              refine XS.icmpNo X0.here hx rfl (hb hby d1_33) rfl (XT.ii_le_f hc33) ?_
              show Steps p.tables e below (s₁.setTop (mkF m 36 #[.val (.int cc)] [])) _
              refine XS.iloadN X0.here hx rfl (hb hby d1_36) rfl ?_
              show Steps p.tables e below (s₁.setTop (mkF m 37 #[.val (.int cc)] [(.int cc)])) _
              refine XS.bipush X0.here hx rfl (hb hby d1_37) ?_
              show Steps p.tables e below (s₁.setTop (mkF m 39 #[.val (.int cc)] [(.int (95 : Int32)), (.int cc)])) _
              exact k
            by_cases hc39 : cc = (95 : Int32)
            · skip
              have pre10 : ∀ t, Steps p.tables e below (s₁.setTop (mkF m 47 #[.val (.int cc)] [(.int (1 : Int32))])) t → Steps p.tables e below (s₁.setTop (entryFrame m #[(.int cc)] 1)) t := by
                intro t k
                refine pre9 t ?_
                refine XS.icmpNo X0.here hx rfl (hb hby d1_39) rfl (XT.ii_ne_f hc39) ?_
                show Steps p.tables e below (s₁.setTop (mkF m 42 #[.val (.int cc)] [])) _
                refine XS.iconst X0.here hx rfl (hb hby d1_42) ?_
                show Steps p.tables e below (s₁.setTop (mkF m 43 #[.val (.int cc)] [(.int (1 : Int32))])) _
                refine XS.goto X0.here hx rfl (pc0 := 43) (pc' := 47) rfl (hb hby d1_43) (by decide) (by decide) ?_
                show Steps p.tables e below (s₁.setTop (mkF m 47 #[.val (.int cc)] [(.int (1 : Int32))])) _
                exact k
              exact ⟨(1 : Int32), _, _, X0, N0, e0, (by first | (simp [own_bi, own_np, hc3, hc15, hc27, hc33, hc39]; done) | contradiction), pre10⟩
            · skip
              have pre11 : ∀ t, Steps p.tables e below (s₁.setTop (mkF m 47 #[.val (.int cc)] [(.int (0 : Int32))])) t → Steps p.tables e below (s₁.setTop (entryFrame m #[(.int cc)] 1)) t := by
                intro t k
                refine pre9 t ?_
                refine XS.icmpYes X0.here hx rfl (pc0 := 39) (pc' := 46) rfl (hb hby d1_39) rfl (XT.ii_ne_t hc39) (by decide) (by decide) ?_
                show Steps p.tables e below (s₁.setTop (mkF m 46 #[.val (.int cc)] [])) _
                refine XS.iconst X0.here hx rfl (hb hby d1_46) ?_
                show Steps p.tables e below (s₁.setTop (mkF m 47 #[.val (.int cc)] [(.int (0 : Int32))])) _
                exact k
              exact ⟨(0 : Int32), _, _, X0, N0, e0, (by first | (simp [own_bi, own_np, hc3, hc15, hc27, hc33, hc39]; done) | contradiction), pre11⟩
          · skip
            have pre12 : ∀ t, Steps p.tables e below (s₁.setTop (mkF m 47 #[.val (.int cc)] [(.int (1 : Int32))])) t → Steps p.tables e below (s₁.setTop (entryFrame m #[(.int cc)] 1)) t := by
              intro t k
              refine pre8 t ?_
              refine XS.icmpYes X0.here hx rfl (pc0 := 33) (pc' := 42) rfl (hb hby d1_33) rfl (XT.ii_le_t hc33) (by decide) (by decide) ?_
              show Steps p.tables e below (s₁.setTop (mkF m 42 #[.val (.int cc)] [])) _
              refine XS.iconst X0.here hx rfl (hb hby d1_42) ?_
              show Steps p.tables e below (s₁.setTop (mkF m 43 #[.val (.int cc)] [(.int (1 : Int32))])) _
              refine XS.goto X0.here hx rfl (pc0 := 43) (pc' := 47) rfl (hb hby d1_43) (by decide) (by decide) ?_
              show Steps p.tables e below (s₁.setTop (mkF m 47 #[.val (.int cc)] [(.int (1 : Int32))])) _
              exact k
            exact ⟨(1 : Int32), _, _, X0, N0, e0, (by first | (simp [own_bi, own_np, hc3, hc15, hc27, hc33]; done) | contradiction), pre12⟩
      · skip
        have pre13 : ∀ t, Steps p.tables e below (s₁.setTop (mkF m 21 #[.val (.int cc)] [(.int (90 : Int32)), (.int cc)])) t → Steps p.tables e below (s₁.setTop (entryFrame m #[(.int cc)] 1)) t := by
          intro t k
          refine pre3 t ?_
          refine XS.icmpNo X0.here hx rfl (hb hby d1_15) rfl (XT.ii_lt_f hc15) ?_
          show Steps p.tables e below (s₁.setTop (mkF m 18 #[.val (.int cc)] [])) _
          refine XS.iloadN X0.here hx rfl (hb hby d1_18) rfl ?_
          show Steps p.tables e below (s₁.setTop (mkF m 19 #[.val (.int cc)] [(.int cc)])) _
          refine XS.bipush X0.here hx rfl (hb hby d1_19) ?_
          show Steps p.tables e below (s₁.setTop (mkF m 21 #[.val (.int cc)] [(.int (90 : Int32)), (.int cc)])) _
          exact k
        by_cases hc21 : (90 : Int32) < cc
        · skip
          have pre14 : ∀ t, Steps p.tables e below (s₁.setTop (mkF m 27 #[.val (.int cc)] [(.int (48 : Int32)), (.int cc)])) t → Steps p.tables e below (s₁.setTop (entryFrame m #[(.int cc)] 1)) t := by
            intro t k
            refine pre13 t ?_
            refine XS.icmpNo X0.here hx rfl (hb hby d1_21) rfl (XT.ii_le_f hc21) ?_
            show Steps p.tables e below (s₁.setTop (mkF m 24 #[.val (.int cc)] [])) _
            refine XS.iloadN X0.here hx rfl (hb hby d1_24) rfl ?_
            show Steps p.tables e below (s₁.setTop (mkF m 25 #[.val (.int cc)] [(.int cc)])) _
            refine XS.bipush X0.here hx rfl (hb hby d1_25) ?_
            show Steps p.tables e below (s₁.setTop (mkF m 27 #[.val (.int cc)] [(.int (48 : Int32)), (.int cc)])) _
            exact k
          by_cases hc27 : cc < (48 : Int32)
          · skip
            have pre15 : ∀ t, Steps p.tables e below (s₁.setTop (mkF m 39 #[.val (.int cc)] [(.int (95 : Int32)), (.int cc)])) t → Steps p.tables e below (s₁.setTop (entryFrame m #[(.int cc)] 1)) t := by
              intro t k
              refine pre14 t ?_
              refine XS.icmpYes X0.here hx rfl (pc0 := 27) (pc' := 36) rfl (hb hby d1_27) rfl (XT.ii_lt_t hc27) (by decide) (by decide) ?_
              show Steps p.tables e below (s₁.setTop (mkF m 36 #[.val (.int cc)] [])) _
              refine XS.iloadN X0.here hx rfl (hb hby d1_36) rfl ?_
              show Steps p.tables e below (s₁.setTop (mkF m 37 #[.val (.int cc)] [(.int cc)])) _
              refine XS.bipush X0.here hx rfl (hb hby d1_37) ?_
              show Steps p.tables e below (s₁.setTop (mkF m 39 #[.val (.int cc)] [(.int (95 : Int32)), (.int cc)])) _
              exact k
            by_cases hc39 : cc = (95 : Int32)
            · skip
              have pre16 : ∀ t, Steps p.tables e below (s₁.setTop (mkF m 47 #[.val (.int cc)] [(.int (1 : Int32))])) t → Steps p.tables e below (s₁.setTop (entryFrame m #[(.int cc)] 1)) t := by
                intro t k
                refine pre15 t ?_
                refine XS.icmpNo X0.here hx rfl (hb hby d1_39) rfl (XT.ii_ne_f hc39) ?_
                show Steps p.tables e below (s₁.setTop (mkF m 42 #[.val (.int cc)] [])) _
                refine XS.iconst X0.here hx rfl (hb hby d1_42) ?_
                show Steps p.tables e below (s₁.setTop (mkF m 43 #[.val (.int cc)] [(.int (1 : Int32))])) _
                refine XS.goto X0.here hx rfl (pc0 := 43) (pc' := 47) rfl (hb hby d1_43) (by decide) (by decide) ?_
                show Steps p.tables e below (s₁.setTop (mkF m 47 #[.val (.int cc)] [(.int (1 : Int32))])) _
                exact k
              exact ⟨(1 : Int32), _, _, X0, N0, e0, (by first | (simp [own_bi, own_np, hc3, hc15, hc21, hc27, hc39]; done) | contradiction), pre16⟩
            · skip
              have pre17 : ∀ t, Steps p.tables e below (s₁.setTop (mkF m 47 #[.val (.int cc)] [(.int (0 : Int32))])) t → Steps p.tables e below (s₁.setTop (entryFrame m #[(.int cc)] 1)) t := by
                intro t k
                refine pre15 t ?_
                refine XS.icmpYes X0.here hx rfl (pc0 := 39) (pc' := 46) rfl (hb hby d1_39) rfl (XT.ii_ne_t hc39) (by decide) (by decide) ?_
                show Steps p.tables e below (s₁.setTop (mkF m 46 #[.val (.int cc)] [])) _
                refine XS.iconst X0.here hx rfl (hb hby d1_46) ?_
                show Steps p.tables e below (s₁.setTop (mkF m 47 #[.val (.int cc)] [(.int (0 : Int32))])) _
                exact k
              exact ⟨(0 : Int32), _, _, X0, N0, e0, (by first | (simp [own_bi, own_np, hc3, hc15, hc21, hc27, hc39]; done) | contradiction), pre17⟩
          · skip
            have pre18 : ∀ t, Steps p.tables e below (s₁.setTop (mkF m 33 #[.val (.int cc)] [(.int (57 : Int32)), (.int cc)])) t → Steps p.tables e below (s₁.setTop (entryFrame m #[(.int cc)] 1)) t := by
              intro t k
              refine pre14 t ?_
              refine XS.icmpNo X0.here hx rfl (hb hby d1_27) rfl (XT.ii_lt_f hc27) ?_
              show Steps p.tables e below (s₁.setTop (mkF m 30 #[.val (.int cc)] [])) _
              refine XS.iloadN X0.here hx rfl (hb hby d1_30) rfl ?_
              show Steps p.tables e below (s₁.setTop (mkF m 31 #[.val (.int cc)] [(.int cc)])) _
              refine XS.bipush X0.here hx rfl (hb hby d1_31) ?_
              show Steps p.tables e below (s₁.setTop (mkF m 33 #[.val (.int cc)] [(.int (57 : Int32)), (.int cc)])) _
              exact k
            by_cases hc33 : (57 : Int32) < cc
            · skip
              have pre19 : ∀ t, Steps p.tables e below (s₁.setTop (mkF m 39 #[.val (.int cc)] [(.int (95 : Int32)), (.int cc)])) t → Steps p.tables e below (s₁.setTop (entryFrame m #[(.int cc)] 1)) t := by
                intro t k
                refine pre18 t ?_
                refine XS.icmpNo X0.here hx rfl (hb hby d1_33) rfl (XT.ii_le_f hc33) ?_
                show Steps p.tables e below (s₁.setTop (mkF m 36 #[.val (.int cc)] [])) _
                refine XS.iloadN X0.here hx rfl (hb hby d1_36) rfl ?_
                show Steps p.tables e below (s₁.setTop (mkF m 37 #[.val (.int cc)] [(.int cc)])) _
                refine XS.bipush X0.here hx rfl (hb hby d1_37) ?_
                show Steps p.tables e below (s₁.setTop (mkF m 39 #[.val (.int cc)] [(.int (95 : Int32)), (.int cc)])) _
                exact k
              by_cases hc39 : cc = (95 : Int32)
              · skip
                have pre20 : ∀ t, Steps p.tables e below (s₁.setTop (mkF m 47 #[.val (.int cc)] [(.int (1 : Int32))])) t → Steps p.tables e below (s₁.setTop (entryFrame m #[(.int cc)] 1)) t := by
                  intro t k
                  refine pre19 t ?_
                  refine XS.icmpNo X0.here hx rfl (hb hby d1_39) rfl (XT.ii_ne_f hc39) ?_
                  show Steps p.tables e below (s₁.setTop (mkF m 42 #[.val (.int cc)] [])) _
                  refine XS.iconst X0.here hx rfl (hb hby d1_42) ?_
                  show Steps p.tables e below (s₁.setTop (mkF m 43 #[.val (.int cc)] [(.int (1 : Int32))])) _
                  refine XS.goto X0.here hx rfl (pc0 := 43) (pc' := 47) rfl (hb hby d1_43) (by decide) (by decide) ?_
                  show Steps p.tables e below (s₁.setTop (mkF m 47 #[.val (.int cc)] [(.int (1 : Int32))])) _
                  exact k
                exact ⟨(1 : Int32), _, _, X0, N0, e0, (by first | (simp [own_bi, own_np, hc3, hc15, hc21, hc27, hc33, hc39]; done) | contradiction), pre20⟩
              · skip
                have pre21 : ∀ t, Steps p.tables e below (s₁.setTop (mkF m 47 #[.val (.int cc)] [(.int (0 : Int32))])) t → Steps p.tables e below (s₁.setTop (entryFrame m #[(.int cc)] 1)) t := by
                  intro t k
                  refine pre19 t ?_
                  refine XS.icmpYes X0.here hx rfl (pc0 := 39) (pc' := 46) rfl (hb hby d1_39) rfl (XT.ii_ne_t hc39) (by decide) (by decide) ?_
                  show Steps p.tables e below (s₁.setTop (mkF m 46 #[.val (.int cc)] [])) _
                  refine XS.iconst X0.here hx rfl (hb hby d1_46) ?_
                  show Steps p.tables e below (s₁.setTop (mkF m 47 #[.val (.int cc)] [(.int (0 : Int32))])) _
                  exact k
                exact ⟨(0 : Int32), _, _, X0, N0, e0, (by first | (simp [own_bi, own_np, hc3, hc15, hc21, hc27, hc33, hc39]; done) | contradiction), pre21⟩
            · skip
              have pre22 : ∀ t, Steps p.tables e below (s₁.setTop (mkF m 47 #[.val (.int cc)] [(.int (1 : Int32))])) t → Steps p.tables e below (s₁.setTop (entryFrame m #[(.int cc)] 1)) t := by
                intro t k
                refine pre18 t ?_
                refine XS.icmpYes X0.here hx rfl (pc0 := 33) (pc' := 42) rfl (hb hby d1_33) rfl (XT.ii_le_t hc33) (by decide) (by decide) ?_
                show Steps p.tables e below (s₁.setTop (mkF m 42 #[.val (.int cc)] [])) _
                refine XS.iconst X0.here hx rfl (hb hby d1_42) ?_
                show Steps p.tables e below (s₁.setTop (mkF m 43 #[.val (.int cc)] [(.int (1 : Int32))])) _
                refine XS.goto X0.here hx rfl (pc0 := 43) (pc' := 47) rfl (hb hby d1_43) (by decide) (by decide) ?_
                show Steps p.tables e below (s₁.setTop (mkF m 47 #[.val (.int cc)] [(.int (1 : Int32))])) _
                exact k
              exact ⟨(1 : Int32), _, _, X0, N0, e0, (by first | (simp [own_bi, own_np, hc3, hc15, hc21, hc27, hc33]; done) | contradiction), pre22⟩
        · skip
          have pre23 : ∀ t, Steps p.tables e below (s₁.setTop (mkF m 47 #[.val (.int cc)] [(.int (1 : Int32))])) t → Steps p.tables e below (s₁.setTop (entryFrame m #[(.int cc)] 1)) t := by
            intro t k
            refine pre13 t ?_
            refine XS.icmpYes X0.here hx rfl (pc0 := 21) (pc' := 42) rfl (hb hby d1_21) rfl (XT.ii_le_t hc21) (by decide) (by decide) ?_
            show Steps p.tables e below (s₁.setTop (mkF m 42 #[.val (.int cc)] [])) _
            refine XS.iconst X0.here hx rfl (hb hby d1_42) ?_
            show Steps p.tables e below (s₁.setTop (mkF m 43 #[.val (.int cc)] [(.int (1 : Int32))])) _
            refine XS.goto X0.here hx rfl (pc0 := 43) (pc' := 47) rfl (hb hby d1_43) (by decide) (by decide) ?_
            show Steps p.tables e below (s₁.setTop (mkF m 47 #[.val (.int cc)] [(.int (1 : Int32))])) _
            exact k
          exact ⟨(1 : Int32), _, _, X0, N0, e0, (by first | (simp [own_bi, own_np, hc3, hc15, hc21]; done) | contradiction), pre23⟩
    · skip
      have pre24 : ∀ t, Steps p.tables e below (s₁.setTop (mkF m 9 #[.val (.int cc)] [(.int (122 : Int32)), (.int cc)])) t → Steps p.tables e below (s₁.setTop (entryFrame m #[(.int cc)] 1)) t := by
        intro t k
        refine pre2 t ?_
        refine XS.icmpNo X0.here hx rfl (hb hby d1_3) rfl (XT.ii_lt_f hc3) ?_
        show Steps p.tables e below (s₁.setTop (mkF m 6 #[.val (.int cc)] [])) _
        refine XS.iloadN X0.here hx rfl (hb hby d1_6) rfl ?_
        show Steps p.tables e below (s₁.setTop (mkF m 7 #[.val (.int cc)] [(.int cc)])) _
        refine XS.bipush X0.here hx rfl (hb hby d1_7) ?_
        show Steps p.tables e below (s₁.setTop (mkF m 9 #[.val (.int cc)] [(.int (122 : Int32)), (.int cc)])) _
        exact k
      by_cases hc9 : (122 : Int32) < cc
      · skip
        have pre25 : ∀ t, Steps p.tables e below (s₁.setTop (mkF m 15 #[.val (.int cc)] [(.int (65 : Int32)), (.int cc)])) t → Steps p.tables e below (s₁.setTop (entryFrame m #[(.int cc)] 1)) t := by
          intro t k
          refine pre24 t ?_
          refine XS.icmpNo X0.here hx rfl (hb hby d1_9) rfl (XT.ii_le_f hc9) ?_
          show Steps p.tables e below (s₁.setTop (mkF m 12 #[.val (.int cc)] [])) _
          refine XS.iloadN X0.here hx rfl (hb hby d1_12) rfl ?_
          show Steps p.tables e below (s₁.setTop (mkF m 13 #[.val (.int cc)] [(.int cc)])) _
          refine XS.bipush X0.here hx rfl (hb hby d1_13) ?_
          show Steps p.tables e below (s₁.setTop (mkF m 15 #[.val (.int cc)] [(.int (65 : Int32)), (.int cc)])) _
          exact k
        by_cases hc15 : cc < (65 : Int32)
        · skip
          have pre26 : ∀ t, Steps p.tables e below (s₁.setTop (mkF m 27 #[.val (.int cc)] [(.int (48 : Int32)), (.int cc)])) t → Steps p.tables e below (s₁.setTop (entryFrame m #[(.int cc)] 1)) t := by
            intro t k
            refine pre25 t ?_
            refine XS.icmpYes X0.here hx rfl (pc0 := 15) (pc' := 24) rfl (hb hby d1_15) rfl (XT.ii_lt_t hc15) (by decide) (by decide) ?_
            show Steps p.tables e below (s₁.setTop (mkF m 24 #[.val (.int cc)] [])) _
            refine XS.iloadN X0.here hx rfl (hb hby d1_24) rfl ?_
            show Steps p.tables e below (s₁.setTop (mkF m 25 #[.val (.int cc)] [(.int cc)])) _
            refine XS.bipush X0.here hx rfl (hb hby d1_25) ?_
            show Steps p.tables e below (s₁.setTop (mkF m 27 #[.val (.int cc)] [(.int (48 : Int32)), (.int cc)])) _
            exact k
          by_cases hc27 : cc < (48 : Int32)
          · skip
            have pre27 : ∀ t, Steps p.tables e below (s₁.setTop (mkF m 39 #[.val (.int cc)] [(.int (95 : Int32)), (.int cc)])) t → Steps p.tables e below (s₁.setTop (entryFrame m #[(.int cc)] 1)) t := by
              intro t k
              refine pre26 t ?_
              refine XS.icmpYes X0.here hx rfl (pc0 := 27) (pc' := 36) rfl (hb hby d1_27) rfl (XT.ii_lt_t hc27) (by decide) (by decide) ?_
              show Steps p.tables e below (s₁.setTop (mkF m 36 #[.val (.int cc)] [])) _
              refine XS.iloadN X0.here hx rfl (hb hby d1_36) rfl ?_
              show Steps p.tables e below (s₁.setTop (mkF m 37 #[.val (.int cc)] [(.int cc)])) _
              refine XS.bipush X0.here hx rfl (hb hby d1_37) ?_
              show Steps p.tables e below (s₁.setTop (mkF m 39 #[.val (.int cc)] [(.int (95 : Int32)), (.int cc)])) _
              exact k
            by_cases hc39 : cc = (95 : Int32)
            · skip
              have pre28 : ∀ t, Steps p.tables e below (s₁.setTop (mkF m 47 #[.val (.int cc)] [(.int (1 : Int32))])) t → Steps p.tables e below (s₁.setTop (entryFrame m #[(.int cc)] 1)) t := by
                intro t k
                refine pre27 t ?_
                refine XS.icmpNo X0.here hx rfl (hb hby d1_39) rfl (XT.ii_ne_f hc39) ?_
                show Steps p.tables e below (s₁.setTop (mkF m 42 #[.val (.int cc)] [])) _
                refine XS.iconst X0.here hx rfl (hb hby d1_42) ?_
                show Steps p.tables e below (s₁.setTop (mkF m 43 #[.val (.int cc)] [(.int (1 : Int32))])) _
                refine XS.goto X0.here hx rfl (pc0 := 43) (pc' := 47) rfl (hb hby d1_43) (by decide) (by decide) ?_
                show Steps p.tables e below (s₁.setTop (mkF m 47 #[.val (.int cc)] [(.int (1 : Int32))])) _
                exact k
              exact ⟨(1 : Int32), _, _, X0, N0, e0, (by first | (simp [own_bi, own_np, hc3, hc9, hc15, hc27, hc39]; done) | contradiction), pre28⟩
            · skip
              have pre29 : ∀ t, Steps p.tables e below (s₁.setTop (mkF m 47 #[.val (.int cc)] [(.int (0 : Int32))])) t → Steps p.tables e below (s₁.setTop (entryFrame m #[(.int cc)] 1)) t := by
                intro t k
                refine pre27 t ?_
                refine XS.icmpYes X0.here hx rfl (pc0 := 39) (pc' := 46) rfl (hb hby d1_39) rfl (XT.ii_ne_t hc39) (by decide) (by decide) ?_
                show Steps p.tables e below (s₁.setTop (mkF m 46 #[.val (.int cc)] [])) _
                refine XS.iconst X0.here hx rfl (hb hby d1_46) ?_
                show Steps p.tables e below (s₁.setTop (mkF m 47 #[.val (.int cc)] [(.int (0 : Int32))])) _
                exact k
              exact ⟨(0 : Int32), _, _, X0, N0, e0, (by first | (simp [own_bi, own_np, hc3, hc9, hc15, hc27, hc39]; done) | contradiction), pre29⟩
          · skip
            have pre30 : ∀ t, Steps p.tables e below (s₁.setTop (mkF m 33 #[.val (.int cc)] [(.int (57 : Int32)), (.int cc)])) t → Steps p.tables e below (s₁.setTop (entryFrame m #[(.int cc)] 1)) t := by
              intro t k
              refine pre26 t ?_
              refine XS.icmpNo X0.here hx rfl (hb hby d1_27) rfl (XT.ii_lt_f hc27) ?_
              show Steps p.tables e below (s₁.setTop (mkF m 30 #[.val (.int cc)] [])) _
              refine XS.iloadN X0.here hx rfl (hb hby d1_30) rfl ?_
              show Steps p.tables e below (s₁.setTop (mkF m 31 #[.val (.int cc)] [(.int cc)])) _
              refine XS.bipush X0.here hx rfl (hb hby d1_31) ?_
              show Steps p.tables e below (s₁.setTop (mkF m 33 #[.val (.int cc)] [(.int (57 : Int32)), (.int cc)])) _
              exact k
            by_cases hc33 : (57 : Int32) < cc
            · skip
              have pre31 : ∀ t, Steps p.tables e below (s₁.setTop (mkF m 39 #[.val (.int cc)] [(.int (95 : Int32)), (.int cc)])) t → Steps p.tables e below (s₁.setTop (entryFrame m #[(.int cc)] 1)) t := by
                intro t k
                refine pre30 t ?_
                refine XS.icmpNo X0.here hx rfl (hb hby d1_33) rfl (XT.ii_le_f hc33) ?_
                show Steps p.tables e below (s₁.setTop (mkF m 36 #[.val (.int cc)] [])) _
                refine XS.iloadN X0.here hx rfl (hb hby d1_36) rfl ?_
                show Steps p.tables e below (s₁.setTop (mkF m 37 #[.val (.int cc)] [(.int cc)])) _
                refine XS.bipush X0.here hx rfl (hb hby d1_37) ?_
                show Steps p.tables e below (s₁.setTop (mkF m 39 #[.val (.int cc)] [(.int (95 : Int32)), (.int cc)])) _
                exact k
              by_cases hc39 : cc = (95 : Int32)
              · skip
                have pre32 : ∀ t, Steps p.tables e below (s₁.setTop (mkF m 47 #[.val (.int cc)] [(.int (1 : Int32))])) t → Steps p.tables e below (s₁.setTop (entryFrame m #[(.int cc)] 1)) t := by
                  intro t k
                  refine pre31 t ?_
                  refine XS.icmpNo X0.here hx rfl (hb hby d1_39) rfl (XT.ii_ne_f hc39) ?_
                  show Steps p.tables e below (s₁.setTop (mkF m 42 #[.val (.int cc)] [])) _
                  refine XS.iconst X0.here hx rfl (hb hby d1_42) ?_
                  show Steps p.tables e below (s₁.setTop (mkF m 43 #[.val (.int cc)] [(.int (1 : Int32))])) _
                  refine XS.goto X0.here hx rfl (pc0 := 43) (pc' := 47) rfl (hb hby d1_43) (by decide) (by decide) ?_
                  show Steps p.tables e below (s₁.setTop (mkF m 47 #[.val (.int cc)] [(.int (1 : Int32))])) _
                  exact k
                exact ⟨(1 : Int32), _, _, X0, N0, e0, (by first | (simp [own_bi, own_np, hc3, hc9, hc15, hc27, hc33, hc39]; done) | contradiction), pre32⟩
              · skip
                have pre33 : ∀ t, Steps p.tables e below (s₁.setTop (mkF m 47 #[.val (.int cc)] [(.int (0 : Int32))])) t → Steps p.tables e below (s₁.setTop (entryFrame m #[(.int cc)] 1)) t := by
                  intro t k
                  refine pre31 t ?_
                  refine XS.icmpYes X0.here hx rfl (pc0 := 39) (pc' := 46) rfl (hb hby d1_39) rfl (XT.ii_ne_t hc39) (by decide) (by decide) ?_
                  show Steps p.tables e below (s₁.setTop (mkF m 46 #[.val (.int cc)] [])) _
                  refine XS.iconst X0.here hx rfl (hb hby d1_46) ?_
                  show Steps p.tables e below (s₁.setTop (mkF m 47 #[.val (.int cc)] [(.int (0 : Int32))])) _
                  exact k
                exact ⟨(0 : Int32), _, _, X0, N0, e0, (by first | (simp [own_bi, own_np, hc3, hc9, hc15, hc27, hc33, hc39]; done) | contradiction), pre33⟩
            · skip
              have pre34 : ∀ t, Steps p.tables e below (s₁.setTop (mkF m 47 #[.val (.int cc)] [(.int (1 : Int32))])) t → Steps p.tables e below (s₁.setTop (entryFrame m #[(.int cc)] 1)) t := by
                intro t k
                refine pre30 t ?_
                refine XS.icmpYes X0.here hx rfl (pc0 := 33) (pc' := 42) rfl (hb hby d1_33) rfl (XT.ii_le_t hc33) (by decide) (by decide) ?_
                show Steps p.tables e below (s₁.setTop (mkF m 42 #[.val (.int cc)] [])) _
                refine XS.iconst X0.here hx rfl (hb hby d1_42) ?_
                show Steps p.tables e below (s₁.setTop (mkF m 43 #[.val (.int cc)] [(.int (1 : Int32))])) _
                refine XS.goto X0.here hx rfl (pc0 := 43) (pc' := 47) rfl (hb hby d1_43) (by decide) (by decide) ?_
                show Steps p.tables e below (s₁.setTop (mkF m 47 #[.val (.int cc)] [(.int (1 : Int32))])) _
                exact k
              exact ⟨(1 : Int32), _, _, X0, N0, e0, (by first | (simp [own_bi, own_np, hc3, hc9, hc15, hc27, hc33]; done) | contradiction), pre34⟩
        · skip
          have pre35 : ∀ t, Steps p.tables e below (s₁.setTop (mkF m 21 #[.val (.int cc)] [(.int (90 : Int32)), (.int cc)])) t → Steps p.tables e below (s₁.setTop (entryFrame m #[(.int cc)] 1)) t := by
            intro t k
            refine pre25 t ?_
            refine XS.icmpNo X0.here hx rfl (hb hby d1_15) rfl (XT.ii_lt_f hc15) ?_
            show Steps p.tables e below (s₁.setTop (mkF m 18 #[.val (.int cc)] [])) _
            refine XS.iloadN X0.here hx rfl (hb hby d1_18) rfl ?_
            show Steps p.tables e below (s₁.setTop (mkF m 19 #[.val (.int cc)] [(.int cc)])) _
            refine XS.bipush X0.here hx rfl (hb hby d1_19) ?_
            show Steps p.tables e below (s₁.setTop (mkF m 21 #[.val (.int cc)] [(.int (90 : Int32)), (.int cc)])) _
            exact k
          by_cases hc21 : (90 : Int32) < cc
          · skip
            have pre36 : ∀ t, Steps p.tables e below (s₁.setTop (mkF m 27 #[.val (.int cc)] [(.int (48 : Int32)), (.int cc)])) t → Steps p.tables e below (s₁.setTop (entryFrame m #[(.int cc)] 1)) t := by
              intro t k
              refine pre35 t ?_
              refine XS.icmpNo X0.here hx rfl (hb hby d1_21) rfl (XT.ii_le_f hc21) ?_
              show Steps p.tables e below (s₁.setTop (mkF m 24 #[.val (.int cc)] [])) _
              refine XS.iloadN X0.here hx rfl (hb hby d1_24) rfl ?_
              show Steps p.tables e below (s₁.setTop (mkF m 25 #[.val (.int cc)] [(.int cc)])) _
              refine XS.bipush X0.here hx rfl (hb hby d1_25) ?_
              show Steps p.tables e below (s₁.setTop (mkF m 27 #[.val (.int cc)] [(.int (48 : Int32)), (.int cc)])) _
              exact k
            by_cases hc27 : cc < (48 : Int32)
            · skip
              have pre37 : ∀ t, Steps p.tables e below (s₁.setTop (mkF m 39 #[.val (.int cc)] [(.int (95 : Int32)), (.int cc)])) t → Steps p.tables e below (s₁.setTop (entryFrame m #[(.int cc)] 1)) t := by
                intro t k
                refine pre36 t ?_
                refine XS.icmpYes X0.here hx rfl (pc0 := 27) (pc' := 36) rfl (hb hby d1_27) rfl (XT.ii_lt_t hc27) (by decide) (by decide) ?_
                show Steps p.tables e below (s₁.setTop (mkF m 36 #[.val (.int cc)] [])) _
                refine XS.iloadN X0.here hx rfl (hb hby d1_36) rfl ?_
                show Steps p.tables e below (s₁.setTop (mkF m 37 #[.val (.int cc)] [(.int cc)])) _
                refine XS.bipush X0.here hx rfl (hb hby d1_37) ?_
                show Steps p.tables e below (s₁.setTop (mkF m 39 #[.val (.int cc)] [(.int (95 : Int32)), (.int cc)])) _
                exact k
              by_cases hc39 : cc = (95 : Int32)
              · skip
                have pre38 : ∀ t, Steps p.tables e below (s₁.setTop (mkF m 47 #[.val (.int cc)] [(.int (1 : Int32))])) t → Steps p.tables e below (s₁.setTop (entryFrame m #[(.int cc)] 1)) t := by
                  intro t k
                  refine pre37 t ?_
                  refine XS.icmpNo X0.here hx rfl (hb hby d1_39) rfl (XT.ii_ne_f hc39) ?_
                  show Steps p.tables e below (s₁.setTop (mkF m 42 #[.val (.int cc)] [])) _
                  refine XS.iconst X0.here hx rfl (hb hby d1_42) ?_
                  show Steps p.tables e below (s₁.setTop (mkF m 43 #[.val (.int cc)] [(.int (1 : Int32))])) _
                  refine XS.goto X0.here hx rfl (pc0 := 43) (pc' := 47) rfl (hb hby d1_43) (by decide) (by decide) ?_
                  show Steps p.tables e below (s₁.setTop (mkF m 47 #[.val (.int cc)] [(.int (1 : Int32))])) _
                  exact k
                exact ⟨(1 : Int32), _, _, X0, N0, e0, (by first | (simp [own_bi, own_np, hc3, hc9, hc15, hc21, hc27, hc39]; done) | contradiction), pre38⟩
              · skip
                have pre39 : ∀ t, Steps p.tables e below (s₁.setTop (mkF m 47 #[.val (.int cc)] [(.int (0 : Int32))])) t → Steps p.tables e below (s₁.setTop (entryFrame m #[(.int cc)] 1)) t := by
                  intro t k
                  refine pre37 t ?_
                  refine XS.icmpYes X0.here hx rfl (pc0 := 39) (pc' := 46) rfl (hb hby d1_39) rfl (XT.ii_ne_t hc39) (by decide) (by decide) ?_
                  show Steps p.tables e below (s₁.setTop (mkF m 46 #[.val (.int cc)] [])) _
                  refine XS.iconst X0.here hx rfl (hb hby d1_46) ?_
                  show Steps p.tables e below (s₁.setTop (mkF m 47 #[.val (.int cc)] [(.int (0 : Int32))])) _
                  exact k
                exact ⟨(0 : Int32), _, _, X0, N0, e0, (by first | (simp [own_bi, own_np, hc3, hc9, hc15, hc21, hc27, hc39]; done) | contradiction), pre39⟩
            · skip
              have pre40 : ∀ t, Steps p.tables e below (s₁.setTop (mkF m 33 #[.val (.int cc)] [(.int (57 : Int32)), (.int cc)])) t → Steps p.tables e below (s₁.setTop (entryFrame m #[(.int cc)] 1)) t := by
                intro t k
                refine pre36 t ?_
                refine XS.icmpNo X0.here hx rfl (hb hby d1_27) rfl (XT.ii_lt_f hc27) ?_
                show Steps p.tables e below (s₁.setTop (mkF m 30 #[.val (.int cc)] [])) _
                refine XS.iloadN X0.here hx rfl (hb hby d1_30) rfl ?_
                show Steps p.tables e below (s₁.setTop (mkF m 31 #[.val (.int cc)] [(.int cc)])) _
                refine XS.bipush X0.here hx rfl (hb hby d1_31) ?_
                show Steps p.tables e below (s₁.setTop (mkF m 33 #[.val (.int cc)] [(.int (57 : Int32)), (.int cc)])) _
                exact k
              by_cases hc33 : (57 : Int32) < cc
              · skip
                have pre41 : ∀ t, Steps p.tables e below (s₁.setTop (mkF m 39 #[.val (.int cc)] [(.int (95 : Int32)), (.int cc)])) t → Steps p.tables e below (s₁.setTop (entryFrame m #[(.int cc)] 1)) t := by
                  intro t k
                  refine pre40 t ?_
                  refine XS.icmpNo X0.here hx rfl (hb hby d1_33) rfl (XT.ii_le_f hc33) ?_
                  show Steps p.tables e below (s₁.setTop (mkF m 36 #[.val (.int cc)] [])) _
                  refine XS.iloadN X0.here hx rfl (hb hby d1_36) rfl ?_
                  show Steps p.tables e below (s₁.setTop (mkF m 37 #[.val (.int cc)] [(.int cc)])) _
                  refine XS.bipush X0.here hx rfl (hb hby d1_37) ?_
                  show Steps p.tables e below (s₁.setTop (mkF m 39 #[.val (.int cc)] [(.int (95 : Int32)), (.int cc)])) _
                  exact k
                by_cases hc39 : cc = (95 : Int32)
                · skip
                  have pre42 : ∀ t, Steps p.tables e below (s₁.setTop (mkF m 47 #[.val (.int cc)] [(.int (1 : Int32))])) t → Steps p.tables e below (s₁.setTop (entryFrame m #[(.int cc)] 1)) t := by
                    intro t k
                    refine pre41 t ?_
                    refine XS.icmpNo X0.here hx rfl (hb hby d1_39) rfl (XT.ii_ne_f hc39) ?_
                    show Steps p.tables e below (s₁.setTop (mkF m 42 #[.val (.int cc)] [])) _
                    refine XS.iconst X0.here hx rfl (hb hby d1_42) ?_
                    show Steps p.tables e below (s₁.setTop (mkF m 43 #[.val (.int cc)] [(.int (1 : Int32))])) _
                    refine XS.goto X0.here hx rfl (pc0 := 43) (pc' := 47) rfl (hb hby d1_43) (by decide) (by decide) ?_
                    show Steps p.tables e below (s₁.setTop (mkF m 47 #[.val (.int cc)] [(.int (1 : Int32))])) _
                    exact k
                  exact ⟨(1 : Int32), _, _, X0, N0, e0, (by first | (simp [own_bi, own_np, hc3, hc9, hc15, hc21, hc27, hc33, hc39]; done) | contradiction), pre42⟩
                · skip
                  have pre43 : ∀ t, Steps p.tables e below (s₁.setTop (mkF m 47 #[.val (.int cc)] [(.int (0 : Int32))])) t → Steps p.tables e below (s₁.setTop (entryFrame m #[(.int cc)] 1)) t := by
                    intro t k
                    refine pre41 t ?_
                    refine XS.icmpYes X0.here hx rfl (pc0 := 39) (pc' := 46) rfl (hb hby d1_39) rfl (XT.ii_ne_t hc39) (by decide) (by decide) ?_
                    show Steps p.tables e below (s₁.setTop (mkF m 46 #[.val (.int cc)] [])) _
                    refine XS.iconst X0.here hx rfl (hb hby d1_46) ?_
                    show Steps p.tables e below (s₁.setTop (mkF m 47 #[.val (.int cc)] [(.int (0 : Int32))])) _
                    exact k
                  exact ⟨(0 : Int32), _, _, X0, N0, e0, (by first | (simp [own_bi, own_np, hc3, hc9, hc15, hc21, hc27, hc33, hc39]; done) | contradiction), pre43⟩
              · skip
                have pre44 : ∀ t, Steps p.tables e below (s₁.setTop (mkF m 47 #[.val (.int cc)] [(.int (1 : Int32))])) t → Steps p.tables e below (s₁.setTop (entryFrame m #[(.int cc)] 1)) t := by
                  intro t k
                  refine pre40 t ?_
                  refine XS.icmpYes X0.here hx rfl (pc0 := 33) (pc' := 42) rfl (hb hby d1_33) rfl (XT.ii_le_t hc33) (by decide) (by decide) ?_
                  show Steps p.tables e below (s₁.setTop (mkF m 42 #[.val (.int cc)] [])) _
                  refine XS.iconst X0.here hx rfl (hb hby d1_42) ?_
                  show Steps p.tables e below (s₁.setTop (mkF m 43 #[.val (.int cc)] [(.int (1 : Int32))])) _
                  refine XS.goto X0.here hx rfl (pc0 := 43) (pc' := 47) rfl (hb hby d1_43) (by decide) (by decide) ?_
                  show Steps p.tables e below (s₁.setTop (mkF m 47 #[.val (.int cc)] [(.int (1 : Int32))])) _
                  exact k
                exact ⟨(1 : Int32), _, _, X0, N0, e0, (by first | (simp [own_bi, own_np, hc3, hc9, hc15, hc21, hc27, hc33]; done) | contradiction), pre44⟩
          · skip
            have pre45 : ∀ t, Steps p.tables e below (s₁.setTop (mkF m 47 #[.val (.int cc)] [(.int (1 : Int32))])) t → Steps p.tables e below (s₁.setTop (entryFrame m #[(.int cc)] 1)) t := by
              intro t k
              refine pre35 t ?_
              refine XS.icmpYes X0.here hx rfl (pc0 := 21) (pc' := 42) rfl (hb hby d1_21) rfl (XT.ii_le_t hc21) (by decide) (by decide) ?_
              show Steps p.tables e below (s₁.setTop (mkF m 42 #[.val (.int cc)] [])) _
              refine XS.iconst X0.here hx rfl (hb hby d1_42) ?_
              show Steps p.tables e below (s₁.setTop (mkF m 43 #[.val (.int cc)] [(.int (1 : Int32))])) _
              refine XS.goto X0.here hx rfl (pc0 := 43) (pc' := 47) rfl (hb hby d1_43) (by decide) (by decide) ?_
              show Steps p.tables e below (s₁.setTop (mkF m 47 #[.val (.int cc)] [(.int (1 : Int32))])) _
              exact k
            exact ⟨(1 : Int32), _, _, X0, N0, e0, (by first | (simp [own_bi, own_np, hc3, hc9, hc15, hc21]; done) | contradiction), pre45⟩
      · skip
        have pre46 : ∀ t, Steps p.tables e below (s₁.setTop (mkF m 47 #[.val (.int cc)] [(.int (1 : Int32))])) t → Steps p.tables e below (s₁.setTop (entryFrame m #[(.int cc)] 1)) t := by
          intro t k
          refine pre24 t ?_
          refine XS.icmpYes X0.here hx rfl (pc0 := 9) (pc' := 42) rfl (hb hby d1_9) rfl (XT.ii_le_t hc9) (by decide) (by decide) ?_
          show Steps p.tables e below (s₁.setTop (mkF m 42 #[.val (.int cc)] [])) _
          refine XS.iconst X0.here hx rfl (hb hby d1_42) ?_
          show Steps p.tables e below (s₁.setTop (mkF m 43 #[.val (.int cc)] [(.int (1 : Int32))])) _
          refine XS.goto X0.here hx rfl (pc0 := 43) (pc' := 47) rfl (hb hby d1_43) (by decide) (by decide) ?_
          show Steps p.tables e below (s₁.setTop (mkF m 47 #[.val (.int cc)] [(.int (1 : Int32))])) _
          exact k
        exact ⟨(1 : Int32), _, _, X0, N0, e0, (by first | (simp [own_bi, own_np, hc3, hc9]; done) | contradiction), pre46⟩
  obtain ⟨b, T1, Lo1, X1, N1, e1, hb, pre1⟩ := mrg1
  subst hb
  obtain ⟨fs, hr, hrun, hended, hW, hsame⟩ := X1.leave (v := some (.int (own_bi (own_np cc)))) (fun h => by rw [Bd.returns] at h; cases h)
  refine ⟨_, _, pre1 _ ?_, hrun, hended, _, _, rfl, ?_, ⟨_, rfl⟩, hW, hsame.mono (by decide) (by decide)⟩
  · exact retOut X1 hx Bd.returns (own_narZ (own_bi_01 _)) (Or.inl ⟨rfl, by simp, _, rfl⟩) (hb hby d1_47) hr
  · show Q1 Z cc h0 n0 _ T1.heap _
    rw [e1]
    exact ⟨rfl, N1, rfl⟩
theorem pd_np : parseMethodDescriptor "(C)Z" = some ⟨[.char], some .boolean⟩ := by decide +kernel
theorem pn_law : plainName "com/example/hasselt/hasselt/values/SymbolValueIsNamePartPinLaw" = true := by first | (simp [plainName, overriddenIn]; done) | decide +kernel
theorem ef_law (m : MethodId) (p0 : Int32) (p1 : Int32) : entryFrame m #[(.int p0), (.int p1)] maxLocals = mkF m 0 #[.val (.int p0), .val (.int p1), .unset, .unset, .unset, .unset, .unset, .unset] [] := by first | (simp [entryFrame, mkF, argsToLocals, Value.category, maxLocals]; done) | rfl
def Qlaw (Z : State) (p0 : Int32) (p1 : Int32) (h0 : Heap) (n0 : Nat) (v : Option Value) (h : Heap) (L : List Loc) : Prop := v = some (.int (1 : Int32)) ∧ Fr n0 L
set_option maxRecDepth 65536 in
set_option maxHeartbeats 40000000 in
theorem rmlaw (l : Launch) (Z : State) (a0 : Array Value) (hw : ∀ d ∈ tables_1, d.before a0 Z = true) (ws : List Jvm.Cond) (p0 : Int32) (p1 : Int32) (h0 : Heap) (n0 : Nat) (Z0 : n0 ≤ h0.size) :
    MetFree l x (head1 (Jvm.Cond.code x code maxLocals ret :: ws) room_1) (fun a U => a = #[(.int p0), (.int p1)] ∧ Z.Warmed39 U.vm ∧ U.heap = h0) (fun _ _ _ _ _ => True) (fun _ U o U' => ∃ v L, o = .returned v ∧ Qlaw Z p0 p1 h0 n0 v U'.heap L ∧ FrameEnd U o U' L room_1.cells room_1.slots) := by
  refine MetFree.of_bodySF (plainFor_of_name pn_law) hisR ?_
  intro p e s m args below meth c s₁ Bd hml0 hP hK
  obtain ⟨rfl, hZ, hh⟩ := hP
  have hx := Bd.exec
  have hby := Bd.bytes
  have hml : c.maxLocals = 8 := hml0
  have hown : s.vm.findClass "com/example/hasselt/hasselt/values/SymbolValueIsNamePartPinLaw" = some m.cls := findClass_of_methodNamed Bd.named
  have hnm := (name_of_methodNamed Bd.named Bd.method).1
  have X0 : Stand p l e room_1 s m #[(.int p0), (.int p1)] below meth c s₁ [] 0 0 := Stand.of_body Bd
  have e0 : s₁.heap = h0 := by rw [← hh, Bd.state]; rfl
  have N0 := Fr.nil n0
  have pre0 : ∀ t, Steps p.tables e below (s₁.setTop (mkF m 0 #[.val (.int p0), .val (.int p1), .unset, .unset, .unset, .unset, .unset, .unset] [])) t → Steps p.tables e below (s₁.setTop (entryFrame m #[(.int p0), (.int p1)] maxLocals)) t := fun t k => castTop (ef_law m p0 p1) k
  have mrg1 : ∃ (cc : Int32) (T1 : State) (Lo1 : List Loc), Stand p l e room_1 s m #[(.int p0), (.int p1)] below meth c T1 Lo1 0 0 ∧ Fr n0 Lo1 ∧ T1.heap = h0 ∧ (¬ cc < 0) ∧ ∀ t, Steps p.tables e below (T1.setTop (mkF m 19 #[.val (.int p0), .val (.int p1), .unset, .unset, .unset, .unset, .unset, .unset] [(.int cc)])) t → Steps p.tables e below (s₁.setTop (entryFrame m #[(.int p0), (.int p1)] maxLocals)) t := by
    have pre2 : ∀ t, Steps p.tables e below (s₁.setTop (mkF m 3 #[.val (.int p0), .val (.int p1), .unset, .unset, .unset, .unset, .unset, .unset] [(.int (p1 &&& (1 : Int32)))])) t → Steps p.tables e below (s₁.setTop (entryFrame m #[(.int p0), (.int p1)] maxLocals)) t := by
      intro t k
      refine pre0 t ?_
      refine XS.iloadN X0.here hx rfl (hb hby at_0) rfl ?_
      show Steps p.tables e below (s₁.setTop (mkF m 1 #[.val (.int p0), .val (.int p1), .unset, .unset, .unset, .unset, .unset, .unset] [(.int p1)])) _
      refine XS.iconst X0.here hx rfl (hb hby at_1) ?_
      show Steps p.tables e below (s₁.setTop (mkF m 2 #[.val (.int p0), .val (.int p1), .unset, .unset, .unset, .unset, .unset, .unset] [(.int (1 : Int32)), (.int p1)])) _
      refine XS.iand X0.here hx rfl (hb hby at_2) rfl ?_
      show Steps p.tables e below (s₁.setTop (mkF m 3 #[.val (.int p0), .val (.int p1), .unset, .unset, .unset, .unset, .unset, .unset] [(.int (p1 &&& (1 : Int32)))])) _
      exact k
    by_cases hc3 : (p1 &&& (1 : Int32)) = (0 : Int32)
    · skip
      have pre3 : ∀ t, Steps p.tables e below (s₁.setTop (mkF m 19 #[.val (.int p0), .val (.int p1), .unset, .unset, .unset, .unset, .unset, .unset] [(.int ((p0 &&& (65535 : Int32)).toUInt32.toUInt16.toUInt32.toInt32))])) t → Steps p.tables e below (s₁.setTop (entryFrame m #[(.int p0), (.int p1)] maxLocals)) t := by
        intro t k
        refine pre2 t ?_
        refine XS.ifYes X0.here hx rfl (pc0 := 3) (pc' := 14) rfl (hb hby at_3) rfl (XT.i0_eq_t hc3) (by decide) (by decide) ?_
        show Steps p.tables e below (s₁.setTop (mkF m 14 #[.val (.int p0), .val (.int p1), .unset, .unset, .unset, .unset, .unset, .unset] [])) _
        refine XS.iloadN X0.here hx rfl (hb hby at_14) rfl ?_
        show Steps p.tables e below (s₁.setTop (mkF m 15 #[.val (.int p0), .val (.int p1), .unset, .unset, .unset, .unset, .unset, .unset] [(.int p0)])) _
        refine Stand.ldcI X0 hx hown (mvT hZ (hw _ (List.mem_of_getElem? (i := 4) rfl))) rfl (hb hby at_15) ?_
        show Steps p.tables e below (s₁.setTop (mkF m 17 #[.val (.int p0), .val (.int p1), .unset, .unset, .unset, .unset, .unset, .unset] [(.int (65535 : Int32)), (.int p0)])) _
        refine XS.iand X0.here hx rfl (hb hby at_17) rfl ?_
        show Steps p.tables e below (s₁.setTop (mkF m 18 #[.val (.int p0), .val (.int p1), .unset, .unset, .unset, .unset, .unset, .unset] [(.int (p0 &&& (65535 : Int32)))])) _
        refine XT.i2c X0.here hx rfl (hb hby at_18) rfl ?_
        show Steps p.tables e below (s₁.setTop (mkF m 19 #[.val (.int p0), .val (.int p1), .unset, .unset, .unset, .unset, .unset, .unset] [(.int ((p0 &&& (65535 : Int32)).toUInt32.toUInt16.toUInt32.toInt32))])) _
        exact k
      exact ⟨((p0 &&& (65535 : Int32)).toUInt32.toUInt16.toUInt32.toInt32), _, _, X0, N0, e0, (by exact own_nn), pre3⟩
    · skip
      have pre4 : ∀ t, Steps p.tables e below (s₁.setTop (mkF m 19 #[.val (.int p0), .val (.int p1), .unset, .unset, .unset, .unset, .unset, .unset] [(.int ((p0 &&& (127 : Int32)).toUInt32.toUInt16.toUInt32.toInt32))])) t → Steps p.tables e below (s₁.setTop (entryFrame m #[(.int p0), (.int p1)] maxLocals)) t := by
        intro t k
        refine pre2 t ?_
        refine XS.ifNo X0.here hx rfl (hb hby at_3) rfl (XT.i0_eq_f hc3) ?_
        show Steps p.tables e below (s₁.setTop (mkF m 6 #[.val (.int p0), .val (.int p1), .unset, .unset, .unset, .unset, .unset, .unset] [])) _
        refine XS.iloadN X0.here hx rfl (hb hby at_6) rfl ?_
        show Steps p.tables e below (s₁.setTop (mkF m 7 #[.val (.int p0), .val (.int p1), .unset, .unset, .unset, .unset, .unset, .unset] [(.int p0)])) _
        refine XS.bipush X0.here hx rfl (hb hby at_7) ?_
        show Steps p.tables e below (s₁.setTop (mkF m 9 #[.val (.int p0), .val (.int p1), .unset, .unset, .unset, .unset, .unset, .unset] [(.int (127 : Int32)), (.int p0)])) _
        refine XS.iand X0.here hx rfl (hb hby at_9) rfl ?_
        show Steps p.tables e below (s₁.setTop (mkF m 10 #[.val (.int p0), .val (.int p1), .unset, .unset, .unset, .unset, .unset, .unset] [(.int (p0 &&& (127 : Int32)))])) _
        refine XT.i2c X0.here hx rfl (hb hby at_10) rfl ?_
        show Steps p.tables e below (s₁.setTop (mkF m 11 #[.val (.int p0), .val (.int p1), .unset, .unset, .unset, .unset, .unset, .unset] [(.int ((p0 &&& (127 : Int32)).toUInt32.toUInt16.toUInt32.toInt32))])) _
        refine XS.goto X0.here hx rfl (pc0 := 11) (pc' := 19) rfl (hb hby at_11) (by decide) (by decide) ?_
        show Steps p.tables e below (s₁.setTop (mkF m 19 #[.val (.int p0), .val (.int p1), .unset, .unset, .unset, .unset, .unset, .unset] [(.int ((p0 &&& (127 : Int32)).toUInt32.toUInt16.toUInt32.toInt32))])) _
        exact k
      exact ⟨((p0 &&& (127 : Int32)).toUInt32.toUInt16.toUInt32.toInt32), _, _, X0, N0, e0, (by exact own_nn), pre4⟩
  obtain ⟨cc, T1, Lo1, X1, N1, e1, hcc, pre1⟩ := mrg1
  have pre5 : ∀ t, Steps p.tables e below (T1.setTop (mkF m 25 #[.val (.int p0), .val (.int p1), .val (.int cc), .val (.int (cc ||| (32 : Int32))), .unset, .unset, .unset, .unset] [])) t → Steps p.tables e below (s₁.setTop (entryFrame m #[(.int p0), (.int p1)] maxLocals)) t := by
    intro t k
    refine pre1 t ?_
    refine XS.istoreN X1.here hx rfl (hb hby at_19) rfl (l' := #[.val (.int p0), .val (.int p1), .val (.int cc), .unset, .unset, .unset, .unset, .unset]) rfl ?_
    show Steps p.tables e below (T1.setTop (mkF m 20 #[.val (.int p0), .val (.int p1), .val (.int cc), .unset, .unset, .unset, .unset, .unset] [])) _
    refine XS.iloadN X1.here hx rfl (hb hby at_20) rfl ?_
    show Steps p.tables e below (T1.setTop (mkF m 21 #[.val (.int p0), .val (.int p1), .val (.int cc), .unset, .unset, .unset, .unset, .unset] [(.int cc)])) _
    refine XS.bipush X1.here hx rfl (hb hby at_21) ?_
    show Steps p.tables e below (T1.setTop (mkF m 23 #[.val (.int p0), .val (.int p1), .val (.int cc), .unset, .unset, .unset, .unset, .unset] [(.int (32 : Int32)), (.int cc)])) _
    refine XT.ior X1.here hx rfl (hb hby at_23) rfl ?_
    show Steps p.tables e below (T1.setTop (mkF m 24 #[.val (.int p0), .val (.int p1), .val (.int cc), .unset, .unset, .unset, .unset, .unset] [(.int (cc ||| (32 : Int32)))])) _
    refine XS.istoreN X1.here hx rfl (hb hby at_24) rfl (l' := #[.val (.int p0), .val (.int p1), .val (.int cc), .val (.int (cc ||| (32 : Int32))), .unset, .unset, .unset, .unset]) rfl ?_
    show Steps p.tables e below (T1.setTop (mkF m 25 #[.val (.int p0), .val (.int p1), .val (.int cc), .val (.int (cc ||| (32 : Int32))), .unset, .unset, .unset, .unset] [])) _
    exact k
  obtain ⟨f, hn_f, pre6⟩ : ∃ f : Int32, f = (cc ||| (32 : Int32)) ∧ ∀ t, Steps p.tables e below (T1.setTop (mkF m 25 #[.val (.int p0), .val (.int p1), .val (.int cc), .val (.int f), .unset, .unset, .unset, .unset] [])) t → Steps p.tables e below (s₁.setTop (entryFrame m #[(.int p0), (.int p1)] maxLocals)) t := ⟨_, rfl, pre5⟩
  have mrg7 : ∃ (L : Int32) (T7 : State) (Lo7 : List Loc), Stand p l e room_1 s m #[(.int p0), (.int p1)] below meth c T7 Lo7 0 0 ∧ Fr n0 Lo7 ∧ T7.heap = h0 ∧ (L = own_bi (¬ f < 97 ∧ ¬ 122 < f)) ∧ ∀ t, Steps p.tables e below (T7.setTop (mkF m 42 #[.val (.int p0), .val (.int p1), .val (.int cc), .val (.int f), .unset, .unset, .unset, .unset] [(.int L)])) t → Steps p.tables e below (s₁.setTop (entryFrame m #[(.int p0), (.int p1)] maxLocals)) t := by
    have pre8 : ∀ t, Steps p.tables e below (T1.setTop (mkF m 28 #[.val (.int p0), .val (.int p1), .val (.int cc), .val (.int f), .unset, .unset, .unset, .unset] [(.int (97 : Int32)), (.int f)])) t → Steps p.tables e below (s₁.setTop (entryFrame m #[(.int p0), (.int p1)] maxLocals)) t := by
      intro t k
      refine pre6 t ?_
      refine XS.iloadN X1.here hx rfl (hb hby at_25) rfl ?_
      show Steps p.tables e below (T1.setTop (mkF m 26 #[.val (.int p0), .val (.int p1), .val (.int cc), .val (.int f), .unset, .unset, .unset, .unset] [(.int f)])) _
      refine XS.bipush X1.here hx rfl (hb hby at_26) ?_
      show Steps p.tables e below (T1.setTop (mkF m 28 #[.val (.int p0), .val (.int p1), .val (.int cc), .val (.int f), .unset, .unset, .unset, .unset] [(.int (97 : Int32)), (.int f)])) _
      exact k
    by_cases hc28 : f < (97 : Int32)
    · skip
      have pre9 : ∀ t, Steps p.tables e below (T1.setTop (mkF m 42 #[.val (.int p0), .val (.int p1), .val (.int cc), .val (.int f), .unset, .unset, .unset, .unset] [(.int (0 : Int32))])) t → Steps p.tables e below (s₁.setTop (entryFrame m #[(.int p0), (.int p1)] maxLocals)) t := by
        intro t k
        refine pre8 t ?_
        refine XS.icmpYes X1.here hx rfl (pc0 := 28) (pc' := 41) rfl (hb hby at_28) rfl (XT.ii_lt_t hc28) (by decide) (by decide) ?_
        show Steps p.tables e below (T1.setTop (mkF m 41 #[.val (.int p0), .val (.int p1), .val (.int cc), .val (.int f), .unset, .unset, .unset, .unset] [])) _
        refine XS.iconst X1.here hx rfl (hb hby at_41) ?_
        show Steps p.tables e below (T1.setTop (mkF m 42 #[.val (.int p0), .val (.int p1), .val (.int cc), .val (.int f), .unset, .unset, .unset, .unset] [(.int (0 : Int32))])) _
        exact k
      exact ⟨(0 : Int32), _, _, X1, N1, e1, (by first | (simp [own_bi, hc28]; done) | contradiction), pre9⟩
    · skip
      have pre10 : ∀ t, Steps p.tables e below (T1.setTop (mkF m 34 #[.val (.int p0), .val (.int p1), .val (.int cc), .val (.int f), .unset, .unset, .unset, .unset] [(.int (122 : Int32)), (.int f)])) t → Steps p.tables e below (s₁.setTop (entryFrame m #[(.int p0), (.int p1)] maxLocals)) t := by
        intro t k
        refine pre8 t ?_
        refine XS.icmpNo X1.here hx rfl (hb hby at_28) rfl (XT.ii_lt_f hc28) ?_
        show Steps p.tables e below (T1.setTop (mkF m 31 #[.val (.int p0), .val (.int p1), .val (.int cc), .val (.int f), .unset, .unset, .unset, .unset] [])) _
        refine XS.iloadN X1.here hx rfl (hb hby at_31) rfl ?_
        show Steps p.tables e below (T1.setTop (mkF m 32 #[.val (.int p0), .val (.int p1), .val (.int cc), .val (.int f), .unset, .unset, .unset, .unset] [(.int f)])) _
        refine XS.bipush X1.here hx rfl (hb hby at_32) ?_
        show Steps p.tables e below (T1.setTop (mkF m 34 #[.val (.int p0), .val (.int p1), .val (.int cc), .val (.int f), .unset, .unset, .unset, .unset] [(.int (122 : Int32)), (.int f)])) _
        exact k
      by_cases hc34 : (122 : Int32) < f
      · skip
        have pre11 : ∀ t, Steps p.tables e below (T1.setTop (mkF m 42 #[.val (.int p0), .val (.int p1), .val (.int cc), .val (.int f), .unset, .unset, .unset, .unset] [(.int (0 : Int32))])) t → Steps p.tables e below (s₁.setTop (entryFrame m #[(.int p0), (.int p1)] maxLocals)) t := by
          intro t k
          refine pre10 t ?_
          refine XS.icmpYes X1.here hx rfl (pc0 := 34) (pc' := 41) rfl (hb hby at_34) rfl (XT.ii_gt_t hc34) (by decide) (by decide) ?_
          show Steps p.tables e below (T1.setTop (mkF m 41 #[.val (.int p0), .val (.int p1), .val (.int cc), .val (.int f), .unset, .unset, .unset, .unset] [])) _
          refine XS.iconst X1.here hx rfl (hb hby at_41) ?_
          show Steps p.tables e below (T1.setTop (mkF m 42 #[.val (.int p0), .val (.int p1), .val (.int cc), .val (.int f), .unset, .unset, .unset, .unset] [(.int (0 : Int32))])) _
          exact k
        exact ⟨(0 : Int32), _, _, X1, N1, e1, (by first | (simp [own_bi, hc28, hc34]; done) | contradiction), pre11⟩
      · skip
        have pre12 : ∀ t, Steps p.tables e below (T1.setTop (mkF m 42 #[.val (.int p0), .val (.int p1), .val (.int cc), .val (.int f), .unset, .unset, .unset, .unset] [(.int (1 : Int32))])) t → Steps p.tables e below (s₁.setTop (entryFrame m #[(.int p0), (.int p1)] maxLocals)) t := by
          intro t k
          refine pre10 t ?_
          refine XS.icmpNo X1.here hx rfl (hb hby at_34) rfl (XT.ii_gt_f hc34) ?_
          show Steps p.tables e below (T1.setTop (mkF m 37 #[.val (.int p0), .val (.int p1), .val (.int cc), .val (.int f), .unset, .unset, .unset, .unset] [])) _
          refine XS.iconst X1.here hx rfl (hb hby at_37) ?_
          show Steps p.tables e below (T1.setTop (mkF m 38 #[.val (.int p0), .val (.int p1), .val (.int cc), .val (.int f), .unset, .unset, .unset, .unset] [(.int (1 : Int32))])) _
          refine XS.goto X1.here hx rfl (pc0 := 38) (pc' := 42) rfl (hb hby at_38) (by decide) (by decide) ?_
          show Steps p.tables e below (T1.setTop (mkF m 42 #[.val (.int p0), .val (.int p1), .val (.int cc), .val (.int f), .unset, .unset, .unset, .unset] [(.int (1 : Int32))])) _
          exact k
        exact ⟨(1 : Int32), _, _, X1, N1, e1, (by first | (simp [own_bi, hc28, hc34]; done) | contradiction), pre12⟩
  obtain ⟨L, T7, Lo7, X7, N7, e7, hL, pre7⟩ := mrg7
  have pre13 : ∀ t, Steps p.tables e below (T7.setTop (mkF m 44 #[.val (.int p0), .val (.int p1), .val (.int cc), .val (.int f), .val (.int L), .unset, .unset, .unset] [])) t → Steps p.tables e below (s₁.setTop (entryFrame m #[(.int p0), (.int p1)] maxLocals)) t := by
    intro t k
    refine pre7 t ?_
    refine XS.istore X7.here hx rfl (hb hby at_42) rfl (l' := #[.val (.int p0), .val (.int p1), .val (.int cc), .val (.int f), .val (.int L), .unset, .unset, .unset]) rfl ?_
    show Steps p.tables e below (T7.setTop (mkF m 44 #[.val (.int p0), .val (.int p1), .val (.int cc), .val (.int f), .val (.int L), .unset, .unset, .unset] [])) _
    exact k
  have mrg14 : ∃ (D : Int32) (T14 : State) (Lo14 : List Loc), Stand p l e room_1 s m #[(.int p0), (.int p1)] below meth c T14 Lo14 0 0 ∧ Fr n0 Lo14 ∧ T14.heap = h0 ∧ (D = own_bi (¬ cc < 48 ∧ ¬ 57 < cc)) ∧ ∀ t, Steps p.tables e below (T14.setTop (mkF m 61 #[.val (.int p0), .val (.int p1), .val (.int cc), .val (.int f), .val (.int L), .unset, .unset, .unset] [(.int D)])) t → Steps p.tables e below (s₁.setTop (entryFrame m #[(.int p0), (.int p1)] maxLocals)) t := by
    have pre15 : ∀ t, Steps p.tables e below (T7.setTop (mkF m 47 #[.val (.int p0), .val (.int p1), .val (.int cc), .val (.int f), .val (.int L), .unset, .unset, .unset] [(.int (48 : Int32)), (.int cc)])) t → Steps p.tables e below (s₁.setTop (entryFrame m #[(.int p0), (.int p1)] maxLocals)) t := by
      intro t k
      refine pre13 t ?_
      refine XS.iloadN X7.here hx rfl (hb hby at_44) rfl ?_
      show Steps p.tables e below (T7.setTop (mkF m 45 #[.val (.int p0), .val (.int p1), .val (.int cc), .val (.int f), .val (.int L), .unset, .unset, .unset] [(.int cc)])) _
      refine XS.bipush X7.here hx rfl (hb hby at_45) ?_
      show Steps p.tables e below (T7.setTop (mkF m 47 #[.val (.int p0), .val (.int p1), .val (.int cc), .val (.int f), .val (.int L), .unset, .unset, .unset] [(.int (48 : Int32)), (.int cc)])) _
      exact k
    by_cases hc47 : cc < (48 : Int32)
    · skip
      have pre16 : ∀ t, Steps p.tables e below (T7.setTop (mkF m 61 #[.val (.int p0), .val (.int p1), .val (.int cc), .val (.int f), .val (.int L), .unset, .unset, .unset] [(.int (0 : Int32))])) t → Steps p.tables e below (s₁.setTop (entryFrame m #[(.int p0), (.int p1)] maxLocals)) t := by
        intro t k
        refine pre15 t ?_
        refine XS.icmpYes X7.here hx rfl (pc0 := 47) (pc' := 60) rfl (hb hby at_47) rfl (XT.ii_lt_t hc47) (by decide) (by decide) ?_
        show Steps p.tables e below (T7.setTop (mkF m 60 #[.val (.int p0), .val (.int p1), .val (.int cc), .val (.int f), .val (.int L), .unset, .unset, .unset] [])) _
        refine XS.iconst X7.here hx rfl (hb hby at_60) ?_
        show Steps p.tables e below (T7.setTop (mkF m 61 #[.val (.int p0), .val (.int p1), .val (.int cc), .val (.int f), .val (.int L), .unset, .unset, .unset] [(.int (0 : Int32))])) _
        exact k
      exact ⟨(0 : Int32), _, _, X7, N7, e7, (by first | (simp [own_bi, hc47]; done) | contradiction), pre16⟩
    · skip
      have pre17 : ∀ t, Steps p.tables e below (T7.setTop (mkF m 53 #[.val (.int p0), .val (.int p1), .val (.int cc), .val (.int f), .val (.int L), .unset, .unset, .unset] [(.int (57 : Int32)), (.int cc)])) t → Steps p.tables e below (s₁.setTop (entryFrame m #[(.int p0), (.int p1)] maxLocals)) t := by
        intro t k
        refine pre15 t ?_
        refine XS.icmpNo X7.here hx rfl (hb hby at_47) rfl (XT.ii_lt_f hc47) ?_
        show Steps p.tables e below (T7.setTop (mkF m 50 #[.val (.int p0), .val (.int p1), .val (.int cc), .val (.int f), .val (.int L), .unset, .unset, .unset] [])) _
        refine XS.iloadN X7.here hx rfl (hb hby at_50) rfl ?_
        show Steps p.tables e below (T7.setTop (mkF m 51 #[.val (.int p0), .val (.int p1), .val (.int cc), .val (.int f), .val (.int L), .unset, .unset, .unset] [(.int cc)])) _
        refine XS.bipush X7.here hx rfl (hb hby at_51) ?_
        show Steps p.tables e below (T7.setTop (mkF m 53 #[.val (.int p0), .val (.int p1), .val (.int cc), .val (.int f), .val (.int L), .unset, .unset, .unset] [(.int (57 : Int32)), (.int cc)])) _
        exact k
      by_cases hc53 : (57 : Int32) < cc
      · skip
        have pre18 : ∀ t, Steps p.tables e below (T7.setTop (mkF m 61 #[.val (.int p0), .val (.int p1), .val (.int cc), .val (.int f), .val (.int L), .unset, .unset, .unset] [(.int (0 : Int32))])) t → Steps p.tables e below (s₁.setTop (entryFrame m #[(.int p0), (.int p1)] maxLocals)) t := by
          intro t k
          refine pre17 t ?_
          refine XS.icmpYes X7.here hx rfl (pc0 := 53) (pc' := 60) rfl (hb hby at_53) rfl (XT.ii_gt_t hc53) (by decide) (by decide) ?_
          show Steps p.tables e below (T7.setTop (mkF m 60 #[.val (.int p0), .val (.int p1), .val (.int cc), .val (.int f), .val (.int L), .unset, .unset, .unset] [])) _
          refine XS.iconst X7.here hx rfl (hb hby at_60) ?_
          show Steps p.tables e below (T7.setTop (mkF m 61 #[.val (.int p0), .val (.int p1), .val (.int cc), .val (.int f), .val (.int L), .unset, .unset, .unset] [(.int (0 : Int32))])) _
          exact k
        exact ⟨(0 : Int32), _, _, X7, N7, e7, (by first | (simp [own_bi, hc47, hc53]; done) | contradiction), pre18⟩
      · skip
        have pre19 : ∀ t, Steps p.tables e below (T7.setTop (mkF m 61 #[.val (.int p0), .val (.int p1), .val (.int cc), .val (.int f), .val (.int L), .unset, .unset, .unset] [(.int (1 : Int32))])) t → Steps p.tables e below (s₁.setTop (entryFrame m #[(.int p0), (.int p1)] maxLocals)) t := by
          intro t k
          refine pre17 t ?_
          refine XS.icmpNo X7.here hx rfl (hb hby at_53) rfl (XT.ii_gt_f hc53) ?_
          show Steps p.tables e below (T7.setTop (mkF m 56 #[.val (.int p0), .val (.int p1), .val (.int cc), .val (.int f), .val (.int L), .unset, .unset, .unset] [])) _
          refine XS.iconst X7.here hx rfl (hb hby at_56) ?_
          show Steps p.tables e below (T7.setTop (mkF m 57 #[.val (.int p0), .val (.int p1), .val (.int cc), .val (.int f), .val (.int L), .unset, .unset, .unset] [(.int (1 : Int32))])) _
          refine XS.goto X7.here hx rfl (pc0 := 57) (pc' := 61) rfl (hb hby at_57) (by decide) (by decide) ?_
          show Steps p.tables e below (T7.setTop (mkF m 61 #[.val (.int p0), .val (.int p1), .val (.int cc), .val (.int f), .val (.int L), .unset, .unset, .unset] [(.int (1 : Int32))])) _
          exact k
        exact ⟨(1 : Int32), _, _, X7, N7, e7, (by first | (simp [own_bi, hc47, hc53]; done) | contradiction), pre19⟩
  obtain ⟨D, T14, Lo14, X14, N14, e14, hD, pre14⟩ := mrg14
  have pre20 : ∀ t, Steps p.tables e below (T14.setTop (mkF m 63 #[.val (.int p0), .val (.int p1), .val (.int cc), .val (.int f), .val (.int L), .val (.int D), .unset, .unset] [])) t → Steps p.tables e below (s₁.setTop (entryFrame m #[(.int p0), (.int p1)] maxLocals)) t := by
    intro t k
    refine pre14 t ?_
    refine XS.istore X14.here hx rfl (hb hby at_61) rfl (l' := #[.val (.int p0), .val (.int p1), .val (.int cc), .val (.int f), .val (.int L), .val (.int D), .unset, .unset]) rfl ?_
    show Steps p.tables e below (T14.setTop (mkF m 63 #[.val (.int p0), .val (.int p1), .val (.int cc), .val (.int f), .val (.int L), .val (.int D), .unset, .unset] [])) _
    exact k
  have mrg21 : ∃ (U : Int32) (T21 : State) (Lo21 : List Loc), Stand p l e room_1 s m #[(.int p0), (.int p1)] below meth c T21 Lo21 0 0 ∧ Fr n0 Lo21 ∧ T21.heap = h0 ∧ (U = own_bi (cc = 95)) ∧ ∀ t, Steps p.tables e below (T21.setTop (mkF m 74 #[.val (.int p0), .val (.int p1), .val (.int cc), .val (.int f), .val (.int L), .val (.int D), .unset, .unset] [(.int U)])) t → Steps p.tables e below (s₁.setTop (entryFrame m #[(.int p0), (.int p1)] maxLocals)) t := by
    have pre22 : ∀ t, Steps p.tables e below (T14.setTop (mkF m 66 #[.val (.int p0), .val (.int p1), .val (.int cc), .val (.int f), .val (.int L), .val (.int D), .unset, .unset] [(.int (95 : Int32)), (.int cc)])) t → Steps p.tables e below (s₁.setTop (entryFrame m #[(.int p0), (.int p1)] maxLocals)) t := by
      intro t k
      refine pre20 t ?_
      refine XS.iloadN X14.here hx rfl (hb hby at_63) rfl ?_
      show Steps p.tables e below (T14.setTop (mkF m 64 #[.val (.int p0), .val (.int p1), .val (.int cc), .val (.int f), .val (.int L), .val (.int D), .unset, .unset] [(.int cc)])) _
      refine XS.bipush X14.here hx rfl (hb hby at_64) ?_
      show Steps p.tables e below (T14.setTop (mkF m 66 #[.val (.int p0), .val (.int p1), .val (.int cc), .val (.int f), .val (.int L), .val (.int D), .unset, .unset] [(.int (95 : Int32)), (.int cc)])) _
      exact k
    by_cases hc66 : cc = (95 : Int32)
    · skip
      have pre23 : ∀ t, Steps p.tables e below (T14.setTop (mkF m 74 #[.val (.int p0), .val (.int p1), .val (.int cc), .val (.int f), .val (.int L), .val (.int D), .unset, .unset] [(.int (1 : Int32))])) t → Steps p.tables e below (s₁.setTop (entryFrame m #[(.int p0), (.int p1)] maxLocals)) t := by
        intro t k
        refine pre22 t ?_
        refine XS.icmpNo X14.here hx rfl (hb hby at_66) rfl (XT.ii_ne_f hc66) ?_
        show Steps p.tables e below (T14.setTop (mkF m 69 #[.val (.int p0), .val (.int p1), .val (.int cc), .val (.int f), .val (.int L), .val (.int D), .unset, .unset] [])) _
        refine XS.iconst X14.here hx rfl (hb hby at_69) ?_
        show Steps p.tables e below (T14.setTop (mkF m 70 #[.val (.int p0), .val (.int p1), .val (.int cc), .val (.int f), .val (.int L), .val (.int D), .unset, .unset] [(.int (1 : Int32))])) _
        refine XS.goto X14.here hx rfl (pc0 := 70) (pc' := 74) rfl (hb hby at_70) (by decide) (by decide) ?_
        show Steps p.tables e below (T14.setTop (mkF m 74 #[.val (.int p0), .val (.int p1), .val (.int cc), .val (.int f), .val (.int L), .val (.int D), .unset, .unset] [(.int (1 : Int32))])) _
        exact k
      exact ⟨(1 : Int32), _, _, X14, N14, e14, (by first | (simp [own_bi, hc66]; done) | contradiction), pre23⟩
    · skip
      have pre24 : ∀ t, Steps p.tables e below (T14.setTop (mkF m 74 #[.val (.int p0), .val (.int p1), .val (.int cc), .val (.int f), .val (.int L), .val (.int D), .unset, .unset] [(.int (0 : Int32))])) t → Steps p.tables e below (s₁.setTop (entryFrame m #[(.int p0), (.int p1)] maxLocals)) t := by
        intro t k
        refine pre22 t ?_
        refine XS.icmpYes X14.here hx rfl (pc0 := 66) (pc' := 73) rfl (hb hby at_66) rfl (XT.ii_ne_t hc66) (by decide) (by decide) ?_
        show Steps p.tables e below (T14.setTop (mkF m 73 #[.val (.int p0), .val (.int p1), .val (.int cc), .val (.int f), .val (.int L), .val (.int D), .unset, .unset] [])) _
        refine XS.iconst X14.here hx rfl (hb hby at_73) ?_
        show Steps p.tables e below (T14.setTop (mkF m 74 #[.val (.int p0), .val (.int p1), .val (.int cc), .val (.int f), .val (.int L), .val (.int D), .unset, .unset] [(.int (0 : Int32))])) _
        exact k
      exact ⟨(0 : Int32), _, _, X14, N14, e14, (by first | (simp [own_bi, hc66]; done) | contradiction), pre24⟩
  obtain ⟨U, T21, Lo21, X21, N21, e21, hU, pre21⟩ := mrg21
  have pre25 : ∀ t, Steps p.tables e below (T21.setTop (mkF m 76 #[.val (.int p0), .val (.int p1), .val (.int cc), .val (.int f), .val (.int L), .val (.int D), .val (.int U), .unset] [])) t → Steps p.tables e below (s₁.setTop (entryFrame m #[(.int p0), (.int p1)] maxLocals)) t := by
    intro t k
    refine pre21 t ?_
    refine XS.istore X21.here hx rfl (hb hby at_74) rfl (l' := #[.val (.int p0), .val (.int p1), .val (.int cc), .val (.int f), .val (.int L), .val (.int D), .val (.int U), .unset]) rfl ?_
    show Steps p.tables e below (T21.setTop (mkF m 76 #[.val (.int p0), .val (.int p1), .val (.int cc), .val (.int f), .val (.int L), .val (.int D), .val (.int U), .unset] [])) _
    exact k
  have mrg26 : ∃ (ex : Int32) (T26 : State) (Lo26 : List Loc), Stand p l e room_1 s m #[(.int p0), (.int p1)] below meth c T26 Lo26 0 0 ∧ Fr n0 Lo26 ∧ T26.heap = h0 ∧ (ex = own_bi (¬ L = 0 ∨ ¬ D = 0 ∨ ¬ U = 0)) ∧ ∀ t, Steps p.tables e below (T26.setTop (mkF m 96 #[.val (.int p0), .val (.int p1), .val (.int cc), .val (.int f), .val (.int L), .val (.int D), .val (.int U), .unset] [(.int ex)])) t → Steps p.tables e below (s₁.setTop (entryFrame m #[(.int p0), (.int p1)] maxLocals)) t := by
    have pre27 : ∀ t, Steps p.tables e below (T21.setTop (mkF m 78 #[.val (.int p0), .val (.int p1), .val (.int cc), .val (.int f), .val (.int L), .val (.int D), .val (.int U), .unset] [(.int L)])) t → Steps p.tables e below (s₁.setTop (entryFrame m #[(.int p0), (.int p1)] maxLocals)) t := by
      intro t k
      refine pre25 t ?_
      refine XS.iload X21.here hx rfl (hb hby at_76) rfl ?_
      show Steps p.tables e below (T21.setTop (mkF m 78 #[.val (.int p0), .val (.int p1), .val (.int cc), .val (.int f), .val (.int L), .val (.int D), .val (.int U), .unset] [(.int L)])) _
      exact k
    by_cases hc78 : L = (0 : Int32)
    · skip
      have pre28 : ∀ t, Steps p.tables e below (T21.setTop (mkF m 83 #[.val (.int p0), .val (.int p1), .val (.int cc), .val (.int f), .val (.int L), .val (.int D), .val (.int U), .unset] [(.int D)])) t → Steps p.tables e below (s₁.setTop (entryFrame m #[(.int p0), (.int p1)] maxLocals)) t := by
        intro t k
        refine pre27 t ?_
        refine XS.ifNo X21.here hx rfl (hb hby at_78) rfl (XT.i0_ne_f hc78) ?_
        show Steps p.tables e below (T21.setTop (mkF m 81 #[.val (.int p0), .val (.int p1), .val (.int cc), .val (.int f), .val (.int L), .val (.int D), .val (.int U), .unset] [])) _
        refine XS.iload X21.here hx rfl (hb hby at_81) rfl ?_
        show Steps p.tables e below (T21.setTop (mkF m 83 #[.val (.int p0), .val (.int p1), .val (.int cc), .val (.int f), .val (.int L), .val (.int D), .val (.int U), .unset] [(.int D)])) _
        exact k
      by_cases hc83 : D = (0 : Int32)
      · skip
        have pre29 : ∀ t, Steps p.tables e below (T21.setTop (mkF m 88 #[.val (.int p0), .val (.int p1), .val (.int cc), .val (.int f), .val (.int L), .val (.int D), .val (.int U), .unset] [(.int U)])) t → Steps p.tables e below (s₁.setTop (entryFrame m #[(.int p0), (.int p1)] maxLocals)) t := by
          intro t k
          refine pre28 t ?_
          refine XS.ifNo X21.here hx rfl (hb hby at_83) rfl (XT.i0_ne_f hc83) ?_
          show Steps p.tables e below (T21.setTop (mkF m 86 #[.val (.int p0), .val (.int p1), .val (.int cc), .val (.int f), .val (.int L), .val (.int D), .val (.int U), .unset] [])) _
          refine XS.iload X21.here hx rfl (hb hby at_86) rfl ?_
          show Steps p.tables e below (T21.setTop (mkF m 88 #[.val (.int p0), .val (.int p1), .val (.int cc), .val (.int f), .val (.int L), .val (.int D), .val (.int U), .unset] [(.int U)])) _
          exact k
        by_cases hc88 : U = (0 : Int32)
        · skip
          have pre30 : ∀ t, Steps p.tables e below (T21.setTop (mkF m 96 #[.val (.int p0), .val (.int p1), .val (.int cc), .val (.int f), .val (.int L), .val (.int D), .val (.int U), .unset] [(.int (0 : Int32))])) t → Steps p.tables e below (s₁.setTop (entryFrame m #[(.int p0), (.int p1)] maxLocals)) t := by
            intro t k
            refine pre29 t ?_
            refine XS.ifYes X21.here hx rfl (pc0 := 88) (pc' := 95) rfl (hb hby at_88) rfl (XT.i0_eq_t hc88) (by decide) (by decide) ?_
            show Steps p.tables e below (T21.setTop (mkF m 95 #[.val (.int p0), .val (.int p1), .val (.int cc), .val (.int f), .val (.int L), .val (.int D), .val (.int U), .unset] [])) _
            refine XS.iconst X21.here hx rfl (hb hby at_95) ?_
            show Steps p.tables e below (T21.setTop (mkF m 96 #[.val (.int p0), .val (.int p1), .val (.int cc), .val (.int f), .val (.int L), .val (.int D), .val (.int U), .unset] [(.int (0 : Int32))])) _
            exact k
          exact ⟨(0 : Int32), _, _, X21, N21, e21, (by first | (simp [own_bi, hc78, hc83, hc88]; done) | contradiction), pre30⟩
        · skip
          have pre31 : ∀ t, Steps p.tables e below (T21.setTop (mkF m 96 #[.val (.int p0), .val (.int p1), .val (.int cc), .val (.int f), .val (.int L), .val (.int D), .val (.int U), .unset] [(.int (1 : Int32))])) t → Steps p.tables e below (s₁.setTop (entryFrame m #[(.int p0), (.int p1)] maxLocals)) t := by
            intro t k
            refine pre29 t ?_
            refine XS.ifNo X21.here hx rfl (hb hby at_88) rfl (XT.i0_eq_f hc88) ?_
            show Steps p.tables e below (T21.setTop (mkF m 91 #[.val (.int p0), .val (.int p1), .val (.int cc), .val (.int f), .val (.int L), .val (.int D), .val (.int U), .unset] [])) _
            refine XS.iconst X21.here hx rfl (hb hby at_91) ?_
            show Steps p.tables e below (T21.setTop (mkF m 92 #[.val (.int p0), .val (.int p1), .val (.int cc), .val (.int f), .val (.int L), .val (.int D), .val (.int U), .unset] [(.int (1 : Int32))])) _
            refine XS.goto X21.here hx rfl (pc0 := 92) (pc' := 96) rfl (hb hby at_92) (by decide) (by decide) ?_
            show Steps p.tables e below (T21.setTop (mkF m 96 #[.val (.int p0), .val (.int p1), .val (.int cc), .val (.int f), .val (.int L), .val (.int D), .val (.int U), .unset] [(.int (1 : Int32))])) _
            exact k
          exact ⟨(1 : Int32), _, _, X21, N21, e21, (by first | (simp [own_bi, hc78, hc83, hc88]; done) | contradiction), pre31⟩
      · skip
        have pre32 : ∀ t, Steps p.tables e below (T21.setTop (mkF m 96 #[.val (.int p0), .val (.int p1), .val (.int cc), .val (.int f), .val (.int L), .val (.int D), .val (.int U), .unset] [(.int (1 : Int32))])) t → Steps p.tables e below (s₁.setTop (entryFrame m #[(.int p0), (.int p1)] maxLocals)) t := by
          intro t k
          refine pre28 t ?_
          refine XS.ifYes X21.here hx rfl (pc0 := 83) (pc' := 91) rfl (hb hby at_83) rfl (XT.i0_ne_t hc83) (by decide) (by decide) ?_
          show Steps p.tables e below (T21.setTop (mkF m 91 #[.val (.int p0), .val (.int p1), .val (.int cc), .val (.int f), .val (.int L), .val (.int D), .val (.int U), .unset] [])) _
          refine XS.iconst X21.here hx rfl (hb hby at_91) ?_
          show Steps p.tables e below (T21.setTop (mkF m 92 #[.val (.int p0), .val (.int p1), .val (.int cc), .val (.int f), .val (.int L), .val (.int D), .val (.int U), .unset] [(.int (1 : Int32))])) _
          refine XS.goto X21.here hx rfl (pc0 := 92) (pc' := 96) rfl (hb hby at_92) (by decide) (by decide) ?_
          show Steps p.tables e below (T21.setTop (mkF m 96 #[.val (.int p0), .val (.int p1), .val (.int cc), .val (.int f), .val (.int L), .val (.int D), .val (.int U), .unset] [(.int (1 : Int32))])) _
          exact k
        exact ⟨(1 : Int32), _, _, X21, N21, e21, (by first | (simp [own_bi, hc78, hc83]; done) | contradiction), pre32⟩
    · skip
      have pre33 : ∀ t, Steps p.tables e below (T21.setTop (mkF m 96 #[.val (.int p0), .val (.int p1), .val (.int cc), .val (.int f), .val (.int L), .val (.int D), .val (.int U), .unset] [(.int (1 : Int32))])) t → Steps p.tables e below (s₁.setTop (entryFrame m #[(.int p0), (.int p1)] maxLocals)) t := by
        intro t k
        refine pre27 t ?_
        refine XS.ifYes X21.here hx rfl (pc0 := 78) (pc' := 91) rfl (hb hby at_78) rfl (XT.i0_ne_t hc78) (by decide) (by decide) ?_
        show Steps p.tables e below (T21.setTop (mkF m 91 #[.val (.int p0), .val (.int p1), .val (.int cc), .val (.int f), .val (.int L), .val (.int D), .val (.int U), .unset] [])) _
        refine XS.iconst X21.here hx rfl (hb hby at_91) ?_
        show Steps p.tables e below (T21.setTop (mkF m 92 #[.val (.int p0), .val (.int p1), .val (.int cc), .val (.int f), .val (.int L), .val (.int D), .val (.int U), .unset] [(.int (1 : Int32))])) _
        refine XS.goto X21.here hx rfl (pc0 := 92) (pc' := 96) rfl (hb hby at_92) (by decide) (by decide) ?_
        show Steps p.tables e below (T21.setTop (mkF m 96 #[.val (.int p0), .val (.int p1), .val (.int cc), .val (.int f), .val (.int L), .val (.int D), .val (.int U), .unset] [(.int (1 : Int32))])) _
        exact k
      exact ⟨(1 : Int32), _, _, X21, N21, e21, (by first | (simp [own_bi, hc78]; done) | contradiction), pre33⟩
  obtain ⟨ex, T26, Lo26, X26, N26, e26, hex, pre26⟩ := mrg26
  have pre35 : ∀ t, Steps p.tables e below (T26.setTop (mkF m 99 #[.val (.int p0), .val (.int p1), .val (.int cc), .val (.int f), .val (.int L), .val (.int D), .val (.int U), .val (.int ex)] [(.int cc)])) t → Steps p.tables e below (s₁.setTop (entryFrame m #[(.int p0), (.int p1)] maxLocals)) t := by
    intro t k
    refine pre26 t ?_
    refine XS.istore X26.here hx rfl (hb hby at_96) rfl (l' := #[.val (.int p0), .val (.int p1), .val (.int cc), .val (.int f), .val (.int L), .val (.int D), .val (.int U), .val (.int ex)]) rfl ?_
    show Steps p.tables e below (T26.setTop (mkF m 98 #[.val (.int p0), .val (.int p1), .val (.int cc), .val (.int f), .val (.int L), .val (.int D), .val (.int U), .val (.int ex)] [])) _
    refine XS.iloadN X26.here hx rfl (hb hby at_98) rfl ?_
    show Steps p.tables e below (T26.setTop (mkF m 99 #[.val (.int p0), .val (.int p1), .val (.int cc), .val (.int f), .val (.int L), .val (.int D), .val (.int U), .val (.int ex)] [(.int cc)])) _
    exact k
  obtain ⟨_, _, ⟨T36, L36, k36, n36⟩, -, X36, ⟨Lc36, hQ36, l36, y36, z36⟩, st36⟩ := Jvm.LawKit.callS X26 hx (y := (⟨"com/example/hasselt/hasselt/values/SymbolValue", "isNamePart", "(C)Z"⟩ : MethodName)) hown (mvT hZ (hw _ (List.mem_of_getElem? (i := 0) rfl))) (mvT hZ (hw _ (List.mem_of_getElem? (i := 1) rfl))) (mvT hZ (hw _ (List.mem_of_getElem? (i := 2) rfl))) (mvT hZ (hw _ (List.mem_of_getElem? (i := 3) rfl))) (by decide) (backOf (W := 0) (rm1 l Z a0 hw [] cc h0 n0 Z0) hZ (hw _ (List.mem_of_getElem? (i := 3) rfl)) (hw _ (List.mem_of_getElem? (i := 2) rfl)) (by decide) (by decide)) (g := (mkF m 99 #[.val (.int p0), .val (.int p1), .val (.int cc), .val (.int f), .val (.int L), .val (.int D), .val (.int U), .val (.int ex)] [(.int cc)])) rfl (by rw [hml]; rfl) (argsL := [(.int cc)]) (rest := []) (lenOf pd_np rfl) rfl (by show 2 * 0 + _ ≤ _; exact Nat.le_of_eq rfl) (hb hby at_99) (fun _ _ => ⟨rfl, e26, (by decide : 0 + 0 ≤ _), (by decide : 0 + 0 ≤ _)⟩)
  dsimp only [Pt.U, Pt.locs, Pt.cells, Pt.slots] at X36 l36 y36 z36 st36 hQ36
  subst l36 y36 z36
  obtain ⟨rfl, Nq36, heq36⟩ := hQ36
  have N36 := Fr.app N26 Nq36
  have pre37 : ∀ t, Steps p.tables e below (T36.setTop (mkF m 102 #[.val (.int p0), .val (.int p1), .val (.int cc), .val (.int f), .val (.int L), .val (.int D), .val (.int U), .val (.int ex)] [(.int (own_bi (own_np cc)))])) t → Steps p.tables e below (s₁.setTop (entryFrame m #[(.int p0), (.int p1)] maxLocals)) t := fun t k => pre35 t (st36 t k)
  have pre38 : ∀ t, Steps p.tables e below (T36.setTop (mkF m 112 #[.val (.int p0), .val (.int p1), .val (.int cc), .val (.int f), .val (.int L), .val (.int D), .val (.int U), .val (.int ex)] [(.int (1 : Int32))])) t → Steps p.tables e below (s₁.setTop (entryFrame m #[(.int p0), (.int p1)] maxLocals)) t := by
    intro t k
    refine pre37 t ?_
    refine XS.iload X36.here hx rfl (hb hby at_102) rfl ?_
    show Steps p.tables e below (T36.setTop (mkF m 104 #[.val (.int p0), .val (.int p1), .val (.int cc), .val (.int f), .val (.int L), .val (.int D), .val (.int U), .val (.int ex)] [(.int ex), (.int (own_bi (own_np cc)))])) _
    refine XS.icmpNo X36.here hx rfl (hb hby at_104) rfl (XT.ii_ne_f (own_law hcc hn_f hL hD hU hex)) ?_
    show Steps p.tables e below (T36.setTop (mkF m 107 #[.val (.int p0), .val (.int p1), .val (.int cc), .val (.int f), .val (.int L), .val (.int D), .val (.int U), .val (.int ex)] [])) _
    refine XS.iconst X36.here hx rfl (hb hby at_107) ?_
    show Steps p.tables e below (T36.setTop (mkF m 108 #[.val (.int p0), .val (.int p1), .val (.int cc), .val (.int f), .val (.int L), .val (.int D), .val (.int U), .val (.int ex)] [(.int (1 : Int32))])) _
    refine XS.goto X36.here hx rfl (pc0 := 108) (pc' := 112) rfl (hb hby at_108) (by decide) (by decide) ?_
    show Steps p.tables e below (T36.setTop (mkF m 112 #[.val (.int p0), .val (.int p1), .val (.int cc), .val (.int f), .val (.int L), .val (.int D), .val (.int U), .val (.int ex)] [(.int (1 : Int32))])) _
    exact k
  obtain ⟨fs, hr, hrun, hended, hW, hsame⟩ := X36.leave (v := some (.int (1 : Int32))) (fun h => by rw [Bd.returns] at h; cases h)
  refine ⟨_, _, pre38 _ ?_, hrun, hended, _, _, rfl, ?_, ⟨_, rfl⟩, hW, hsame.mono (by decide) (by decide)⟩
  · exact retOut X36 hx Bd.returns rfl (Or.inl ⟨rfl, by simp, _, rfl⟩) (hb hby at_112) hr
  · show Qlaw Z p0 p1 h0 n0 _ T36.heap _
    rw [heq36]
    exact ⟨rfl, N36⟩
set_option maxRecDepth 65536 in
set_option maxHeartbeats 40000000 in
theorem comes_1 {Post : Tables → Env → Array Value → State → Outcome → State → Prop} (hpost : ∀ tb e args s v u, (limb_1_1.after args s (.returned v) u = true ∧ limb_1_2.after args s (.returned v) u = true ∧ True) → FrameEnd s (.returned v) u (Jvm.fieldLocs frame_1_writes args s ++ Jvm.arrayLocs frame_1_arrays args s ++ Jvm.staticLocs frame_1_statics s) 0 0 → Post tb e args s (.returned v) u) :
    ArmFor flags0 classFile x code maxLocals ret World_1 tables_1 room_1 Calls_1 rest_1 Pre_1 Post := by
  intro l hfl _ _ p e ha hc hk s m args below hf hA hF happ hP
  obtain ⟨hcalls, hrest, hpre⟩ := hP
  obtain ⟨-, -, -, hnamed, -, -, -, hat⟩ := (Spec.applies_iff hf).mp happ
  obtain ⟨hg, hn⟩ := and_e (Cond.before_iff.mp (show (Jvm.Cond.and given_1 narrow_1).before args s = true from hpre))
  obtain ⟨gc, g0⟩ := and_e hg
  obtain ⟨w0, w1, rfl⟩ : ∃ w0 w1 : Value, args = #[w0, w1] := by
    have hs : args.size = 2 := by simpa [Cond.value, given_1] using gc
    obtain ⟨L⟩ := args
    match L, hs with
    | [w0, w1], _ => exact ⟨w0, w1, rfl⟩
  have hw := fun d (hd : d ∈ tables_1) => atoms_spec (ws := Jvm.Cond.code x code maxLocals ret :: tables_1) hat d (List.mem_cons_of_mem _ hd)
  have hfit : Fit s := fun {y c} hc i hi => by
    obtain ⟨ha, rfl⟩ := Array.getElem?_eq_some_iff.mp hc
    have q := List.all_eq_true.mp ((Array.all_eq_true_iff_forall_mem.mp hF) _ (Array.getElem_mem ha)) i (List.mem_range.mpr hi)
    simpa [Array.getElem?_eq_getElem hi] using q
  obtain ⟨ga0, gb0⟩ := and_e g0
  obtain ⟨i0, ei0⟩ := is_v ga0
  obtain rfl : w0 = (.int i0) := Option.some.inj ei0
  obtain ⟨i1, ei1⟩ := is_v gb0
  obtain rfl : w1 = (.int i1) := Option.some.inj ei1
  obtain ⟨n, o, h1, h2, h3, _, L, rfl, ⟨rfl, N⟩, hq⟩ := rmlaw l s _ hw tables_1 i0 i1 s.heap s.heap.size (Nat.le_refl _)  p e ha hc hk s m _ below hf ((Spec.applies_iff_loose hf).mp happ).1 ⟨rfl, State.Warmed39.refl s, rfl⟩ trivial
  refine ⟨n, _, h1, h2, h3, hpost _ _ _ _ _ _ ⟨Cond.after_iff.mpr rfl, Cond.after_iff.mpr (eq_i res_at (Term.int_eval (1)) rfl), trivial⟩ ⟨hq.1, hq.2.1, (hq.2.2.sift fun y hy => Or.inr (N y hy)).mono (by decide) (by decide)⟩⟩
theorem main_1_1 : Claimed_1_1 := comes_1 fun _ _ _ _ _ _ h hF => ⟨h.1, hF⟩
theorem main_1_2 : Claimed_1_2 := comes_1 fun _ _ _ _ _ _ h hF => ⟨h.2.1, hF⟩
end Jvm.Pilot.@@N@@
namespace Jvm.Pilot.@@N@@
open Jvm Jvm.ClassFile Sem Op Lib Jvm.Free Jvm.Stand Jvm.Pilot.@@N@@.Jvm.D
/-! MADE BY PROGRAM (witnessworld.py) out of the Statement's table words and the real class files: 10 classes; the members and pool entries that the words name. The judged class is class 1, her method 1. -/
namespace start1
open Jvm.ClassFile
def u (s : String) : CpInfo := .utf8 (stringToUtf16 s)
/-- a pool by its gaps: so many unusable entries, then the entry; so many at the end -/
def gap : Nat → List CpInfo → List CpInfo
  | 0, r => r
  | n + 1, r => .unusable :: gap n r
def poolList (es : List (Nat × CpInfo)) (last : Nat) : List CpInfo := es.foldr (fun e r => gap e.1 (e.2 :: r)) (gap last [])
def pool (es : List (Nat × CpInfo)) (last : Nat) : Array CpInfo := ⟨poolList es last⟩
def fileOf (pool : Array CpInfo) (this : Nat) (attrs : Array Attribute := #[]) (ms : Array MethodInfo := #[]) (fl : Nat := 33) (sup : Nat := 0) (ifs : Array Nat := #[]) (fds : Array FieldInfo := #[]) : ClassFile where
  minorVersion := 0
  majorVersion := 65
  constantPool := pool
  accessFlags := fl
  thisClass := this
  superClass := sup
  interfaces := ifs
  fields := fds
  methods := ms
  attributes := attrs
def plain (name : String) (sup : Option ClassId) : Class where
  name := name
  kind := .ordinary
  loader := none
  accessFlags := 33
  super := sup
  interfaces := #[]
  cf := none
  fields := #[]
  methods := #[]
  instanceTypes := #[]
  staticTypes := #[]
  resolved := #[]
  callSites := []
  init := .initialized
  statics := none
  mirror := none

def pool0 : Array CpInfo := pool [(5, u "<init>"), (0, u "()V"), (1, .class_ 10), (1, u "java/lang/Object")] 113

def k0m0 : Method := { name := "<init>", desc := "()V", sig := { parameters := [], returnType := none }, accessFlags := 1, code := none }
/-- java/lang/Object -/
def k0 : Class := { plain "java/lang/Object" none with
  accessFlags := 33
  interfaces := #[]
  cf := some (fileOf pool0 8 #[] #[{ accessFlags := 1, nameIndex := 5, descriptorIndex := 6, attributes := #[] }] 33 0 #[] #[])
  fields := #[]
  methods := #[k0m0]
  instanceTypes := #[]
  staticTypes := #[]
  resolved := Array.replicate 124 none
  statics := none }

def pool1 : Array CpInfo := pool [(2, .class_ 4), (1, u "java/lang/Object"), (0, u "<init>"), (0, u "()V"), (0, .integer 65535), (0, .methodref 9 10), (0, .class_ 11), (0, .nameAndType 12 13), (0, u "com/example/hasselt/hasselt/values/SymbolValue"), (0, u "isNamePart"), (0, u "(C)Z"), (0, .class_ 15), (0, u "com/example/hasselt/hasselt/values/SymbolValueIsNamePartPinLaw"), (2, u "law"), (0, u "(II)Z")] 3

def k1m0 : Method := { name := "<init>", desc := "()V", sig := { parameters := [], returnType := none }, accessFlags := 1, code := none }
def k1c1 : Code := { maxStack := 2, maxLocals := 8, code := code, exceptionTable := #[], attributes := #[] }
def k1m1 : Method := { name := "law", desc := "(II)Z", sig := { parameters := [.int, .int], returnType := some .boolean }, accessFlags := 9, code := some k1c1 }
/-- com/example/hasselt/hasselt/values/SymbolValueIsNamePartPinLaw -/
def k1 : Class := { plain "com/example/hasselt/hasselt/values/SymbolValueIsNamePartPinLaw" (some 0) with
  accessFlags := 49
  interfaces := #[]
  cf := some (fileOf pool1 14 #[] #[{ accessFlags := 1, nameIndex := 5, descriptorIndex := 6, attributes := #[] }, { accessFlags := 9, nameIndex := 18, descriptorIndex := 19, attributes := #[] }] 49 2 #[] #[])
  fields := #[]
  methods := #[k1m0, k1m1]
  instanceTypes := #[]
  staticTypes := #[]
  resolved := Array.replicate 23 none
  statics := none }

def pool2 : Array CpInfo := pool [(2, .class_ 4), (1, u "java/lang/Object"), (0, u "<init>"), (0, u "()V"), (4, .class_ 13), (1, u "com/example/hasselt/hasselt/values/Value")] 23

def k2m0 : Method := { name := "<init>", desc := "()V", sig := { parameters := [], returnType := none }, accessFlags := 1, code := none }
/-- com/example/hasselt/hasselt/values/Value -/
def k2 : Class := { plain "com/example/hasselt/hasselt/values/Value" (some 0) with
  accessFlags := 1057
  interfaces := #[]
  cf := some (fileOf pool2 11 #[] #[{ accessFlags := 1, nameIndex := 5, descriptorIndex := 6, attributes := #[] }] 1057 2 #[] #[])
  fields := #[]
  methods := #[k2m0]
  instanceTypes := #[]
  staticTypes := #[]
  resolved := Array.replicate 37 none
  statics := none }

def pool3 : Array CpInfo := pool [(2, .class_ 4), (1, u "com/example/hasselt/hasselt/values/Value"), (3, u "name"), (7, .class_ 18), (1, u "com/example/hasselt/hasselt/values/SymbolValue"), (22, u "Ljava/lang/String;"), (11, u "(C)Z"), (6, u "isNamePart")] 36

def k3c0 : Code := { maxStack := 2, maxLocals := 1, code := prog_182_method_4_code, exceptionTable := #[], attributes := #[] }
def k3m0 : Method := { name := "isNamePart", desc := "(C)Z", sig := { parameters := [.char], returnType := some .boolean }, accessFlags := 9, code := some k3c0 }
/-- com/example/hasselt/hasselt/values/SymbolValue -/
def k3 : Class := { plain "com/example/hasselt/hasselt/values/SymbolValue" (some 2) with
  accessFlags := 49
  interfaces := #[]
  cf := some (fileOf pool3 16 #[] #[{ accessFlags := 9, nameIndex := 60, descriptorIndex := 53, attributes := #[] }] 49 2 #[] #[{ accessFlags := 18, nameIndex := 8, descriptorIndex := 41, attributes := #[] }])
  fields := #[{ name := "name", type := (.object "java/lang/String"), accessFlags := 18, slot := 0, constantValue := 0 }]
  methods := #[k3m0]
  instanceTypes := #[(.object "java/lang/String")]
  staticTypes := #[]
  resolved := Array.replicate 97 none
  statics := none }

def pool4 : Array CpInfo := pool [(1, u "java/lang/Cloneable"), (0, .class_ 1), (0, u "java/lang/Object"), (0, .class_ 3)] 3

/-- java/lang/Cloneable -/
def k4 : Class := { plain "java/lang/Cloneable" (some 0) with
  accessFlags := 1537
  interfaces := #[]
  cf := some (fileOf pool4 2 #[] #[] 1537 4 #[] #[])
  fields := #[]
  methods := #[]
  instanceTypes := #[]
  staticTypes := #[]
  resolved := Array.replicate 8 none
  statics := none }

def pool5 : Array CpInfo := pool [(1, u "java/io/Serializable"), (0, .class_ 1), (0, u "java/lang/Object"), (0, .class_ 3)] 3

/-- java/io/Serializable -/
def k5 : Class := { plain "java/io/Serializable" (some 0) with
  accessFlags := 1537
  interfaces := #[]
  cf := some (fileOf pool5 2 #[] #[] 1537 4 #[] #[])
  fields := #[]
  methods := #[]
  instanceTypes := #[]
  staticTypes := #[]
  resolved := Array.replicate 8 none
  statics := none }

/-- the primitive byte -/
def k6 : Class := { plain "byte" none with kind := .primitive 'B', accessFlags := 0x411 }
/-- [B -/
def k7 : Class := { plain "[B" (some 0) with kind := .array 6 .byte, interfaces := #[4, 5], accessFlags := 1041 }

/-- the primitive int -/
def k8 : Class := { plain "int" none with kind := .primitive 'I', accessFlags := 0x411 }
/-- [I -/
def k9 : Class := { plain "[I" (some 0) with kind := .array 8 .int, interfaces := #[4, 5], accessFlags := 1041 }

def heap : Heap := #[]
def classes : Array Class := #[k0, k1, k2, k3, k4, k5, k6, k7, k8, k9]
def interned : List (Array UInt16 × Addr) := []
def slotsUsed : Nat := 0
def theMethod : MethodId := ⟨1, 1⟩
def args0 : Array Value := #[.int 65, .int 1]
def aboutOver (below : List Frame) : State where
  vm := { classes := classes, interned := interned.toArray }
  heap := heap
  slotsUsed := slotsUsed
  threads := #[{ frames := .invoking theMethod args0 :: below }]
def below0 : List Frame := [.native { method := ⟨0, 0⟩, args := #[] }]
def about1 : State := aboutOver below0
def p0 : Program := .bare "" "" ""
def e0 : Env := launch0.env 0 0 0
theorem w_frames : about1.frames = Frame.invoking theMethod args0 :: below0 := rfl
set_option maxRecDepth 65536 in
theorem w_args : argsFit about1.vm theMethod args0 = true := by decide +kernel
set_option maxRecDepth 65536 in
theorem w_heap : heapFits about1 = true := by decide +kernel
set_option maxRecDepth 65536 in
theorem w_runnable : about1.curStatus? = some .runnable := by decide +kernel
set_option maxRecDepth 65536 in
theorem w_alone : about1.alone = true := by decide +kernel
set_option maxRecDepth 65536 in
theorem w_named : about1.methodNamed? x = some theMethod := by decide +kernel
set_option maxRecDepth 65536 in
theorem w_hears : about1.hears theMethod below0 = true := by decide +kernel
set_option maxRecDepth 65536 in
theorem w_ripe : about1.ripe theMethod args0 below0 = true := by decide +kernel
theorem w_running : about1.status = .running := rfl
set_option maxRecDepth 65536 in
theorem w_room : about1.hasRoom e0.platform room_1 = true :=
  launch0.hasRoom_least _ room_1 (by decide +kernel) (by decide +kernel) (by decide +kernel) (by decide +kernel) (by decide +kernel) (by decide +kernel)
theorem allAtoms_all (ts : List Jvm.Cond) (a : Array Jvm.Value) (st : Jvm.State) : (allAtoms ts).before a st = ts.all (fun c => c.before a st) := by
  induction ts with
  | nil => rfl
  | cons c t ih =>
    show (Jvm.Cond.and c (allAtoms t)).before a st = _
    rw [Jvm.Cond.before_and, ih, List.all_cons]
def words1 : List Jvm.Cond := Jvm.Cond.code x code maxLocals ret :: tables_1
/-- a 'code' word, met by the world's own term for the bytes: nothing is compared byte by byte -/
theorem code_word {y : MethodName} {bytes : ByteArray} {mx : Nat} {rt : Option FieldType} {a : Array Value} {s : State} {m : MethodId} {meth : Method} {c : Code} (h1 : s.methodNamed? y = some m) (h2 : s.vm.method? m = some meth) (h3 : meth.code = some c) (h4 : c.code = bytes)
    (h5 : (c.maxLocals == mx && c.exceptionTable.isEmpty && decide (c.maxStack ≤ mostOperands) && decide (meth.sig.returnType = rt) && !meth.locks && decide (parseMethodDescriptor y.desc = some meth.sig)) = true) : (Jvm.Cond.code y bytes mx rt).before a s = true := by
  simp only [Bool.and_eq_true, beq_iff_eq, Bool.not_eq_true', decide_eq_true_eq] at h5
  obtain ⟨⟨⟨⟨⟨g1, g2⟩, g3⟩, g4⟩, g5⟩, g6⟩ := h5
  simp [Cond.before, Cond.holds, Cond.value, h1, h2, h3, h4, g1, g2, g3, g4, g5, g6]
def isCode : Jvm.Cond → Bool
  | .code _ _ _ _ => true
  | _ => false
theorem all_split {L : List Jvm.Cond} {P : Jvm.Cond → Bool} (h1 : L.all (fun c => isCode c || P c) = true) (h2 : ∀ c ∈ L.filter isCode, P c = true) : L.all P = true := by
  refine List.all_eq_true.mpr fun c hc => ?_
  have h := List.all_eq_true.mp h1 c hc
  rcases Bool.eq_false_or_eq_true (isCode c) with hi | hi
  · exact h2 c (List.mem_filter.mpr ⟨hc, hi⟩)
  · simpa [hi] using h
set_option maxRecDepth 65536 in
theorem w_c0 : (Jvm.Cond.code x code maxLocals ret).before args0 about1 = true := code_word (m := ⟨1, 1⟩) (meth := k1m1) (c := k1c1) (by decide +kernel) rfl rfl rfl (by decide +kernel)
set_option maxRecDepth 65536 in
theorem w_c1 : (Jvm.Cond.code ({ cls := "com/example/hasselt/hasselt/values/SymbolValue", name := "isNamePart", desc := "(C)Z" } : Jvm.MethodName) prog_182_method_4_code (1 : Nat) (Option.some Jvm.ClassFile.FieldType.boolean)).before args0 about1 = true := code_word (m := ⟨3, 0⟩) (meth := k3m0) (c := k3c0) (by decide +kernel) rfl rfl rfl (by decide +kernel)
def codes1 : List Jvm.Cond := [Jvm.Cond.code x code maxLocals ret, Jvm.Cond.code ({ cls := "com/example/hasselt/hasselt/values/SymbolValue", name := "isNamePart", desc := "(C)Z" } : Jvm.MethodName) prog_182_method_4_code (1 : Nat) (Option.some Jvm.ClassFile.FieldType.boolean)]
set_option maxRecDepth 65536 in
theorem codes_eq : words1.filter isCode = codes1 := rfl
theorem w_codes : ∀ c ∈ words1.filter isCode, c.before args0 about1 = true := by
  rw [codes_eq]
  intro c hc
  simp only [codes1, List.mem_cons, List.not_mem_nil, or_false] at hc
  rcases hc with rfl | rfl
  · exact w_c0
  · exact w_c1
set_option maxRecDepth 65536 in
theorem w_t1 : words1.all (fun c => isCode c || c.before args0 about1) = true := by decide +kernel
theorem w_tables : (allAtoms (Jvm.Cond.code x code maxLocals ret :: tables_1)).before args0 about1 = true := by
  rw [allAtoms_all]
  show words1.all (fun c => c.before args0 about1) = true
  refine all_split ?_ w_codes
  rw [w_t1]
set_option maxRecDepth 65536 in
theorem w_case : (Jvm.Cond.and given_1 narrow_1).before args0 about1 = true := by decide +kernel
theorem w_applies : (headSpec (Jvm.Cond.code x code maxLocals ret :: tables_1) room_1).applies x e0.platform about1 = true :=
  (Spec.applies_iff w_frames).mpr ⟨w_running, w_runnable, w_alone, w_named, w_hears, w_ripe, w_room, w_tables⟩
theorem atStart : AtStart classFile x code maxLocals ret World_1 tables_1 room_1 Calls_1 rest_1 Pre_1 launch0 p0 e0 about1 theMethod args0 below0 :=
  ⟨lists_1, trivial, launch0.admits_env _ _ _, launch0.least_env, fairChoices_fair.cas, fairChoices_fair.clock, w_frames, w_args, w_heap, w_applies, trivial, trivial, w_case⟩
end start1
theorem witness_1 : WitnessClaimed_1 := ⟨start1.p0, start1.e0, start1.about1, start1.theMethod, start1.args0, start1.below0, start1.atStart⟩
end Jvm.Pilot.@@N@@
