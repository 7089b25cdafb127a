import JvmDerived
import JvmDerived.Pilot.@@N@@Statement
import JvmDerived.Pilot.@@N@@Code
set_option linter.unusedVariables false
set_option linter.unusedSimpArgs false
namespace Jvm.Pilot.@@N@@
open Jvm Jvm.ClassFile Sem Op Lib Jvm.Free Jvm.Stand Jvm.LawKit Jvm.RoadKit Bundle Jvm.Pilot.@@N@@.Jvm.D
def own_bi (P : Prop) [Decidable P] : Int32 := if P then 1 else 0
theorem own_bi_t {P : Prop} [Decidable P] (h : P) : own_bi P = 1 := if_pos h
theorem own_bi_f {P : Prop} [Decidable P] (h : ¬ P) : own_bi P = 0 := if_neg h
theorem own_bi_01 (P : Prop) [Decidable P] : own_bi P = 0 ∨ own_bi P = 1 := by by_cases h : P <;> simp [own_bi, h]
theorem own_bi_eq {P Q : Prop} [Decidable P] [Decidable Q] (h : P ↔ Q) : own_bi P = own_bi Q := by by_cases q : P <;> simp [own_bi, q, ← h]
theorem own_bi_iff (P : Prop) [Decidable P] : own_bi P = 1 ↔ P := by by_cases q : P <;> simp [own_bi, q]
theorem own_bi_ne (P : Prop) [Decidable P] : own_bi P = 0 ↔ ¬ P := by by_cases q : P <;> simp [own_bi, q]
theorem own_ofNat {n : Nat} (h : n < 2147483648) : (Int32.ofNat n).toInt = (n : Int) := len_toInt h
theorem own_narZ {z : Int32} (h : z = 0 ∨ z = 1) : narrow .boolean (.int z) = .int z := by rcases h with rfl | rfl <;> rfl
theorem own_eqI {args : Array Value} {s : State} {t : Term} {n : Int32} (h : (Jvm.Cond.eq t (Term.int n)).value args s none s [] = some true) : t.eval args s none [] s = some (.int n) := by
  obtain ⟨x, y, hx, hy, k1, k2⟩ := cmp_v (Or.inl h)
  cases Option.some.inj (hy.symm.trans (show (Term.int n).eval args s none [] s = some (.int n) from rfl))
  obtain ⟨z, rfl⟩ := k2
  have q : z = n := by simpa [Cond.value, hx, hy] using h
  rw [hx, q]
theorem own_eqJ {args : Array Value} {s : State} {t : Term} {n : Int64} (h : (Jvm.Cond.eq t (Term.long n)).value args s none s [] = some true) : t.eval args s none [] s = some (.long n) := by
  obtain ⟨x, y, hx, hy, k1, k2⟩ := cmp_v (Or.inl h)
  cases Option.some.inj (hy.symm.trans (show (Term.long n).eval args s none [] s = some (.long n) from rfl))
  obtain ⟨z, rfl⟩ := k2
  have q : z = n := by simpa [Cond.value, hx, hy] using h
  rw [hx, q]
abbrev own_vs (k_END k_BYTE k_SHORT k_INT k_LONG k_FLOAT k_DOUBLE k_BYTE_ARRAY k_STRING k_LIST k_COMPOUND k_INT_ARRAY k_LONG_ARRAY : Addr) : List Value := [.ref k_END, .ref k_BYTE, .ref k_SHORT, .ref k_INT, .ref k_LONG, .ref k_FLOAT, .ref k_DOUBLE, .ref k_BYTE_ARRAY, .ref k_STRING, .ref k_LIST, .ref k_COMPOUND, .ref k_INT_ARRAY, .ref k_LONG_ARRAY]
def own_by (i : Int32) (vs : List Value) : Value := if ¬ i < 0 ∧ i < 13 then vs.getD i.toNatClampNeg .null else .null
theorem own_by_in {i : Int32} {vs : List Value} (h1 : ¬ i < 0) (h2 : i < 13) : vs.getD i.toNatClampNeg .null = own_by i vs := (if_pos ⟨h1, h2⟩).symm
theorem own_by_lo {i : Int32} {vs : List Value} (h1 : i < 0) : own_by i vs = .null := if_neg fun q => q.1 h1
theorem own_by_hi {i : Int32} {vs : List Value} (h1 : ¬ i < 13) : own_by i vs = .null := if_neg fun q => h1 q.2
theorem own_getD : ∀ (vs : List Value) (n : Nat), (∀ v ∈ vs, v.isRef = true) → (vs.getD n .null).isRef = true
  | [], _, _ => rfl
  | v :: r, 0, h => h v List.mem_cons_self
  | v :: r, n + 1, h => own_getD r n fun z q => h z (List.mem_cons_of_mem _ q)
theorem own_by_ref {i : Int32} {vs : List Value} (h : ∀ v ∈ vs, v.isRef = true) : (own_by i vs).isRef = true := by
  unfold own_by; split
  · exact own_getD _ _ h
  · rfl
theorem own_vs_ref (k_END k_BYTE k_SHORT k_INT k_LONG k_FLOAT k_DOUBLE k_BYTE_ARRAY k_STRING k_LIST k_COMPOUND k_INT_ARRAY k_LONG_ARRAY : Addr) : ∀ v ∈ own_vs k_END k_BYTE k_SHORT k_INT k_LONG k_FLOAT k_DOUBLE k_BYTE_ARRAY k_STRING k_LIST k_COMPOUND k_INT_ARRAY k_LONG_ARRAY, v.isRef = true := by
  intro v hv
  simp only [own_vs, List.mem_cons, List.not_mem_nil, or_false] at hv
  rcases hv with rfl | rfl | rfl | rfl | rfl | rfl | rfl | rfl | rfl | rfl | rfl | rfl | rfl <;> rfl
theorem own_none {i : Int32} {vs : List Value} (n0 : ¬ i = 0) (n1 : ¬ i = 1) (n2 : ¬ i = 2) (n3 : ¬ i = 3) (n4 : ¬ i = 4) (n5 : ¬ i = 5) (n6 : ¬ i = 6) (n7 : ¬ i = 7) (n8 : ¬ i = 8) (n9 : ¬ i = 9) (n10 : ¬ i = 10) (n11 : ¬ i = 11) (n12 : ¬ i = 12) : own_by i vs = .null := by
  refine if_neg fun q => ?_
  obtain ⟨q1, q2⟩ := q
  rw [Int32.lt_iff_toInt_lt] at q1 q2
  simp only [← Int32.toInt_inj] at *
  have e0 : (0 : Int32).toInt = 0 := rfl
  have e13 : (13 : Int32).toInt = 13 := rfl
  have e1' : (1 : Int32).toInt = 1 := rfl
  have e2' : (2 : Int32).toInt = 2 := rfl
  have e3' : (3 : Int32).toInt = 3 := rfl
  have e4' : (4 : Int32).toInt = 4 := rfl
  have e5' : (5 : Int32).toInt = 5 := rfl
  have e6' : (6 : Int32).toInt = 6 := rfl
  have e7' : (7 : Int32).toInt = 7 := rfl
  have e8' : (8 : Int32).toInt = 8 := rfl
  have e9' : (9 : Int32).toInt = 9 := rfl
  have e10' : (10 : Int32).toInt = 10 := rfl
  have e11' : (11 : Int32).toInt = 11 := rfl
  have e12' : (12 : Int32).toInt = 12 := rfl
  omega
theorem own_eqR {args : Array Value} {s : State} {t u : Term} {a : Addr} (h : (Jvm.Cond.eq t u).value args s none s [] = some true) (hu : u.eval args s none [] s = some (.ref a)) : t.eval args s none [] s = some (.ref a) := by
  obtain ⟨x, y, hx, hy, k1, k2⟩ := cmp_v (Or.inl h)
  cases Option.some.inj (hy.symm.trans hu)
  obtain ⟨r1, r2⟩ : (Value.ref a).isRef = true ∧ x.isRef = true := k2
  have q := gotT (eq_R hx hy r2 rfl) h
  rw [hx, q]
theorem own_len {args : Array Value} {s : State} {t : Term} {a : Addr} {c : Cell} {ty : FieldType} {n : Int32} (h : (Term.length t).eval args s none [] s = some (.int n)) (ht : t.eval args s none [] s = some (.ref a)) (A : Arr s s.heap a c ty) : c.slots.size < 2 ^ 31 ∧ c.slots.size.toInt32 = n := by
  have ha : s.arrayAt? a = some c := A.fin (Vm.Alike.refl _)
  simpa [Term.eval, ht, ha] using h
theorem pn_1 : plainName "com/example/facetwork/facetwork/nbt/TagType" = true := by first | (simp [plainName, overriddenIn]; done) | decide +kernel
theorem d1_0 : decode prog_19_method_7_code 0 = .ok (.iload_n 0, 1) := by decide +kernel
theorem d1_1 : decode prog_19_method_7_code 1 = .ok (.ifCond .lt 19, 3) := by decide +kernel
theorem d1_4 : decode prog_19_method_7_code 4 = .ok (.iload_n 0, 1) := by decide +kernel
theorem d1_5 : decode prog_19_method_7_code 5 = .ok (.getstatic 90, 3) := by decide +kernel
theorem d1_8 : decode prog_19_method_7_code 8 = .ok (.arraylength, 1) := by decide +kernel
theorem d1_9 : decode prog_19_method_7_code 9 = .ok (.if_icmp .ge 11, 3) := by decide +kernel
theorem d1_12 : decode prog_19_method_7_code 12 = .ok (.getstatic 90, 3) := by decide +kernel
theorem d1_15 : decode prog_19_method_7_code 15 = .ok (.iload_n 0, 1) := by decide +kernel
theorem d1_16 : decode prog_19_method_7_code 16 = .ok (.aaload, 1) := by decide +kernel
theorem d1_17 : decode prog_19_method_7_code 17 = .ok (.goto 4, 3) := by decide +kernel
theorem d1_20 : decode prog_19_method_7_code 20 = .ok (.aconst_null, 1) := by decide +kernel
theorem d1_21 : decode prog_19_method_7_code 21 = .ok (.areturn, 1) := by decide +kernel
theorem ef_1 (m : MethodId) (ii : Int32) : entryFrame m #[(.int ii)] 1 = mkF m 0 #[.val (.int ii)] [] := by first | (simp [entryFrame, mkF, argsToLocals, Value.category]; done) | rfl
def Q1 (Z : State) (ii : Int32) (k_END : Addr) (k_BYTE : Addr) (k_SHORT : Addr) (k_INT : Addr) (k_LONG : Addr) (k_FLOAT : Addr) (k_DOUBLE : Addr) (k_BYTE_ARRAY : Addr) (k_STRING : Addr) (k_LIST : Addr) (k_COMPOUND : Addr) (k_INT_ARRAY : Addr) (k_LONG_ARRAY : Addr) (ba : Addr) (kk : ClassId) (h0 : Heap) (n0 : Nat) (v : Option Value) (h : Heap) (L : List Loc) : Prop := v = some (own_by ii (own_vs k_END k_BYTE k_SHORT k_INT k_LONG k_FLOAT k_DOUBLE k_BYTE_ARRAY k_STRING k_LIST k_COMPOUND k_INT_ARRAY k_LONG_ARRAY)) ∧ Fr n0 L ∧ h = h0
set_option maxRecDepth 65536 in
set_option maxHeartbeats 40000000 in
theorem rm1 (l : Launch) (Z : State) (a0 : Array Value) (hw : ∀ d ∈ tables_1, d.before a0 Z = true) (ws : List Jvm.Cond) (ii : Int32) (k_END : Addr) (k_BYTE : Addr) (k_SHORT : Addr) (k_INT : Addr) (k_LONG : Addr) (k_FLOAT : Addr) (k_DOUBLE : Addr) (k_BYTE_ARRAY : Addr) (k_STRING : Addr) (k_LIST : Addr) (k_COMPOUND : Addr) (k_INT_ARRAY : Addr) (k_LONG_ARRAY : Addr) (ba : Addr) (kk : ClassId) (h0 : Heap) (n0 : Nat) (Z0 : n0 ≤ h0.size) (S_BY : Sta Z h0 "com/example/facetwork/facetwork/nbt/TagType" "BY_ID" "[Lcom/example/facetwork/facetwork/nbt/TagType;" (.ref ba)) (V0 : Arv Z h0 ba kk (.object "com/example/facetwork/facetwork/nbt/TagType") (13 : Int32) (own_vs k_END k_BYTE k_SHORT k_INT k_LONG k_FLOAT k_DOUBLE k_BYTE_ARRAY k_STRING k_LIST k_COMPOUND k_INT_ARRAY k_LONG_ARRAY) .null) :
    MetFree l (⟨"com/example/facetwork/facetwork/nbt/TagType", "byId", "(I)Lcom/example/facetwork/facetwork/nbt/TagType;"⟩ : MethodName) (head1 (Jvm.Cond.code (⟨"com/example/facetwork/facetwork/nbt/TagType", "byId", "(I)Lcom/example/facetwork/facetwork/nbt/TagType;"⟩ : MethodName) prog_19_method_7_code 1 (some (.object "com/example/facetwork/facetwork/nbt/TagType")) :: ws) ({ frames := 0, cells := 0, slots := 0, locals := 0 } : Room)) (fun a U => a = #[(.int ii)] ∧ Z.Warmed39 U.vm ∧ U.heap = h0) (fun _ _ _ _ _ => True) (fun _ U o U' => ∃ v L, o = .returned v ∧ Q1 Z ii k_END k_BYTE k_SHORT k_INT k_LONG k_FLOAT k_DOUBLE k_BYTE_ARRAY k_STRING k_LIST k_COMPOUND k_INT_ARRAY k_LONG_ARRAY ba kk h0 n0 v U'.heap L ∧ FrameEnd U o U' L ({ frames := 0, cells := 0, slots := 0, locals := 0 } : Room).cells ({ frames := 0, cells := 0, slots := 0, locals := 0 } : Room).slots) := by
  refine MetFree.of_bodySF (plainFor_of_name pn_1) hisR ?_
  intro p e s m args below meth c s₁ Bd hml0 hP hK
  obtain ⟨rfl, hZ, hh⟩ := hP
  have hx := Bd.exec
  have hby := Bd.bytes
  have hml : c.maxLocals = 1 := hml0
  have hown : s.vm.findClass "com/example/facetwork/facetwork/nbt/TagType" = some m.cls := findClass_of_methodNamed Bd.named
  have hnm := (name_of_methodNamed Bd.named Bd.method).1
  have X0 : Stand p l e ({ frames := 0, cells := 0, slots := 0, locals := 0 } : Room) s m #[(.int ii)] below meth c s₁ [] 0 0 := Stand.of_body Bd
  have e0 : s₁.heap = h0 := by rw [← hh, Bd.state]; rfl
  have N0 := Fr.nil n0
  have pre0 : ∀ t, Steps p.tables e below (s₁.setTop (mkF m 0 #[.val (.int ii)] [])) t → Steps p.tables e below (s₁.setTop (entryFrame m #[(.int ii)] 1)) t := fun t k => castTop (ef_1 m ii) k
  have pre1 : ∀ t, Steps p.tables e below (s₁.setTop (mkF m 1 #[.val (.int ii)] [(.int ii)])) t → Steps p.tables e below (s₁.setTop (entryFrame m #[(.int ii)] 1)) t := by
    intro t k
    refine pre0 t ?_
    refine XS.iloadN X0.here hx rfl (hb hby d1_0) rfl ?_
    show Steps p.tables e below (s₁.setTop (mkF m 1 #[.val (.int ii)] [(.int ii)])) _
    exact k
  by_cases hs1 : ii < (0 : Int32)
  · skip
    have pre2 : ∀ t, Steps p.tables e below (s₁.setTop (mkF m 21 #[.val (.int ii)] [.null])) t → Steps p.tables e below (s₁.setTop (entryFrame m #[(.int ii)] 1)) t := by
      intro t k
      refine pre1 t ?_
      refine XS.ifYes X0.here hx rfl (pc0 := 1) (pc' := 20) rfl (hb hby d1_1) rfl (XT.i0_lt_t hs1) (by decide) (by decide) ?_
      show Steps p.tables e below (s₁.setTop (mkF m 20 #[.val (.int ii)] [])) _
      refine XS.aconstNull X0.here hx rfl (hb hby d1_20) ?_
      show Steps p.tables e below (s₁.setTop (mkF m 21 #[.val (.int ii)] [.null])) _
      exact k
    obtain ⟨fs, hr, hrun, hended, hW, hsame⟩ := X0.leave (v := some .null) (fun h => by rw [Bd.returns] at h; cases h)
    refine ⟨_, _, pre2 _ ?_, hrun, hended, _, _, rfl, ?_, ⟨_, rfl⟩, hW, hsame.mono (by decide) (by decide)⟩
    · exact retOut X0 hx Bd.returns rfl (Or.inr (Or.inr (Or.inr (Or.inr ⟨rfl, rfl, rfl⟩)))) (hb hby d1_21) hr
    · show Q1 Z ii k_END k_BYTE k_SHORT k_INT k_LONG k_FLOAT k_DOUBLE k_BYTE_ARRAY k_STRING k_LIST k_COMPOUND k_INT_ARRAY k_LONG_ARRAY ba kk h0 n0 _ s₁.heap _
      rw [e0]
      exact ⟨(by rw [own_by_lo hs1]), N0, rfl⟩
  · skip
    have pre5 : ∀ t, Steps p.tables e below (s₁.setTop (mkF m 5 #[.val (.int ii)] [(.int ii)])) t → Steps p.tables e below (s₁.setTop (entryFrame m #[(.int ii)] 1)) t := by
      intro t k
      refine pre1 t ?_
      refine XS.ifNo X0.here hx rfl (hb hby d1_1) rfl (XT.i0_lt_f hs1) ?_
      show Steps p.tables e below (s₁.setTop (mkF m 4 #[.val (.int ii)] [])) _
      refine XS.iloadN X0.here hx rfl (hb hby d1_4) rfl ?_
      show Steps p.tables e below (s₁.setTop (mkF m 5 #[.val (.int ii)] [(.int ii)])) _
      exact k
    obtain ⟨T6, X6, e6, st6⟩ := getS (host := "") X0 hx hZ hown (hw _ (List.mem_of_getElem? (i := 5) rfl)) Via.refl e0 S_BY (g := (mkF m 5 #[.val (.int ii)] [(.int ii)])) rfl (hb hby d1_5)
    have pre7 : ∀ t, Steps p.tables e below (T6.setTop (mkF m 8 #[.val (.int ii)] [(.ref ba), (.int ii)])) t → Steps p.tables e below (s₁.setTop (entryFrame m #[(.int ii)] 1)) t := fun t k => pre5 t (st6 t k)
    obtain ⟨cc8, Ar8, q1_8, Sz8, q3_8, Hs8, G8⟩ := id V0
    have pre10 : ∀ t, Steps p.tables e below (T6.setTop (mkF m 9 #[.val (.int ii)] [(.int (13 : Int32)), (.int ii)])) t → Steps p.tables e below (s₁.setTop (entryFrame m #[(.int ii)] 1)) t := by
      intro t k
      refine pre7 t ?_
      refine X6.arraylength hx (by rw [e6]; exact Ar8.1) (State.isArrayOf_alike hZ.alike Ar8.2.1) (g := (mkF m 8 #[.val (.int ii)] [(.ref ba), (.int ii)])) rfl rfl (hb hby d1_8) _ ?_
      rw [len_of Sz8 q3_8]
      show Steps p.tables e below (T6.setTop (mkF m 9 #[.val (.int ii)] [(.int (13 : Int32)), (.int ii)])) _
      exact k
    by_cases hs2 : ii < (13 : Int32)
    · skip
      have pre12 : ∀ t, Steps p.tables e below (T6.setTop (mkF m 12 #[.val (.int ii)] [])) t → Steps p.tables e below (s₁.setTop (entryFrame m #[(.int ii)] 1)) t := by
        intro t k
        refine pre10 t ?_
        refine XS.icmpNo X6.here hx rfl (hb hby d1_9) rfl (XT.ii_ge_f hs2) ?_
        show Steps p.tables e below (T6.setTop (mkF m 12 #[.val (.int ii)] [])) _
        exact k
      obtain ⟨T13, X13, e13, st13⟩ := getS (host := "") X6 hx hZ hown (hw _ (List.mem_of_getElem? (i := 5) rfl)) Via.refl e6 S_BY (g := (mkF m 12 #[.val (.int ii)] [])) rfl (hb hby d1_12)
      have pre14 : ∀ t, Steps p.tables e below (T13.setTop (mkF m 15 #[.val (.int ii)] [(.ref ba)])) t → Steps p.tables e below (s₁.setTop (entryFrame m #[(.int ii)] 1)) t := fun t k => pre12 t (st13 t k)
      have pre15 : ∀ t, Steps p.tables e below (T13.setTop (mkF m 16 #[.val (.int ii)] [(.int ii), (.ref ba)])) t → Steps p.tables e below (s₁.setTop (entryFrame m #[(.int ii)] 1)) t := by
        intro t k
        refine pre14 t ?_
        refine XS.iloadN X13.here hx rfl (hb hby d1_15) rfl ?_
        show Steps p.tables e below (T13.setTop (mkF m 16 #[.val (.int ii)] [(.int ii), (.ref ba)])) _
        exact k
      obtain ⟨cc16, Ar16, q1_16, Sz16, q3_16, Hs16, G16⟩ := id V0
      have hin16 : ¬ (ii < 0 ∨ cc16.slots.size ≤ (ii : Int32).toNatClampNeg) := inb_of Sz16 ⟨hs1, hs2⟩
      have hat16 : cc16.slots[(ii : Int32).toNatClampNeg]? = some (own_by ii (own_vs k_END k_BYTE k_SHORT k_INT k_LONG k_FLOAT k_DOUBLE k_BYTE_ARRAY k_STRING k_LIST k_COMPOUND k_INT_ARRAY k_LONG_ARRAY)) := Hs16.at hin16 (own_by_in hs1 hs2)
      have pre18 : ∀ t, Steps p.tables e below (T13.setTop (mkF m 21 #[.val (.int ii)] [(own_by ii (own_vs k_END k_BYTE k_SHORT k_INT k_LONG k_FLOAT k_DOUBLE k_BYTE_ARRAY k_STRING k_LIST k_COMPOUND k_INT_ARRAY k_LONG_ARRAY))])) t → Steps p.tables e below (s₁.setTop (entryFrame m #[(.int ii)] 1)) t := by
        intro t k
        refine pre15 t ?_
        refine X13.aaload hx (j := ii) (v := (own_by ii (own_vs k_END k_BYTE k_SHORT k_INT k_LONG k_FLOAT k_DOUBLE k_BYTE_ARRAY k_STRING k_LIST k_COMPOUND k_INT_ARRAY k_LONG_ARRAY))) (by rw [e13]; exact Ar16.1) (State.isArrayOf_alike hZ.alike Ar16.2.1) rfl Ar16.2.2 hin16 hat16 (g := (mkF m 16 #[.val (.int ii)] [(.int ii), (.ref ba)])) rfl rfl (hb hby d1_16) _ ?_
        show Steps p.tables e below (T13.setTop (mkF m 17 #[.val (.int ii)] [(own_by ii (own_vs k_END k_BYTE k_SHORT k_INT k_LONG k_FLOAT k_DOUBLE k_BYTE_ARRAY k_STRING k_LIST k_COMPOUND k_INT_ARRAY k_LONG_ARRAY))])) _
        refine XS.goto X13.here hx rfl (pc0 := 17) (pc' := 21) rfl (hb hby d1_17) (by decide) (by decide) ?_
        show Steps p.tables e below (T13.setTop (mkF m 21 #[.val (.int ii)] [(own_by ii (own_vs k_END k_BYTE k_SHORT k_INT k_LONG k_FLOAT k_DOUBLE k_BYTE_ARRAY k_STRING k_LIST k_COMPOUND k_INT_ARRAY k_LONG_ARRAY))])) _
        exact k
      obtain ⟨fs, hr, hrun, hended, hW, hsame⟩ := X13.leave (v := some (own_by ii (own_vs k_END k_BYTE k_SHORT k_INT k_LONG k_FLOAT k_DOUBLE k_BYTE_ARRAY k_STRING k_LIST k_COMPOUND k_INT_ARRAY k_LONG_ARRAY))) (fun h => by rw [Bd.returns] at h; cases h)
      refine ⟨_, _, pre18 _ ?_, hrun, hended, _, _, rfl, ?_, ⟨_, rfl⟩, hW, hsame.mono (by decide) (by decide)⟩
      · exact retOut X13 hx Bd.returns rfl (Or.inr (Or.inr (Or.inr (Or.inr ⟨rfl, rfl, (own_by_ref (own_vs_ref _ _ _ _ _ _ _ _ _ _ _ _ _))⟩)))) (hb hby d1_21) hr
      · show Q1 Z ii k_END k_BYTE k_SHORT k_INT k_LONG k_FLOAT k_DOUBLE k_BYTE_ARRAY k_STRING k_LIST k_COMPOUND k_INT_ARRAY k_LONG_ARRAY ba kk h0 n0 _ T13.heap _
        rw [e13]
        exact ⟨rfl, N0, rfl⟩
    · skip
      have pre20 : ∀ t, Steps p.tables e below (T6.setTop (mkF m 21 #[.val (.int ii)] [.null])) t → Steps p.tables e below (s₁.setTop (entryFrame m #[(.int ii)] 1)) t := by
        intro t k
        refine pre10 t ?_
        refine XS.icmpYes X6.here hx rfl (pc0 := 9) (pc' := 20) rfl (hb hby d1_9) rfl (XT.ii_ge_t hs2) (by decide) (by decide) ?_
        show Steps p.tables e below (T6.setTop (mkF m 20 #[.val (.int ii)] [])) _
        refine XS.aconstNull X6.here hx rfl (hb hby d1_20) ?_
        show Steps p.tables e below (T6.setTop (mkF m 21 #[.val (.int ii)] [.null])) _
        exact k
      obtain ⟨fs, hr, hrun, hended, hW, hsame⟩ := X6.leave (v := some .null) (fun h => by rw [Bd.returns] at h; cases h)
      refine ⟨_, _, pre20 _ ?_, hrun, hended, _, _, rfl, ?_, ⟨_, rfl⟩, hW, hsame.mono (by decide) (by decide)⟩
      · exact retOut X6 hx Bd.returns rfl (Or.inr (Or.inr (Or.inr (Or.inr ⟨rfl, rfl, rfl⟩)))) (hb hby d1_21) hr
      · show Q1 Z ii k_END k_BYTE k_SHORT k_INT k_LONG k_FLOAT k_DOUBLE k_BYTE_ARRAY k_STRING k_LIST k_COMPOUND k_INT_ARRAY k_LONG_ARRAY ba kk h0 n0 _ T6.heap _
        rw [e6]
        exact ⟨(by rw [own_by_hi hs2]), N0, rfl⟩
theorem pn_2 : plainName "com/example/facetwork/facetwork/nbt/TagTypeByIdPinLaw" = true := by first | (simp [plainName, overriddenIn]; done) | decide +kernel
theorem d2_0 : decode method_2_code 0 = .ok (.iload_n 0, 1) := by decide +kernel
theorem d2_1 : decode method_2_code 1 = .ok (.ifCond .ne 7, 3) := by decide +kernel
theorem d2_4 : decode method_2_code 4 = .ok (.getstatic 7, 3) := by decide +kernel
theorem d2_7 : decode method_2_code 7 = .ok (.areturn, 1) := by decide +kernel
theorem d2_8 : decode method_2_code 8 = .ok (.iload_n 0, 1) := by decide +kernel
theorem d2_9 : decode method_2_code 9 = .ok (.iconst 1, 1) := by decide +kernel
theorem d2_10 : decode method_2_code 10 = .ok (.if_icmp .ne 7, 3) := by decide +kernel
theorem d2_13 : decode method_2_code 13 = .ok (.getstatic 13, 3) := by decide +kernel
theorem d2_16 : decode method_2_code 16 = .ok (.areturn, 1) := by decide +kernel
theorem d2_17 : decode method_2_code 17 = .ok (.iload_n 0, 1) := by decide +kernel
theorem d2_18 : decode method_2_code 18 = .ok (.iconst 2, 1) := by decide +kernel
theorem d2_19 : decode method_2_code 19 = .ok (.if_icmp .ne 7, 3) := by decide +kernel
theorem d2_22 : decode method_2_code 22 = .ok (.getstatic 16, 3) := by decide +kernel
theorem d2_25 : decode method_2_code 25 = .ok (.areturn, 1) := by decide +kernel
theorem d2_26 : decode method_2_code 26 = .ok (.iload_n 0, 1) := by decide +kernel
theorem d2_27 : decode method_2_code 27 = .ok (.iconst 3, 1) := by decide +kernel
theorem d2_28 : decode method_2_code 28 = .ok (.if_icmp .ne 7, 3) := by decide +kernel
theorem d2_31 : decode method_2_code 31 = .ok (.getstatic 19, 3) := by decide +kernel
theorem d2_34 : decode method_2_code 34 = .ok (.areturn, 1) := by decide +kernel
theorem d2_35 : decode method_2_code 35 = .ok (.iload_n 0, 1) := by decide +kernel
theorem d2_36 : decode method_2_code 36 = .ok (.iconst 4, 1) := by decide +kernel
theorem d2_37 : decode method_2_code 37 = .ok (.if_icmp .ne 7, 3) := by decide +kernel
theorem d2_40 : decode method_2_code 40 = .ok (.getstatic 22, 3) := by decide +kernel
theorem d2_43 : decode method_2_code 43 = .ok (.areturn, 1) := by decide +kernel
theorem d2_44 : decode method_2_code 44 = .ok (.iload_n 0, 1) := by decide +kernel
theorem d2_45 : decode method_2_code 45 = .ok (.iconst 5, 1) := by decide +kernel
theorem d2_46 : decode method_2_code 46 = .ok (.if_icmp .ne 7, 3) := by decide +kernel
theorem d2_49 : decode method_2_code 49 = .ok (.getstatic 25, 3) := by decide +kernel
theorem d2_52 : decode method_2_code 52 = .ok (.areturn, 1) := by decide +kernel
theorem d2_53 : decode method_2_code 53 = .ok (.iload_n 0, 1) := by decide +kernel
theorem d2_54 : decode method_2_code 54 = .ok (.bipush 6, 2) := by decide +kernel
theorem d2_56 : decode method_2_code 56 = .ok (.if_icmp .ne 7, 3) := by decide +kernel
theorem d2_59 : decode method_2_code 59 = .ok (.getstatic 28, 3) := by decide +kernel
theorem d2_62 : decode method_2_code 62 = .ok (.areturn, 1) := by decide +kernel
theorem d2_63 : decode method_2_code 63 = .ok (.iload_n 0, 1) := by decide +kernel
theorem d2_64 : decode method_2_code 64 = .ok (.bipush 7, 2) := by decide +kernel
theorem d2_66 : decode method_2_code 66 = .ok (.if_icmp .ne 7, 3) := by decide +kernel
theorem d2_69 : decode method_2_code 69 = .ok (.getstatic 31, 3) := by decide +kernel
theorem d2_72 : decode method_2_code 72 = .ok (.areturn, 1) := by decide +kernel
theorem d2_73 : decode method_2_code 73 = .ok (.iload_n 0, 1) := by decide +kernel
theorem d2_74 : decode method_2_code 74 = .ok (.bipush 8, 2) := by decide +kernel
theorem d2_76 : decode method_2_code 76 = .ok (.if_icmp .ne 7, 3) := by decide +kernel
theorem d2_79 : decode method_2_code 79 = .ok (.getstatic 34, 3) := by decide +kernel
theorem d2_82 : decode method_2_code 82 = .ok (.areturn, 1) := by decide +kernel
theorem d2_83 : decode method_2_code 83 = .ok (.iload_n 0, 1) := by decide +kernel
theorem d2_84 : decode method_2_code 84 = .ok (.bipush 9, 2) := by decide +kernel
theorem d2_86 : decode method_2_code 86 = .ok (.if_icmp .ne 7, 3) := by decide +kernel
theorem d2_89 : decode method_2_code 89 = .ok (.getstatic 37, 3) := by decide +kernel
theorem d2_92 : decode method_2_code 92 = .ok (.areturn, 1) := by decide +kernel
theorem d2_93 : decode method_2_code 93 = .ok (.iload_n 0, 1) := by decide +kernel
theorem d2_94 : decode method_2_code 94 = .ok (.bipush 10, 2) := by decide +kernel
theorem d2_96 : decode method_2_code 96 = .ok (.if_icmp .ne 7, 3) := by decide +kernel
theorem d2_99 : decode method_2_code 99 = .ok (.getstatic 40, 3) := by decide +kernel
theorem d2_102 : decode method_2_code 102 = .ok (.areturn, 1) := by decide +kernel
theorem d2_103 : decode method_2_code 103 = .ok (.iload_n 0, 1) := by decide +kernel
theorem d2_104 : decode method_2_code 104 = .ok (.bipush 11, 2) := by decide +kernel
theorem d2_106 : decode method_2_code 106 = .ok (.if_icmp .ne 7, 3) := by decide +kernel
theorem d2_109 : decode method_2_code 109 = .ok (.getstatic 43, 3) := by decide +kernel
theorem d2_112 : decode method_2_code 112 = .ok (.areturn, 1) := by decide +kernel
theorem d2_113 : decode method_2_code 113 = .ok (.iload_n 0, 1) := by decide +kernel
theorem d2_114 : decode method_2_code 114 = .ok (.bipush 12, 2) := by decide +kernel
theorem d2_116 : decode method_2_code 116 = .ok (.if_icmp .ne 7, 3) := by decide +kernel
theorem d2_119 : decode method_2_code 119 = .ok (.getstatic 46, 3) := by decide +kernel
theorem d2_122 : decode method_2_code 122 = .ok (.areturn, 1) := by decide +kernel
theorem d2_123 : decode method_2_code 123 = .ok (.aconst_null, 1) := by decide +kernel
theorem d2_124 : decode method_2_code 124 = .ok (.areturn, 1) := by decide +kernel
theorem ef_2 (m : MethodId) (ii : Int32) : entryFrame m #[(.int ii)] 1 = mkF m 0 #[.val (.int ii)] [] := by first | (simp [entryFrame, mkF, argsToLocals, Value.category]; done) | rfl
def Q2 (Z : State) (ii : Int32) (k_END : Addr) (k_BYTE : Addr) (k_SHORT : Addr) (k_INT : Addr) (k_LONG : Addr) (k_FLOAT : Addr) (k_DOUBLE : Addr) (k_BYTE_ARRAY : Addr) (k_STRING : Addr) (k_LIST : Addr) (k_COMPOUND : Addr) (k_INT_ARRAY : Addr) (k_LONG_ARRAY : Addr) (h0 : Heap) (n0 : Nat) (v : Option Value) (h : Heap) (L : List Loc) : Prop := v = some (own_by ii (own_vs k_END k_BYTE k_SHORT k_INT k_LONG k_FLOAT k_DOUBLE k_BYTE_ARRAY k_STRING k_LIST k_COMPOUND k_INT_ARRAY k_LONG_ARRAY)) ∧ Fr n0 L ∧ h = h0
set_option maxRecDepth 65536 in
set_option maxHeartbeats 40000000 in
theorem rm2 (l : Launch) (Z : State) (a0 : Array Value) (hw : ∀ d ∈ tables_1, d.before a0 Z = true) (ws : List Jvm.Cond) (ii : Int32) (k_END : Addr) (k_BYTE : Addr) (k_SHORT : Addr) (k_INT : Addr) (k_LONG : Addr) (k_FLOAT : Addr) (k_DOUBLE : Addr) (k_BYTE_ARRAY : Addr) (k_STRING : Addr) (k_LIST : Addr) (k_COMPOUND : Addr) (k_INT_ARRAY : Addr) (k_LONG_ARRAY : Addr) (h0 : Heap) (n0 : Nat) (Z0 : n0 ≤ h0.size) (S_END : Sta Z h0 "com/example/facetwork/facetwork/nbt/TagType" "END" "Lcom/example/facetwork/facetwork/nbt/TagType;" (.ref k_END)) (S_BYTE : Sta Z h0 "com/example/facetwork/facetwork/nbt/TagType" "BYTE" "Lcom/example/facetwork/facetwork/nbt/TagType;" (.ref k_BYTE)) (S_SHORT : Sta Z h0 "com/example/facetwork/facetwork/nbt/TagType" "SHORT" "Lcom/example/facetwork/facetwork/nbt/TagType;" (.ref k_SHORT)) (S_INT : Sta Z h0 "com/example/facetwork/facetwork/nbt/TagType" "INT" "Lcom/example/facetwork/facetwork/nbt/TagType;" (.ref k_INT)) (S_LONG : Sta Z h0 "com/example/facetwork/facetwork/nbt/TagType" "LONG" "Lcom/example/facetwork/facetwork/nbt/TagType;" (.ref k_LONG)) (S_FLOAT : Sta Z h0 "com/example/facetwork/facetwork/nbt/TagType" "FLOAT" "Lcom/example/facetwork/facetwork/nbt/TagType;" (.ref k_FLOAT)) (S_DOUBLE : Sta Z h0 "com/example/facetwork/facetwork/nbt/TagType" "DOUBLE" "Lcom/example/facetwork/facetwork/nbt/TagType;" (.ref k_DOUBLE)) (S_BYTE_ARRAY : Sta Z h0 "com/example/facetwork/facetwork/nbt/TagType" "BYTE_ARRAY" "Lcom/example/facetwork/facetwork/nbt/TagType;" (.ref k_BYTE_ARRAY)) (S_STRING : Sta Z h0 "com/example/facetwork/facetwork/nbt/TagType" "STRING" "Lcom/example/facetwork/facetwork/nbt/TagType;" (.ref k_STRING)) (S_LIST : Sta Z h0 "com/example/facetwork/facetwork/nbt/TagType" "LIST" "Lcom/example/facetwork/facetwork/nbt/TagType;" (.ref k_LIST)) (S_COMPOUND : Sta Z h0 "com/example/facetwork/facetwork/nbt/TagType" "COMPOUND" "Lcom/example/facetwork/facetwork/nbt/TagType;" (.ref k_COMPOUND)) (S_INT_ARRAY : Sta Z h0 "com/example/facetwork/facetwork/nbt/TagType" "INT_ARRAY" "Lcom/example/facetwork/facetwork/nbt/TagType;" (.ref k_INT_ARRAY)) (S_LONG_ARRAY : Sta Z h0 "com/example/facetwork/facetwork/nbt/TagType" "LONG_ARRAY" "Lcom/example/facetwork/facetwork/nbt/TagType;" (.ref k_LONG_ARRAY)) :
    MetFree l (⟨"com/example/facetwork/facetwork/nbt/TagTypeByIdPinLaw", "expected", "(I)Lcom/example/facetwork/facetwork/nbt/TagType;"⟩ : MethodName) (head1 (Jvm.Cond.code (⟨"com/example/facetwork/facetwork/nbt/TagTypeByIdPinLaw", "expected", "(I)Lcom/example/facetwork/facetwork/nbt/TagType;"⟩ : MethodName) method_2_code 1 (some (.object "com/example/facetwork/facetwork/nbt/TagType")) :: ws) ({ frames := 0, cells := 0, slots := 0, locals := 0 } : Room)) (fun a U => a = #[(.int ii)] ∧ Z.Warmed39 U.vm ∧ U.heap = h0) (fun _ _ _ _ _ => True) (fun _ U o U' => ∃ v L, o = .returned v ∧ Q2 Z ii k_END k_BYTE k_SHORT k_INT k_LONG k_FLOAT k_DOUBLE k_BYTE_ARRAY k_STRING k_LIST k_COMPOUND k_INT_ARRAY k_LONG_ARRAY h0 n0 v U'.heap L ∧ FrameEnd U o U' L ({ frames := 0, cells := 0, slots := 0, locals := 0 } : Room).cells ({ frames := 0, cells := 0, slots := 0, locals := 0 } : Room).slots) := by
  refine MetFree.of_bodySF (plainFor_of_name pn_2) hisR ?_
  intro p e s m args below meth c s₁ Bd hml0 hP hK
  obtain ⟨rfl, hZ, hh⟩ := hP
  have hx := Bd.exec
  have hby := Bd.bytes
  have hml : c.maxLocals = 1 := hml0
  have hown : s.vm.findClass "com/example/facetwork/facetwork/nbt/TagTypeByIdPinLaw" = some m.cls := findClass_of_methodNamed Bd.named
  have hnm := (name_of_methodNamed Bd.named Bd.method).1
  have X0 : Stand p l e ({ frames := 0, cells := 0, slots := 0, locals := 0 } : Room) s m #[(.int ii)] below meth c s₁ [] 0 0 := Stand.of_body Bd
  have e0 : s₁.heap = h0 := by rw [← hh, Bd.state]; rfl
  have N0 := Fr.nil n0
  have pre0 : ∀ t, Steps p.tables e below (s₁.setTop (mkF m 0 #[.val (.int ii)] [])) t → Steps p.tables e below (s₁.setTop (entryFrame m #[(.int ii)] 1)) t := fun t k => castTop (ef_2 m ii) k
  have pre1 : ∀ t, Steps p.tables e below (s₁.setTop (mkF m 1 #[.val (.int ii)] [(.int ii)])) t → Steps p.tables e below (s₁.setTop (entryFrame m #[(.int ii)] 1)) t := by
    intro t k
    refine pre0 t ?_
    refine XS.iloadN X0.here hx rfl (hb hby d2_0) rfl ?_
    show Steps p.tables e below (s₁.setTop (mkF m 1 #[.val (.int ii)] [(.int ii)])) _
    exact k
  by_cases hs0 : ii = (0 : Int32)
  · skip
    have pre3 : ∀ t, Steps p.tables e below (s₁.setTop (mkF m 4 #[.val (.int ii)] [])) t → Steps p.tables e below (s₁.setTop (entryFrame m #[(.int ii)] 1)) t := by
      intro t k
      refine pre1 t ?_
      refine XS.ifNo X0.here hx rfl (hb hby d2_1) rfl (XT.i0_ne_f hs0) ?_
      show Steps p.tables e below (s₁.setTop (mkF m 4 #[.val (.int ii)] [])) _
      exact k
    obtain ⟨T4, X4, e4, st4⟩ := getS (host := "") X0 hx hZ hown (hw _ (List.mem_of_getElem? (i := 13) rfl)) Via.refl e0 S_END (g := (mkF m 4 #[.val (.int ii)] [])) rfl (hb hby d2_4)
    have pre5 : ∀ t, Steps p.tables e below (T4.setTop (mkF m 7 #[.val (.int ii)] [(.ref k_END)])) t → Steps p.tables e below (s₁.setTop (entryFrame m #[(.int ii)] 1)) t := fun t k => pre3 t (st4 t k)
    obtain ⟨fs, hr, hrun, hended, hW, hsame⟩ := X4.leave (v := some (.ref k_END)) (fun h => by rw [Bd.returns] at h; cases h)
    refine ⟨_, _, pre5 _ ?_, hrun, hended, _, _, rfl, ?_, ⟨_, rfl⟩, hW, hsame.mono (by decide) (by decide)⟩
    · exact retOut X4 hx Bd.returns rfl (Or.inr (Or.inr (Or.inr (Or.inr ⟨rfl, rfl, rfl⟩)))) (hb hby d2_7) hr
    · show Q2 Z ii k_END k_BYTE k_SHORT k_INT k_LONG k_FLOAT k_DOUBLE k_BYTE_ARRAY k_STRING k_LIST k_COMPOUND k_INT_ARRAY k_LONG_ARRAY h0 n0 _ T4.heap _
      rw [e4]
      exact ⟨(by rw [hs0]; rfl), N0, rfl⟩
  · skip
    have pre7 : ∀ t, Steps p.tables e below (s₁.setTop (mkF m 10 #[.val (.int ii)] [(.int (1 : Int32)), (.int ii)])) t → Steps p.tables e below (s₁.setTop (entryFrame m #[(.int ii)] 1)) t := by
      intro t k
      refine pre1 t ?_
      refine XS.ifYes X0.here hx rfl (pc0 := 1) (pc' := 8) rfl (hb hby d2_1) rfl (XT.i0_ne_t hs0) (by decide) (by decide) ?_
      show Steps p.tables e below (s₁.setTop (mkF m 8 #[.val (.int ii)] [])) _
      refine XS.iloadN X0.here hx rfl (hb hby d2_8) rfl ?_
      show Steps p.tables e below (s₁.setTop (mkF m 9 #[.val (.int ii)] [(.int ii)])) _
      refine XS.iconst X0.here hx rfl (hb hby d2_9) ?_
      show Steps p.tables e below (s₁.setTop (mkF m 10 #[.val (.int ii)] [(.int (1 : Int32)), (.int ii)])) _
      exact k
    by_cases hs1 : ii = (1 : Int32)
    · skip
      have pre9 : ∀ t, Steps p.tables e below (s₁.setTop (mkF m 13 #[.val (.int ii)] [])) t → Steps p.tables e below (s₁.setTop (entryFrame m #[(.int ii)] 1)) t := by
        intro t k
        refine pre7 t ?_
        refine XS.icmpNo X0.here hx rfl (hb hby d2_10) rfl (XT.ii_ne_f hs1) ?_
        show Steps p.tables e below (s₁.setTop (mkF m 13 #[.val (.int ii)] [])) _
        exact k
      obtain ⟨T10, X10, e10, st10⟩ := getS (host := "") X0 hx hZ hown (hw _ (List.mem_of_getElem? (i := 32) rfl)) Via.refl e0 S_BYTE (g := (mkF m 13 #[.val (.int ii)] [])) rfl (hb hby d2_13)
      have pre11 : ∀ t, Steps p.tables e below (T10.setTop (mkF m 16 #[.val (.int ii)] [(.ref k_BYTE)])) t → Steps p.tables e below (s₁.setTop (entryFrame m #[(.int ii)] 1)) t := fun t k => pre9 t (st10 t k)
      obtain ⟨fs, hr, hrun, hended, hW, hsame⟩ := X10.leave (v := some (.ref k_BYTE)) (fun h => by rw [Bd.returns] at h; cases h)
      refine ⟨_, _, pre11 _ ?_, hrun, hended, _, _, rfl, ?_, ⟨_, rfl⟩, hW, hsame.mono (by decide) (by decide)⟩
      · exact retOut X10 hx Bd.returns rfl (Or.inr (Or.inr (Or.inr (Or.inr ⟨rfl, rfl, rfl⟩)))) (hb hby d2_16) hr
      · show Q2 Z ii k_END k_BYTE k_SHORT k_INT k_LONG k_FLOAT k_DOUBLE k_BYTE_ARRAY k_STRING k_LIST k_COMPOUND k_INT_ARRAY k_LONG_ARRAY h0 n0 _ T10.heap _
        rw [e10]
        exact ⟨(by rw [hs1]; rfl), N0, rfl⟩
    · skip
      have pre13 : ∀ t, Steps p.tables e below (s₁.setTop (mkF m 19 #[.val (.int ii)] [(.int (2 : Int32)), (.int ii)])) t → Steps p.tables e below (s₁.setTop (entryFrame m #[(.int ii)] 1)) t := by
        intro t k
        refine pre7 t ?_
        refine XS.icmpYes X0.here hx rfl (pc0 := 10) (pc' := 17) rfl (hb hby d2_10) rfl (XT.ii_ne_t hs1) (by decide) (by decide) ?_
        show Steps p.tables e below (s₁.setTop (mkF m 17 #[.val (.int ii)] [])) _
        refine XS.iloadN X0.here hx rfl (hb hby d2_17) rfl ?_
        show Steps p.tables e below (s₁.setTop (mkF m 18 #[.val (.int ii)] [(.int ii)])) _
        refine XS.iconst X0.here hx rfl (hb hby d2_18) ?_
        show Steps p.tables e below (s₁.setTop (mkF m 19 #[.val (.int ii)] [(.int (2 : Int32)), (.int ii)])) _
        exact k
      by_cases hs2 : ii = (2 : Int32)
      · skip
        have pre15 : ∀ t, Steps p.tables e below (s₁.setTop (mkF m 22 #[.val (.int ii)] [])) t → Steps p.tables e below (s₁.setTop (entryFrame m #[(.int ii)] 1)) t := by
          intro t k
          refine pre13 t ?_
          refine XS.icmpNo X0.here hx rfl (hb hby d2_19) rfl (XT.ii_ne_f hs2) ?_
          show Steps p.tables e below (s₁.setTop (mkF m 22 #[.val (.int ii)] [])) _
          exact k
        obtain ⟨T16, X16, e16, st16⟩ := getS (host := "") X0 hx hZ hown (hw _ (List.mem_of_getElem? (i := 14) rfl)) Via.refl e0 S_SHORT (g := (mkF m 22 #[.val (.int ii)] [])) rfl (hb hby d2_22)
        have pre17 : ∀ t, Steps p.tables e below (T16.setTop (mkF m 25 #[.val (.int ii)] [(.ref k_SHORT)])) t → Steps p.tables e below (s₁.setTop (entryFrame m #[(.int ii)] 1)) t := fun t k => pre15 t (st16 t k)
        obtain ⟨fs, hr, hrun, hended, hW, hsame⟩ := X16.leave (v := some (.ref k_SHORT)) (fun h => by rw [Bd.returns] at h; cases h)
        refine ⟨_, _, pre17 _ ?_, hrun, hended, _, _, rfl, ?_, ⟨_, rfl⟩, hW, hsame.mono (by decide) (by decide)⟩
        · exact retOut X16 hx Bd.returns rfl (Or.inr (Or.inr (Or.inr (Or.inr ⟨rfl, rfl, rfl⟩)))) (hb hby d2_25) hr
        · show Q2 Z ii k_END k_BYTE k_SHORT k_INT k_LONG k_FLOAT k_DOUBLE k_BYTE_ARRAY k_STRING k_LIST k_COMPOUND k_INT_ARRAY k_LONG_ARRAY h0 n0 _ T16.heap _
          rw [e16]
          exact ⟨(by rw [hs2]; rfl), N0, rfl⟩
      · skip
        have pre19 : ∀ t, Steps p.tables e below (s₁.setTop (mkF m 28 #[.val (.int ii)] [(.int (3 : Int32)), (.int ii)])) t → Steps p.tables e below (s₁.setTop (entryFrame m #[(.int ii)] 1)) t := by
          intro t k
          refine pre13 t ?_
          refine XS.icmpYes X0.here hx rfl (pc0 := 19) (pc' := 26) rfl (hb hby d2_19) rfl (XT.ii_ne_t hs2) (by decide) (by decide) ?_
          show Steps p.tables e below (s₁.setTop (mkF m 26 #[.val (.int ii)] [])) _
          refine XS.iloadN X0.here hx rfl (hb hby d2_26) rfl ?_
          show Steps p.tables e below (s₁.setTop (mkF m 27 #[.val (.int ii)] [(.int ii)])) _
          refine XS.iconst X0.here hx rfl (hb hby d2_27) ?_
          show Steps p.tables e below (s₁.setTop (mkF m 28 #[.val (.int ii)] [(.int (3 : Int32)), (.int ii)])) _
          exact k
        by_cases hs3 : ii = (3 : Int32)
        · skip
          have pre21 : ∀ t, Steps p.tables e below (s₁.setTop (mkF m 31 #[.val (.int ii)] [])) t → Steps p.tables e below (s₁.setTop (entryFrame m #[(.int ii)] 1)) t := by
            intro t k
            refine pre19 t ?_
            refine XS.icmpNo X0.here hx rfl (hb hby d2_28) rfl (XT.ii_ne_f hs3) ?_
            show Steps p.tables e below (s₁.setTop (mkF m 31 #[.val (.int ii)] [])) _
            exact k
          obtain ⟨T22, X22, e22, st22⟩ := getS (host := "") X0 hx hZ hown (hw _ (List.mem_of_getElem? (i := 28) rfl)) Via.refl e0 S_INT (g := (mkF m 31 #[.val (.int ii)] [])) rfl (hb hby d2_31)
          have pre23 : ∀ t, Steps p.tables e below (T22.setTop (mkF m 34 #[.val (.int ii)] [(.ref k_INT)])) t → Steps p.tables e below (s₁.setTop (entryFrame m #[(.int ii)] 1)) t := fun t k => pre21 t (st22 t k)
          obtain ⟨fs, hr, hrun, hended, hW, hsame⟩ := X22.leave (v := some (.ref k_INT)) (fun h => by rw [Bd.returns] at h; cases h)
          refine ⟨_, _, pre23 _ ?_, hrun, hended, _, _, rfl, ?_, ⟨_, rfl⟩, hW, hsame.mono (by decide) (by decide)⟩
          · exact retOut X22 hx Bd.returns rfl (Or.inr (Or.inr (Or.inr (Or.inr ⟨rfl, rfl, rfl⟩)))) (hb hby d2_34) hr
          · show Q2 Z ii k_END k_BYTE k_SHORT k_INT k_LONG k_FLOAT k_DOUBLE k_BYTE_ARRAY k_STRING k_LIST k_COMPOUND k_INT_ARRAY k_LONG_ARRAY h0 n0 _ T22.heap _
            rw [e22]
            exact ⟨(by rw [hs3]; rfl), N0, rfl⟩
        · skip
          have pre25 : ∀ t, Steps p.tables e below (s₁.setTop (mkF m 37 #[.val (.int ii)] [(.int (4 : Int32)), (.int ii)])) t → Steps p.tables e below (s₁.setTop (entryFrame m #[(.int ii)] 1)) t := by
            intro t k
            refine pre19 t ?_
            refine XS.icmpYes X0.here hx rfl (pc0 := 28) (pc' := 35) rfl (hb hby d2_28) rfl (XT.ii_ne_t hs3) (by decide) (by decide) ?_
            show Steps p.tables e below (s₁.setTop (mkF m 35 #[.val (.int ii)] [])) _
            refine XS.iloadN X0.here hx rfl (hb hby d2_35) rfl ?_
            show Steps p.tables e below (s₁.setTop (mkF m 36 #[.val (.int ii)] [(.int ii)])) _
            refine XS.iconst X0.here hx rfl (hb hby d2_36) ?_
            show Steps p.tables e below (s₁.setTop (mkF m 37 #[.val (.int ii)] [(.int (4 : Int32)), (.int ii)])) _
            exact k
          by_cases hs4 : ii = (4 : Int32)
          · skip
            have pre27 : ∀ t, Steps p.tables e below (s₁.setTop (mkF m 40 #[.val (.int ii)] [])) t → Steps p.tables e below (s₁.setTop (entryFrame m #[(.int ii)] 1)) t := by
              intro t k
              refine pre25 t ?_
              refine XS.icmpNo X0.here hx rfl (hb hby d2_37) rfl (XT.ii_ne_f hs4) ?_
              show Steps p.tables e below (s₁.setTop (mkF m 40 #[.val (.int ii)] [])) _
              exact k
            obtain ⟨T28, X28, e28, st28⟩ := getS (host := "") X0 hx hZ hown (hw _ (List.mem_of_getElem? (i := 26) rfl)) Via.refl e0 S_LONG (g := (mkF m 40 #[.val (.int ii)] [])) rfl (hb hby d2_40)
            have pre29 : ∀ t, Steps p.tables e below (T28.setTop (mkF m 43 #[.val (.int ii)] [(.ref k_LONG)])) t → Steps p.tables e below (s₁.setTop (entryFrame m #[(.int ii)] 1)) t := fun t k => pre27 t (st28 t k)
            obtain ⟨fs, hr, hrun, hended, hW, hsame⟩ := X28.leave (v := some (.ref k_LONG)) (fun h => by rw [Bd.returns] at h; cases h)
            refine ⟨_, _, pre29 _ ?_, hrun, hended, _, _, rfl, ?_, ⟨_, rfl⟩, hW, hsame.mono (by decide) (by decide)⟩
            · exact retOut X28 hx Bd.returns rfl (Or.inr (Or.inr (Or.inr (Or.inr ⟨rfl, rfl, rfl⟩)))) (hb hby d2_43) hr
            · show Q2 Z ii k_END k_BYTE k_SHORT k_INT k_LONG k_FLOAT k_DOUBLE k_BYTE_ARRAY k_STRING k_LIST k_COMPOUND k_INT_ARRAY k_LONG_ARRAY h0 n0 _ T28.heap _
              rw [e28]
              exact ⟨(by rw [hs4]; rfl), N0, rfl⟩
          · skip
            have pre31 : ∀ t, Steps p.tables e below (s₁.setTop (mkF m 46 #[.val (.int ii)] [(.int (5 : Int32)), (.int ii)])) t → Steps p.tables e below (s₁.setTop (entryFrame m #[(.int ii)] 1)) t := by
              intro t k
              refine pre25 t ?_
              refine XS.icmpYes X0.here hx rfl (pc0 := 37) (pc' := 44) rfl (hb hby d2_37) rfl (XT.ii_ne_t hs4) (by decide) (by decide) ?_
              show Steps p.tables e below (s₁.setTop (mkF m 44 #[.val (.int ii)] [])) _
              refine XS.iloadN X0.here hx rfl (hb hby d2_44) rfl ?_
              show Steps p.tables e below (s₁.setTop (mkF m 45 #[.val (.int ii)] [(.int ii)])) _
              refine XS.iconst X0.here hx rfl (hb hby d2_45) ?_
              show Steps p.tables e below (s₁.setTop (mkF m 46 #[.val (.int ii)] [(.int (5 : Int32)), (.int ii)])) _
              exact k
            by_cases hs5 : ii = (5 : Int32)
            · skip
              have pre33 : ∀ t, Steps p.tables e below (s₁.setTop (mkF m 49 #[.val (.int ii)] [])) t → Steps p.tables e below (s₁.setTop (entryFrame m #[(.int ii)] 1)) t := by
                intro t k
                refine pre31 t ?_
                refine XS.icmpNo X0.here hx rfl (hb hby d2_46) rfl (XT.ii_ne_f hs5) ?_
                show Steps p.tables e below (s₁.setTop (mkF m 49 #[.val (.int ii)] [])) _
                exact k
              obtain ⟨T34, X34, e34, st34⟩ := getS (host := "") X0 hx hZ hown (hw _ (List.mem_of_getElem? (i := 30) rfl)) Via.refl e0 S_FLOAT (g := (mkF m 49 #[.val (.int ii)] [])) rfl (hb hby d2_49)
              have pre35 : ∀ t, Steps p.tables e below (T34.setTop (mkF m 52 #[.val (.int ii)] [(.ref k_FLOAT)])) t → Steps p.tables e below (s₁.setTop (entryFrame m #[(.int ii)] 1)) t := fun t k => pre33 t (st34 t k)
              obtain ⟨fs, hr, hrun, hended, hW, hsame⟩ := X34.leave (v := some (.ref k_FLOAT)) (fun h => by rw [Bd.returns] at h; cases h)
              refine ⟨_, _, pre35 _ ?_, hrun, hended, _, _, rfl, ?_, ⟨_, rfl⟩, hW, hsame.mono (by decide) (by decide)⟩
              · exact retOut X34 hx Bd.returns rfl (Or.inr (Or.inr (Or.inr (Or.inr ⟨rfl, rfl, rfl⟩)))) (hb hby d2_52) hr
              · show Q2 Z ii k_END k_BYTE k_SHORT k_INT k_LONG k_FLOAT k_DOUBLE k_BYTE_ARRAY k_STRING k_LIST k_COMPOUND k_INT_ARRAY k_LONG_ARRAY h0 n0 _ T34.heap _
                rw [e34]
                exact ⟨(by rw [hs5]; rfl), N0, rfl⟩
            · skip
              have pre37 : ∀ t, Steps p.tables e below (s₁.setTop (mkF m 56 #[.val (.int ii)] [(.int (6 : Int32)), (.int ii)])) t → Steps p.tables e below (s₁.setTop (entryFrame m #[(.int ii)] 1)) t := by
                intro t k
                refine pre31 t ?_
                refine XS.icmpYes X0.here hx rfl (pc0 := 46) (pc' := 53) rfl (hb hby d2_46) rfl (XT.ii_ne_t hs5) (by decide) (by decide) ?_
                show Steps p.tables e below (s₁.setTop (mkF m 53 #[.val (.int ii)] [])) _
                refine XS.iloadN X0.here hx rfl (hb hby d2_53) rfl ?_
                show Steps p.tables e below (s₁.setTop (mkF m 54 #[.val (.int ii)] [(.int ii)])) _
                refine XS.bipush X0.here hx rfl (hb hby d2_54) ?_
                show Steps p.tables e below (s₁.setTop (mkF m 56 #[.val (.int ii)] [(.int (6 : Int32)), (.int ii)])) _
                exact k
              by_cases hs6 : ii = (6 : Int32)
              · skip
                have pre39 : ∀ t, Steps p.tables e below (s₁.setTop (mkF m 59 #[.val (.int ii)] [])) t → Steps p.tables e below (s₁.setTop (entryFrame m #[(.int ii)] 1)) t := by
                  intro t k
                  refine pre37 t ?_
                  refine XS.icmpNo X0.here hx rfl (hb hby d2_56) rfl (XT.ii_ne_f hs6) ?_
                  show Steps p.tables e below (s₁.setTop (mkF m 59 #[.val (.int ii)] [])) _
                  exact k
                obtain ⟨T40, X40, e40, st40⟩ := getS (host := "") X0 hx hZ hown (hw _ (List.mem_of_getElem? (i := 21) rfl)) Via.refl e0 S_DOUBLE (g := (mkF m 59 #[.val (.int ii)] [])) rfl (hb hby d2_59)
                have pre41 : ∀ t, Steps p.tables e below (T40.setTop (mkF m 62 #[.val (.int ii)] [(.ref k_DOUBLE)])) t → Steps p.tables e below (s₁.setTop (entryFrame m #[(.int ii)] 1)) t := fun t k => pre39 t (st40 t k)
                obtain ⟨fs, hr, hrun, hended, hW, hsame⟩ := X40.leave (v := some (.ref k_DOUBLE)) (fun h => by rw [Bd.returns] at h; cases h)
                refine ⟨_, _, pre41 _ ?_, hrun, hended, _, _, rfl, ?_, ⟨_, rfl⟩, hW, hsame.mono (by decide) (by decide)⟩
                · exact retOut X40 hx Bd.returns rfl (Or.inr (Or.inr (Or.inr (Or.inr ⟨rfl, rfl, rfl⟩)))) (hb hby d2_62) hr
                · show Q2 Z ii k_END k_BYTE k_SHORT k_INT k_LONG k_FLOAT k_DOUBLE k_BYTE_ARRAY k_STRING k_LIST k_COMPOUND k_INT_ARRAY k_LONG_ARRAY h0 n0 _ T40.heap _
                  rw [e40]
                  exact ⟨(by rw [hs6]; rfl), N0, rfl⟩
              · skip
                have pre43 : ∀ t, Steps p.tables e below (s₁.setTop (mkF m 66 #[.val (.int ii)] [(.int (7 : Int32)), (.int ii)])) t → Steps p.tables e below (s₁.setTop (entryFrame m #[(.int ii)] 1)) t := by
                  intro t k
                  refine pre37 t ?_
                  refine XS.icmpYes X0.here hx rfl (pc0 := 56) (pc' := 63) rfl (hb hby d2_56) rfl (XT.ii_ne_t hs6) (by decide) (by decide) ?_
                  show Steps p.tables e below (s₁.setTop (mkF m 63 #[.val (.int ii)] [])) _
                  refine XS.iloadN X0.here hx rfl (hb hby d2_63) rfl ?_
                  show Steps p.tables e below (s₁.setTop (mkF m 64 #[.val (.int ii)] [(.int ii)])) _
                  refine XS.bipush X0.here hx rfl (hb hby d2_64) ?_
                  show Steps p.tables e below (s₁.setTop (mkF m 66 #[.val (.int ii)] [(.int (7 : Int32)), (.int ii)])) _
                  exact k
                by_cases hs7 : ii = (7 : Int32)
                · skip
                  have pre45 : ∀ t, Steps p.tables e below (s₁.setTop (mkF m 69 #[.val (.int ii)] [])) t → Steps p.tables e below (s₁.setTop (entryFrame m #[(.int ii)] 1)) t := by
                    intro t k
                    refine pre43 t ?_
                    refine XS.icmpNo X0.here hx rfl (hb hby d2_66) rfl (XT.ii_ne_f hs7) ?_
                    show Steps p.tables e below (s₁.setTop (mkF m 69 #[.val (.int ii)] [])) _
                    exact k
                  obtain ⟨T46, X46, e46, st46⟩ := getS (host := "") X0 hx hZ hown (hw _ (List.mem_of_getElem? (i := 36) rfl)) Via.refl e0 S_BYTE_ARRAY (g := (mkF m 69 #[.val (.int ii)] [])) rfl (hb hby d2_69)
                  have pre47 : ∀ t, Steps p.tables e below (T46.setTop (mkF m 72 #[.val (.int ii)] [(.ref k_BYTE_ARRAY)])) t → Steps p.tables e below (s₁.setTop (entryFrame m #[(.int ii)] 1)) t := fun t k => pre45 t (st46 t k)
                  obtain ⟨fs, hr, hrun, hended, hW, hsame⟩ := X46.leave (v := some (.ref k_BYTE_ARRAY)) (fun h => by rw [Bd.returns] at h; cases h)
                  refine ⟨_, _, pre47 _ ?_, hrun, hended, _, _, rfl, ?_, ⟨_, rfl⟩, hW, hsame.mono (by decide) (by decide)⟩
                  · exact retOut X46 hx Bd.returns rfl (Or.inr (Or.inr (Or.inr (Or.inr ⟨rfl, rfl, rfl⟩)))) (hb hby d2_72) hr
                  · show Q2 Z ii k_END k_BYTE k_SHORT k_INT k_LONG k_FLOAT k_DOUBLE k_BYTE_ARRAY k_STRING k_LIST k_COMPOUND k_INT_ARRAY k_LONG_ARRAY h0 n0 _ T46.heap _
                    rw [e46]
                    exact ⟨(by rw [hs7]; rfl), N0, rfl⟩
                · skip
                  have pre49 : ∀ t, Steps p.tables e below (s₁.setTop (mkF m 76 #[.val (.int ii)] [(.int (8 : Int32)), (.int ii)])) t → Steps p.tables e below (s₁.setTop (entryFrame m #[(.int ii)] 1)) t := by
                    intro t k
                    refine pre43 t ?_
                    refine XS.icmpYes X0.here hx rfl (pc0 := 66) (pc' := 73) rfl (hb hby d2_66) rfl (XT.ii_ne_t hs7) (by decide) (by decide) ?_
                    show Steps p.tables e below (s₁.setTop (mkF m 73 #[.val (.int ii)] [])) _
                    refine XS.iloadN X0.here hx rfl (hb hby d2_73) rfl ?_
                    show Steps p.tables e below (s₁.setTop (mkF m 74 #[.val (.int ii)] [(.int ii)])) _
                    refine XS.bipush X0.here hx rfl (hb hby d2_74) ?_
                    show Steps p.tables e below (s₁.setTop (mkF m 76 #[.val (.int ii)] [(.int (8 : Int32)), (.int ii)])) _
                    exact k
                  by_cases hs8 : ii = (8 : Int32)
                  · skip
                    have pre51 : ∀ t, Steps p.tables e below (s₁.setTop (mkF m 79 #[.val (.int ii)] [])) t → Steps p.tables e below (s₁.setTop (entryFrame m #[(.int ii)] 1)) t := by
                      intro t k
                      refine pre49 t ?_
                      refine XS.icmpNo X0.here hx rfl (hb hby d2_76) rfl (XT.ii_ne_f hs8) ?_
                      show Steps p.tables e below (s₁.setTop (mkF m 79 #[.val (.int ii)] [])) _
                      exact k
                    obtain ⟨T52, X52, e52, st52⟩ := getS (host := "") X0 hx hZ hown (hw _ (List.mem_of_getElem? (i := 24) rfl)) Via.refl e0 S_STRING (g := (mkF m 79 #[.val (.int ii)] [])) rfl (hb hby d2_79)
                    have pre53 : ∀ t, Steps p.tables e below (T52.setTop (mkF m 82 #[.val (.int ii)] [(.ref k_STRING)])) t → Steps p.tables e below (s₁.setTop (entryFrame m #[(.int ii)] 1)) t := fun t k => pre51 t (st52 t k)
                    obtain ⟨fs, hr, hrun, hended, hW, hsame⟩ := X52.leave (v := some (.ref k_STRING)) (fun h => by rw [Bd.returns] at h; cases h)
                    refine ⟨_, _, pre53 _ ?_, hrun, hended, _, _, rfl, ?_, ⟨_, rfl⟩, hW, hsame.mono (by decide) (by decide)⟩
                    · exact retOut X52 hx Bd.returns rfl (Or.inr (Or.inr (Or.inr (Or.inr ⟨rfl, rfl, rfl⟩)))) (hb hby d2_82) hr
                    · show Q2 Z ii k_END k_BYTE k_SHORT k_INT k_LONG k_FLOAT k_DOUBLE k_BYTE_ARRAY k_STRING k_LIST k_COMPOUND k_INT_ARRAY k_LONG_ARRAY h0 n0 _ T52.heap _
                      rw [e52]
                      exact ⟨(by rw [hs8]; rfl), N0, rfl⟩
                  · skip
                    have pre55 : ∀ t, Steps p.tables e below (s₁.setTop (mkF m 86 #[.val (.int ii)] [(.int (9 : Int32)), (.int ii)])) t → Steps p.tables e below (s₁.setTop (entryFrame m #[(.int ii)] 1)) t := by
                      intro t k
                      refine pre49 t ?_
                      refine XS.icmpYes X0.here hx rfl (pc0 := 76) (pc' := 83) rfl (hb hby d2_76) rfl (XT.ii_ne_t hs8) (by decide) (by decide) ?_
                      show Steps p.tables e below (s₁.setTop (mkF m 83 #[.val (.int ii)] [])) _
                      refine XS.iloadN X0.here hx rfl (hb hby d2_83) rfl ?_
                      show Steps p.tables e below (s₁.setTop (mkF m 84 #[.val (.int ii)] [(.int ii)])) _
                      refine XS.bipush X0.here hx rfl (hb hby d2_84) ?_
                      show Steps p.tables e below (s₁.setTop (mkF m 86 #[.val (.int ii)] [(.int (9 : Int32)), (.int ii)])) _
                      exact k
                    by_cases hs9 : ii = (9 : Int32)
                    · skip
                      have pre57 : ∀ t, Steps p.tables e below (s₁.setTop (mkF m 89 #[.val (.int ii)] [])) t → Steps p.tables e below (s₁.setTop (entryFrame m #[(.int ii)] 1)) t := by
                        intro t k
                        refine pre55 t ?_
                        refine XS.icmpNo X0.here hx rfl (hb hby d2_86) rfl (XT.ii_ne_f hs9) ?_
                        show Steps p.tables e below (s₁.setTop (mkF m 89 #[.val (.int ii)] [])) _
                        exact k
                      obtain ⟨T58, X58, e58, st58⟩ := getS (host := "") X0 hx hZ hown (hw _ (List.mem_of_getElem? (i := 22) rfl)) Via.refl e0 S_LIST (g := (mkF m 89 #[.val (.int ii)] [])) rfl (hb hby d2_89)
                      have pre59 : ∀ t, Steps p.tables e below (T58.setTop (mkF m 92 #[.val (.int ii)] [(.ref k_LIST)])) t → Steps p.tables e below (s₁.setTop (entryFrame m #[(.int ii)] 1)) t := fun t k => pre57 t (st58 t k)
                      obtain ⟨fs, hr, hrun, hended, hW, hsame⟩ := X58.leave (v := some (.ref k_LIST)) (fun h => by rw [Bd.returns] at h; cases h)
                      refine ⟨_, _, pre59 _ ?_, hrun, hended, _, _, rfl, ?_, ⟨_, rfl⟩, hW, hsame.mono (by decide) (by decide)⟩
                      · exact retOut X58 hx Bd.returns rfl (Or.inr (Or.inr (Or.inr (Or.inr ⟨rfl, rfl, rfl⟩)))) (hb hby d2_92) hr
                      · show Q2 Z ii k_END k_BYTE k_SHORT k_INT k_LONG k_FLOAT k_DOUBLE k_BYTE_ARRAY k_STRING k_LIST k_COMPOUND k_INT_ARRAY k_LONG_ARRAY h0 n0 _ T58.heap _
                        rw [e58]
                        exact ⟨(by rw [hs9]; rfl), N0, rfl⟩
                    · skip
                      have pre61 : ∀ t, Steps p.tables e below (s₁.setTop (mkF m 96 #[.val (.int ii)] [(.int (10 : Int32)), (.int ii)])) t → Steps p.tables e below (s₁.setTop (entryFrame m #[(.int ii)] 1)) t := by
                        intro t k
                        refine pre55 t ?_
                        refine XS.icmpYes X0.here hx rfl (pc0 := 86) (pc' := 93) rfl (hb hby d2_86) rfl (XT.ii_ne_t hs9) (by decide) (by decide) ?_
                        show Steps p.tables e below (s₁.setTop (mkF m 93 #[.val (.int ii)] [])) _
                        refine XS.iloadN X0.here hx rfl (hb hby d2_93) rfl ?_
                        show Steps p.tables e below (s₁.setTop (mkF m 94 #[.val (.int ii)] [(.int ii)])) _
                        refine XS.bipush X0.here hx rfl (hb hby d2_94) ?_
                        show Steps p.tables e below (s₁.setTop (mkF m 96 #[.val (.int ii)] [(.int (10 : Int32)), (.int ii)])) _
                        exact k
                      by_cases hs10 : ii = (10 : Int32)
                      · skip
                        have pre63 : ∀ t, Steps p.tables e below (s₁.setTop (mkF m 99 #[.val (.int ii)] [])) t → Steps p.tables e below (s₁.setTop (entryFrame m #[(.int ii)] 1)) t := by
                          intro t k
                          refine pre61 t ?_
                          refine XS.icmpNo X0.here hx rfl (hb hby d2_96) rfl (XT.ii_ne_f hs10) ?_
                          show Steps p.tables e below (s₁.setTop (mkF m 99 #[.val (.int ii)] [])) _
                          exact k
                        obtain ⟨T64, X64, e64, st64⟩ := getS (host := "") X0 hx hZ hown (hw _ (List.mem_of_getElem? (i := 16) rfl)) Via.refl e0 S_COMPOUND (g := (mkF m 99 #[.val (.int ii)] [])) rfl (hb hby d2_99)
                        have pre65 : ∀ t, Steps p.tables e below (T64.setTop (mkF m 102 #[.val (.int ii)] [(.ref k_COMPOUND)])) t → Steps p.tables e below (s₁.setTop (entryFrame m #[(.int ii)] 1)) t := fun t k => pre63 t (st64 t k)
                        obtain ⟨fs, hr, hrun, hended, hW, hsame⟩ := X64.leave (v := some (.ref k_COMPOUND)) (fun h => by rw [Bd.returns] at h; cases h)
                        refine ⟨_, _, pre65 _ ?_, hrun, hended, _, _, rfl, ?_, ⟨_, rfl⟩, hW, hsame.mono (by decide) (by decide)⟩
                        · exact retOut X64 hx Bd.returns rfl (Or.inr (Or.inr (Or.inr (Or.inr ⟨rfl, rfl, rfl⟩)))) (hb hby d2_102) hr
                        · show Q2 Z ii k_END k_BYTE k_SHORT k_INT k_LONG k_FLOAT k_DOUBLE k_BYTE_ARRAY k_STRING k_LIST k_COMPOUND k_INT_ARRAY k_LONG_ARRAY h0 n0 _ T64.heap _
                          rw [e64]
                          exact ⟨(by rw [hs10]; rfl), N0, rfl⟩
                      · skip
                        have pre67 : ∀ t, Steps p.tables e below (s₁.setTop (mkF m 106 #[.val (.int ii)] [(.int (11 : Int32)), (.int ii)])) t → Steps p.tables e below (s₁.setTop (entryFrame m #[(.int ii)] 1)) t := by
                          intro t k
                          refine pre61 t ?_
                          refine XS.icmpYes X0.here hx rfl (pc0 := 96) (pc' := 103) rfl (hb hby d2_96) rfl (XT.ii_ne_t hs10) (by decide) (by decide) ?_
                          show Steps p.tables e below (s₁.setTop (mkF m 103 #[.val (.int ii)] [])) _
                          refine XS.iloadN X0.here hx rfl (hb hby d2_103) rfl ?_
                          show Steps p.tables e below (s₁.setTop (mkF m 104 #[.val (.int ii)] [(.int ii)])) _
                          refine XS.bipush X0.here hx rfl (hb hby d2_104) ?_
                          show Steps p.tables e below (s₁.setTop (mkF m 106 #[.val (.int ii)] [(.int (11 : Int32)), (.int ii)])) _
                          exact k
                        by_cases hs11 : ii = (11 : Int32)
                        · skip
                          have pre69 : ∀ t, Steps p.tables e below (s₁.setTop (mkF m 109 #[.val (.int ii)] [])) t → Steps p.tables e below (s₁.setTop (entryFrame m #[(.int ii)] 1)) t := by
                            intro t k
                            refine pre67 t ?_
                            refine XS.icmpNo X0.here hx rfl (hb hby d2_106) rfl (XT.ii_ne_f hs11) ?_
                            show Steps p.tables e below (s₁.setTop (mkF m 109 #[.val (.int ii)] [])) _
                            exact k
                          obtain ⟨T70, X70, e70, st70⟩ := getS (host := "") X0 hx hZ hown (hw _ (List.mem_of_getElem? (i := 34) rfl)) Via.refl e0 S_INT_ARRAY (g := (mkF m 109 #[.val (.int ii)] [])) rfl (hb hby d2_109)
                          have pre71 : ∀ t, Steps p.tables e below (T70.setTop (mkF m 112 #[.val (.int ii)] [(.ref k_INT_ARRAY)])) t → Steps p.tables e below (s₁.setTop (entryFrame m #[(.int ii)] 1)) t := fun t k => pre69 t (st70 t k)
                          obtain ⟨fs, hr, hrun, hended, hW, hsame⟩ := X70.leave (v := some (.ref k_INT_ARRAY)) (fun h => by rw [Bd.returns] at h; cases h)
                          refine ⟨_, _, pre71 _ ?_, hrun, hended, _, _, rfl, ?_, ⟨_, rfl⟩, hW, hsame.mono (by decide) (by decide)⟩
                          · exact retOut X70 hx Bd.returns rfl (Or.inr (Or.inr (Or.inr (Or.inr ⟨rfl, rfl, rfl⟩)))) (hb hby d2_112) hr
                          · show Q2 Z ii k_END k_BYTE k_SHORT k_INT k_LONG k_FLOAT k_DOUBLE k_BYTE_ARRAY k_STRING k_LIST k_COMPOUND k_INT_ARRAY k_LONG_ARRAY h0 n0 _ T70.heap _
                            rw [e70]
                            exact ⟨(by rw [hs11]; rfl), N0, rfl⟩
                        · skip
                          have pre73 : ∀ t, Steps p.tables e below (s₁.setTop (mkF m 116 #[.val (.int ii)] [(.int (12 : Int32)), (.int ii)])) t → Steps p.tables e below (s₁.setTop (entryFrame m #[(.int ii)] 1)) t := by
                            intro t k
                            refine pre67 t ?_
                            refine XS.icmpYes X0.here hx rfl (pc0 := 106) (pc' := 113) rfl (hb hby d2_106) rfl (XT.ii_ne_t hs11) (by decide) (by decide) ?_
                            show Steps p.tables e below (s₁.setTop (mkF m 113 #[.val (.int ii)] [])) _
                            refine XS.iloadN X0.here hx rfl (hb hby d2_113) rfl ?_
                            show Steps p.tables e below (s₁.setTop (mkF m 114 #[.val (.int ii)] [(.int ii)])) _
                            refine XS.bipush X0.here hx rfl (hb hby d2_114) ?_
                            show Steps p.tables e below (s₁.setTop (mkF m 116 #[.val (.int ii)] [(.int (12 : Int32)), (.int ii)])) _
                            exact k
                          by_cases hs12 : ii = (12 : Int32)
                          · skip
                            have pre75 : ∀ t, Steps p.tables e below (s₁.setTop (mkF m 119 #[.val (.int ii)] [])) t → Steps p.tables e below (s₁.setTop (entryFrame m #[(.int ii)] 1)) t := by
                              intro t k
                              refine pre73 t ?_
                              refine XS.icmpNo X0.here hx rfl (hb hby d2_116) rfl (XT.ii_ne_f hs12) ?_
                              show Steps p.tables e below (s₁.setTop (mkF m 119 #[.val (.int ii)] [])) _
                              exact k
                            obtain ⟨T76, X76, e76, st76⟩ := getS (host := "") X0 hx hZ hown (hw _ (List.mem_of_getElem? (i := 18) rfl)) Via.refl e0 S_LONG_ARRAY (g := (mkF m 119 #[.val (.int ii)] [])) rfl (hb hby d2_119)
                            have pre77 : ∀ t, Steps p.tables e below (T76.setTop (mkF m 122 #[.val (.int ii)] [(.ref k_LONG_ARRAY)])) t → Steps p.tables e below (s₁.setTop (entryFrame m #[(.int ii)] 1)) t := fun t k => pre75 t (st76 t k)
                            obtain ⟨fs, hr, hrun, hended, hW, hsame⟩ := X76.leave (v := some (.ref k_LONG_ARRAY)) (fun h => by rw [Bd.returns] at h; cases h)
                            refine ⟨_, _, pre77 _ ?_, hrun, hended, _, _, rfl, ?_, ⟨_, rfl⟩, hW, hsame.mono (by decide) (by decide)⟩
                            · exact retOut X76 hx Bd.returns rfl (Or.inr (Or.inr (Or.inr (Or.inr ⟨rfl, rfl, rfl⟩)))) (hb hby d2_122) hr
                            · show Q2 Z ii k_END k_BYTE k_SHORT k_INT k_LONG k_FLOAT k_DOUBLE k_BYTE_ARRAY k_STRING k_LIST k_COMPOUND k_INT_ARRAY k_LONG_ARRAY h0 n0 _ T76.heap _
                              rw [e76]
                              exact ⟨(by rw [hs12]; rfl), N0, rfl⟩
                          · skip
                            have pre79 : ∀ t, Steps p.tables e below (s₁.setTop (mkF m 124 #[.val (.int ii)] [.null])) t → Steps p.tables e below (s₁.setTop (entryFrame m #[(.int ii)] 1)) t := by
                              intro t k
                              refine pre73 t ?_
                              refine XS.icmpYes X0.here hx rfl (pc0 := 116) (pc' := 123) rfl (hb hby d2_116) rfl (XT.ii_ne_t hs12) (by decide) (by decide) ?_
                              show Steps p.tables e below (s₁.setTop (mkF m 123 #[.val (.int ii)] [])) _
                              refine XS.aconstNull X0.here hx rfl (hb hby d2_123) ?_
                              show Steps p.tables e below (s₁.setTop (mkF m 124 #[.val (.int ii)] [.null])) _
                              exact k
                            obtain ⟨fs, hr, hrun, hended, hW, hsame⟩ := X0.leave (v := some .null) (fun h => by rw [Bd.returns] at h; cases h)
                            refine ⟨_, _, pre79 _ ?_, hrun, hended, _, _, rfl, ?_, ⟨_, rfl⟩, hW, hsame.mono (by decide) (by decide)⟩
                            · exact retOut X0 hx Bd.returns rfl (Or.inr (Or.inr (Or.inr (Or.inr ⟨rfl, rfl, rfl⟩)))) (hb hby d2_124) hr
                            · show Q2 Z ii k_END k_BYTE k_SHORT k_INT k_LONG k_FLOAT k_DOUBLE k_BYTE_ARRAY k_STRING k_LIST k_COMPOUND k_INT_ARRAY k_LONG_ARRAY h0 n0 _ s₁.heap _
                              rw [e0]
                              exact ⟨(by rw [own_none hs0 hs1 hs2 hs3 hs4 hs5 hs6 hs7 hs8 hs9 hs10 hs11 hs12]), N0, rfl⟩
theorem pd_by : parseMethodDescriptor "(I)Lcom/example/facetwork/facetwork/nbt/TagType;" = some ⟨[.int], some (.object "com/example/facetwork/facetwork/nbt/TagType")⟩ := by decide +kernel
theorem pn_law : plainName "com/example/facetwork/facetwork/nbt/TagTypeByIdPinLaw" = true := by first | (simp [plainName, overriddenIn]; done) | decide +kernel
theorem ef_law (m : MethodId) (ia : Int32) (ib : Int32) : entryFrame m #[(.int ia), (.int ib)] maxLocals = mkF m 0 #[.val (.int ia), .val (.int ib), .unset, .unset, .unset] [] := by first | (simp [entryFrame, mkF, argsToLocals, Value.category, maxLocals]; done) | rfl
def Qlaw (Z : State) (ia : Int32) (ib : Int32) (k_END : Addr) (k_BYTE : Addr) (k_SHORT : Addr) (k_INT : Addr) (k_LONG : Addr) (k_FLOAT : Addr) (k_DOUBLE : Addr) (k_BYTE_ARRAY : Addr) (k_STRING : Addr) (k_LIST : Addr) (k_COMPOUND : Addr) (k_INT_ARRAY : Addr) (k_LONG_ARRAY : Addr) (ba : Addr) (kk : ClassId) (h0 : Heap) (n0 : Nat) (v : Option Value) (h : Heap) (L : List Loc) : Prop := v = some (.int (1 : Int32)) ∧ Fr n0 L
set_option maxRecDepth 65536 in
set_option maxHeartbeats 40000000 in
theorem rmlaw (l : Launch) (Z : State) (a0 : Array Value) (hw : ∀ d ∈ tables_1, d.before a0 Z = true) (ws : List Jvm.Cond) (ia : Int32) (ib : Int32) (k_END : Addr) (k_BYTE : Addr) (k_SHORT : Addr) (k_INT : Addr) (k_LONG : Addr) (k_FLOAT : Addr) (k_DOUBLE : Addr) (k_BYTE_ARRAY : Addr) (k_STRING : Addr) (k_LIST : Addr) (k_COMPOUND : Addr) (k_INT_ARRAY : Addr) (k_LONG_ARRAY : Addr) (ba : Addr) (kk : ClassId) (h0 : Heap) (n0 : Nat) (Z0 : n0 ≤ h0.size) (S_BY : Sta Z h0 "com/example/facetwork/facetwork/nbt/TagType" "BY_ID" "[Lcom/example/facetwork/facetwork/nbt/TagType;" (.ref ba)) (V0 : Arv Z h0 ba kk (.object "com/example/facetwork/facetwork/nbt/TagType") (13 : Int32) (own_vs k_END k_BYTE k_SHORT k_INT k_LONG k_FLOAT k_DOUBLE k_BYTE_ARRAY k_STRING k_LIST k_COMPOUND k_INT_ARRAY k_LONG_ARRAY) .null) (S_END : Sta Z h0 "com/example/facetwork/facetwork/nbt/TagType" "END" "Lcom/example/facetwork/facetwork/nbt/TagType;" (.ref k_END)) (S_BYTE : Sta Z h0 "com/example/facetwork/facetwork/nbt/TagType" "BYTE" "Lcom/example/facetwork/facetwork/nbt/TagType;" (.ref k_BYTE)) (S_SHORT : Sta Z h0 "com/example/facetwork/facetwork/nbt/TagType" "SHORT" "Lcom/example/facetwork/facetwork/nbt/TagType;" (.ref k_SHORT)) (S_INT : Sta Z h0 "com/example/facetwork/facetwork/nbt/TagType" "INT" "Lcom/example/facetwork/facetwork/nbt/TagType;" (.ref k_INT)) (S_LONG : Sta Z h0 "com/example/facetwork/facetwork/nbt/TagType" "LONG" "Lcom/example/facetwork/facetwork/nbt/TagType;" (.ref k_LONG)) (S_FLOAT : Sta Z h0 "com/example/facetwork/facetwork/nbt/TagType" "FLOAT" "Lcom/example/facetwork/facetwork/nbt/TagType;" (.ref k_FLOAT)) (S_DOUBLE : Sta Z h0 "com/example/facetwork/facetwork/nbt/TagType" "DOUBLE" "Lcom/example/facetwork/facetwork/nbt/TagType;" (.ref k_DOUBLE)) (S_BYTE_ARRAY : Sta Z h0 "com/example/facetwork/facetwork/nbt/TagType" "BYTE_ARRAY" "Lcom/example/facetwork/facetwork/nbt/TagType;" (.ref k_BYTE_ARRAY)) (S_STRING : Sta Z h0 "com/example/facetwork/facetwork/nbt/TagType" "STRING" "Lcom/example/facetwork/facetwork/nbt/TagType;" (.ref k_STRING)) (S_LIST : Sta Z h0 "com/example/facetwork/facetwork/nbt/TagType" "LIST" "Lcom/example/facetwork/facetwork/nbt/TagType;" (.ref k_LIST)) (S_COMPOUND : Sta Z h0 "com/example/facetwork/facetwork/nbt/TagType" "COMPOUND" "Lcom/example/facetwork/facetwork/nbt/TagType;" (.ref k_COMPOUND)) (S_INT_ARRAY : Sta Z h0 "com/example/facetwork/facetwork/nbt/TagType" "INT_ARRAY" "Lcom/example/facetwork/facetwork/nbt/TagType;" (.ref k_INT_ARRAY)) (S_LONG_ARRAY : Sta Z h0 "com/example/facetwork/facetwork/nbt/TagType" "LONG_ARRAY" "Lcom/example/facetwork/facetwork/nbt/TagType;" (.ref k_LONG_ARRAY)) :
    MetFree l x (head1 (Jvm.Cond.code x code maxLocals ret :: ws) room_1) (fun a U => a = #[(.int ia), (.int ib)] ∧ Z.Warmed39 U.vm ∧ U.heap = h0) (fun _ _ _ _ _ => True) (fun _ U o U' => ∃ v L, o = .returned v ∧ Qlaw Z ia ib k_END k_BYTE k_SHORT k_INT k_LONG k_FLOAT k_DOUBLE k_BYTE_ARRAY k_STRING k_LIST k_COMPOUND k_INT_ARRAY k_LONG_ARRAY ba kk h0 n0 v U'.heap L ∧ FrameEnd U o U' L room_1.cells room_1.slots) := by
  refine MetFree.of_bodySF (plainFor_of_name pn_law) hisR ?_
  intro p e s m args below meth c s₁ Bd hml0 hP hK
  obtain ⟨rfl, hZ, hh⟩ := hP
  have hx := Bd.exec
  have hby := Bd.bytes
  have hml : c.maxLocals = 5 := hml0
  have hown : s.vm.findClass "com/example/facetwork/facetwork/nbt/TagTypeByIdPinLaw" = some m.cls := findClass_of_methodNamed Bd.named
  have hnm := (name_of_methodNamed Bd.named Bd.method).1
  have X0 : Stand p l e room_1 s m #[(.int ia), (.int ib)] below meth c s₁ [] 0 0 := Stand.of_body Bd
  have e0 : s₁.heap = h0 := by rw [← hh, Bd.state]; rfl
  have N0 := Fr.nil n0
  have pre0 : ∀ t, Steps p.tables e below (s₁.setTop (mkF m 0 #[.val (.int ia), .val (.int ib), .unset, .unset, .unset] [])) t → Steps p.tables e below (s₁.setTop (entryFrame m #[(.int ia), (.int ib)] maxLocals)) t := fun t k => castTop (ef_law m ia ib) k
  have pre1 : ∀ t, Steps p.tables e below (s₁.setTop (mkF m 10 #[.val (.int ia), .val (.int ib), .val (.int (((ib &&& (2147483647 : Int32)) % (15 : Int32)) - (1 : Int32))), .unset, .unset] [])) t → Steps p.tables e below (s₁.setTop (entryFrame m #[(.int ia), (.int ib)] maxLocals)) t := by
    intro t k
    refine pre0 t ?_
    refine XS.iloadN X0.here hx rfl (hb hby at_0) rfl ?_
    show Steps p.tables e below (s₁.setTop (mkF m 1 #[.val (.int ia), .val (.int ib), .unset, .unset, .unset] [(.int ib)])) _
    refine Stand.ldcI X0 hx hown (mvT hZ (hw _ (List.mem_of_getElem? (i := 0) rfl))) rfl (hb hby at_1) ?_
    show Steps p.tables e below (s₁.setTop (mkF m 3 #[.val (.int ia), .val (.int ib), .unset, .unset, .unset] [(.int (2147483647 : Int32)), (.int ib)])) _
    refine XS.iand X0.here hx rfl (hb hby at_3) rfl ?_
    show Steps p.tables e below (s₁.setTop (mkF m 4 #[.val (.int ia), .val (.int ib), .unset, .unset, .unset] [(.int (ib &&& (2147483647 : Int32)))])) _
    refine XS.bipush X0.here hx rfl (hb hby at_4) ?_
    show Steps p.tables e below (s₁.setTop (mkF m 6 #[.val (.int ia), .val (.int ib), .unset, .unset, .unset] [(.int (15 : Int32)), (.int (ib &&& (2147483647 : Int32)))])) _
    refine iremM X0 hx rfl (hb hby at_6) rfl (by decide) ?_
    show Steps p.tables e below (s₁.setTop (mkF m 7 #[.val (.int ia), .val (.int ib), .unset, .unset, .unset] [(.int ((ib &&& (2147483647 : Int32)) % (15 : Int32)))])) _
    refine XS.iconst X0.here hx rfl (hb hby at_7) ?_
    show Steps p.tables e below (s₁.setTop (mkF m 8 #[.val (.int ia), .val (.int ib), .unset, .unset, .unset] [(.int (1 : Int32)), (.int ((ib &&& (2147483647 : Int32)) % (15 : Int32)))])) _
    refine XS.isub X0.here hx rfl (hb hby at_8) rfl ?_
    show Steps p.tables e below (s₁.setTop (mkF m 9 #[.val (.int ia), .val (.int ib), .unset, .unset, .unset] [(.int (((ib &&& (2147483647 : Int32)) % (15 : Int32)) - (1 : Int32)))])) _
    refine XS.istoreN X0.here hx rfl (hb hby at_9) rfl (l' := #[.val (.int ia), .val (.int ib), .val (.int (((ib &&& (2147483647 : Int32)) % (15 : Int32)) - (1 : Int32))), .unset, .unset]) rfl ?_
    show Steps p.tables e below (s₁.setTop (mkF m 10 #[.val (.int ia), .val (.int ib), .val (.int (((ib &&& (2147483647 : Int32)) % (15 : Int32)) - (1 : Int32))), .unset, .unset] [])) _
    exact k
  obtain ⟨nr, hn_nr, pre2⟩ : ∃ nr : Int32, nr = (((ib &&& (2147483647 : Int32)) % (15 : Int32)) - (1 : Int32)) ∧ ∀ t, Steps p.tables e below (s₁.setTop (mkF m 10 #[.val (.int ia), .val (.int ib), .val (.int nr), .unset, .unset] [])) t → Steps p.tables e below (s₁.setTop (entryFrame m #[(.int ia), (.int ib)] maxLocals)) t := ⟨_, rfl, pre1⟩
  have pre4 : ∀ t, Steps p.tables e below (s₁.setTop (mkF m 11 #[.val (.int ia), .val (.int ib), .val (.int nr), .unset, .unset] [(.int ia)])) t → Steps p.tables e below (s₁.setTop (entryFrame m #[(.int ia), (.int ib)] maxLocals)) t := by
    intro t k
    refine pre2 t ?_
    refine XS.iloadN X0.here hx rfl (hb hby at_10) rfl ?_
    show Steps p.tables e below (s₁.setTop (mkF m 11 #[.val (.int ia), .val (.int ib), .val (.int nr), .unset, .unset] [(.int ia)])) _
    exact k
  obtain ⟨_, _, ⟨T5, L5, k5, n5⟩, -, X5, ⟨Lc5, hQ5, l5, y5, z5⟩, st5⟩ := Jvm.LawKit.callS X0 hx (y := (⟨"com/example/facetwork/facetwork/nbt/TagType", "byId", "(I)Lcom/example/facetwork/facetwork/nbt/TagType;"⟩ : MethodName)) hown (mvT hZ (hw _ (List.mem_of_getElem? (i := 1) rfl))) (mvT hZ (hw _ (List.mem_of_getElem? (i := 2) rfl))) (mvT hZ (hw _ (List.mem_of_getElem? (i := 3) rfl))) (mvT hZ (hw _ (List.mem_of_getElem? (i := 4) rfl))) (by decide) (backOf (W := 0) (rm1 l Z a0 hw [] ia k_END k_BYTE k_SHORT k_INT k_LONG k_FLOAT k_DOUBLE k_BYTE_ARRAY k_STRING k_LIST k_COMPOUND k_INT_ARRAY k_LONG_ARRAY ba kk h0 n0 Z0 S_BY V0) hZ (hw _ (List.mem_of_getElem? (i := 4) rfl)) (hw _ (List.mem_of_getElem? (i := 3) rfl)) (by decide) (by decide)) (g := (mkF m 11 #[.val (.int ia), .val (.int ib), .val (.int nr), .unset, .unset] [(.int ia)])) rfl (by rw [hml]; rfl) (argsL := [(.int ia)]) (rest := []) (lenOf pd_by rfl) rfl (by show 2 * 0 + _ ≤ _; exact Nat.le_of_eq rfl) (hb hby at_11) (fun _ _ => ⟨rfl, e0, (by decide : 0 + 0 ≤ _), (by decide : 0 + 0 ≤ _)⟩)
  dsimp only [Pt.U, Pt.locs, Pt.cells, Pt.slots] at X5 l5 y5 z5 st5 hQ5
  subst l5 y5 z5
  obtain ⟨rfl, Nq5, heq5⟩ := hQ5
  have N5 := Fr.app N0 Nq5
  have pre6 : ∀ t, Steps p.tables e below (T5.setTop (mkF m 14 #[.val (.int ia), .val (.int ib), .val (.int nr), .unset, .unset] [(own_by ia (own_vs k_END k_BYTE k_SHORT k_INT k_LONG k_FLOAT k_DOUBLE k_BYTE_ARRAY k_STRING k_LIST k_COMPOUND k_INT_ARRAY k_LONG_ARRAY))])) t → Steps p.tables e below (s₁.setTop (entryFrame m #[(.int ia), (.int ib)] maxLocals)) t := fun t k => pre4 t (st5 t k)
  have pre8 : ∀ t, Steps p.tables e below (T5.setTop (mkF m 16 #[.val (.int ia), .val (.int ib), .val (.int nr), .val (own_by ia (own_vs k_END k_BYTE k_SHORT k_INT k_LONG k_FLOAT k_DOUBLE k_BYTE_ARRAY k_STRING k_LIST k_COMPOUND k_INT_ARRAY k_LONG_ARRAY)), .unset] [(.int nr)])) t → Steps p.tables e below (s₁.setTop (entryFrame m #[(.int ia), (.int ib)] maxLocals)) t := by
    intro t k
    refine pre6 t ?_
    refine XT.astoreNS X5.here hx rfl (hb hby at_14) rfl (own_by_ref (own_vs_ref _ _ _ _ _ _ _ _ _ _ _ _ _)) (XT.cat1 (own_by_ref (own_vs_ref _ _ _ _ _ _ _ _ _ _ _ _ _))) (o := .unset) rfl (Or.inl rfl) ?_
    show Steps p.tables e below (T5.setTop (mkF m 15 #[.val (.int ia), .val (.int ib), .val (.int nr), .val (own_by ia (own_vs k_END k_BYTE k_SHORT k_INT k_LONG k_FLOAT k_DOUBLE k_BYTE_ARRAY k_STRING k_LIST k_COMPOUND k_INT_ARRAY k_LONG_ARRAY)), .unset] [])) _
    refine XS.iloadN X5.here hx rfl (hb hby at_15) rfl ?_
    show Steps p.tables e below (T5.setTop (mkF m 16 #[.val (.int ia), .val (.int ib), .val (.int nr), .val (own_by ia (own_vs k_END k_BYTE k_SHORT k_INT k_LONG k_FLOAT k_DOUBLE k_BYTE_ARRAY k_STRING k_LIST k_COMPOUND k_INT_ARRAY k_LONG_ARRAY)), .unset] [(.int nr)])) _
    exact k
  obtain ⟨_, _, ⟨T9, L9, k9, n9⟩, -, X9, ⟨Lc9, hQ9, l9, y9, z9⟩, st9⟩ := Jvm.LawKit.callS X5 hx (y := (⟨"com/example/facetwork/facetwork/nbt/TagType", "byId", "(I)Lcom/example/facetwork/facetwork/nbt/TagType;"⟩ : MethodName)) hown (mvT hZ (hw _ (List.mem_of_getElem? (i := 1) rfl))) (mvT hZ (hw _ (List.mem_of_getElem? (i := 2) rfl))) (mvT hZ (hw _ (List.mem_of_getElem? (i := 3) rfl))) (mvT hZ (hw _ (List.mem_of_getElem? (i := 4) rfl))) (by decide) (backOf (W := 0) (rm1 l Z a0 hw [] nr k_END k_BYTE k_SHORT k_INT k_LONG k_FLOAT k_DOUBLE k_BYTE_ARRAY k_STRING k_LIST k_COMPOUND k_INT_ARRAY k_LONG_ARRAY ba kk h0 n0 Z0 S_BY V0) hZ (hw _ (List.mem_of_getElem? (i := 4) rfl)) (hw _ (List.mem_of_getElem? (i := 3) rfl)) (by decide) (by decide)) (g := (mkF m 16 #[.val (.int ia), .val (.int ib), .val (.int nr), .val (own_by ia (own_vs k_END k_BYTE k_SHORT k_INT k_LONG k_FLOAT k_DOUBLE k_BYTE_ARRAY k_STRING k_LIST k_COMPOUND k_INT_ARRAY k_LONG_ARRAY)), .unset] [(.int nr)])) rfl (by rw [hml]; rfl) (argsL := [(.int nr)]) (rest := []) (lenOf pd_by rfl) rfl (by show 2 * 0 + _ ≤ _; exact Nat.le_of_eq rfl) (hb hby at_16) (fun _ _ => ⟨rfl, heq5, (by decide : 0 + 0 ≤ _), (by decide : 0 + 0 ≤ _)⟩)
  dsimp only [Pt.U, Pt.locs, Pt.cells, Pt.slots] at X9 l9 y9 z9 st9 hQ9
  subst l9 y9 z9
  obtain ⟨rfl, Nq9, heq9⟩ := hQ9
  have N9 := Fr.app N5 Nq9
  have pre10 : ∀ t, Steps p.tables e below (T9.setTop (mkF m 19 #[.val (.int ia), .val (.int ib), .val (.int nr), .val (own_by ia (own_vs k_END k_BYTE k_SHORT k_INT k_LONG k_FLOAT k_DOUBLE k_BYTE_ARRAY k_STRING k_LIST k_COMPOUND k_INT_ARRAY k_LONG_ARRAY)), .unset] [(own_by nr (own_vs k_END k_BYTE k_SHORT k_INT k_LONG k_FLOAT k_DOUBLE k_BYTE_ARRAY k_STRING k_LIST k_COMPOUND k_INT_ARRAY k_LONG_ARRAY))])) t → Steps p.tables e below (s₁.setTop (entryFrame m #[(.int ia), (.int ib)] maxLocals)) t := fun t k => pre8 t (st9 t k)
  have pre12 : ∀ t, Steps p.tables e below (T9.setTop (mkF m 23 #[.val (.int ia), .val (.int ib), .val (.int nr), .val (own_by ia (own_vs k_END k_BYTE k_SHORT k_INT k_LONG k_FLOAT k_DOUBLE k_BYTE_ARRAY k_STRING k_LIST k_COMPOUND k_INT_ARRAY k_LONG_ARRAY)), .val (own_by nr (own_vs k_END k_BYTE k_SHORT k_INT k_LONG k_FLOAT k_DOUBLE k_BYTE_ARRAY k_STRING k_LIST k_COMPOUND k_INT_ARRAY k_LONG_ARRAY))] [(.int ia), (own_by ia (own_vs k_END k_BYTE k_SHORT k_INT k_LONG k_FLOAT k_DOUBLE k_BYTE_ARRAY k_STRING k_LIST k_COMPOUND k_INT_ARRAY k_LONG_ARRAY))])) t → Steps p.tables e below (s₁.setTop (entryFrame m #[(.int ia), (.int ib)] maxLocals)) t := by
    intro t k
    refine pre10 t ?_
    refine XS.astoreS X9.here hx rfl (hb hby at_19) rfl (own_by_ref (own_vs_ref _ _ _ _ _ _ _ _ _ _ _ _ _)) (XT.cat1 (own_by_ref (own_vs_ref _ _ _ _ _ _ _ _ _ _ _ _ _))) (o := .unset) rfl (Or.inl rfl) ?_
    show Steps p.tables e below (T9.setTop (mkF m 21 #[.val (.int ia), .val (.int ib), .val (.int nr), .val (own_by ia (own_vs k_END k_BYTE k_SHORT k_INT k_LONG k_FLOAT k_DOUBLE k_BYTE_ARRAY k_STRING k_LIST k_COMPOUND k_INT_ARRAY k_LONG_ARRAY)), .val (own_by nr (own_vs k_END k_BYTE k_SHORT k_INT k_LONG k_FLOAT k_DOUBLE k_BYTE_ARRAY k_STRING k_LIST k_COMPOUND k_INT_ARRAY k_LONG_ARRAY))] [])) _
    refine XS.aloadN X9.here hx rfl (hb hby at_21) rfl (own_by_ref (own_vs_ref _ _ _ _ _ _ _ _ _ _ _ _ _)) ?_
    show Steps p.tables e below (T9.setTop (mkF m 22 #[.val (.int ia), .val (.int ib), .val (.int nr), .val (own_by ia (own_vs k_END k_BYTE k_SHORT k_INT k_LONG k_FLOAT k_DOUBLE k_BYTE_ARRAY k_STRING k_LIST k_COMPOUND k_INT_ARRAY k_LONG_ARRAY)), .val (own_by nr (own_vs k_END k_BYTE k_SHORT k_INT k_LONG k_FLOAT k_DOUBLE k_BYTE_ARRAY k_STRING k_LIST k_COMPOUND k_INT_ARRAY k_LONG_ARRAY))] [(own_by ia (own_vs k_END k_BYTE k_SHORT k_INT k_LONG k_FLOAT k_DOUBLE k_BYTE_ARRAY k_STRING k_LIST k_COMPOUND k_INT_ARRAY k_LONG_ARRAY))])) _
    refine XS.iloadN X9.here hx rfl (hb hby at_22) rfl ?_
    show Steps p.tables e below (T9.setTop (mkF m 23 #[.val (.int ia), .val (.int ib), .val (.int nr), .val (own_by ia (own_vs k_END k_BYTE k_SHORT k_INT k_LONG k_FLOAT k_DOUBLE k_BYTE_ARRAY k_STRING k_LIST k_COMPOUND k_INT_ARRAY k_LONG_ARRAY)), .val (own_by nr (own_vs k_END k_BYTE k_SHORT k_INT k_LONG k_FLOAT k_DOUBLE k_BYTE_ARRAY k_STRING k_LIST k_COMPOUND k_INT_ARRAY k_LONG_ARRAY))] [(.int ia), (own_by ia (own_vs k_END k_BYTE k_SHORT k_INT k_LONG k_FLOAT k_DOUBLE k_BYTE_ARRAY k_STRING k_LIST k_COMPOUND k_INT_ARRAY k_LONG_ARRAY))])) _
    exact k
  obtain ⟨_, _, ⟨T13, L13, k13, n13⟩, -, X13, ⟨Lc13, hQ13, l13, y13, z13⟩, st13⟩ := Jvm.LawKit.callS X9 hx (y := (⟨"com/example/facetwork/facetwork/nbt/TagTypeByIdPinLaw", "expected", "(I)Lcom/example/facetwork/facetwork/nbt/TagType;"⟩ : MethodName)) hown (mvT hZ (hw _ (List.mem_of_getElem? (i := 9) rfl))) (mvT hZ (hw _ (List.mem_of_getElem? (i := 10) rfl))) (mvT hZ (hw _ (List.mem_of_getElem? (i := 11) rfl))) (mvT hZ (hw _ (List.mem_of_getElem? (i := 12) rfl))) (by decide) (backOf (W := 1) (rm2 l Z a0 hw [] ia k_END k_BYTE k_SHORT k_INT k_LONG k_FLOAT k_DOUBLE k_BYTE_ARRAY k_STRING k_LIST k_COMPOUND k_INT_ARRAY k_LONG_ARRAY h0 n0 Z0 S_END S_BYTE S_SHORT S_INT S_LONG S_FLOAT S_DOUBLE S_BYTE_ARRAY S_STRING S_LIST S_COMPOUND S_INT_ARRAY S_LONG_ARRAY) hZ (hw _ (List.mem_of_getElem? (i := 12) rfl)) (hw _ (List.mem_of_getElem? (i := 11) rfl)) (by decide) (by decide)) (g := (mkF m 23 #[.val (.int ia), .val (.int ib), .val (.int nr), .val (own_by ia (own_vs k_END k_BYTE k_SHORT k_INT k_LONG k_FLOAT k_DOUBLE k_BYTE_ARRAY k_STRING k_LIST k_COMPOUND k_INT_ARRAY k_LONG_ARRAY)), .val (own_by nr (own_vs k_END k_BYTE k_SHORT k_INT k_LONG k_FLOAT k_DOUBLE k_BYTE_ARRAY k_STRING k_LIST k_COMPOUND k_INT_ARRAY k_LONG_ARRAY))] [(.int ia), (own_by ia (own_vs k_END k_BYTE k_SHORT k_INT k_LONG k_FLOAT k_DOUBLE k_BYTE_ARRAY k_STRING k_LIST k_COMPOUND k_INT_ARRAY k_LONG_ARRAY))])) rfl (by rw [hml]; rfl) (argsL := [(.int ia)]) (rest := [(own_by ia (own_vs k_END k_BYTE k_SHORT k_INT k_LONG k_FLOAT k_DOUBLE k_BYTE_ARRAY k_STRING k_LIST k_COMPOUND k_INT_ARRAY k_LONG_ARRAY))]) (lenOf pd_by rfl) rfl (by show 2 * 0 + (List.map (fun v : Value => v.category) [(own_by ia (own_vs k_END k_BYTE k_SHORT k_INT k_LONG k_FLOAT k_DOUBLE k_BYTE_ARRAY k_STRING k_LIST k_COMPOUND k_INT_ARRAY k_LONG_ARRAY))]).sum ≤ 1; simp [XT.cat1 (own_by_ref (own_vs_ref _ _ _ _ _ _ _ _ _ _ _ _ _))]) (hb hby at_23) (fun _ _ => ⟨rfl, heq9, (by decide : 0 + 0 ≤ _), (by decide : 0 + 0 ≤ _)⟩)
  dsimp only [Pt.U, Pt.locs, Pt.cells, Pt.slots] at X13 l13 y13 z13 st13 hQ13
  subst l13 y13 z13
  obtain ⟨rfl, Nq13, heq13⟩ := hQ13
  have N13 := Fr.app N9 Nq13
  have pre14 : ∀ t, Steps p.tables e below (T13.setTop (mkF m 26 #[.val (.int ia), .val (.int ib), .val (.int nr), .val (own_by ia (own_vs k_END k_BYTE k_SHORT k_INT k_LONG k_FLOAT k_DOUBLE k_BYTE_ARRAY k_STRING k_LIST k_COMPOUND k_INT_ARRAY k_LONG_ARRAY)), .val (own_by nr (own_vs k_END k_BYTE k_SHORT k_INT k_LONG k_FLOAT k_DOUBLE k_BYTE_ARRAY k_STRING k_LIST k_COMPOUND k_INT_ARRAY k_LONG_ARRAY))] [(own_by ia (own_vs k_END k_BYTE k_SHORT k_INT k_LONG k_FLOAT k_DOUBLE k_BYTE_ARRAY k_STRING k_LIST k_COMPOUND k_INT_ARRAY k_LONG_ARRAY)), (own_by ia (own_vs k_END k_BYTE k_SHORT k_INT k_LONG k_FLOAT k_DOUBLE k_BYTE_ARRAY k_STRING k_LIST k_COMPOUND k_INT_ARRAY k_LONG_ARRAY))])) t → Steps p.tables e below (s₁.setTop (entryFrame m #[(.int ia), (.int ib)] maxLocals)) t := fun t k => pre12 t (st13 t k)
  have pre16 : ∀ t, Steps p.tables e below (T13.setTop (mkF m 32 #[.val (.int ia), .val (.int ib), .val (.int nr), .val (own_by ia (own_vs k_END k_BYTE k_SHORT k_INT k_LONG k_FLOAT k_DOUBLE k_BYTE_ARRAY k_STRING k_LIST k_COMPOUND k_INT_ARRAY k_LONG_ARRAY)), .val (own_by nr (own_vs k_END k_BYTE k_SHORT k_INT k_LONG k_FLOAT k_DOUBLE k_BYTE_ARRAY k_STRING k_LIST k_COMPOUND k_INT_ARRAY k_LONG_ARRAY))] [(.int nr), (own_by nr (own_vs k_END k_BYTE k_SHORT k_INT k_LONG k_FLOAT k_DOUBLE k_BYTE_ARRAY k_STRING k_LIST k_COMPOUND k_INT_ARRAY k_LONG_ARRAY))])) t → Steps p.tables e below (s₁.setTop (entryFrame m #[(.int ia), (.int ib)] maxLocals)) t := by
    intro t k
    refine pre14 t ?_
    refine XT.acmpNo X13.here hx rfl (hb hby at_26) rfl (own_by_ref (own_vs_ref _ _ _ _ _ _ _ _ _ _ _ _ _)) (own_by_ref (own_vs_ref _ _ _ _ _ _ _ _ _ _ _ _ _)) (XT.aa_ne_f rfl) ?_
    show Steps p.tables e below (T13.setTop (mkF m 29 #[.val (.int ia), .val (.int ib), .val (.int nr), .val (own_by ia (own_vs k_END k_BYTE k_SHORT k_INT k_LONG k_FLOAT k_DOUBLE k_BYTE_ARRAY k_STRING k_LIST k_COMPOUND k_INT_ARRAY k_LONG_ARRAY)), .val (own_by nr (own_vs k_END k_BYTE k_SHORT k_INT k_LONG k_FLOAT k_DOUBLE k_BYTE_ARRAY k_STRING k_LIST k_COMPOUND k_INT_ARRAY k_LONG_ARRAY))] [])) _
    refine XS.aload X13.here hx rfl (hb hby at_29) rfl (own_by_ref (own_vs_ref _ _ _ _ _ _ _ _ _ _ _ _ _)) ?_
    show Steps p.tables e below (T13.setTop (mkF m 31 #[.val (.int ia), .val (.int ib), .val (.int nr), .val (own_by ia (own_vs k_END k_BYTE k_SHORT k_INT k_LONG k_FLOAT k_DOUBLE k_BYTE_ARRAY k_STRING k_LIST k_COMPOUND k_INT_ARRAY k_LONG_ARRAY)), .val (own_by nr (own_vs k_END k_BYTE k_SHORT k_INT k_LONG k_FLOAT k_DOUBLE k_BYTE_ARRAY k_STRING k_LIST k_COMPOUND k_INT_ARRAY k_LONG_ARRAY))] [(own_by nr (own_vs k_END k_BYTE k_SHORT k_INT k_LONG k_FLOAT k_DOUBLE k_BYTE_ARRAY k_STRING k_LIST k_COMPOUND k_INT_ARRAY k_LONG_ARRAY))])) _
    refine XS.iloadN X13.here hx rfl (hb hby at_31) rfl ?_
    show Steps p.tables e below (T13.setTop (mkF m 32 #[.val (.int ia), .val (.int ib), .val (.int nr), .val (own_by ia (own_vs k_END k_BYTE k_SHORT k_INT k_LONG k_FLOAT k_DOUBLE k_BYTE_ARRAY k_STRING k_LIST k_COMPOUND k_INT_ARRAY k_LONG_ARRAY)), .val (own_by nr (own_vs k_END k_BYTE k_SHORT k_INT k_LONG k_FLOAT k_DOUBLE k_BYTE_ARRAY k_STRING k_LIST k_COMPOUND k_INT_ARRAY k_LONG_ARRAY))] [(.int nr), (own_by nr (own_vs k_END k_BYTE k_SHORT k_INT k_LONG k_FLOAT k_DOUBLE k_BYTE_ARRAY k_STRING k_LIST k_COMPOUND k_INT_ARRAY k_LONG_ARRAY))])) _
    exact k
  obtain ⟨_, _, ⟨T17, L17, k17, n17⟩, -, X17, ⟨Lc17, hQ17, l17, y17, z17⟩, st17⟩ := Jvm.LawKit.callS X13 hx (y := (⟨"com/example/facetwork/facetwork/nbt/TagTypeByIdPinLaw", "expected", "(I)Lcom/example/facetwork/facetwork/nbt/TagType;"⟩ : MethodName)) hown (mvT hZ (hw _ (List.mem_of_getElem? (i := 9) rfl))) (mvT hZ (hw _ (List.mem_of_getElem? (i := 10) rfl))) (mvT hZ (hw _ (List.mem_of_getElem? (i := 11) rfl))) (mvT hZ (hw _ (List.mem_of_getElem? (i := 12) rfl))) (by decide) (backOf (W := 1) (rm2 l Z a0 hw [] nr k_END k_BYTE k_SHORT k_INT k_LONG k_FLOAT k_DOUBLE k_BYTE_ARRAY k_STRING k_LIST k_COMPOUND k_INT_ARRAY k_LONG_ARRAY h0 n0 Z0 S_END S_BYTE S_SHORT S_INT S_LONG S_FLOAT S_DOUBLE S_BYTE_ARRAY S_STRING S_LIST S_COMPOUND S_INT_ARRAY S_LONG_ARRAY) hZ (hw _ (List.mem_of_getElem? (i := 12) rfl)) (hw _ (List.mem_of_getElem? (i := 11) rfl)) (by decide) (by decide)) (g := (mkF m 32 #[.val (.int ia), .val (.int ib), .val (.int nr), .val (own_by ia (own_vs k_END k_BYTE k_SHORT k_INT k_LONG k_FLOAT k_DOUBLE k_BYTE_ARRAY k_STRING k_LIST k_COMPOUND k_INT_ARRAY k_LONG_ARRAY)), .val (own_by nr (own_vs k_END k_BYTE k_SHORT k_INT k_LONG k_FLOAT k_DOUBLE k_BYTE_ARRAY k_STRING k_LIST k_COMPOUND k_INT_ARRAY k_LONG_ARRAY))] [(.int nr), (own_by nr (own_vs k_END k_BYTE k_SHORT k_INT k_LONG k_FLOAT k_DOUBLE k_BYTE_ARRAY k_STRING k_LIST k_COMPOUND k_INT_ARRAY k_LONG_ARRAY))])) rfl (by rw [hml]; rfl) (argsL := [(.int nr)]) (rest := [(own_by nr (own_vs k_END k_BYTE k_SHORT k_INT k_LONG k_FLOAT k_DOUBLE k_BYTE_ARRAY k_STRING k_LIST k_COMPOUND k_INT_ARRAY k_LONG_ARRAY))]) (lenOf pd_by rfl) rfl (by show 2 * 0 + (List.map (fun v : Value => v.category) [(own_by nr (own_vs k_END k_BYTE k_SHORT k_INT k_LONG k_FLOAT k_DOUBLE k_BYTE_ARRAY k_STRING k_LIST k_COMPOUND k_INT_ARRAY k_LONG_ARRAY))]).sum ≤ 1; simp [XT.cat1 (own_by_ref (own_vs_ref _ _ _ _ _ _ _ _ _ _ _ _ _))]) (hb hby at_32) (fun _ _ => ⟨rfl, heq13, (by decide : 0 + 0 ≤ _), (by decide : 0 + 0 ≤ _)⟩)
  dsimp only [Pt.U, Pt.locs, Pt.cells, Pt.slots] at X17 l17 y17 z17 st17 hQ17
  subst l17 y17 z17
  obtain ⟨rfl, Nq17, heq17⟩ := hQ17
  have N17 := Fr.app N13 Nq17
  have pre18 : ∀ t, Steps p.tables e below (T17.setTop (mkF m 35 #[.val (.int ia), .val (.int ib), .val (.int nr), .val (own_by ia (own_vs k_END k_BYTE k_SHORT k_INT k_LONG k_FLOAT k_DOUBLE k_BYTE_ARRAY k_STRING k_LIST k_COMPOUND k_INT_ARRAY k_LONG_ARRAY)), .val (own_by nr (own_vs k_END k_BYTE k_SHORT k_INT k_LONG k_FLOAT k_DOUBLE k_BYTE_ARRAY k_STRING k_LIST k_COMPOUND k_INT_ARRAY k_LONG_ARRAY))] [(own_by nr (own_vs k_END k_BYTE k_SHORT k_INT k_LONG k_FLOAT k_DOUBLE k_BYTE_ARRAY k_STRING k_LIST k_COMPOUND k_INT_ARRAY k_LONG_ARRAY)), (own_by nr (own_vs k_END k_BYTE k_SHORT k_INT k_LONG k_FLOAT k_DOUBLE k_BYTE_ARRAY k_STRING k_LIST k_COMPOUND k_INT_ARRAY k_LONG_ARRAY))])) t → Steps p.tables e below (s₁.setTop (entryFrame m #[(.int ia), (.int ib)] maxLocals)) t := fun t k => pre16 t (st17 t k)
  have pre19 : ∀ t, Steps p.tables e below (T17.setTop (mkF m 43 #[.val (.int ia), .val (.int ib), .val (.int nr), .val (own_by ia (own_vs k_END k_BYTE k_SHORT k_INT k_LONG k_FLOAT k_DOUBLE k_BYTE_ARRAY k_STRING k_LIST k_COMPOUND k_INT_ARRAY k_LONG_ARRAY)), .val (own_by nr (own_vs k_END k_BYTE k_SHORT k_INT k_LONG k_FLOAT k_DOUBLE k_BYTE_ARRAY k_STRING k_LIST k_COMPOUND k_INT_ARRAY k_LONG_ARRAY))] [(.int (1 : Int32))])) t → Steps p.tables e below (s₁.setTop (entryFrame m #[(.int ia), (.int ib)] maxLocals)) t := by
    intro t k
    refine pre18 t ?_
    refine XT.acmpNo X17.here hx rfl (hb hby at_35) rfl (own_by_ref (own_vs_ref _ _ _ _ _ _ _ _ _ _ _ _ _)) (own_by_ref (own_vs_ref _ _ _ _ _ _ _ _ _ _ _ _ _)) (XT.aa_ne_f rfl) ?_
    show Steps p.tables e below (T17.setTop (mkF m 38 #[.val (.int ia), .val (.int ib), .val (.int nr), .val (own_by ia (own_vs k_END k_BYTE k_SHORT k_INT k_LONG k_FLOAT k_DOUBLE k_BYTE_ARRAY k_STRING k_LIST k_COMPOUND k_INT_ARRAY k_LONG_ARRAY)), .val (own_by nr (own_vs k_END k_BYTE k_SHORT k_INT k_LONG k_FLOAT k_DOUBLE k_BYTE_ARRAY k_STRING k_LIST k_COMPOUND k_INT_ARRAY k_LONG_ARRAY))] [])) _
    refine XS.iconst X17.here hx rfl (hb hby at_38) ?_
    show Steps p.tables e below (T17.setTop (mkF m 39 #[.val (.int ia), .val (.int ib), .val (.int nr), .val (own_by ia (own_vs k_END k_BYTE k_SHORT k_INT k_LONG k_FLOAT k_DOUBLE k_BYTE_ARRAY k_STRING k_LIST k_COMPOUND k_INT_ARRAY k_LONG_ARRAY)), .val (own_by nr (own_vs k_END k_BYTE k_SHORT k_INT k_LONG k_FLOAT k_DOUBLE k_BYTE_ARRAY k_STRING k_LIST k_COMPOUND k_INT_ARRAY k_LONG_ARRAY))] [(.int (1 : Int32))])) _
    refine XS.goto X17.here hx rfl (pc0 := 39) (pc' := 43) rfl (hb hby at_39) (by decide) (by decide) ?_
    show Steps p.tables e below (T17.setTop (mkF m 43 #[.val (.int ia), .val (.int ib), .val (.int nr), .val (own_by ia (own_vs k_END k_BYTE k_SHORT k_INT k_LONG k_FLOAT k_DOUBLE k_BYTE_ARRAY k_STRING k_LIST k_COMPOUND k_INT_ARRAY k_LONG_ARRAY)), .val (own_by nr (own_vs k_END k_BYTE k_SHORT k_INT k_LONG k_FLOAT k_DOUBLE k_BYTE_ARRAY k_STRING k_LIST k_COMPOUND k_INT_ARRAY k_LONG_ARRAY))] [(.int (1 : Int32))])) _
    exact k
  obtain ⟨fs, hr, hrun, hended, hW, hsame⟩ := X17.leave (v := some (.int (1 : Int32))) (fun h => by rw [Bd.returns] at h; cases h)
  refine ⟨_, _, pre19 _ ?_, hrun, hended, _, _, rfl, ?_, ⟨_, rfl⟩, hW, hsame.mono (by decide) (by decide)⟩
  · exact retOut X17 hx Bd.returns rfl (Or.inl ⟨rfl, by simp, _, rfl⟩) (hb hby at_43) hr
  · show Qlaw Z ia ib k_END k_BYTE k_SHORT k_INT k_LONG k_FLOAT k_DOUBLE k_BYTE_ARRAY k_STRING k_LIST k_COMPOUND k_INT_ARRAY k_LONG_ARRAY ba kk h0 n0 _ T17.heap _
    rw [heq17]
    exact ⟨rfl, N17⟩
set_option maxRecDepth 65536 in
set_option maxHeartbeats 40000000 in
theorem comes_1 {Post : Tables → Env → Array Value → State → Outcome → State → Prop} (hpost : ∀ tb e args s v u, (limb_1_1.after args s (.returned v) u = true ∧ limb_1_2.after args s (.returned v) u = true ∧ True) → FrameEnd s (.returned v) u (Jvm.fieldLocs frame_1_writes args s ++ Jvm.arrayLocs frame_1_arrays args s ++ Jvm.staticLocs frame_1_statics s) 0 0 → Post tb e args s (.returned v) u) :
    ArmFor flags0 classFile x code maxLocals ret World_1 tables_1 room_1 Calls_1 rest_1 Pre_1 Post := by
  intro l hfl _ _ p e ha hc hk s m args below hf hA hF happ hP
  obtain ⟨hcalls, hrest, hpre⟩ := hP
  obtain ⟨-, -, -, hnamed, -, -, -, hat⟩ := (Spec.applies_iff hf).mp happ
  obtain ⟨hg, hn⟩ := and_e (Cond.before_iff.mp (show (Jvm.Cond.and given_1 narrow_1).before args s = true from hpre))
  obtain ⟨gc, g0⟩ := and_e hg
  obtain ⟨w0, w1, rfl⟩ : ∃ w0 w1 : Value, args = #[w0, w1] := by
    have hs : args.size = 2 := by simpa [Cond.value, given_1] using gc
    obtain ⟨L⟩ := args
    match L, hs with
    | [w0, w1], _ => exact ⟨w0, w1, rfl⟩
  have hw := fun d (hd : d ∈ tables_1) => atoms_spec (ws := Jvm.Cond.code x code maxLocals ret :: tables_1) hat d (List.mem_cons_of_mem _ hd)
  have hfit : Fit s := fun {y c} hc i hi => by
    obtain ⟨ha, rfl⟩ := Array.getElem?_eq_some_iff.mp hc
    have q := List.all_eq_true.mp ((Array.all_eq_true_iff_forall_mem.mp hF) _ (Array.getElem_mem ha)) i (List.mem_range.mpr hi)
    simpa [Array.getElem?_eq_getElem hi] using q
  obtain ⟨ga0, gb0⟩ := and_e g0
  obtain ⟨i0, ei0⟩ := is_v ga0
  obtain rfl : w0 = (.int i0) := Option.some.inj ei0
  obtain ⟨i1, ei1⟩ := is_v gb0
  obtain rfl : w1 = (.int i1) := Option.some.inj ei1
  obtain ⟨x0, r0⟩ := and_e hn
  obtain ⟨x1, r1⟩ := and_e r0
  obtain ⟨x2, r2⟩ := and_e r1
  obtain ⟨x3, r3⟩ := and_e r2
  obtain ⟨x4, r4⟩ := and_e r3
  obtain ⟨x5, r5⟩ := and_e r4
  obtain ⟨x6, r6⟩ := and_e r5
  obtain ⟨x7, r7⟩ := and_e r6
  obtain ⟨x8, r8⟩ := and_e r7
  obtain ⟨x9, r9⟩ := and_e r8
  obtain ⟨x10, r10⟩ := and_e r9
  obtain ⟨x11, r11⟩ := and_e r10
  obtain ⟨x12, r12⟩ := and_e r11
  obtain ⟨x13, r13⟩ := and_e r12
  obtain ⟨x14, r14⟩ := and_e r13
  obtain ⟨x15, r15⟩ := and_e r14
  obtain ⟨x16, r16⟩ := and_e r15
  obtain ⟨x17, r17⟩ := and_e r16
  obtain ⟨x18, r18⟩ := and_e r17
  obtain ⟨x19, r19⟩ := and_e r18
  obtain ⟨x20, r20⟩ := and_e r19
  obtain ⟨x21, r21⟩ := and_e r20
  obtain ⟨x22, r22⟩ := and_e r21
  obtain ⟨x23, r23⟩ := and_e r22
  obtain ⟨x24, r24⟩ := and_e r23
  obtain ⟨x25, r25⟩ := and_e r24
  obtain ⟨x26, r26⟩ := and_e r25
  have x27 := r26
  obtain ⟨k_END, ev_END⟩ := exa_v x2
  have S_END : Sta s s.heap "com/example/facetwork/facetwork/nbt/TagType" "END" "Lcom/example/facetwork/facetwork/nbt/TagType;" (.ref k_END) := Sta.start ev_END (Or.inr ⟨(hw _ (List.mem_of_getElem? (i := 3) rfl)), (hw _ (List.mem_of_getElem? (i := 7) rfl))⟩)
  obtain ⟨k_SHORT, ev_SHORT⟩ := exa_v x4
  have S_SHORT : Sta s s.heap "com/example/facetwork/facetwork/nbt/TagType" "SHORT" "Lcom/example/facetwork/facetwork/nbt/TagType;" (.ref k_SHORT) := Sta.start ev_SHORT (Or.inr ⟨(hw _ (List.mem_of_getElem? (i := 3) rfl)), (hw _ (List.mem_of_getElem? (i := 8) rfl))⟩)
  obtain ⟨k_COMPOUND, ev_COMPOUND⟩ := exa_v x6
  have S_COMPOUND : Sta s s.heap "com/example/facetwork/facetwork/nbt/TagType" "COMPOUND" "Lcom/example/facetwork/facetwork/nbt/TagType;" (.ref k_COMPOUND) := Sta.start ev_COMPOUND (Or.inr ⟨(hw _ (List.mem_of_getElem? (i := 3) rfl)), (hw _ (List.mem_of_getElem? (i := 15) rfl))⟩)
  obtain ⟨k_LONG_ARRAY, ev_LONG_ARRAY⟩ := exa_v x8
  have S_LONG_ARRAY : Sta s s.heap "com/example/facetwork/facetwork/nbt/TagType" "LONG_ARRAY" "Lcom/example/facetwork/facetwork/nbt/TagType;" (.ref k_LONG_ARRAY) := Sta.start ev_LONG_ARRAY (Or.inr ⟨(hw _ (List.mem_of_getElem? (i := 3) rfl)), (hw _ (List.mem_of_getElem? (i := 17) rfl))⟩)
  obtain ⟨k_DOUBLE, ev_DOUBLE⟩ := exa_v x10
  have S_DOUBLE : Sta s s.heap "com/example/facetwork/facetwork/nbt/TagType" "DOUBLE" "Lcom/example/facetwork/facetwork/nbt/TagType;" (.ref k_DOUBLE) := Sta.start ev_DOUBLE (Or.inr ⟨(hw _ (List.mem_of_getElem? (i := 3) rfl)), (hw _ (List.mem_of_getElem? (i := 19) rfl))⟩)
  obtain ⟨k_LIST, ev_LIST⟩ := exa_v x12
  have S_LIST : Sta s s.heap "com/example/facetwork/facetwork/nbt/TagType" "LIST" "Lcom/example/facetwork/facetwork/nbt/TagType;" (.ref k_LIST) := Sta.start ev_LIST (Or.inr ⟨(hw _ (List.mem_of_getElem? (i := 3) rfl)), (hw _ (List.mem_of_getElem? (i := 20) rfl))⟩)
  obtain ⟨k_STRING, ev_STRING⟩ := exa_v x14
  have S_STRING : Sta s s.heap "com/example/facetwork/facetwork/nbt/TagType" "STRING" "Lcom/example/facetwork/facetwork/nbt/TagType;" (.ref k_STRING) := Sta.start ev_STRING (Or.inr ⟨(hw _ (List.mem_of_getElem? (i := 3) rfl)), (hw _ (List.mem_of_getElem? (i := 23) rfl))⟩)
  obtain ⟨k_LONG, ev_LONG⟩ := exa_v x16
  have S_LONG : Sta s s.heap "com/example/facetwork/facetwork/nbt/TagType" "LONG" "Lcom/example/facetwork/facetwork/nbt/TagType;" (.ref k_LONG) := Sta.start ev_LONG (Or.inr ⟨(hw _ (List.mem_of_getElem? (i := 3) rfl)), (hw _ (List.mem_of_getElem? (i := 25) rfl))⟩)
  obtain ⟨k_INT, ev_INT⟩ := exa_v x18
  have S_INT : Sta s s.heap "com/example/facetwork/facetwork/nbt/TagType" "INT" "Lcom/example/facetwork/facetwork/nbt/TagType;" (.ref k_INT) := Sta.start ev_INT (Or.inr ⟨(hw _ (List.mem_of_getElem? (i := 3) rfl)), (hw _ (List.mem_of_getElem? (i := 27) rfl))⟩)
  obtain ⟨k_FLOAT, ev_FLOAT⟩ := exa_v x20
  have S_FLOAT : Sta s s.heap "com/example/facetwork/facetwork/nbt/TagType" "FLOAT" "Lcom/example/facetwork/facetwork/nbt/TagType;" (.ref k_FLOAT) := Sta.start ev_FLOAT (Or.inr ⟨(hw _ (List.mem_of_getElem? (i := 3) rfl)), (hw _ (List.mem_of_getElem? (i := 29) rfl))⟩)
  obtain ⟨k_BYTE, ev_BYTE⟩ := exa_v x22
  have S_BYTE : Sta s s.heap "com/example/facetwork/facetwork/nbt/TagType" "BYTE" "Lcom/example/facetwork/facetwork/nbt/TagType;" (.ref k_BYTE) := Sta.start ev_BYTE (Or.inr ⟨(hw _ (List.mem_of_getElem? (i := 3) rfl)), (hw _ (List.mem_of_getElem? (i := 31) rfl))⟩)
  obtain ⟨k_INT_ARRAY, ev_INT_ARRAY⟩ := exa_v x24
  have S_INT_ARRAY : Sta s s.heap "com/example/facetwork/facetwork/nbt/TagType" "INT_ARRAY" "Lcom/example/facetwork/facetwork/nbt/TagType;" (.ref k_INT_ARRAY) := Sta.start ev_INT_ARRAY (Or.inr ⟨(hw _ (List.mem_of_getElem? (i := 3) rfl)), (hw _ (List.mem_of_getElem? (i := 33) rfl))⟩)
  obtain ⟨k_BYTE_ARRAY, ev_BYTE_ARRAY⟩ := exa_v x26
  have S_BYTE_ARRAY : Sta s s.heap "com/example/facetwork/facetwork/nbt/TagType" "BYTE_ARRAY" "Lcom/example/facetwork/facetwork/nbt/TagType;" (.ref k_BYTE_ARRAY) := Sta.start ev_BYTE_ARRAY (Or.inr ⟨(hw _ (List.mem_of_getElem? (i := 3) rfl)), (hw _ (List.mem_of_getElem? (i := 35) rfl))⟩)
  obtain ⟨ba, evb⟩ := arr_v x0
  obtain ⟨cl, A⟩ := Arr.start evb x0
  have S_BY : Sta s s.heap "com/example/facetwork/facetwork/nbt/TagType" "BY_ID" "[Lcom/example/facetwork/facetwork/nbt/TagType;" (.ref ba) := Sta.start evb (Or.inr ⟨(hw _ (List.mem_of_getElem? (i := 3) rfl)), (hw _ (List.mem_of_getElem? (i := 6) rfl))⟩)
  obtain ⟨l1, l2⟩ := own_len (own_eqI x1) evb A
  have el0 : cl.slots[0]? = some (.ref k_END) := (elem_in (own_eqR x3 ev_END) evb (Term.int_eval (0 : Int32)) A.1).2
  have el1 : cl.slots[1]? = some (.ref k_BYTE) := (elem_in (own_eqR x23 ev_BYTE) evb (Term.int_eval (1 : Int32)) A.1).2
  have el2 : cl.slots[2]? = some (.ref k_SHORT) := (elem_in (own_eqR x5 ev_SHORT) evb (Term.int_eval (2 : Int32)) A.1).2
  have el3 : cl.slots[3]? = some (.ref k_INT) := (elem_in (own_eqR x19 ev_INT) evb (Term.int_eval (3 : Int32)) A.1).2
  have el4 : cl.slots[4]? = some (.ref k_LONG) := (elem_in (own_eqR x17 ev_LONG) evb (Term.int_eval (4 : Int32)) A.1).2
  have el5 : cl.slots[5]? = some (.ref k_FLOAT) := (elem_in (own_eqR x21 ev_FLOAT) evb (Term.int_eval (5 : Int32)) A.1).2
  have el6 : cl.slots[6]? = some (.ref k_DOUBLE) := (elem_in (own_eqR x11 ev_DOUBLE) evb (Term.int_eval (6 : Int32)) A.1).2
  have el7 : cl.slots[7]? = some (.ref k_BYTE_ARRAY) := (elem_in (own_eqR x27 ev_BYTE_ARRAY) evb (Term.int_eval (7 : Int32)) A.1).2
  have el8 : cl.slots[8]? = some (.ref k_STRING) := (elem_in (own_eqR x15 ev_STRING) evb (Term.int_eval (8 : Int32)) A.1).2
  have el9 : cl.slots[9]? = some (.ref k_LIST) := (elem_in (own_eqR x13 ev_LIST) evb (Term.int_eval (9 : Int32)) A.1).2
  have el10 : cl.slots[10]? = some (.ref k_COMPOUND) := (elem_in (own_eqR x7 ev_COMPOUND) evb (Term.int_eval (10 : Int32)) A.1).2
  have el11 : cl.slots[11]? = some (.ref k_INT_ARRAY) := (elem_in (own_eqR x25 ev_INT_ARRAY) evb (Term.int_eval (11 : Int32)) A.1).2
  have el12 : cl.slots[12]? = some (.ref k_LONG_ARRAY) := (elem_in (own_eqR x9 ev_LONG_ARRAY) evb (Term.int_eval (12 : Int32)) A.1).2
  have V0 : Arv s s.heap ba cl.cls (.object "com/example/facetwork/facetwork/nbt/TagType") (13 : Int32) (own_vs k_END k_BYTE k_SHORT k_INT k_LONG k_FLOAT k_DOUBLE k_BYTE_ARRAY k_STRING k_LIST k_COMPOUND k_INT_ARRAY k_LONG_ARRAY) .null := Arv.start hfit A l1 l2 (by decide) rfl ⟨el0, el1, el2, el3, el4, el5, el6, el7, el8, el9, el10, el11, el12, trivial⟩
  obtain ⟨n, o, h1, h2, h3, _, L, rfl, ⟨rfl, N⟩, hq⟩ := rmlaw l s _ hw tables_1 i0 i1 k_END k_BYTE k_SHORT k_INT k_LONG k_FLOAT k_DOUBLE k_BYTE_ARRAY k_STRING k_LIST k_COMPOUND k_INT_ARRAY k_LONG_ARRAY ba cl.cls s.heap s.heap.size (Nat.le_refl _) S_BY V0 S_END S_BYTE S_SHORT S_INT S_LONG S_FLOAT S_DOUBLE S_BYTE_ARRAY S_STRING S_LIST S_COMPOUND S_INT_ARRAY S_LONG_ARRAY p e ha hc hk s m _ below hf ((Spec.applies_iff_loose hf).mp happ).1 ⟨rfl, State.Warmed39.refl s, rfl⟩ trivial
  refine ⟨n, _, h1, h2, h3, hpost _ _ _ _ _ _ ⟨Cond.after_iff.mpr rfl, Cond.after_iff.mpr (eq_i res_at (Term.int_eval (1)) rfl), trivial⟩ ⟨hq.1, hq.2.1, (hq.2.2.sift fun y hy => Or.inr (N y hy)).mono (by decide) (by decide)⟩⟩
theorem main_1_1 : Claimed_1_1 := comes_1 fun _ _ _ _ _ _ h hF => ⟨h.1, hF⟩
theorem main_1_2 : Claimed_1_2 := comes_1 fun _ _ _ _ _ _ h hF => ⟨h.2.1, hF⟩
end Jvm.Pilot.@@N@@
namespace Jvm.Pilot.@@N@@
open Jvm Jvm.ClassFile Sem Op Lib Jvm.Free Jvm.Stand Jvm.Pilot.@@N@@.Jvm.D
/-! MADE BY PROGRAM (witnessworld.py) out of the Statement's table words and the real class files: 13 classes; the members and pool entries that the words name. The judged class is class 1, her method 2. -/
namespace start1
open Jvm.ClassFile
def u (s : String) : CpInfo := .utf8 (stringToUtf16 s)
/-- a pool by its gaps: so many unusable entries, then the entry; so many at the end -/
def gap : Nat → List CpInfo → List CpInfo
  | 0, r => r
  | n + 1, r => .unusable :: gap n r
def poolList (es : List (Nat × CpInfo)) (last : Nat) : List CpInfo := es.foldr (fun e r => gap e.1 (e.2 :: r)) (gap last [])
def pool (es : List (Nat × CpInfo)) (last : Nat) : Array CpInfo := ⟨poolList es last⟩
def fileOf (pool : Array CpInfo) (this : Nat) (attrs : Array Attribute := #[]) (ms : Array MethodInfo := #[]) (fl : Nat := 33) (sup : Nat := 0) (ifs : Array Nat := #[]) (fds : Array FieldInfo := #[]) : ClassFile where
  minorVersion := 0
  majorVersion := 65
  constantPool := pool
  accessFlags := fl
  thisClass := this
  superClass := sup
  interfaces := ifs
  fields := fds
  methods := ms
  attributes := attrs
def plain (name : String) (sup : Option ClassId) : Class where
  name := name
  kind := .ordinary
  loader := none
  accessFlags := 33
  super := sup
  interfaces := #[]
  cf := none
  fields := #[]
  methods := #[]
  instanceTypes := #[]
  staticTypes := #[]
  resolved := #[]
  callSites := []
  init := .initialized
  statics := none
  mirror := none

def pool0 : Array CpInfo := pool [(5, u "<init>"), (0, u "()V"), (1, .class_ 10), (1, u "java/lang/Object")] 113

def k0m0 : Method := { name := "<init>", desc := "()V", sig := { parameters := [], returnType := none }, accessFlags := 1, code := none }
/-- java/lang/Object -/
def k0 : Class := { plain "java/lang/Object" none with
  accessFlags := 33
  interfaces := #[]
  cf := some (fileOf pool0 8 #[] #[{ accessFlags := 1, nameIndex := 5, descriptorIndex := 6, attributes := #[] }] 33 0 #[] #[])
  fields := #[]
  methods := #[k0m0]
  instanceTypes := #[]
  staticTypes := #[]
  resolved := Array.replicate 124 none
  statics := none }

def pool1 : Array CpInfo := pool [(2, .class_ 4), (1, u "java/lang/Object"), (0, u "<init>"), (0, u "()V"), (0, .fieldref 8 9), (0, .class_ 10), (0, .nameAndType 11 12), (0, u "com/example/facetwork/facetwork/nbt/TagType"), (0, u "END"), (0, u "Lcom/example/facetwork/facetwork/nbt/TagType;"), (0, .fieldref 8 14), (0, .nameAndType 15 12), (0, u "BYTE"), (0, .fieldref 8 17), (0, .nameAndType 18 12), (0, u "SHORT"), (0, .fieldref 8 20), (0, .nameAndType 21 12), (0, u "INT"), (0, .fieldref 8 23), (0, .nameAndType 24 12), (0, u "LONG"), (0, .fieldref 8 26), (0, .nameAndType 27 12), (0, u "FLOAT"), (0, .fieldref 8 29), (0, .nameAndType 30 12), (0, u "DOUBLE"), (0, .fieldref 8 32), (0, .nameAndType 33 12), (0, u "BYTE_ARRAY"), (0, .fieldref 8 35), (0, .nameAndType 36 12), (0, u "STRING"), (0, .fieldref 8 38), (0, .nameAndType 39 12), (0, u "LIST"), (0, .fieldref 8 41), (0, .nameAndType 42 12), (0, u "COMPOUND"), (0, .fieldref 8 44), (0, .nameAndType 45 12), (0, u "INT_ARRAY"), (0, .fieldref 8 47), (0, .nameAndType 48 12), (0, u "LONG_ARRAY"), (0, .integer 2147483647), (0, .methodref 8 51), (0, .nameAndType 52 53), (0, u "byId"), (0, u "(I)Lcom/example/facetwork/facetwork/nbt/TagType;"), (0, .methodref 55 56), (0, .class_ 57), (0, .nameAndType 58 53), (0, u "com/example/facetwork/facetwork/nbt/TagTypeByIdPinLaw"), (0, u "expected"), (3, u "law"), (0, u "(II)Z")] 2

def k1m0 : Method := { name := "<init>", desc := "()V", sig := { parameters := [], returnType := none }, accessFlags := 1, code := none }
def k1c1 : Code := { maxStack := 2, maxLocals := 1, code := method_2_code, exceptionTable := #[], attributes := #[] }
def k1m1 : Method := { name := "expected", desc := "(I)Lcom/example/facetwork/facetwork/nbt/TagType;", sig := { parameters := [.int], returnType := some (.object "com/example/facetwork/facetwork/nbt/TagType") }, accessFlags := 10, code := some k1c1 }
def k1c2 : Code := { maxStack := 2, maxLocals := 5, code := code, exceptionTable := #[], attributes := #[] }
def k1m2 : Method := { name := "law", desc := "(II)Z", sig := { parameters := [.int, .int], returnType := some .boolean }, accessFlags := 9, code := some k1c2 }
/-- com/example/facetwork/facetwork/nbt/TagTypeByIdPinLaw -/
def k1 : Class := { plain "com/example/facetwork/facetwork/nbt/TagTypeByIdPinLaw" (some 0) with
  accessFlags := 49
  interfaces := #[]
  cf := some (fileOf pool1 55 #[] #[{ accessFlags := 1, nameIndex := 5, descriptorIndex := 6, attributes := #[] }, { accessFlags := 10, nameIndex := 58, descriptorIndex := 53, attributes := #[] }, { accessFlags := 9, nameIndex := 62, descriptorIndex := 63, attributes := #[] }] 49 2 #[] #[])
  fields := #[]
  methods := #[k1m0, k1m1, k1m2]
  instanceTypes := #[]
  staticTypes := #[]
  resolved := Array.replicate 66 none
  statics := none }

def pool2 : Array CpInfo := pool [(1, .class_ 2), (0, u "java/lang/constant/Constable"), (0, .class_ 4), (0, u "java/lang/Object")] 6

/-- java/lang/constant/Constable -/
def k2 : Class := { plain "java/lang/constant/Constable" (some 0) with
  accessFlags := 1537
  interfaces := #[]
  cf := some (fileOf pool2 1 #[] #[] 1537 3 #[] #[])
  fields := #[]
  methods := #[]
  instanceTypes := #[]
  staticTypes := #[]
  resolved := Array.replicate 11 none
  statics := none }

def pool3 : Array CpInfo := pool [(1, .class_ 2), (0, u "java/lang/Comparable"), (0, .class_ 4), (0, u "java/lang/Object")] 7

/-- java/lang/Comparable -/
def k3 : Class := { plain "java/lang/Comparable" (some 0) with
  accessFlags := 1537
  interfaces := #[]
  cf := some (fileOf pool3 1 #[] #[] 1537 3 #[] #[])
  fields := #[]
  methods := #[]
  instanceTypes := #[]
  staticTypes := #[]
  resolved := Array.replicate 12 none
  statics := none }

def pool4 : Array CpInfo := pool [(1, .class_ 2), (0, u "java/io/Serializable"), (0, .class_ 4), (0, u "java/lang/Object")] 2

/-- java/io/Serializable -/
def k4 : Class := { plain "java/io/Serializable" (some 0) with
  accessFlags := 1537
  interfaces := #[]
  cf := some (fileOf pool4 1 #[] #[] 1537 3 #[] #[])
  fields := #[]
  methods := #[]
  instanceTypes := #[]
  staticTypes := #[]
  resolved := Array.replicate 7 none
  statics := none }

def pool5 : Array CpInfo := pool [(2, .class_ 4), (1, u "java/lang/Enum"), (0, u "name"), (0, u "Ljava/lang/String;"), (2, u "ordinal"), (0, u "I"), (1, .class_ 14), (1, u "java/lang/Object"), (4, u "hash"), (86, .class_ 108), (1, u "java/lang/Enum$EnumDesc"), (2, .class_ 112), (0, u "java/lang/constant/Constable"), (0, .class_ 114), (0, u "java/lang/Comparable"), (0, .class_ 116), (0, u "java/io/Serializable")] 87

/-- java/lang/Enum -/
def k5 : Class := { plain "java/lang/Enum" (some 0) with
  accessFlags := 1057
  interfaces := #[2, 3, 4]
  cf := some (fileOf pool5 2 #[.nestMembers #[106]] #[] 1057 12 #[111, 113, 115] #[{ accessFlags := 18, nameIndex := 5, descriptorIndex := 6, attributes := #[] }, { accessFlags := 18, nameIndex := 9, descriptorIndex := 10, attributes := #[] }, { accessFlags := 2, nameIndex := 19, descriptorIndex := 10, attributes := #[] }])
  fields := #[{ name := "name", type := (.object "java/lang/String"), accessFlags := 18, slot := 0, constantValue := 0 }, { name := "ordinal", type := .int, accessFlags := 18, slot := 1, constantValue := 0 }, { name := "hash", type := .int, accessFlags := 2, slot := 2, constantValue := 0 }]
  methods := #[]
  instanceTypes := #[(.object "java/lang/String"), .int, .int]
  staticTypes := #[]
  resolved := Array.replicate 204 none
  statics := none }

def pool6 : Array CpInfo := pool [(1, .class_ 2), (0, u "com/example/facetwork/facetwork/nbt/TagType"), (2, u "END"), (0, u "Lcom/example/facetwork/facetwork/nbt/TagType;"), (2, u "BYTE"), (2, u "SHORT"), (2, u "INT"), (2, u "LONG"), (2, u "FLOAT"), (2, u "DOUBLE"), (2, u "BYTE_ARRAY"), (2, u "STRING"), (2, u "LIST"), (2, u "COMPOUND"), (2, u "INT_ARRAY"), (2, u "LONG_ARRAY"), (2, u "$VALUES"), (0, u "[Lcom/example/facetwork/facetwork/nbt/TagType;"), (6, .class_ 55), (1, u "java/lang/Enum"), (8, u "text"), (0, u "Ljava/lang/String;"), (24, .fieldref 1 91), (0, .nameAndType 92 46), (0, u "BY_ID"), (59, u "byId"), (0, u "(I)Lcom/example/facetwork/facetwork/nbt/TagType;")] 20

def k6c0 : Code := { maxStack := 2, maxLocals := 1, code := prog_19_method_7_code, exceptionTable := #[], attributes := #[] }
def k6m0 : Method := { name := "byId", desc := "(I)Lcom/example/facetwork/facetwork/nbt/TagType;", sig := { parameters := [.int], returnType := some (.object "com/example/facetwork/facetwork/nbt/TagType") }, accessFlags := 9, code := some k6c0 }
/-- com/example/facetwork/facetwork/nbt/TagType -/
def k6 : Class := { plain "com/example/facetwork/facetwork/nbt/TagType" (some 5) with
  accessFlags := 16433
  interfaces := #[]
  cf := some (fileOf pool6 1 #[] #[{ accessFlags := 9, nameIndex := 152, descriptorIndex := 153, attributes := #[] }] 16433 53 #[] #[{ accessFlags := 16409, nameIndex := 5, descriptorIndex := 6, attributes := #[] }, { accessFlags := 16409, nameIndex := 9, descriptorIndex := 6, attributes := #[] }, { accessFlags := 16409, nameIndex := 12, descriptorIndex := 6, attributes := #[] }, { accessFlags := 16409, nameIndex := 15, descriptorIndex := 6, attributes := #[] }, { accessFlags := 16409, nameIndex := 18, descriptorIndex := 6, attributes := #[] }, { accessFlags := 16409, nameIndex := 21, descriptorIndex := 6, attributes := #[] }, { accessFlags := 16409, nameIndex := 24, descriptorIndex := 6, attributes := #[] }, { accessFlags := 16409, nameIndex := 27, descriptorIndex := 6, attributes := #[] }, { accessFlags := 16409, nameIndex := 30, descriptorIndex := 6, attributes := #[] }, { accessFlags := 16409, nameIndex := 33, descriptorIndex := 6, attributes := #[] }, { accessFlags := 16409, nameIndex := 36, descriptorIndex := 6, attributes := #[] }, { accessFlags := 16409, nameIndex := 39, descriptorIndex := 6, attributes := #[] }, { accessFlags := 16409, nameIndex := 42, descriptorIndex := 6, attributes := #[] }, { accessFlags := 26, nameIndex := 92, descriptorIndex := 46, attributes := #[] }, { accessFlags := 18, nameIndex := 64, descriptorIndex := 65, attributes := #[] }, { accessFlags := 4122, nameIndex := 45, descriptorIndex := 46, attributes := #[] }])
  fields := #[{ name := "END", type := (.object "com/example/facetwork/facetwork/nbt/TagType"), accessFlags := 16409, slot := 0, constantValue := 0 }, { name := "BYTE", type := (.object "com/example/facetwork/facetwork/nbt/TagType"), accessFlags := 16409, slot := 1, constantValue := 0 }, { name := "SHORT", type := (.object "com/example/facetwork/facetwork/nbt/TagType"), accessFlags := 16409, slot := 2, constantValue := 0 }, { name := "INT", type := (.object "com/example/facetwork/facetwork/nbt/TagType"), accessFlags := 16409, slot := 3, constantValue := 0 }, { name := "LONG", type := (.object "com/example/facetwork/facetwork/nbt/TagType"), accessFlags := 16409, slot := 4, constantValue := 0 }, { name := "FLOAT", type := (.object "com/example/facetwork/facetwork/nbt/TagType"), accessFlags := 16409, slot := 5, constantValue := 0 }, { name := "DOUBLE", type := (.object "com/example/facetwork/facetwork/nbt/TagType"), accessFlags := 16409, slot := 6, constantValue := 0 }, { name := "BYTE_ARRAY", type := (.object "com/example/facetwork/facetwork/nbt/TagType"), accessFlags := 16409, slot := 7, constantValue := 0 }, { name := "STRING", type := (.object "com/example/facetwork/facetwork/nbt/TagType"), accessFlags := 16409, slot := 8, constantValue := 0 }, { name := "LIST", type := (.object "com/example/facetwork/facetwork/nbt/TagType"), accessFlags := 16409, slot := 9, constantValue := 0 }, { name := "COMPOUND", type := (.object "com/example/facetwork/facetwork/nbt/TagType"), accessFlags := 16409, slot := 10, constantValue := 0 }, { name := "INT_ARRAY", type := (.object "com/example/facetwork/facetwork/nbt/TagType"), accessFlags := 16409, slot := 11, constantValue := 0 }, { name := "LONG_ARRAY", type := (.object "com/example/facetwork/facetwork/nbt/TagType"), accessFlags := 16409, slot := 12, constantValue := 0 }, { name := "BY_ID", type := (.array (.object "com/example/facetwork/facetwork/nbt/TagType")), accessFlags := 26, slot := 13, constantValue := 0 }, { name := "text", type := (.object "java/lang/String"), accessFlags := 18, slot := 3, constantValue := 0 }, { name := "$VALUES", type := (.array (.object "com/example/facetwork/facetwork/nbt/TagType")), accessFlags := 4122, slot := 14, constantValue := 0 }]
  methods := #[k6m0]
  instanceTypes := #[(.object "java/lang/String"), .int, .int, (.object "java/lang/String")]
  staticTypes := #[(.object "com/example/facetwork/facetwork/nbt/TagType"), (.object "com/example/facetwork/facetwork/nbt/TagType"), (.object "com/example/facetwork/facetwork/nbt/TagType"), (.object "com/example/facetwork/facetwork/nbt/TagType"), (.object "com/example/facetwork/facetwork/nbt/TagType"), (.object "com/example/facetwork/facetwork/nbt/TagType"), (.object "com/example/facetwork/facetwork/nbt/TagType"), (.object "com/example/facetwork/facetwork/nbt/TagType"), (.object "com/example/facetwork/facetwork/nbt/TagType"), (.object "com/example/facetwork/facetwork/nbt/TagType"), (.object "com/example/facetwork/facetwork/nbt/TagType"), (.object "com/example/facetwork/facetwork/nbt/TagType"), (.object "com/example/facetwork/facetwork/nbt/TagType"), (.array (.object "com/example/facetwork/facetwork/nbt/TagType")), (.array (.object "com/example/facetwork/facetwork/nbt/TagType"))]
  resolved := Array.replicate 174 none
  statics := some 0 }

def pool7 : Array CpInfo := pool [(1, u "java/lang/Cloneable"), (0, .class_ 1), (0, u "java/lang/Object"), (0, .class_ 3)] 3

/-- java/lang/Cloneable -/
def k7 : Class := { plain "java/lang/Cloneable" (some 0) with
  accessFlags := 1537
  interfaces := #[]
  cf := some (fileOf pool7 2 #[] #[] 1537 4 #[] #[])
  fields := #[]
  methods := #[]
  instanceTypes := #[]
  staticTypes := #[]
  resolved := Array.replicate 8 none
  statics := none }

/-- the primitive byte -/
def k8 : Class := { plain "byte" none with kind := .primitive 'B', accessFlags := 0x411 }
/-- [B -/
def k9 : Class := { plain "[B" (some 0) with kind := .array 8 .byte, interfaces := #[7, 4], accessFlags := 1041 }

/-- the primitive int -/
def k10 : Class := { plain "int" none with kind := .primitive 'I', accessFlags := 0x411 }
/-- [I -/
def k11 : Class := { plain "[I" (some 0) with kind := .array 10 .int, interfaces := #[7, 4], accessFlags := 1041 }

/-- [Lcom/example/facetwork/facetwork/nbt/TagType; -/
def k12 : Class := { plain "[Lcom/example/facetwork/facetwork/nbt/TagType;" (some 0) with kind := .array 6 (.object "com/example/facetwork/facetwork/nbt/TagType"), interfaces := #[7, 4], accessFlags := 1041 }

def heap : Heap := #[{ cls := 6, slots := #[.ref 2, .ref 3, .ref 4, .ref 5, .ref 6, .ref 7, .ref 8, .ref 9, .ref 10, .ref 11, .ref 12, .ref 13, .ref 14, .ref 1, .null], vm := .statics 6 },
  { cls := 12, slots := #[.ref 2, .ref 3, .ref 4, .ref 5, .ref 6, .ref 7, .ref 8, .ref 9, .ref 10, .ref 11, .ref 12, .ref 13, .ref 14], vm := .none },
  { cls := 6, slots := #[.null, .int 0, .int 0, .null], vm := .none },
  { cls := 6, slots := #[.null, .int 1, .int 0, .null], vm := .none },
  { cls := 6, slots := #[.null, .int 2, .int 0, .null], vm := .none },
  { cls := 6, slots := #[.null, .int 3, .int 0, .null], vm := .none },
  { cls := 6, slots := #[.null, .int 4, .int 0, .null], vm := .none },
  { cls := 6, slots := #[.null, .int 5, .int 0, .null], vm := .none },
  { cls := 6, slots := #[.null, .int 6, .int 0, .null], vm := .none },
  { cls := 6, slots := #[.null, .int 7, .int 0, .null], vm := .none },
  { cls := 6, slots := #[.null, .int 8, .int 0, .null], vm := .none },
  { cls := 6, slots := #[.null, .int 9, .int 0, .null], vm := .none },
  { cls := 6, slots := #[.null, .int 10, .int 0, .null], vm := .none },
  { cls := 6, slots := #[.null, .int 11, .int 0, .null], vm := .none },
  { cls := 6, slots := #[.null, .int 12, .int 0, .null], vm := .none }]
def classes : Array Class := #[k0, k1, k2, k3, k4, k5, k6, k7, k8, k9, k10, k11, k12]
def interned : List (Array UInt16 × Addr) := []
def slotsUsed : Nat := 80
def theMethod : MethodId := ⟨1, 2⟩
def args0 : Array Value := #[.int 3, .int 4]
def aboutOver (below : List Frame) : State where
  vm := { classes := classes, interned := interned.toArray }
  heap := heap
  slotsUsed := slotsUsed
  threads := #[{ frames := .invoking theMethod args0 :: below }]
def below0 : List Frame := [.native { method := ⟨0, 0⟩, args := #[] }]
def about1 : State := aboutOver below0
def p0 : Program := .bare "" "" ""
def e0 : Env := launch0.env 0 0 0
theorem w_frames : about1.frames = Frame.invoking theMethod args0 :: below0 := rfl
set_option maxRecDepth 65536 in
theorem w_args : argsFit about1.vm theMethod args0 = true := by decide +kernel
set_option maxRecDepth 65536 in
theorem w_heap : heapFits about1 = true := by decide +kernel
set_option maxRecDepth 65536 in
theorem w_runnable : about1.curStatus? = some .runnable := by decide +kernel
set_option maxRecDepth 65536 in
theorem w_alone : about1.alone = true := by decide +kernel
set_option maxRecDepth 65536 in
theorem w_named : about1.methodNamed? x = some theMethod := by decide +kernel
set_option maxRecDepth 65536 in
theorem w_hears : about1.hears theMethod below0 = true := by decide +kernel
set_option maxRecDepth 65536 in
theorem w_ripe : about1.ripe theMethod args0 below0 = true := by decide +kernel
theorem w_running : about1.status = .running := rfl
set_option maxRecDepth 65536 in
theorem w_room : about1.hasRoom e0.platform room_1 = true :=
  launch0.hasRoom_least _ room_1 (by decide +kernel) (by decide +kernel) (by decide +kernel) (by decide +kernel) (by decide +kernel) (by decide +kernel)
theorem allAtoms_all (ts : List Jvm.Cond) (a : Array Jvm.Value) (st : Jvm.State) : (allAtoms ts).before a st = ts.all (fun c => c.before a st) := by
  induction ts with
  | nil => rfl
  | cons c t ih =>
    show (Jvm.Cond.and c (allAtoms t)).before a st = _
    rw [Jvm.Cond.before_and, ih, List.all_cons]
def words1 : List Jvm.Cond := Jvm.Cond.code x code maxLocals ret :: tables_1
/-- a 'code' word, met by the world's own term for the bytes: nothing is compared byte by byte -/
theorem code_word {y : MethodName} {bytes : ByteArray} {mx : Nat} {rt : Option FieldType} {a : Array Value} {s : State} {m : MethodId} {meth : Method} {c : Code} (h1 : s.methodNamed? y = some m) (h2 : s.vm.method? m = some meth) (h3 : meth.code = some c) (h4 : c.code = bytes)
    (h5 : (c.maxLocals == mx && c.exceptionTable.isEmpty && decide (c.maxStack ≤ mostOperands) && decide (meth.sig.returnType = rt) && !meth.locks && decide (parseMethodDescriptor y.desc = some meth.sig)) = true) : (Jvm.Cond.code y bytes mx rt).before a s = true := by
  simp only [Bool.and_eq_true, beq_iff_eq, Bool.not_eq_true', decide_eq_true_eq] at h5
  obtain ⟨⟨⟨⟨⟨g1, g2⟩, g3⟩, g4⟩, g5⟩, g6⟩ := h5
  simp [Cond.before, Cond.holds, Cond.value, h1, h2, h3, h4, g1, g2, g3, g4, g5, g6]
def isCode : Jvm.Cond → Bool
  | .code _ _ _ _ => true
  | _ => false
theorem all_split {L : List Jvm.Cond} {P : Jvm.Cond → Bool} (h1 : L.all (fun c => isCode c || P c) = true) (h2 : ∀ c ∈ L.filter isCode, P c = true) : L.all P = true := by
  refine List.all_eq_true.mpr fun c hc => ?_
  have h := List.all_eq_true.mp h1 c hc
  rcases Bool.eq_false_or_eq_true (isCode c) with hi | hi
  · exact h2 c (List.mem_filter.mpr ⟨hc, hi⟩)
  · simpa [hi] using h
set_option maxRecDepth 65536 in
theorem w_c0 : (Jvm.Cond.code x code maxLocals ret).before args0 about1 = true := code_word (m := ⟨1, 2⟩) (meth := k1m2) (c := k1c2) (by decide +kernel) rfl rfl rfl (by decide +kernel)
set_option maxRecDepth 65536 in
theorem w_c1 : (Jvm.Cond.code ({ cls := "com/example/facetwork/facetwork/nbt/TagType", name := "byId", desc := "(I)Lcom/example/facetwork/facetwork/nbt/TagType;" } : Jvm.MethodName) prog_19_method_7_code (1 : Nat) (Option.some (Jvm.ClassFile.FieldType.object "com/example/facetwork/facetwork/nbt/TagType"))).before args0 about1 = true := code_word (m := ⟨6, 0⟩) (meth := k6m0) (c := k6c0) (by decide +kernel) rfl rfl rfl (by decide +kernel)
set_option maxRecDepth 65536 in
theorem w_c2 : (Jvm.Cond.code ({ cls := "com/example/facetwork/facetwork/nbt/TagTypeByIdPinLaw", name := "expected", desc := "(I)Lcom/example/facetwork/facetwork/nbt/TagType;" } : Jvm.MethodName) method_2_code (1 : Nat) (Option.some (Jvm.ClassFile.FieldType.object "com/example/facetwork/facetwork/nbt/TagType"))).before args0 about1 = true := code_word (m := ⟨1, 1⟩) (meth := k1m1) (c := k1c1) (by decide +kernel) rfl rfl rfl (by decide +kernel)
def codes1 : List Jvm.Cond := [Jvm.Cond.code x code maxLocals ret, Jvm.Cond.code ({ cls := "com/example/facetwork/facetwork/nbt/TagType", name := "byId", desc := "(I)Lcom/example/facetwork/facetwork/nbt/TagType;" } : Jvm.MethodName) prog_19_method_7_code (1 : Nat) (Option.some (Jvm.ClassFile.FieldType.object "com/example/facetwork/facetwork/nbt/TagType")), Jvm.Cond.code ({ cls := "com/example/facetwork/facetwork/nbt/TagTypeByIdPinLaw", name := "expected", desc := "(I)Lcom/example/facetwork/facetwork/nbt/TagType;" } : Jvm.MethodName) method_2_code (1 : Nat) (Option.some (Jvm.ClassFile.FieldType.object "com/example/facetwork/facetwork/nbt/TagType"))]
set_option maxRecDepth 65536 in
theorem codes_eq : words1.filter isCode = codes1 := rfl
theorem w_codes : ∀ c ∈ words1.filter isCode, c.before args0 about1 = true := by
  rw [codes_eq]
  intro c hc
  simp only [codes1, List.mem_cons, List.not_mem_nil, or_false] at hc
  rcases hc with rfl | rfl | rfl
  · exact w_c0
  · exact w_c1
  · exact w_c2
set_option maxRecDepth 65536 in
theorem w_t1 : (words1.take 24).all (fun c => isCode c || c.before args0 about1) = true := by decide +kernel
set_option maxRecDepth 65536 in
theorem w_t2 : (words1.drop 24).all (fun c => isCode c || c.before args0 about1) = true := by decide +kernel
theorem w_tables : (allAtoms (Jvm.Cond.code x code maxLocals ret :: tables_1)).before args0 about1 = true := by
  rw [allAtoms_all]
  show words1.all (fun c => c.before args0 about1) = true
  refine all_split ?_ w_codes
  rw [← List.take_append_drop 24 words1, List.all_append, w_t1, w_t2]
  rfl
set_option maxRecDepth 65536 in
theorem w_case : (Jvm.Cond.and given_1 narrow_1).before args0 about1 = true := by decide +kernel
theorem w_applies : (headSpec (Jvm.Cond.code x code maxLocals ret :: tables_1) room_1).applies x e0.platform about1 = true :=
  (Spec.applies_iff w_frames).mpr ⟨w_running, w_runnable, w_alone, w_named, w_hears, w_ripe, w_room, w_tables⟩
theorem atStart : AtStart classFile x code maxLocals ret World_1 tables_1 room_1 Calls_1 rest_1 Pre_1 launch0 p0 e0 about1 theMethod args0 below0 :=
  ⟨lists_1, trivial, launch0.admits_env _ _ _, launch0.least_env, fairChoices_fair.cas, fairChoices_fair.clock, w_frames, w_args, w_heap, w_applies, trivial, trivial, w_case⟩
end start1
theorem witness_1 : WitnessClaimed_1 := ⟨start1.p0, start1.e0, start1.about1, start1.theMethod, start1.args0, start1.below0, start1.atStart⟩
end Jvm.Pilot.@@N@@
