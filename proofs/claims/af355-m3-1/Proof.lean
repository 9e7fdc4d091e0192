import JvmDerived
import JvmDerived.Pilot.@@N@@Statement
import JvmDerived.Pilot.@@N@@Code
set_option linter.unusedVariables false
set_option linter.unusedSimpArgs false
namespace Jvm.Pilot.@@N@@
open Jvm Jvm.ClassFile Sem Op Lib Jvm.Free Jvm.Stand Jvm.LawKit Jvm.RoadKit Bundle Jvm.Pilot.@@N@@.Jvm.D
theorem own_len {args : Array Value} {s : State} {t : Term} {a : Addr} {c : Cell} {ty : FieldType} {n : Int32} (et : t.eval args s none [] s = some (.ref a)) (A : Arr s s.heap a c ty) (h : (Term.length t).eval args s none [] s = some (.int n)) : c.slots.size < 2 ^ 31 ∧ c.slots.size.toInt32 = n := by
  have hA := A.fin (Vm.Alike.refl s.vm)
  have h31 := Jvm.Free.SBG.length_lt et hA h
  exact ⟨h31, by simpa using (len_f et hA h31).symm.trans h⟩
theorem own_eqr {Z : State} {args : Array Value} {X F : Term} {idx : List Nat} {b : Addr} (hF : F.eval args Z none idx Z = some (.ref b)) (h : (Cond.eq X F).value args Z none Z idx = some true) : X.eval args Z none idx Z = some (.ref b) := by
  obtain ⟨x, y', e1, e2, k1, k2⟩ := cmp_v (Or.inl h)
  cases hF.symm.trans e2
  rcases ref_cases k2.2 with rfl | ⟨a, rfl⟩
  · simp [Cond.value, e1, hF] at h
  · have q : a = b := by simpa [Cond.value, e1, hF] using h
    rw [e1, q]
theorem d1_0 : decode prog_1_method_1_code 0 = .ok (.getstatic 25, 3) := by decide +kernel
theorem d1_3 : decode prog_1_method_1_code 3 = .ok (.invokevirtual 29, 3) := by decide +kernel
theorem d1_6 : decode prog_1_method_1_code 6 = .ok (.checkcast 30, 3) := by decide +kernel
theorem d1_9 : decode prog_1_method_1_code 9 = .ok (.areturn, 1) := by decide +kernel
theorem pn_0 : plainName "com/example/ledgerhall/ledgerhall/AccountClass" = true := by first | (simp [plainName, overriddenIn]; done) | decide +kernel
theorem ef_1 (mM : MethodId)  : entryFrame mM #[] 0 = mkF mM 0 #[] [] := by first | (simp [entryFrame, mkF, argsToLocals, Value.category]; done) | rfl
def Q1 (Z : State) (a_ASSETS : Addr) (a_LIABILITIES : Addr) (a_FUND_BALANCE : Addr) (a_REVENUES : Addr) (a_EXPENDITURES : Addr) (a_OTHER_RESOURCES : Addr) (a_OTHER_USES : Addr) (va : Addr) (kva : ClassId) (em : Addr) (h0 : Heap) (n0 : Nat) (v : Option Value) (h : Heap) (L : List Loc) : Prop := ∃ b : Addr, v = some (.ref b) ∧ h0.size ≤ b ∧ Fr n0 L ∧ Keep h0 h [] ∧ Arv Z h b kva (.object "com/example/ledgerhall/ledgerhall/AccountClass") (7 : Int32) [(.ref a_ASSETS), (.ref a_LIABILITIES), (.ref a_FUND_BALANCE), (.ref a_REVENUES), (.ref a_EXPENDITURES), (.ref a_OTHER_RESOURCES), (.ref a_OTHER_USES)] .null
set_option maxRecDepth 65536 in
set_option maxHeartbeats 40000000 in
theorem rm1 (l : Launch) (Z : State) (a0 : Array Value) (hw : ∀ d ∈ tables_1, d.before a0 Z = true) (ws : List Jvm.Cond) (a_ASSETS : Addr) (a_LIABILITIES : Addr) (a_FUND_BALANCE : Addr) (a_REVENUES : Addr) (a_EXPENDITURES : Addr) (a_OTHER_RESOURCES : Addr) (a_OTHER_USES : Addr) (va : Addr) (kva : ClassId) (em : Addr) (h0 : Heap) (n0 : Nat) (Z0 : n0 ≤ h0.size) (O : Old Z n0 h0) (S_ASSETS : Sta Z Z.heap "com/example/ledgerhall/ledgerhall/AccountClass" "ASSETS" "Lcom/example/ledgerhall/ledgerhall/AccountClass;" (.ref a_ASSETS)) (E_ASSETS : Exa Z Z.heap a_ASSETS "com/example/ledgerhall/ledgerhall/AccountClass") (S_LIABILITIES : Sta Z Z.heap "com/example/ledgerhall/ledgerhall/AccountClass" "LIABILITIES" "Lcom/example/ledgerhall/ledgerhall/AccountClass;" (.ref a_LIABILITIES)) (E_LIABILITIES : Exa Z Z.heap a_LIABILITIES "com/example/ledgerhall/ledgerhall/AccountClass") (S_FUND_BALANCE : Sta Z Z.heap "com/example/ledgerhall/ledgerhall/AccountClass" "FUND_BALANCE" "Lcom/example/ledgerhall/ledgerhall/AccountClass;" (.ref a_FUND_BALANCE)) (E_FUND_BALANCE : Exa Z Z.heap a_FUND_BALANCE "com/example/ledgerhall/ledgerhall/AccountClass") (S_REVENUES : Sta Z Z.heap "com/example/ledgerhall/ledgerhall/AccountClass" "REVENUES" "Lcom/example/ledgerhall/ledgerhall/AccountClass;" (.ref a_REVENUES)) (E_REVENUES : Exa Z Z.heap a_REVENUES "com/example/ledgerhall/ledgerhall/AccountClass") (S_EXPENDITURES : Sta Z Z.heap "com/example/ledgerhall/ledgerhall/AccountClass" "EXPENDITURES" "Lcom/example/ledgerhall/ledgerhall/AccountClass;" (.ref a_EXPENDITURES)) (E_EXPENDITURES : Exa Z Z.heap a_EXPENDITURES "com/example/ledgerhall/ledgerhall/AccountClass") (S_OTHER_RESOURCES : Sta Z Z.heap "com/example/ledgerhall/ledgerhall/AccountClass" "OTHER_RESOURCES" "Lcom/example/ledgerhall/ledgerhall/AccountClass;" (.ref a_OTHER_RESOURCES)) (E_OTHER_RESOURCES : Exa Z Z.heap a_OTHER_RESOURCES "com/example/ledgerhall/ledgerhall/AccountClass") (S_OTHER_USES : Sta Z Z.heap "com/example/ledgerhall/ledgerhall/AccountClass" "OTHER_USES" "Lcom/example/ledgerhall/ledgerhall/AccountClass;" (.ref a_OTHER_USES)) (E_OTHER_USES : Exa Z Z.heap a_OTHER_USES "com/example/ledgerhall/ledgerhall/AccountClass") (F_ASSETS_digit : Fld Z Z.heap a_ASSETS "com/example/ledgerhall/ledgerhall/AccountClass" "digit" "C" (.int (49 : Int32))) (F_LIABILITIES_digit : Fld Z Z.heap a_LIABILITIES "com/example/ledgerhall/ledgerhall/AccountClass" "digit" "C" (.int (50 : Int32))) (F_FUND_BALANCE_digit : Fld Z Z.heap a_FUND_BALANCE "com/example/ledgerhall/ledgerhall/AccountClass" "digit" "C" (.int (51 : Int32))) (F_REVENUES_digit : Fld Z Z.heap a_REVENUES "com/example/ledgerhall/ledgerhall/AccountClass" "digit" "C" (.int (53 : Int32))) (F_EXPENDITURES_digit : Fld Z Z.heap a_EXPENDITURES "com/example/ledgerhall/ledgerhall/AccountClass" "digit" "C" (.int (54 : Int32))) (F_OTHER_RESOURCES_digit : Fld Z Z.heap a_OTHER_RESOURCES "com/example/ledgerhall/ledgerhall/AccountClass" "digit" "C" (.int (55 : Int32))) (F_OTHER_USES_digit : Fld Z Z.heap a_OTHER_USES "com/example/ledgerhall/ledgerhall/AccountClass" "digit" "C" (.int (56 : Int32))) (S_VALUES : Sta Z Z.heap "com/example/ledgerhall/ledgerhall/AccountClass" "$VALUES" "[Lcom/example/ledgerhall/ledgerhall/AccountClass;" (.ref va)) (E_VALUES : Exa Z Z.heap va "[Lcom/example/ledgerhall/ledgerhall/AccountClass;") (V_VALUES : Arv Z Z.heap va kva (.object "com/example/ledgerhall/ledgerhall/AccountClass") (7 : Int32) [(.ref a_ASSETS), (.ref a_LIABILITIES), (.ref a_FUND_BALANCE), (.ref a_REVENUES), (.ref a_EXPENDITURES), (.ref a_OTHER_RESOURCES), (.ref a_OTHER_USES)] .null) (S_EMPTY : Sta Z Z.heap "java/util/Optional" "EMPTY" "Ljava/util/Optional;" (.ref em)) (E_EMPTY : Exa Z Z.heap em "java/util/Optional") (F_EMPTY : Fld Z Z.heap em "java/util/Optional" "value" "Ljava/lang/Object;" .null) :
    MetFree l (⟨"com/example/ledgerhall/ledgerhall/AccountClass", "values", "()[Lcom/example/ledgerhall/ledgerhall/AccountClass;"⟩ : MethodName) (head1 (Jvm.Cond.code (⟨"com/example/ledgerhall/ledgerhall/AccountClass", "values", "()[Lcom/example/ledgerhall/ledgerhall/AccountClass;"⟩ : MethodName) prog_1_method_1_code 0 (some (.array (.object "com/example/ledgerhall/ledgerhall/AccountClass"))) :: ws) ({ frames := 1, cells := 1, slots := 7, locals := 14 } : Room)) (fun aA uU => aA = #[] ∧ Z.Warmed39 uU.vm ∧ uU.heap = h0) (fun _ _ _ _ _ => True) (fun _ uU oO uU' => ∃ vV lL, oO = .returned vV ∧ Q1 Z a_ASSETS a_LIABILITIES a_FUND_BALANCE a_REVENUES a_EXPENDITURES a_OTHER_RESOURCES a_OTHER_USES va kva em h0 n0 vV uU'.heap lL ∧ FrameEnd uU oO uU' lL ({ frames := 1, cells := 1, slots := 7, locals := 14 } : Room).cells ({ frames := 1, cells := 1, slots := 7, locals := 14 } : Room).slots) := by
  refine MetFree.of_bodySF (plainFor_of_name pn_0) hisR ?_
  intro pP eE sS mM args below meth cC s₁ Bd hml0 hP hK
  obtain ⟨rfl, hZ, hh⟩ := hP
  have hx := Bd.exec
  have hby := Bd.bytes
  have hml : cC.maxLocals = 0 := hml0
  have hown : sS.vm.findClass "com/example/ledgerhall/ledgerhall/AccountClass" = some mM.cls := findClass_of_methodNamed Bd.named
  have hnm := (name_of_methodNamed Bd.named Bd.method).1
  have X0 : Stand pP l eE ({ frames := 1, cells := 1, slots := 7, locals := 14 } : Room) sS mM #[] below meth cC s₁ [] 0 0 := Stand.of_body Bd
  have e0 : s₁.heap = h0 := by rw [← hh, Bd.state]; rfl
  have N0 := Fr.nil n0
  have pre0 : ∀ tg, Steps pP.tables eE below (s₁.setTop (mkF mM 0 #[] [])) tg → Steps pP.tables eE below (s₁.setTop (entryFrame mM #[] 0)) tg := fun tg kg => castTop (ef_1 mM ) kg
  obtain ⟨T1, X1, e1, st1⟩ := getS2 X0 hx hZ hown (host := "") (Or.inl (hw _ (List.mem_of_getElem? (i := 7) rfl))) Via.refl e0 (Sta.ext (O).2 S_VALUES) (g := (mkF mM 0 #[] [])) rfl (hb hby d1_0)
  have pr2 : ∀ tg, Steps pP.tables eE below (T1.setTop (mkF mM 3 #[] [(.ref va)])) tg → Steps pP.tables eE below (s₁.setTop (entryFrame mM #[] 0)) tg := fun tg kg => pre0 _ (st1 _ kg)
  obtain ⟨T3, h3, X3, e3, E3, A3, Ex3, st3⟩ := cloneH X1 hx hZ hown (hw _ (List.mem_of_getElem? (i := 9) rfl)) (hw _ (List.mem_of_getElem? (i := 10) rfl)) (hw _ (List.mem_of_getElem? (i := 14) rfl)) (hw _ (List.mem_of_getElem? (i := 12) rfl)) (hw _ (List.mem_of_getElem? (i := 13) rfl)) (hw _ (List.mem_of_getElem? (i := 15) rfl)) e1 (Arv.arh (Arv.ext V_VALUES (O).2)) (Exa.ext (O).2 E_VALUES) (g := (mkF mM 3 #[] [(.ref va)])) rfl (by rw [hml]; rfl) rfl (hb hby d1_3) (by decide) (W := 0) (cap := 7) (by show 2 * 0 + _ ≤ _; exact Nat.le_of_eq rfl) (by decide) (by decide) (by decide) (by decide)
  obtain ⟨b3, g3⟩ : ∃ z, z = (h0).size := ⟨_, rfl⟩
  rw [← g3] at A3 Ex3 st3
  have gn4 : n0 ≤ b3 := Nat.le_trans Z0 (Nat.le_of_eq g3.symm)
  have gs5 : h0.size ≤ b3 := Nat.le_trans (Keep.refl h0 []).1 (Nat.le_of_eq g3.symm)
  have V3 : Arv Z h3 b3 kva (.object "com/example/ledgerhall/ledgerhall/AccountClass") (7 : Int32) [(.ref a_ASSETS), (.ref a_LIABILITIES), (.ref a_FUND_BALANCE), (.ref a_REVENUES), (.ref a_EXPENDITURES), (.ref a_OTHER_RESOURCES), (.ref a_OTHER_USES)] .null := A3
  have pr6 : ∀ tg, Steps pP.tables eE below (T3.setTop (mkF mM 6 #[] [(.ref b3)])) tg → Steps pP.tables eE below (s₁.setTop (entryFrame mM #[] 0)) tg := fun tg kg => pr2 _ (st3 _ kg)
  obtain ⟨T7, X7, e7, st7⟩ := castY X3 hx hZ hown (hw _ (List.mem_of_getElem? (i := 24) rfl)) e3 (Ins.self Ex3) (g := (mkF mM 6 #[] [(.ref b3)])) rfl rfl (hb hby d1_6)
  have pr8 : ∀ tg, Steps pP.tables eE below (T7.setTop (mkF mM 9 #[] [(.ref b3)])) tg → Steps pP.tables eE below (s₁.setTop (entryFrame mM #[] 0)) tg := fun tg kg => pr6 _ (st7 _ kg)
  have c9 := (Keep.ext (Keep.refl h0 []) E3)
  obtain ⟨fs, hr, hrun, hended, hW, hsame⟩ := X7.leave (v := some (.ref b3)) (fun h => by rw [Bd.returns] at h; cases h)
  refine ⟨_, _, pr8 _ (retOut X7 hx (t := (.array (.object "com/example/ledgerhall/ledgerhall/AccountClass"))) Bd.returns rfl (Or.inr (Or.inr (Or.inr (Or.inr ⟨rfl, rfl, rfl⟩)))) (hb hby d1_9) hr), hrun, hended, _, _, rfl, ?_, ⟨_, rfl⟩, hW, hsame.mono (by decide) (by decide)⟩
  show Q1 Z a_ASSETS a_LIABILITIES a_FUND_BALANCE a_REVENUES a_EXPENDITURES a_OTHER_RESOURCES a_OTHER_USES va kva em h0 n0 _ T7.heap _
  rw [e7]
  exact ⟨_, rfl, gs5, N0, c9, V3⟩
theorem d2_0 : decode jdk_32_method_1_code 0 = .ok (.getstatic 1, 3) := by decide +kernel
theorem d2_3 : decode jdk_32_method_1_code 3 = .ok (.astore_n 0, 1) := by decide +kernel
theorem d2_4 : decode jdk_32_method_1_code 4 = .ok (.aload_n 0, 1) := by decide +kernel
theorem d2_5 : decode jdk_32_method_1_code 5 = .ok (.areturn, 1) := by decide +kernel
theorem pn_1 : plainName "java/util/Optional" = true := by first | (simp [plainName, overriddenIn]; done) | decide +kernel
theorem ef_2 (mM : MethodId)  : entryFrame mM #[] 1 = mkF mM 0 #[.unset] [] := by first | (simp [entryFrame, mkF, argsToLocals, Value.category]; done) | rfl
def Q2 (Z : State) (a_ASSETS : Addr) (a_LIABILITIES : Addr) (a_FUND_BALANCE : Addr) (a_REVENUES : Addr) (a_EXPENDITURES : Addr) (a_OTHER_RESOURCES : Addr) (a_OTHER_USES : Addr) (va : Addr) (kva : ClassId) (em : Addr) (h0 : Heap) (n0 : Nat) (v : Option Value) (h : Heap) (L : List Loc) : Prop := v = some (.ref em) ∧ Fr n0 L ∧ h = h0
set_option maxRecDepth 65536 in
set_option maxHeartbeats 40000000 in
theorem rm2 (l : Launch) (Z : State) (a0 : Array Value) (hw : ∀ d ∈ tables_1, d.before a0 Z = true) (ws : List Jvm.Cond) (a_ASSETS : Addr) (a_LIABILITIES : Addr) (a_FUND_BALANCE : Addr) (a_REVENUES : Addr) (a_EXPENDITURES : Addr) (a_OTHER_RESOURCES : Addr) (a_OTHER_USES : Addr) (va : Addr) (kva : ClassId) (em : Addr) (h0 : Heap) (n0 : Nat) (Z0 : n0 ≤ h0.size) (O : Old Z n0 h0) (S_ASSETS : Sta Z Z.heap "com/example/ledgerhall/ledgerhall/AccountClass" "ASSETS" "Lcom/example/ledgerhall/ledgerhall/AccountClass;" (.ref a_ASSETS)) (E_ASSETS : Exa Z Z.heap a_ASSETS "com/example/ledgerhall/ledgerhall/AccountClass") (S_LIABILITIES : Sta Z Z.heap "com/example/ledgerhall/ledgerhall/AccountClass" "LIABILITIES" "Lcom/example/ledgerhall/ledgerhall/AccountClass;" (.ref a_LIABILITIES)) (E_LIABILITIES : Exa Z Z.heap a_LIABILITIES "com/example/ledgerhall/ledgerhall/AccountClass") (S_FUND_BALANCE : Sta Z Z.heap "com/example/ledgerhall/ledgerhall/AccountClass" "FUND_BALANCE" "Lcom/example/ledgerhall/ledgerhall/AccountClass;" (.ref a_FUND_BALANCE)) (E_FUND_BALANCE : Exa Z Z.heap a_FUND_BALANCE "com/example/ledgerhall/ledgerhall/AccountClass") (S_REVENUES : Sta Z Z.heap "com/example/ledgerhall/ledgerhall/AccountClass" "REVENUES" "Lcom/example/ledgerhall/ledgerhall/AccountClass;" (.ref a_REVENUES)) (E_REVENUES : Exa Z Z.heap a_REVENUES "com/example/ledgerhall/ledgerhall/AccountClass") (S_EXPENDITURES : Sta Z Z.heap "com/example/ledgerhall/ledgerhall/AccountClass" "EXPENDITURES" "Lcom/example/ledgerhall/ledgerhall/AccountClass;" (.ref a_EXPENDITURES)) (E_EXPENDITURES : Exa Z Z.heap a_EXPENDITURES "com/example/ledgerhall/ledgerhall/AccountClass") (S_OTHER_RESOURCES : Sta Z Z.heap "com/example/ledgerhall/ledgerhall/AccountClass" "OTHER_RESOURCES" "Lcom/example/ledgerhall/ledgerhall/AccountClass;" (.ref a_OTHER_RESOURCES)) (E_OTHER_RESOURCES : Exa Z Z.heap a_OTHER_RESOURCES "com/example/ledgerhall/ledgerhall/AccountClass") (S_OTHER_USES : Sta Z Z.heap "com/example/ledgerhall/ledgerhall/AccountClass" "OTHER_USES" "Lcom/example/ledgerhall/ledgerhall/AccountClass;" (.ref a_OTHER_USES)) (E_OTHER_USES : Exa Z Z.heap a_OTHER_USES "com/example/ledgerhall/ledgerhall/AccountClass") (F_ASSETS_digit : Fld Z Z.heap a_ASSETS "com/example/ledgerhall/ledgerhall/AccountClass" "digit" "C" (.int (49 : Int32))) (F_LIABILITIES_digit : Fld Z Z.heap a_LIABILITIES "com/example/ledgerhall/ledgerhall/AccountClass" "digit" "C" (.int (50 : Int32))) (F_FUND_BALANCE_digit : Fld Z Z.heap a_FUND_BALANCE "com/example/ledgerhall/ledgerhall/AccountClass" "digit" "C" (.int (51 : Int32))) (F_REVENUES_digit : Fld Z Z.heap a_REVENUES "com/example/ledgerhall/ledgerhall/AccountClass" "digit" "C" (.int (53 : Int32))) (F_EXPENDITURES_digit : Fld Z Z.heap a_EXPENDITURES "com/example/ledgerhall/ledgerhall/AccountClass" "digit" "C" (.int (54 : Int32))) (F_OTHER_RESOURCES_digit : Fld Z Z.heap a_OTHER_RESOURCES "com/example/ledgerhall/ledgerhall/AccountClass" "digit" "C" (.int (55 : Int32))) (F_OTHER_USES_digit : Fld Z Z.heap a_OTHER_USES "com/example/ledgerhall/ledgerhall/AccountClass" "digit" "C" (.int (56 : Int32))) (S_VALUES : Sta Z Z.heap "com/example/ledgerhall/ledgerhall/AccountClass" "$VALUES" "[Lcom/example/ledgerhall/ledgerhall/AccountClass;" (.ref va)) (E_VALUES : Exa Z Z.heap va "[Lcom/example/ledgerhall/ledgerhall/AccountClass;") (V_VALUES : Arv Z Z.heap va kva (.object "com/example/ledgerhall/ledgerhall/AccountClass") (7 : Int32) [(.ref a_ASSETS), (.ref a_LIABILITIES), (.ref a_FUND_BALANCE), (.ref a_REVENUES), (.ref a_EXPENDITURES), (.ref a_OTHER_RESOURCES), (.ref a_OTHER_USES)] .null) (S_EMPTY : Sta Z Z.heap "java/util/Optional" "EMPTY" "Ljava/util/Optional;" (.ref em)) (E_EMPTY : Exa Z Z.heap em "java/util/Optional") (F_EMPTY : Fld Z Z.heap em "java/util/Optional" "value" "Ljava/lang/Object;" .null) :
    MetFree l (⟨"java/util/Optional", "empty", "()Ljava/util/Optional;"⟩ : MethodName) (head1 (Jvm.Cond.code (⟨"java/util/Optional", "empty", "()Ljava/util/Optional;"⟩ : MethodName) jdk_32_method_1_code 1 (some (.object "java/util/Optional")) :: ws) ({ frames := 0, cells := 0, slots := 0, locals := 0 } : Room)) (fun aA uU => aA = #[] ∧ Z.Warmed39 uU.vm ∧ uU.heap = h0) (fun _ _ _ _ _ => True) (fun _ uU oO uU' => ∃ vV lL, oO = .returned vV ∧ Q2 Z a_ASSETS a_LIABILITIES a_FUND_BALANCE a_REVENUES a_EXPENDITURES a_OTHER_RESOURCES a_OTHER_USES va kva em h0 n0 vV uU'.heap lL ∧ FrameEnd uU oO uU' lL ({ frames := 0, cells := 0, slots := 0, locals := 0 } : Room).cells ({ frames := 0, cells := 0, slots := 0, locals := 0 } : Room).slots) := by
  refine MetFree.of_bodySF (plainFor_of_name pn_1) hisR ?_
  intro pP eE sS mM args below meth cC s₁ Bd hml0 hP hK
  obtain ⟨rfl, hZ, hh⟩ := hP
  have hx := Bd.exec
  have hby := Bd.bytes
  have hml : cC.maxLocals = 1 := hml0
  have hown : sS.vm.findClass "java/util/Optional" = some mM.cls := findClass_of_methodNamed Bd.named
  have hnm := (name_of_methodNamed Bd.named Bd.method).1
  have X0 : Stand pP l eE ({ frames := 0, cells := 0, slots := 0, locals := 0 } : Room) sS mM #[] below meth cC s₁ [] 0 0 := Stand.of_body Bd
  have e0 : s₁.heap = h0 := by rw [← hh, Bd.state]; rfl
  have N0 := Fr.nil n0
  have pre0 : ∀ tg, Steps pP.tables eE below (s₁.setTop (mkF mM 0 #[.unset] [])) tg → Steps pP.tables eE below (s₁.setTop (entryFrame mM #[] 1)) tg := fun tg kg => castTop (ef_2 mM ) kg
  obtain ⟨T1, X1, e1, st1⟩ := getS2 X0 hx hZ hown (host := "") (Or.inl (hw _ (List.mem_of_getElem? (i := 32) rfl))) Via.refl e0 (Sta.ext (O).2 S_EMPTY) (g := (mkF mM 0 #[.unset] [])) rfl (hb hby d2_0)
  have pr2 : ∀ tg, Steps pP.tables eE below (T1.setTop (mkF mM 3 #[.unset] [(.ref em)])) tg → Steps pP.tables eE below (s₁.setTop (entryFrame mM #[] 1)) tg := fun tg kg => pre0 _ (st1 _ kg)
  have pr3 : ∀ tg, Steps pP.tables eE below (T1.setTop (mkF mM 5 #[.val (.ref em)] [(.ref em)])) tg → Steps pP.tables eE below (s₁.setTop (entryFrame mM #[] 1)) tg := fun tg kg => pr2 _ (by
    show Steps pP.tables eE below (T1.setTop (mkF mM 3 #[.unset] [(.ref em)])) _
    refine XS.astoreN X1.here hx rfl (hb hby d2_3) rfl rfl (l' := #[.val (.ref em)]) rfl ?_
    show Steps pP.tables eE below (T1.setTop (mkF mM 4 #[.val (.ref em)] [])) _
    refine XS.aloadN X1.here hx rfl (hb hby d2_4) rfl rfl ?_
    exact kg)
  obtain ⟨fs, hr, hrun, hended, hW, hsame⟩ := X1.leave (v := some (.ref em)) (fun h => by rw [Bd.returns] at h; cases h)
  refine ⟨_, _, pr3 _ (retOut X1 hx (t := (.object "java/util/Optional")) Bd.returns rfl (Or.inr (Or.inr (Or.inr (Or.inr ⟨rfl, rfl, rfl⟩)))) (hb hby d2_5) hr), hrun, hended, _, _, rfl, ?_, ⟨_, rfl⟩, hW, hsame.mono (by decide) (by decide)⟩
  show Q2 Z a_ASSETS a_LIABILITIES a_FUND_BALANCE a_REVENUES a_EXPENDITURES a_OTHER_RESOURCES a_OTHER_USES va kva em h0 n0 _ T1.heap _
  rw [e1]
  exact ⟨rfl, N0, rfl⟩
theorem d3_0 : decode jdk_31_method_10_code 0 = .ok (.aload_n 0, 1) := by decide +kernel
theorem d3_1 : decode jdk_31_method_10_code 1 = .ok (.ifnonnull 11, 3) := by decide +kernel
theorem d3_12 : decode jdk_31_method_10_code 12 = .ok (.aload_n 0, 1) := by decide +kernel
theorem d3_13 : decode jdk_31_method_10_code 13 = .ok (.areturn, 1) := by decide +kernel
theorem pn_2 : plainName "java/util/Objects" = true := by first | (simp [plainName, overriddenIn]; done) | decide +kernel
theorem ef_3 (mM : MethodId) (x0 : Addr) : entryFrame mM #[(.ref x0)] 1 = mkF mM 0 #[.val (.ref x0)] [] := by first | (simp [entryFrame, mkF, argsToLocals, Value.category]; done) | rfl
def Q3 (Z : State) (x : Addr) (h0 : Heap) (n0 : Nat) (v : Option Value) (h : Heap) (L : List Loc) : Prop := v = some (.ref x) ∧ Fr n0 L ∧ h = h0
set_option maxRecDepth 65536 in
set_option maxHeartbeats 40000000 in
theorem rm3 (l : Launch) (Z : State) (a0 : Array Value) (hw : ∀ d ∈ tables_1, d.before a0 Z = true) (ws : List Jvm.Cond) (x : Addr) (h0 : Heap) (n0 : Nat) (Z0 : n0 ≤ h0.size) :
    MetFree l (⟨"java/util/Objects", "requireNonNull", "(Ljava/lang/Object;)Ljava/lang/Object;"⟩ : MethodName) (head1 (Jvm.Cond.code (⟨"java/util/Objects", "requireNonNull", "(Ljava/lang/Object;)Ljava/lang/Object;"⟩ : MethodName) jdk_31_method_10_code 1 (some (.object "java/lang/Object")) :: ws) ({ frames := 0, cells := 0, slots := 0, locals := 0 } : Room)) (fun aA uU => aA = #[(.ref x)] ∧ Z.Warmed39 uU.vm ∧ uU.heap = h0) (fun _ _ _ _ _ => True) (fun _ uU oO uU' => ∃ vV lL, oO = .returned vV ∧ Q3 Z x h0 n0 vV uU'.heap lL ∧ FrameEnd uU oO uU' lL ({ frames := 0, cells := 0, slots := 0, locals := 0 } : Room).cells ({ frames := 0, cells := 0, slots := 0, locals := 0 } : Room).slots) := by
  refine MetFree.of_bodySF (plainFor_of_name pn_2) hisR ?_
  intro pP eE sS mM args below meth cC s₁ Bd hml0 hP hK
  obtain ⟨rfl, hZ, hh⟩ := hP
  have hx := Bd.exec
  have hby := Bd.bytes
  have hml : cC.maxLocals = 1 := hml0
  have hown : sS.vm.findClass "java/util/Objects" = some mM.cls := findClass_of_methodNamed Bd.named
  have hnm := (name_of_methodNamed Bd.named Bd.method).1
  have X0 : Stand pP l eE ({ frames := 0, cells := 0, slots := 0, locals := 0 } : Room) sS mM #[(.ref x)] below meth cC s₁ [] 0 0 := Stand.of_body Bd
  have e0 : s₁.heap = h0 := by rw [← hh, Bd.state]; rfl
  have N0 := Fr.nil n0
  have pre0 : ∀ tg, Steps pP.tables eE below (s₁.setTop (mkF mM 0 #[.val (.ref x)] [])) tg → Steps pP.tables eE below (s₁.setTop (entryFrame mM #[(.ref x)] 1)) tg := fun tg kg => castTop (ef_3 mM x) kg
  have pr1 : ∀ tg, Steps pP.tables eE below (s₁.setTop (mkF mM 13 #[.val (.ref x)] [(.ref x)])) tg → Steps pP.tables eE below (s₁.setTop (entryFrame mM #[(.ref x)] 1)) tg := fun tg kg => pre0 _ (by
    show Steps pP.tables eE below (s₁.setTop (mkF mM 0 #[.val (.ref x)] [])) _
    refine XS.aloadN X0.here hx rfl (hb hby d3_0) rfl rfl ?_
    show Steps pP.tables eE below (s₁.setTop (mkF mM 1 #[.val (.ref x)] [(.ref x)])) _
    refine XS.ifnonnullYes X0.here hx rfl (pc0 := 1) (pc' := 12) rfl (hb hby d3_1) rfl (by decide) (by decide) ?_
    show Steps pP.tables eE below (s₁.setTop (mkF mM 12 #[.val (.ref x)] [])) _
    refine XS.aloadN X0.here hx rfl (hb hby d3_12) rfl rfl ?_
    exact kg)
  obtain ⟨fs, hr, hrun, hended, hW, hsame⟩ := X0.leave (v := some (.ref x)) (fun h => by rw [Bd.returns] at h; cases h)
  refine ⟨_, _, pr1 _ (retOut X0 hx (t := (.object "java/lang/Object")) Bd.returns rfl (Or.inr (Or.inr (Or.inr (Or.inr ⟨rfl, rfl, rfl⟩)))) (hb hby d3_13) hr), hrun, hended, _, _, rfl, ?_, ⟨_, rfl⟩, hW, hsame.mono (by decide) (by decide)⟩
  show Q3 Z x h0 n0 _ s₁.heap _
  rw [e0]
  exact ⟨rfl, N0, rfl⟩
theorem d4_0 : decode jdk_32_method_2_code 0 = .ok (.aload_n 0, 1) := by decide +kernel
theorem d4_1 : decode jdk_32_method_2_code 1 = .ok (.invokespecial 7, 3) := by decide +kernel
theorem d4_4 : decode jdk_32_method_2_code 4 = .ok (.aload_n 0, 1) := by decide +kernel
theorem d4_5 : decode jdk_32_method_2_code 5 = .ok (.aload_n 1, 1) := by decide +kernel
theorem d4_6 : decode jdk_32_method_2_code 6 = .ok (.putfield 13, 3) := by decide +kernel
theorem d4_9 : decode jdk_32_method_2_code 9 = .ok (.return_, 1) := by decide +kernel
theorem ef_4 (mM : MethodId) (x0 : Addr) (x1 : Addr) : entryFrame mM #[(.ref x0), (.ref x1)] 2 = mkF mM 0 #[.val (.ref x0), .val (.ref x1)] [] := by first | (simp [entryFrame, mkF, argsToLocals, Value.category]; done) | rfl
def Q4 (Z : State) (a : Addr) (x : Addr) (h0 : Heap) (n0 : Nat) (v : Option Value) (h : Heap) (L : List Loc) : Prop := v = none ∧ Fr n0 L ∧ Keep h0 h [a] ∧ Exa Z h a "java/util/Optional" ∧ Fld Z h a "java/util/Optional" "value" "Ljava/lang/Object;" (.ref x)
set_option maxRecDepth 65536 in
set_option maxHeartbeats 40000000 in
theorem rm4 (l : Launch) (Z : State) (a0 : Array Value) (hw : ∀ d ∈ tables_1, d.before a0 Z = true) (ws : List Jvm.Cond) (a : Addr) (x : Addr) (h0 : Heap) (n0 : Nat) (Z0 : n0 ≤ h0.size) (E_a : Exa Z h0 a "java/util/Optional") (g_a : n0 ≤ a) (F_value : Fld Z h0 a "java/util/Optional" "value" "Ljava/lang/Object;" .null) :
    MetFree l (⟨"java/util/Optional", "<init>", "(Ljava/lang/Object;)V"⟩ : MethodName) (head1 (Jvm.Cond.code (⟨"java/util/Optional", "<init>", "(Ljava/lang/Object;)V"⟩ : MethodName) jdk_32_method_2_code 2 none :: ws) ({ frames := 1, cells := 0, slots := 0, locals := 12 } : Room)) (fun aA uU => aA = #[(.ref a), (.ref x)] ∧ Z.Warmed39 uU.vm ∧ uU.heap = h0) (fun _ _ _ _ _ => True) (fun _ uU oO uU' => ∃ vV lL, oO = .returned vV ∧ Q4 Z a x h0 n0 vV uU'.heap lL ∧ FrameEnd uU oO uU' lL ({ frames := 1, cells := 0, slots := 0, locals := 12 } : Room).cells ({ frames := 1, cells := 0, slots := 0, locals := 12 } : Room).slots) := by
  refine MetFree.of_bodySF (plainFor_of_name pn_1) hisR ?_
  intro pP eE sS mM args below meth cC s₁ Bd hml0 hP hK
  obtain ⟨rfl, hZ, hh⟩ := hP
  have hx := Bd.exec
  have hby := Bd.bytes
  have hml : cC.maxLocals = 2 := hml0
  have hown : sS.vm.findClass "java/util/Optional" = some mM.cls := findClass_of_methodNamed Bd.named
  have hnm := (name_of_methodNamed Bd.named Bd.method).1
  have X0 : Stand pP l eE ({ frames := 1, cells := 0, slots := 0, locals := 12 } : Room) sS mM #[(.ref a), (.ref x)] below meth cC s₁ [] 0 0 := Stand.of_body Bd
  have e0 : s₁.heap = h0 := by rw [← hh, Bd.state]; rfl
  have N0 := Fr.nil n0
  have pre0 : ∀ tg, Steps pP.tables eE below (s₁.setTop (mkF mM 0 #[.val (.ref a), .val (.ref x)] [])) tg → Steps pP.tables eE below (s₁.setTop (entryFrame mM #[(.ref a), (.ref x)] 2)) tg := fun tg kg => castTop (ef_4 mM a x) kg
  have pr1 : ∀ tg, Steps pP.tables eE below (s₁.setTop (mkF mM 1 #[.val (.ref a), .val (.ref x)] [(.ref a)])) tg → Steps pP.tables eE below (s₁.setTop (entryFrame mM #[(.ref a), (.ref x)] 2)) tg := fun tg kg => pre0 _ (by
    show Steps pP.tables eE below (s₁.setTop (mkF mM 0 #[.val (.ref a), .val (.ref x)] [])) _
    refine XS.aloadN X0.here hx rfl (hb hby d4_0) rfl rfl ?_
    exact kg)
  obtain ⟨T2, X2, e2, st2⟩ := initO X0 hx hZ hown (hw _ (List.mem_of_getElem? (i := 57) rfl)) (hw _ (List.mem_of_getElem? (i := 58) rfl)) (hw _ (List.mem_of_getElem? (i := 59) rfl)) e0 (g := (mkF mM 1 #[.val (.ref a), .val (.ref x)] [(.ref a)])) rfl (by rw [hml]; rfl) rfl (hb hby d4_1) (by decide) (W := 0) (by show 2 * 0 + _ ≤ _; exact Nat.le_of_eq rfl) (by decide)
  have pr3 : ∀ tg, Steps pP.tables eE below (T2.setTop (mkF mM 4 #[.val (.ref a), .val (.ref x)] [])) tg → Steps pP.tables eE below (s₁.setTop (entryFrame mM #[(.ref a), (.ref x)] 2)) tg := fun tg kg => pr1 _ (st2 _ kg)
  have pr4 : ∀ tg, Steps pP.tables eE below (T2.setTop (mkF mM 6 #[.val (.ref a), .val (.ref x)] [(.ref x), (.ref a)])) tg → Steps pP.tables eE below (s₁.setTop (entryFrame mM #[(.ref a), (.ref x)] 2)) tg := fun tg kg => pr3 _ (by
    show Steps pP.tables eE below (T2.setTop (mkF mM 4 #[.val (.ref a), .val (.ref x)] [])) _
    refine XS.aloadN X2.here hx rfl (hb hby d4_4) rfl rfl ?_
    show Steps pP.tables eE below (T2.setTop (mkF mM 5 #[.val (.ref a), .val (.ref x)] [(.ref a)])) _
    refine XS.aloadN X2.here hx rfl (hb hby d4_5) rfl rfl ?_
    exact kg)
  obtain ⟨T5, h5, X5, e5, W5, st5⟩ := putF X2 hx hZ hown (host := "") (Or.inl (hw _ (List.mem_of_getElem? (i := 38) rfl))) Via.refl e2 F_value E_a (Or.inr ⟨(hw _ (List.mem_of_getElem? (i := 39) rfl)), rfl, hnm⟩) (hw _ (List.mem_of_getElem? (i := 48) rfl)) (ty := (.object "java/lang/Object")) (by decide) rfl rfl (g := (mkF mM 6 #[.val (.ref a), .val (.ref x)] [(.ref x), (.ref a)])) rfl rfl (hb hby d4_6)
  have Fw5 := Fld.same W5 F_value
  have N5 := Fr.snoc X5 N0 g_a
  have pr6 : ∀ tg, Steps pP.tables eE below (T5.setTop (mkF mM 9 #[.val (.ref a), .val (.ref x)] [])) tg → Steps pP.tables eE below (s₁.setTop (entryFrame mM #[(.ref a), (.ref x)] 2)) tg := fun tg kg => pr4 _ (st5 _ kg)
  have c7 := (Keep.wr (Keep.refl h0 [a]) W5 (Or.inl (List.mem_of_getElem? (i := 0) rfl)))
  have c8 := (Exa.wr W5 E_a)
  obtain ⟨fs, hr, hrun, hended, hW, hsame⟩ := X5.leave (v := none) (fun _ => rfl)
  refine ⟨_, _, pr6 _ (X5.returnOut hx Bd.returns (hb hby d4_9) hr), hrun, hended, _, _, rfl, ?_, ⟨_, rfl⟩, hW, hsame.mono (by decide) (by decide)⟩
  show Q4 Z a x h0 n0 _ T5.heap _
  rw [e5]
  exact ⟨rfl, N5, c7, c8, Fw5⟩
theorem pd_0 : parseMethodDescriptor "(Ljava/lang/Object;)Ljava/lang/Object;" = some ⟨[(.object "java/lang/Object")], some (.object "java/lang/Object")⟩ := by decide +kernel
theorem pd_1 : parseMethodDescriptor "(Ljava/lang/Object;)V" = some ⟨[(.object "java/lang/Object")], none⟩ := by decide +kernel
theorem d5_0 : decode jdk_32_method_3_code 0 = .ok (.new 2, 3) := by decide +kernel
theorem d5_3 : decode jdk_32_method_3_code 3 = .ok (.dup, 1) := by decide +kernel
theorem d5_4 : decode jdk_32_method_3_code 4 = .ok (.aload_n 0, 1) := by decide +kernel
theorem d5_5 : decode jdk_32_method_3_code 5 = .ok (.invokestatic 17, 3) := by decide +kernel
theorem d5_8 : decode jdk_32_method_3_code 8 = .ok (.invokespecial 23, 3) := by decide +kernel
theorem d5_11 : decode jdk_32_method_3_code 11 = .ok (.areturn, 1) := by decide +kernel
theorem ef_5 (mM : MethodId) (x0 : Addr) : entryFrame mM #[(.ref x0)] 1 = mkF mM 0 #[.val (.ref x0)] [] := by first | (simp [entryFrame, mkF, argsToLocals, Value.category]; done) | rfl
def Q5 (Z : State) (x : Addr) (h0 : Heap) (n0 : Nat) (v : Option Value) (h : Heap) (L : List Loc) : Prop := ∃ b : Addr, v = some (.ref b) ∧ Fr n0 L ∧ Keep h0 h [] ∧ Exa Z h b "java/util/Optional" ∧ Fld Z h b "java/util/Optional" "value" "Ljava/lang/Object;" (.ref x)
set_option maxRecDepth 65536 in
set_option maxHeartbeats 40000000 in
theorem rm5 (l : Launch) (Z : State) (a0 : Array Value) (hw : ∀ d ∈ tables_1, d.before a0 Z = true) (ws : List Jvm.Cond) (x : Addr) (h0 : Heap) (n0 : Nat) (Z0 : n0 ≤ h0.size) :
    MetFree l (⟨"java/util/Optional", "of", "(Ljava/lang/Object;)Ljava/util/Optional;"⟩ : MethodName) (head1 (Jvm.Cond.code (⟨"java/util/Optional", "of", "(Ljava/lang/Object;)Ljava/util/Optional;"⟩ : MethodName) jdk_32_method_3_code 1 (some (.object "java/util/Optional")) :: ws) ({ frames := 2, cells := 1, slots := 1, locals := 26 } : Room)) (fun aA uU => aA = #[(.ref x)] ∧ Z.Warmed39 uU.vm ∧ uU.heap = h0) (fun _ _ _ _ _ => True) (fun _ uU oO uU' => ∃ vV lL, oO = .returned vV ∧ Q5 Z x h0 n0 vV uU'.heap lL ∧ FrameEnd uU oO uU' lL ({ frames := 2, cells := 1, slots := 1, locals := 26 } : Room).cells ({ frames := 2, cells := 1, slots := 1, locals := 26 } : Room).slots) := by
  refine MetFree.of_bodySF (plainFor_of_name pn_1) hisR ?_
  intro pP eE sS mM args below meth cC s₁ Bd hml0 hP hK
  obtain ⟨rfl, hZ, hh⟩ := hP
  have hx := Bd.exec
  have hby := Bd.bytes
  have hml : cC.maxLocals = 1 := hml0
  have hown : sS.vm.findClass "java/util/Optional" = some mM.cls := findClass_of_methodNamed Bd.named
  have hnm := (name_of_methodNamed Bd.named Bd.method).1
  have X0 : Stand pP l eE ({ frames := 2, cells := 1, slots := 1, locals := 26 } : Room) sS mM #[(.ref x)] below meth cC s₁ [] 0 0 := Stand.of_body Bd
  have e0 : s₁.heap = h0 := by rw [← hh, Bd.state]; rfl
  have N0 := Fr.nil n0
  have pre0 : ∀ tg, Steps pP.tables eE below (s₁.setTop (mkF mM 0 #[.val (.ref x)] [])) tg → Steps pP.tables eE below (s₁.setTop (entryFrame mM #[(.ref x)] 1)) tg := fun tg kg => castTop (ef_5 mM x) kg
  obtain ⟨T1, h1, X1, e1, E1, A1, D1, -, st1⟩ := newO X0 hx hZ hown (hw _ (List.mem_of_getElem? (i := 47) rfl)) (hw _ (List.mem_of_getElem? (i := 48) rfl)) (hw _ (List.mem_of_getElem? (i := 30) rfl)) e0 (g := (mkF mM 0 #[.val (.ref x)] [])) rfl (hb hby d5_0) (by decide) (by decide)
  obtain ⟨b1, g1⟩ : ∃ z, z = (h0).size := ⟨_, rfl⟩
  rw [← g1] at A1 D1 st1
  have gn2 : n0 ≤ b1 := Nat.le_trans Z0 (Nat.le_of_eq g1.symm)
  have gs3 : h0.size ≤ b1 := Nat.le_trans (Keep.refl h0 []).1 (Nat.le_of_eq g1.symm)
  have F1_value : Fld Z h1 b1 "java/util/Optional" "value" "Ljava/lang/Object;" .null := D1 (Or.inr (hw _ (List.mem_of_getElem? (i := 39) rfl))) (ty := (.object "java/lang/Object")) (by decide)
  have pr4 : ∀ tg, Steps pP.tables eE below (T1.setTop (mkF mM 3 #[.val (.ref x)] [(.ref b1)])) tg → Steps pP.tables eE below (s₁.setTop (entryFrame mM #[(.ref x)] 1)) tg := fun tg kg => pre0 _ (st1 _ kg)
  have pr5 : ∀ tg, Steps pP.tables eE below (T1.setTop (mkF mM 5 #[.val (.ref x)] [(.ref x), (.ref b1), (.ref b1)])) tg → Steps pP.tables eE below (s₁.setTop (entryFrame mM #[(.ref x)] 1)) tg := fun tg kg => pr4 _ (by
    show Steps pP.tables eE below (T1.setTop (mkF mM 3 #[.val (.ref x)] [(.ref b1)])) _
    refine XS.dup X1.here hx rfl (hb hby d5_3) rfl rfl ?_
    show Steps pP.tables eE below (T1.setTop (mkF mM 4 #[.val (.ref x)] [(.ref b1), (.ref b1)])) _
    refine XS.aloadN X1.here hx rfl (hb hby d5_4) rfl rfl ?_
    exact kg)
  have c6 := (Nat.le_trans Z0 E1.1)
  obtain ⟨_, _, ⟨T7, L7, kk7, nn7⟩, -, X7, ⟨Lc7, hQ7, l7, y7, z7⟩, st7⟩ := Jvm.LawKit.callS X1 hx (y := (⟨"java/util/Objects", "requireNonNull", "(Ljava/lang/Object;)Ljava/lang/Object;"⟩ : MethodName)) hown (mvT hZ (hw _ (List.mem_of_getElem? (i := 49) rfl))) (mvT hZ (hw _ (List.mem_of_getElem? (i := 50) rfl))) (mvT hZ (hw _ (List.mem_of_getElem? (i := 51) rfl))) (mvT hZ (hw _ (List.mem_of_getElem? (i := 52) rfl))) (by decide) (backOf (W := 2) (rm3 l Z a0 hw [] x h1 n0 c6) hZ (hw _ (List.mem_of_getElem? (i := 52) rfl)) (hw _ (List.mem_of_getElem? (i := 51) rfl)) (by decide) (by decide)) (g := (mkF mM 5 #[.val (.ref x)] [(.ref x), (.ref b1), (.ref b1)])) rfl (by rw [hml]; rfl) (argsL := [(.ref x)]) (rest := [(.ref b1), (.ref b1)]) (lenOf pd_0 rfl) rfl (by show 2 * 0 + _ ≤ _; exact Nat.le_of_eq rfl) (hb hby d5_5) (fun _ _ => ⟨rfl, e1, (by decide : 1 + 0 ≤ _), (by decide : 1 + 0 ≤ _)⟩)
  dsimp only [Pt.U, Pt.locs, Pt.cells, Pt.slots] at X7 l7 y7 z7 st7 hQ7
  subst l7 y7 z7
  obtain ⟨rfl, Nq7, e7⟩ := hQ7
  have N7 := Fr.app N0 Nq7
  have pr8 : ∀ tg, Steps pP.tables eE below (T7.setTop (mkF mM 8 #[.val (.ref x)] [(.ref x), (.ref b1), (.ref b1)])) tg → Steps pP.tables eE below (s₁.setTop (entryFrame mM #[(.ref x)] 1)) tg := fun tg kg => pr5 _ (st7 _ kg)
  obtain ⟨_, _, ⟨T9, L9, kk9, nn9⟩, -, X9, ⟨Lc9, hQ9, l9, y9, z9⟩, st9⟩ := X7.specialBack hx (y := (⟨"java/util/Optional", "<init>", "(Ljava/lang/Object;)V"⟩ : MethodName)) rfl hown (mvT hZ (hw _ (List.mem_of_getElem? (i := 53) rfl))) (mvT hZ (hw _ (List.mem_of_getElem? (i := 54) rfl))) (mvT hZ (hw _ (List.mem_of_getElem? (i := 56) rfl))) (by decide) (backOf (W := 1) (rm4 l Z a0 hw [] b1 x h1 n0 c6 A1 gn2 F1_value ) hZ (hw _ (List.mem_of_getElem? (i := 56) rfl)) (hw _ (List.mem_of_getElem? (i := 30) rfl)) (by decide) (by decide)) (g := (mkF mM 8 #[.val (.ref x)] [(.ref x), (.ref b1), (.ref b1)])) rfl (by rw [hml]; rfl) (Steps.refl _) (a := b1) (argsL := [(.ref x)]) (rest := [(.ref b1)]) (lenOf pd_1 rfl) rfl (by show 2 * 0 + _ ≤ _; exact Nat.le_of_eq rfl) (hb hby d5_8) (fun _ _ => ⟨rfl, e7, (by decide : 1 + 0 ≤ _), (by decide : 1 + 0 ≤ _)⟩)
  dsimp only [Pt.U, Pt.locs, Pt.cells, Pt.slots] at X9 l9 y9 z9 st9 hQ9
  subst l9 y9 z9
  obtain ⟨rfl, Nq9, K9, E9, F9_0⟩ := hQ9
  have N9 := Fr.app N7 Nq9
  have pr10 : ∀ tg, Steps pP.tables eE below (T9.setTop (mkF mM 11 #[.val (.ref x)] [(.ref b1)])) tg → Steps pP.tables eE below (s₁.setTop (entryFrame mM #[(.ref x)] 1)) tg := fun tg kg => pr8 _ (st9.trans kg)
  have c11 := (Keep.trans (Keep.ext (Keep.refl h0 []) E1) K9 (allS (Or.inr gs3) all0))
  obtain ⟨fs, hr, hrun, hended, hW, hsame⟩ := X9.leave (v := some (.ref b1)) (fun h => by rw [Bd.returns] at h; cases h)
  refine ⟨_, _, pr10 _ (retOut X9 hx (t := (.object "java/util/Optional")) Bd.returns rfl (Or.inr (Or.inr (Or.inr (Or.inr ⟨rfl, rfl, rfl⟩)))) (hb hby d5_11) hr), hrun, hended, _, _, rfl, ?_, ⟨_, rfl⟩, hW, hsame.mono (by decide) (by decide)⟩
  show Q5 Z x h0 n0 _ T9.heap _
  exact ⟨_, rfl, N9, c11, E9, F9_0⟩
theorem pd_2 : parseMethodDescriptor "()[Lcom/example/ledgerhall/ledgerhall/AccountClass;" = some ⟨[], some (.array (.object "com/example/ledgerhall/ledgerhall/AccountClass"))⟩ := by decide +kernel
theorem pd_3 : parseMethodDescriptor "(Ljava/lang/Object;)Ljava/util/Optional;" = some ⟨[(.object "java/lang/Object")], some (.object "java/util/Optional")⟩ := by decide +kernel
theorem pd_4 : parseMethodDescriptor "()Ljava/util/Optional;" = some ⟨[], some (.object "java/util/Optional")⟩ := by decide +kernel
theorem d6_0 : decode prog_1_method_5_code 0 = .ok (.invokestatic 58, 3) := by decide +kernel
theorem d6_3 : decode prog_1_method_5_code 3 = .ok (.astore_n 1, 1) := by decide +kernel
theorem d6_4 : decode prog_1_method_5_code 4 = .ok (.aload_n 1, 1) := by decide +kernel
theorem d6_5 : decode prog_1_method_5_code 5 = .ok (.arraylength, 1) := by decide +kernel
theorem d6_6 : decode prog_1_method_5_code 6 = .ok (.istore_n 2, 1) := by decide +kernel
theorem d6_7 : decode prog_1_method_5_code 7 = .ok (.iconst 0, 1) := by decide +kernel
theorem d6_8 : decode prog_1_method_5_code 8 = .ok (.istore_n 3, 1) := by decide +kernel
theorem d6_9 : decode prog_1_method_5_code 9 = .ok (.iload_n 3, 1) := by decide +kernel
theorem d6_10 : decode prog_1_method_5_code 10 = .ok (.iload_n 2, 1) := by decide +kernel
theorem d6_11 : decode prog_1_method_5_code 11 = .ok (.if_icmp .ge 29, 3) := by decide +kernel
theorem d6_14 : decode prog_1_method_5_code 14 = .ok (.aload_n 1, 1) := by decide +kernel
theorem d6_15 : decode prog_1_method_5_code 15 = .ok (.iload_n 3, 1) := by decide +kernel
theorem d6_16 : decode prog_1_method_5_code 16 = .ok (.aaload, 1) := by decide +kernel
theorem d6_17 : decode prog_1_method_5_code 17 = .ok (.astore 4, 2) := by decide +kernel
theorem d6_19 : decode prog_1_method_5_code 19 = .ok (.aload 4, 2) := by decide +kernel
theorem d6_21 : decode prog_1_method_5_code 21 = .ok (.getfield 44, 3) := by decide +kernel
theorem d6_24 : decode prog_1_method_5_code 24 = .ok (.iload_n 0, 1) := by decide +kernel
theorem d6_25 : decode prog_1_method_5_code 25 = .ok (.if_icmp .ne 9, 3) := by decide +kernel
theorem d6_28 : decode prog_1_method_5_code 28 = .ok (.aload 4, 2) := by decide +kernel
theorem d6_30 : decode prog_1_method_5_code 30 = .ok (.invokestatic 62, 3) := by decide +kernel
theorem d6_33 : decode prog_1_method_5_code 33 = .ok (.areturn, 1) := by decide +kernel
theorem d6_34 : decode prog_1_method_5_code 34 = .ok (.iinc 3 1, 3) := by decide +kernel
theorem d6_37 : decode prog_1_method_5_code 37 = .ok (.goto (-28), 3) := by decide +kernel
theorem d6_40 : decode prog_1_method_5_code 40 = .ok (.invokestatic 65, 3) := by decide +kernel
theorem d6_43 : decode prog_1_method_5_code 43 = .ok (.areturn, 1) := by decide +kernel
theorem ef_6 (mM : MethodId) (x0 : Int32) : entryFrame mM #[(.int x0)] 5 = mkF mM 0 #[.val (.int x0), .unset, .unset, .unset, .unset] [] := by first | (simp [entryFrame, mkF, argsToLocals, Value.category]; done) | rfl
def Q6 (Z : State) (dv : Int32) (a_ASSETS : Addr) (a_LIABILITIES : Addr) (a_FUND_BALANCE : Addr) (a_REVENUES : Addr) (a_EXPENDITURES : Addr) (a_OTHER_RESOURCES : Addr) (a_OTHER_USES : Addr) (va : Addr) (kva : ClassId) (em : Addr) (h0 : Heap) (n0 : Nat) (v : Option Value) (h : Heap) (L : List Loc) : Prop := ∃ b : Addr, v = some (.ref b) ∧ Fr n0 L ∧ Keep h0 h [] ∧ Exa Z h b "java/util/Optional" ∧ (((49 : Int32) = dv ∧ Fld Z h b "java/util/Optional" "value" "Ljava/lang/Object;" (.ref a_ASSETS)) ∨ ((50 : Int32) = dv ∧ Fld Z h b "java/util/Optional" "value" "Ljava/lang/Object;" (.ref a_LIABILITIES)) ∨ ((51 : Int32) = dv ∧ Fld Z h b "java/util/Optional" "value" "Ljava/lang/Object;" (.ref a_FUND_BALANCE)) ∨ ((53 : Int32) = dv ∧ Fld Z h b "java/util/Optional" "value" "Ljava/lang/Object;" (.ref a_REVENUES)) ∨ ((54 : Int32) = dv ∧ Fld Z h b "java/util/Optional" "value" "Ljava/lang/Object;" (.ref a_EXPENDITURES)) ∨ ((55 : Int32) = dv ∧ Fld Z h b "java/util/Optional" "value" "Ljava/lang/Object;" (.ref a_OTHER_RESOURCES)) ∨ ((56 : Int32) = dv ∧ Fld Z h b "java/util/Optional" "value" "Ljava/lang/Object;" (.ref a_OTHER_USES)) ∨ ((¬ (49 : Int32) = dv ∧ ¬ (50 : Int32) = dv ∧ ¬ (51 : Int32) = dv ∧ ¬ (53 : Int32) = dv ∧ ¬ (54 : Int32) = dv ∧ ¬ (55 : Int32) = dv ∧ ¬ (56 : Int32) = dv) ∧ Fld Z h b "java/util/Optional" "value" "Ljava/lang/Object;" .null))
set_option maxRecDepth 65536 in
set_option maxHeartbeats 40000000 in
theorem rm6 (l : Launch) (Z : State) (a0 : Array Value) (hw : ∀ d ∈ tables_1, d.before a0 Z = true) (ws : List Jvm.Cond) (dv : Int32) (a_ASSETS : Addr) (a_LIABILITIES : Addr) (a_FUND_BALANCE : Addr) (a_REVENUES : Addr) (a_EXPENDITURES : Addr) (a_OTHER_RESOURCES : Addr) (a_OTHER_USES : Addr) (va : Addr) (kva : ClassId) (em : Addr) (h0 : Heap) (n0 : Nat) (Z0 : n0 ≤ h0.size) (O : Old Z n0 h0) (S_ASSETS : Sta Z Z.heap "com/example/ledgerhall/ledgerhall/AccountClass" "ASSETS" "Lcom/example/ledgerhall/ledgerhall/AccountClass;" (.ref a_ASSETS)) (E_ASSETS : Exa Z Z.heap a_ASSETS "com/example/ledgerhall/ledgerhall/AccountClass") (S_LIABILITIES : Sta Z Z.heap "com/example/ledgerhall/ledgerhall/AccountClass" "LIABILITIES" "Lcom/example/ledgerhall/ledgerhall/AccountClass;" (.ref a_LIABILITIES)) (E_LIABILITIES : Exa Z Z.heap a_LIABILITIES "com/example/ledgerhall/ledgerhall/AccountClass") (S_FUND_BALANCE : Sta Z Z.heap "com/example/ledgerhall/ledgerhall/AccountClass" "FUND_BALANCE" "Lcom/example/ledgerhall/ledgerhall/AccountClass;" (.ref a_FUND_BALANCE)) (E_FUND_BALANCE : Exa Z Z.heap a_FUND_BALANCE "com/example/ledgerhall/ledgerhall/AccountClass") (S_REVENUES : Sta Z Z.heap "com/example/ledgerhall/ledgerhall/AccountClass" "REVENUES" "Lcom/example/ledgerhall/ledgerhall/AccountClass;" (.ref a_REVENUES)) (E_REVENUES : Exa Z Z.heap a_REVENUES "com/example/ledgerhall/ledgerhall/AccountClass") (S_EXPENDITURES : Sta Z Z.heap "com/example/ledgerhall/ledgerhall/AccountClass" "EXPENDITURES" "Lcom/example/ledgerhall/ledgerhall/AccountClass;" (.ref a_EXPENDITURES)) (E_EXPENDITURES : Exa Z Z.heap a_EXPENDITURES "com/example/ledgerhall/ledgerhall/AccountClass") (S_OTHER_RESOURCES : Sta Z Z.heap "com/example/ledgerhall/ledgerhall/AccountClass" "OTHER_RESOURCES" "Lcom/example/ledgerhall/ledgerhall/AccountClass;" (.ref a_OTHER_RESOURCES)) (E_OTHER_RESOURCES : Exa Z Z.heap a_OTHER_RESOURCES "com/example/ledgerhall/ledgerhall/AccountClass") (S_OTHER_USES : Sta Z Z.heap "com/example/ledgerhall/ledgerhall/AccountClass" "OTHER_USES" "Lcom/example/ledgerhall/ledgerhall/AccountClass;" (.ref a_OTHER_USES)) (E_OTHER_USES : Exa Z Z.heap a_OTHER_USES "com/example/ledgerhall/ledgerhall/AccountClass") (F_ASSETS_digit : Fld Z Z.heap a_ASSETS "com/example/ledgerhall/ledgerhall/AccountClass" "digit" "C" (.int (49 : Int32))) (F_LIABILITIES_digit : Fld Z Z.heap a_LIABILITIES "com/example/ledgerhall/ledgerhall/AccountClass" "digit" "C" (.int (50 : Int32))) (F_FUND_BALANCE_digit : Fld Z Z.heap a_FUND_BALANCE "com/example/ledgerhall/ledgerhall/AccountClass" "digit" "C" (.int (51 : Int32))) (F_REVENUES_digit : Fld Z Z.heap a_REVENUES "com/example/ledgerhall/ledgerhall/AccountClass" "digit" "C" (.int (53 : Int32))) (F_EXPENDITURES_digit : Fld Z Z.heap a_EXPENDITURES "com/example/ledgerhall/ledgerhall/AccountClass" "digit" "C" (.int (54 : Int32))) (F_OTHER_RESOURCES_digit : Fld Z Z.heap a_OTHER_RESOURCES "com/example/ledgerhall/ledgerhall/AccountClass" "digit" "C" (.int (55 : Int32))) (F_OTHER_USES_digit : Fld Z Z.heap a_OTHER_USES "com/example/ledgerhall/ledgerhall/AccountClass" "digit" "C" (.int (56 : Int32))) (S_VALUES : Sta Z Z.heap "com/example/ledgerhall/ledgerhall/AccountClass" "$VALUES" "[Lcom/example/ledgerhall/ledgerhall/AccountClass;" (.ref va)) (E_VALUES : Exa Z Z.heap va "[Lcom/example/ledgerhall/ledgerhall/AccountClass;") (V_VALUES : Arv Z Z.heap va kva (.object "com/example/ledgerhall/ledgerhall/AccountClass") (7 : Int32) [(.ref a_ASSETS), (.ref a_LIABILITIES), (.ref a_FUND_BALANCE), (.ref a_REVENUES), (.ref a_EXPENDITURES), (.ref a_OTHER_RESOURCES), (.ref a_OTHER_USES)] .null) (S_EMPTY : Sta Z Z.heap "java/util/Optional" "EMPTY" "Ljava/util/Optional;" (.ref em)) (E_EMPTY : Exa Z Z.heap em "java/util/Optional") (F_EMPTY : Fld Z Z.heap em "java/util/Optional" "value" "Ljava/lang/Object;" .null) :
    MetFree l (⟨"com/example/ledgerhall/ledgerhall/AccountClass", "ofDigit", "(C)Ljava/util/Optional;"⟩ : MethodName) (head1 (Jvm.Cond.code (⟨"com/example/ledgerhall/ledgerhall/AccountClass", "ofDigit", "(C)Ljava/util/Optional;"⟩ : MethodName) prog_1_method_5_code 5 (some (.object "java/util/Optional")) :: ws) ({ frames := 3, cells := 2, slots := 8, locals := 38 } : Room)) (fun aA uU => aA = #[(.int dv)] ∧ Z.Warmed39 uU.vm ∧ uU.heap = h0) (fun _ _ _ _ _ => True) (fun _ uU oO uU' => ∃ vV lL, oO = .returned vV ∧ Q6 Z dv a_ASSETS a_LIABILITIES a_FUND_BALANCE a_REVENUES a_EXPENDITURES a_OTHER_RESOURCES a_OTHER_USES va kva em h0 n0 vV uU'.heap lL ∧ FrameEnd uU oO uU' lL ({ frames := 3, cells := 2, slots := 8, locals := 38 } : Room).cells ({ frames := 3, cells := 2, slots := 8, locals := 38 } : Room).slots) := by
  refine MetFree.of_bodySF (plainFor_of_name pn_0) hisR ?_
  intro pP eE sS mM args below meth cC s₁ Bd hml0 hP hK
  obtain ⟨rfl, hZ, hh⟩ := hP
  have hx := Bd.exec
  have hby := Bd.bytes
  have hml : cC.maxLocals = 5 := hml0
  have hown : sS.vm.findClass "com/example/ledgerhall/ledgerhall/AccountClass" = some mM.cls := findClass_of_methodNamed Bd.named
  have hnm := (name_of_methodNamed Bd.named Bd.method).1
  have X0 : Stand pP l eE ({ frames := 3, cells := 2, slots := 8, locals := 38 } : Room) sS mM #[(.int dv)] below meth cC s₁ [] 0 0 := Stand.of_body Bd
  have e0 : s₁.heap = h0 := by rw [← hh, Bd.state]; rfl
  have N0 := Fr.nil n0
  have pre0 : ∀ tg, Steps pP.tables eE below (s₁.setTop (mkF mM 0 #[.val (.int dv), .unset, .unset, .unset, .unset] [])) tg → Steps pP.tables eE below (s₁.setTop (entryFrame mM #[(.int dv)] 5)) tg := fun tg kg => castTop (ef_6 mM dv) kg
  obtain ⟨_, _, ⟨T1, L1, kk1, nn1⟩, -, X1, ⟨Lc1, hQ1, l1, y1, z1⟩, st1⟩ := Jvm.LawKit.callS X0 hx (y := (⟨"com/example/ledgerhall/ledgerhall/AccountClass", "values", "()[Lcom/example/ledgerhall/ledgerhall/AccountClass;"⟩ : MethodName)) hown (mvT hZ (hw _ (List.mem_of_getElem? (i := 4) rfl))) (mvT hZ (hw _ (List.mem_of_getElem? (i := 5) rfl))) (mvT hZ (hw _ (List.mem_of_getElem? (i := 2) rfl))) (mvT hZ (hw _ (List.mem_of_getElem? (i := 6) rfl))) (by decide) (backOf (W := 0) (rm1 l Z a0 hw [] a_ASSETS a_LIABILITIES a_FUND_BALANCE a_REVENUES a_EXPENDITURES a_OTHER_RESOURCES a_OTHER_USES va kva em h0 n0 Z0 O S_ASSETS E_ASSETS S_LIABILITIES E_LIABILITIES S_FUND_BALANCE E_FUND_BALANCE S_REVENUES E_REVENUES S_EXPENDITURES E_EXPENDITURES S_OTHER_RESOURCES E_OTHER_RESOURCES S_OTHER_USES E_OTHER_USES F_ASSETS_digit F_LIABILITIES_digit F_FUND_BALANCE_digit F_REVENUES_digit F_EXPENDITURES_digit F_OTHER_RESOURCES_digit F_OTHER_USES_digit S_VALUES E_VALUES V_VALUES S_EMPTY E_EMPTY F_EMPTY) hZ (hw _ (List.mem_of_getElem? (i := 6) rfl)) (hw _ (List.mem_of_getElem? (i := 2) rfl)) (by decide) (by decide)) (g := (mkF mM 0 #[.val (.int dv), .unset, .unset, .unset, .unset] [])) rfl (by rw [hml]; rfl) (argsL := []) (rest := []) (lenOf pd_2 rfl) rfl (by show 2 * 0 + _ ≤ _; exact Nat.le_of_eq rfl) (hb hby d6_0) (fun _ _ => ⟨rfl, e0, (by decide : 0 + 1 ≤ _), (by decide : 0 + 7 ≤ _)⟩)
  dsimp only [Pt.U, Pt.locs, Pt.cells, Pt.slots] at X1 l1 y1 z1 st1 hQ1
  subst l1 y1 z1
  obtain ⟨bv1, rfl, ge1, Nq1, K1, V1⟩ := hQ1
  have N1 := Fr.app N0 Nq1
  have gn2 : n0 ≤ bv1 := Nat.le_trans Z0 ge1
  have gs3 : h0.size ≤ bv1 := Nat.le_trans (Keep.refl h0 []).1 ge1
  have pr4 : ∀ tg, Steps pP.tables eE below (T1.setTop (mkF mM 3 #[.val (.int dv), .unset, .unset, .unset, .unset] [(.ref bv1)])) tg → Steps pP.tables eE below (s₁.setTop (entryFrame mM #[(.int dv)] 5)) tg := fun tg kg => pre0 _ (st1 _ kg)
  obtain ⟨cla5, Ara5, qa5, Sa5, Ma5, Ha5, Ga5⟩ := id V1
  have hin6 : ¬ ((0 : Int32) < 0 ∨ cla5.slots.size ≤ ((0 : Int32)).toNatClampNeg) := inb_of Sa5 ⟨by decide, by decide⟩
  have hat6 : cla5.slots[((0 : Int32)).toNatClampNeg]? = some (.ref a_ASSETS) := Has.at Ha5 hin6 rfl
  have c7 := (Old.keep O K1 all0)
  have pr8 : ∀ tg, Steps pP.tables eE below (T1.setTop (mkF mM 21 #[.val (.int dv), .val (.ref bv1), .val (.int (7 : Int32)), .val (.int (0 : Int32)), .val (.ref a_ASSETS)] [(.ref a_ASSETS)])) tg → Steps pP.tables eE below (s₁.setTop (entryFrame mM #[(.int dv)] 5)) tg := fun tg kg => pr4 _ (by
    show Steps pP.tables eE below (T1.setTop (mkF mM 3 #[.val (.int dv), .unset, .unset, .unset, .unset] [(.ref bv1)])) _
    refine XS.astoreN X1.here hx rfl (hb hby d6_3) rfl rfl (l' := #[.val (.int dv), .val (.ref bv1), .unset, .unset, .unset]) rfl ?_
    show Steps pP.tables eE below (T1.setTop (mkF mM 4 #[.val (.int dv), .val (.ref bv1), .unset, .unset, .unset] [])) _
    refine XS.aloadN X1.here hx rfl (hb hby d6_4) rfl rfl ?_
    show Steps pP.tables eE below (T1.setTop (mkF mM 5 #[.val (.int dv), .val (.ref bv1), .unset, .unset, .unset] [(.ref bv1)])) _
    refine X1.arraylength hx Ara5.1 (State.isArrayOf_alike hZ.alike Ara5.2.1) (g := (mkF mM 5 #[.val (.int dv), .val (.ref bv1), .unset, .unset, .unset] [(.ref bv1)])) rfl rfl (hb hby d6_5) _ ?_
    rw [len_of Sa5 Ma5]
    show Steps pP.tables eE below (T1.setTop (mkF mM 6 #[.val (.int dv), .val (.ref bv1), .unset, .unset, .unset] [(.int (7 : Int32))])) _
    refine XS.istoreN X1.here hx rfl (hb hby d6_6) rfl (l' := #[.val (.int dv), .val (.ref bv1), .val (.int (7 : Int32)), .unset, .unset]) rfl ?_
    show Steps pP.tables eE below (T1.setTop (mkF mM 7 #[.val (.int dv), .val (.ref bv1), .val (.int (7 : Int32)), .unset, .unset] [])) _
    refine XS.iconst X1.here hx rfl (hb hby d6_7) ?_
    show Steps pP.tables eE below (T1.setTop (mkF mM 8 #[.val (.int dv), .val (.ref bv1), .val (.int (7 : Int32)), .unset, .unset] [(.int (0 : Int32))])) _
    refine XS.istoreN X1.here hx rfl (hb hby d6_8) rfl (l' := #[.val (.int dv), .val (.ref bv1), .val (.int (7 : Int32)), .val (.int (0 : Int32)), .unset]) rfl ?_
    show Steps pP.tables eE below (T1.setTop (mkF mM 9 #[.val (.int dv), .val (.ref bv1), .val (.int (7 : Int32)), .val (.int (0 : Int32)), .unset] [])) _
    refine XS.iloadN X1.here hx rfl (hb hby d6_9) rfl ?_
    show Steps pP.tables eE below (T1.setTop (mkF mM 10 #[.val (.int dv), .val (.ref bv1), .val (.int (7 : Int32)), .val (.int (0 : Int32)), .unset] [(.int (0 : Int32))])) _
    refine XS.iloadN X1.here hx rfl (hb hby d6_10) rfl ?_
    show Steps pP.tables eE below (T1.setTop (mkF mM 11 #[.val (.int dv), .val (.ref bv1), .val (.int (7 : Int32)), .val (.int (0 : Int32)), .unset] [(.int (7 : Int32)), (.int (0 : Int32))])) _
    refine XS.icmpNo X1.here hx rfl (hb hby d6_11) rfl (tlt (by decide)).2.1 ?_
    show Steps pP.tables eE below (T1.setTop (mkF mM 14 #[.val (.int dv), .val (.ref bv1), .val (.int (7 : Int32)), .val (.int (0 : Int32)), .unset] [])) _
    refine XS.aloadN X1.here hx rfl (hb hby d6_14) rfl rfl ?_
    show Steps pP.tables eE below (T1.setTop (mkF mM 15 #[.val (.int dv), .val (.ref bv1), .val (.int (7 : Int32)), .val (.int (0 : Int32)), .unset] [(.ref bv1)])) _
    refine XS.iloadN X1.here hx rfl (hb hby d6_15) rfl ?_
    show Steps pP.tables eE below (T1.setTop (mkF mM 16 #[.val (.int dv), .val (.ref bv1), .val (.int (7 : Int32)), .val (.int (0 : Int32)), .unset] [(.int (0 : Int32)), (.ref bv1)])) _
    refine X1.aaload hx (j := (0 : Int32)) (v := (.ref a_ASSETS)) Ara5.1 (State.isArrayOf_alike hZ.alike Ara5.2.1) rfl Ara5.2.2 hin6 hat6 (g := (mkF mM 16 #[.val (.int dv), .val (.ref bv1), .val (.int (7 : Int32)), .val (.int (0 : Int32)), .unset] [(.int (0 : Int32)), (.ref bv1)])) rfl rfl (hb hby d6_16) _ ?_
    show Steps pP.tables eE below (T1.setTop (mkF mM 17 #[.val (.int dv), .val (.ref bv1), .val (.int (7 : Int32)), .val (.int (0 : Int32)), .unset] [(.ref a_ASSETS)])) _
    refine XS.astore X1.here hx rfl (hb hby d6_17) rfl rfl (l' := #[.val (.int dv), .val (.ref bv1), .val (.int (7 : Int32)), .val (.int (0 : Int32)), .val (.ref a_ASSETS)]) rfl ?_
    show Steps pP.tables eE below (T1.setTop (mkF mM 19 #[.val (.int dv), .val (.ref bv1), .val (.int (7 : Int32)), .val (.int (0 : Int32)), .val (.ref a_ASSETS)] [])) _
    refine XS.aload X1.here hx rfl (hb hby d6_19) rfl rfl ?_
    exact kg)
  obtain ⟨T9, X9, e9, st9⟩ := getF X1 hx hZ hown (host := "") (Or.inl (hw _ (List.mem_of_getElem? (i := 26) rfl))) Via.refl rfl (Fld.ext (c7).2 F_ASSETS_digit) (g := (mkF mM 21 #[.val (.int dv), .val (.ref bv1), .val (.int (7 : Int32)), .val (.int (0 : Int32)), .val (.ref a_ASSETS)] [(.ref a_ASSETS)])) rfl rfl (hb hby d6_21)
  have pr10 : ∀ tg, Steps pP.tables eE below (T9.setTop (mkF mM 24 #[.val (.int dv), .val (.ref bv1), .val (.int (7 : Int32)), .val (.int (0 : Int32)), .val (.ref a_ASSETS)] [(.int (49 : Int32))])) tg → Steps pP.tables eE below (s₁.setTop (entryFrame mM #[(.int dv)] 5)) tg := fun tg kg => pr8 _ (st9 _ kg)
  have pr12 : ∀ tg, Steps pP.tables eE below (T9.setTop (mkF mM 25 #[.val (.int dv), .val (.ref bv1), .val (.int (7 : Int32)), .val (.int (0 : Int32)), .val (.ref a_ASSETS)] [(.int dv), (.int (49 : Int32))])) tg → Steps pP.tables eE below (s₁.setTop (entryFrame mM #[(.int dv)] 5)) tg := fun tg kg => pr10 _ (by
    show Steps pP.tables eE below (T9.setTop (mkF mM 24 #[.val (.int dv), .val (.ref bv1), .val (.int (7 : Int32)), .val (.int (0 : Int32)), .val (.ref a_ASSETS)] [(.int (49 : Int32))])) _
    refine XS.iloadN X9.here hx rfl (hb hby d6_24) rfl ?_
    exact kg)
  by_cases hc25_11 : (49 : Int32) = dv
  ·
    have pr13 : ∀ tg, Steps pP.tables eE below (T9.setTop (mkF mM 30 #[.val (.int dv), .val (.ref bv1), .val (.int (7 : Int32)), .val (.int (0 : Int32)), .val (.ref a_ASSETS)] [(.ref a_ASSETS)])) tg → Steps pP.tables eE below (s₁.setTop (entryFrame mM #[(.int dv)] 5)) tg := fun tg kg => pr12 _ (by
      show Steps pP.tables eE below (T9.setTop (mkF mM 25 #[.val (.int dv), .val (.ref bv1), .val (.int (7 : Int32)), .val (.int (0 : Int32)), .val (.ref a_ASSETS)] [(.int dv), (.int (49 : Int32))])) _
      refine XS.icmpNo X9.here hx rfl (hb hby d6_25) rfl (teq hc25_11).2 ?_
      show Steps pP.tables eE below (T9.setTop (mkF mM 28 #[.val (.int dv), .val (.ref bv1), .val (.int (7 : Int32)), .val (.int (0 : Int32)), .val (.ref a_ASSETS)] [])) _
      refine XS.aload X9.here hx rfl (hb hby d6_28) rfl rfl ?_
      exact kg)
    have c14 := (Nat.le_trans Z0 K1.1)
    obtain ⟨_, _, ⟨T15, L15, kk15, nn15⟩, -, X15, ⟨Lc15, hQ15, l15, y15, z15⟩, st15⟩ := Jvm.LawKit.callS X9 hx (y := (⟨"java/util/Optional", "of", "(Ljava/lang/Object;)Ljava/util/Optional;"⟩ : MethodName)) hown (mvT hZ (hw _ (List.mem_of_getElem? (i := 44) rfl))) (mvT hZ (hw _ (List.mem_of_getElem? (i := 45) rfl))) (mvT hZ (hw _ (List.mem_of_getElem? (i := 30) rfl))) (mvT hZ (hw _ (List.mem_of_getElem? (i := 46) rfl))) (by decide) (backOf (W := 0) (rm5 l Z a0 hw [] a_ASSETS T1.heap n0 c14) hZ (hw _ (List.mem_of_getElem? (i := 46) rfl)) (hw _ (List.mem_of_getElem? (i := 30) rfl)) (by decide) (by decide)) (g := (mkF mM 30 #[.val (.int dv), .val (.ref bv1), .val (.int (7 : Int32)), .val (.int (0 : Int32)), .val (.ref a_ASSETS)] [(.ref a_ASSETS)])) rfl (by rw [hml]; rfl) (argsL := [(.ref a_ASSETS)]) (rest := []) (lenOf pd_3 rfl) rfl (by show 2 * 0 + _ ≤ _; exact Nat.le_of_eq rfl) (hb hby d6_30) (fun _ _ => ⟨rfl, e9, (by decide : 1 + 1 ≤ _), (by decide : 7 + 1 ≤ _)⟩)
    dsimp only [Pt.U, Pt.locs, Pt.cells, Pt.slots] at X15 l15 y15 z15 st15 hQ15
    subst l15 y15 z15
    obtain ⟨bo15, rfl, Nq15, K15, E15, F15⟩ := hQ15
    have N15 := Fr.app N1 Nq15
    have pr16 : ∀ tg, Steps pP.tables eE below (T15.setTop (mkF mM 33 #[.val (.int dv), .val (.ref bv1), .val (.int (7 : Int32)), .val (.int (0 : Int32)), .val (.ref a_ASSETS)] [(.ref bo15)])) tg → Steps pP.tables eE below (s₁.setTop (entryFrame mM #[(.int dv)] 5)) tg := fun tg kg => pr13 _ (st15 _ kg)
    have c17 := (Keep.trans (Keep.trans (Keep.refl h0 []) K1 all0) K15 all0)
    obtain ⟨fs, hr, hrun, hended, hW, hsame⟩ := X15.leave (v := some (.ref bo15)) (fun h => by rw [Bd.returns] at h; cases h)
    refine ⟨_, _, pr16 _ (retOut X15 hx (t := (.object "java/util/Optional")) Bd.returns rfl (Or.inr (Or.inr (Or.inr (Or.inr ⟨rfl, rfl, rfl⟩)))) (hb hby d6_33) hr), hrun, hended, _, _, rfl, ?_, ⟨_, rfl⟩, hW, hsame.mono (by decide) (by decide)⟩
    show Q6 Z dv a_ASSETS a_LIABILITIES a_FUND_BALANCE a_REVENUES a_EXPENDITURES a_OTHER_RESOURCES a_OTHER_USES va kva em h0 n0 _ T15.heap _
    exact ⟨_, rfl, N15, c17, E15, Or.inl ⟨hc25_11, F15⟩⟩
  ·
    have hin18 : ¬ ((1 : Int32) < 0 ∨ cla5.slots.size ≤ ((1 : Int32)).toNatClampNeg) := inb_of Sa5 ⟨by decide, by decide⟩
    have hat18 : cla5.slots[((1 : Int32)).toNatClampNeg]? = some (.ref a_LIABILITIES) := Has.at Ha5 hin18 rfl
    have pr19 : ∀ tg, Steps pP.tables eE below (T9.setTop (mkF mM 21 #[.val (.int dv), .val (.ref bv1), .val (.int (7 : Int32)), .val (.int (1 : Int32)), .val (.ref a_LIABILITIES)] [(.ref a_LIABILITIES)])) tg → Steps pP.tables eE below (s₁.setTop (entryFrame mM #[(.int dv)] 5)) tg := fun tg kg => pr12 _ (by
      show Steps pP.tables eE below (T9.setTop (mkF mM 25 #[.val (.int dv), .val (.ref bv1), .val (.int (7 : Int32)), .val (.int (0 : Int32)), .val (.ref a_ASSETS)] [(.int dv), (.int (49 : Int32))])) _
      refine XS.icmpYes X9.here hx rfl (pc0 := 25) (pc' := 34) rfl (hb hby d6_25) rfl (feq hc25_11).2 (by decide) (by decide) ?_
      show Steps pP.tables eE below (T9.setTop (mkF mM 34 #[.val (.int dv), .val (.ref bv1), .val (.int (7 : Int32)), .val (.int (0 : Int32)), .val (.ref a_ASSETS)] [])) _
      refine XS.iinc X9.here hx rfl (hb hby d6_34) rfl (l' := #[.val (.int dv), .val (.ref bv1), .val (.int (7 : Int32)), .val (.int (1 : Int32)), .val (.ref a_ASSETS)]) rfl ?_
      show Steps pP.tables eE below (T9.setTop (mkF mM 37 #[.val (.int dv), .val (.ref bv1), .val (.int (7 : Int32)), .val (.int (1 : Int32)), .val (.ref a_ASSETS)] [])) _
      refine XS.goto X9.here hx rfl (pc0 := 37) (pc' := 9) rfl (hb hby d6_37) (by decide) (by decide) ?_
      show Steps pP.tables eE below (T9.setTop (mkF mM 9 #[.val (.int dv), .val (.ref bv1), .val (.int (7 : Int32)), .val (.int (1 : Int32)), .val (.ref a_ASSETS)] [])) _
      refine XS.iloadN X9.here hx rfl (hb hby d6_9) rfl ?_
      show Steps pP.tables eE below (T9.setTop (mkF mM 10 #[.val (.int dv), .val (.ref bv1), .val (.int (7 : Int32)), .val (.int (1 : Int32)), .val (.ref a_ASSETS)] [(.int (1 : Int32))])) _
      refine XS.iloadN X9.here hx rfl (hb hby d6_10) rfl ?_
      show Steps pP.tables eE below (T9.setTop (mkF mM 11 #[.val (.int dv), .val (.ref bv1), .val (.int (7 : Int32)), .val (.int (1 : Int32)), .val (.ref a_ASSETS)] [(.int (7 : Int32)), (.int (1 : Int32))])) _
      refine XS.icmpNo X9.here hx rfl (hb hby d6_11) rfl (tlt (by decide)).2.1 ?_
      show Steps pP.tables eE below (T9.setTop (mkF mM 14 #[.val (.int dv), .val (.ref bv1), .val (.int (7 : Int32)), .val (.int (1 : Int32)), .val (.ref a_ASSETS)] [])) _
      refine XS.aloadN X9.here hx rfl (hb hby d6_14) rfl rfl ?_
      show Steps pP.tables eE below (T9.setTop (mkF mM 15 #[.val (.int dv), .val (.ref bv1), .val (.int (7 : Int32)), .val (.int (1 : Int32)), .val (.ref a_ASSETS)] [(.ref bv1)])) _
      refine XS.iloadN X9.here hx rfl (hb hby d6_15) rfl ?_
      show Steps pP.tables eE below (T9.setTop (mkF mM 16 #[.val (.int dv), .val (.ref bv1), .val (.int (7 : Int32)), .val (.int (1 : Int32)), .val (.ref a_ASSETS)] [(.int (1 : Int32)), (.ref bv1)])) _
      refine X9.aaload hx (j := (1 : Int32)) (v := (.ref a_LIABILITIES)) (by rw [e9]; exact Ara5.1) (State.isArrayOf_alike hZ.alike Ara5.2.1) rfl Ara5.2.2 hin18 hat18 (g := (mkF mM 16 #[.val (.int dv), .val (.ref bv1), .val (.int (7 : Int32)), .val (.int (1 : Int32)), .val (.ref a_ASSETS)] [(.int (1 : Int32)), (.ref bv1)])) rfl rfl (hb hby d6_16) _ ?_
      show Steps pP.tables eE below (T9.setTop (mkF mM 17 #[.val (.int dv), .val (.ref bv1), .val (.int (7 : Int32)), .val (.int (1 : Int32)), .val (.ref a_ASSETS)] [(.ref a_LIABILITIES)])) _
      refine XS.astore X9.here hx rfl (hb hby d6_17) rfl rfl (l' := #[.val (.int dv), .val (.ref bv1), .val (.int (7 : Int32)), .val (.int (1 : Int32)), .val (.ref a_LIABILITIES)]) rfl ?_
      show Steps pP.tables eE below (T9.setTop (mkF mM 19 #[.val (.int dv), .val (.ref bv1), .val (.int (7 : Int32)), .val (.int (1 : Int32)), .val (.ref a_LIABILITIES)] [])) _
      refine XS.aload X9.here hx rfl (hb hby d6_19) rfl rfl ?_
      exact kg)
    obtain ⟨T20, X20, e20, st20⟩ := getF X9 hx hZ hown (host := "") (Or.inl (hw _ (List.mem_of_getElem? (i := 26) rfl))) Via.refl e9 (Fld.ext (c7).2 F_LIABILITIES_digit) (g := (mkF mM 21 #[.val (.int dv), .val (.ref bv1), .val (.int (7 : Int32)), .val (.int (1 : Int32)), .val (.ref a_LIABILITIES)] [(.ref a_LIABILITIES)])) rfl rfl (hb hby d6_21)
    have pr21 : ∀ tg, Steps pP.tables eE below (T20.setTop (mkF mM 24 #[.val (.int dv), .val (.ref bv1), .val (.int (7 : Int32)), .val (.int (1 : Int32)), .val (.ref a_LIABILITIES)] [(.int (50 : Int32))])) tg → Steps pP.tables eE below (s₁.setTop (entryFrame mM #[(.int dv)] 5)) tg := fun tg kg => pr19 _ (st20 _ kg)
    have pr23 : ∀ tg, Steps pP.tables eE below (T20.setTop (mkF mM 25 #[.val (.int dv), .val (.ref bv1), .val (.int (7 : Int32)), .val (.int (1 : Int32)), .val (.ref a_LIABILITIES)] [(.int dv), (.int (50 : Int32))])) tg → Steps pP.tables eE below (s₁.setTop (entryFrame mM #[(.int dv)] 5)) tg := fun tg kg => pr21 _ (by
      show Steps pP.tables eE below (T20.setTop (mkF mM 24 #[.val (.int dv), .val (.ref bv1), .val (.int (7 : Int32)), .val (.int (1 : Int32)), .val (.ref a_LIABILITIES)] [(.int (50 : Int32))])) _
      refine XS.iloadN X20.here hx rfl (hb hby d6_24) rfl ?_
      exact kg)
    by_cases hc25_22 : (50 : Int32) = dv
    ·
      have pr24 : ∀ tg, Steps pP.tables eE below (T20.setTop (mkF mM 30 #[.val (.int dv), .val (.ref bv1), .val (.int (7 : Int32)), .val (.int (1 : Int32)), .val (.ref a_LIABILITIES)] [(.ref a_LIABILITIES)])) tg → Steps pP.tables eE below (s₁.setTop (entryFrame mM #[(.int dv)] 5)) tg := fun tg kg => pr23 _ (by
        show Steps pP.tables eE below (T20.setTop (mkF mM 25 #[.val (.int dv), .val (.ref bv1), .val (.int (7 : Int32)), .val (.int (1 : Int32)), .val (.ref a_LIABILITIES)] [(.int dv), (.int (50 : Int32))])) _
        refine XS.icmpNo X20.here hx rfl (hb hby d6_25) rfl (teq hc25_22).2 ?_
        show Steps pP.tables eE below (T20.setTop (mkF mM 28 #[.val (.int dv), .val (.ref bv1), .val (.int (7 : Int32)), .val (.int (1 : Int32)), .val (.ref a_LIABILITIES)] [])) _
        refine XS.aload X20.here hx rfl (hb hby d6_28) rfl rfl ?_
        exact kg)
      have c25 := (Nat.le_trans Z0 K1.1)
      obtain ⟨_, _, ⟨T26, L26, kk26, nn26⟩, -, X26, ⟨Lc26, hQ26, l26, y26, z26⟩, st26⟩ := Jvm.LawKit.callS X20 hx (y := (⟨"java/util/Optional", "of", "(Ljava/lang/Object;)Ljava/util/Optional;"⟩ : MethodName)) hown (mvT hZ (hw _ (List.mem_of_getElem? (i := 44) rfl))) (mvT hZ (hw _ (List.mem_of_getElem? (i := 45) rfl))) (mvT hZ (hw _ (List.mem_of_getElem? (i := 30) rfl))) (mvT hZ (hw _ (List.mem_of_getElem? (i := 46) rfl))) (by decide) (backOf (W := 0) (rm5 l Z a0 hw [] a_LIABILITIES T1.heap n0 c25) hZ (hw _ (List.mem_of_getElem? (i := 46) rfl)) (hw _ (List.mem_of_getElem? (i := 30) rfl)) (by decide) (by decide)) (g := (mkF mM 30 #[.val (.int dv), .val (.ref bv1), .val (.int (7 : Int32)), .val (.int (1 : Int32)), .val (.ref a_LIABILITIES)] [(.ref a_LIABILITIES)])) rfl (by rw [hml]; rfl) (argsL := [(.ref a_LIABILITIES)]) (rest := []) (lenOf pd_3 rfl) rfl (by show 2 * 0 + _ ≤ _; exact Nat.le_of_eq rfl) (hb hby d6_30) (fun _ _ => ⟨rfl, e20, (by decide : 1 + 1 ≤ _), (by decide : 7 + 1 ≤ _)⟩)
      dsimp only [Pt.U, Pt.locs, Pt.cells, Pt.slots] at X26 l26 y26 z26 st26 hQ26
      subst l26 y26 z26
      obtain ⟨bo26, rfl, Nq26, K26, E26, F26⟩ := hQ26
      have N26 := Fr.app N1 Nq26
      have pr27 : ∀ tg, Steps pP.tables eE below (T26.setTop (mkF mM 33 #[.val (.int dv), .val (.ref bv1), .val (.int (7 : Int32)), .val (.int (1 : Int32)), .val (.ref a_LIABILITIES)] [(.ref bo26)])) tg → Steps pP.tables eE below (s₁.setTop (entryFrame mM #[(.int dv)] 5)) tg := fun tg kg => pr24 _ (st26 _ kg)
      have c28 := (Keep.trans (Keep.trans (Keep.refl h0 []) K1 all0) K26 all0)
      obtain ⟨fs, hr, hrun, hended, hW, hsame⟩ := X26.leave (v := some (.ref bo26)) (fun h => by rw [Bd.returns] at h; cases h)
      refine ⟨_, _, pr27 _ (retOut X26 hx (t := (.object "java/util/Optional")) Bd.returns rfl (Or.inr (Or.inr (Or.inr (Or.inr ⟨rfl, rfl, rfl⟩)))) (hb hby d6_33) hr), hrun, hended, _, _, rfl, ?_, ⟨_, rfl⟩, hW, hsame.mono (by decide) (by decide)⟩
      show Q6 Z dv a_ASSETS a_LIABILITIES a_FUND_BALANCE a_REVENUES a_EXPENDITURES a_OTHER_RESOURCES a_OTHER_USES va kva em h0 n0 _ T26.heap _
      exact ⟨_, rfl, N26, c28, E26, Or.inr (Or.inl ⟨hc25_22, F26⟩)⟩
    ·
      have hin29 : ¬ ((2 : Int32) < 0 ∨ cla5.slots.size ≤ ((2 : Int32)).toNatClampNeg) := inb_of Sa5 ⟨by decide, by decide⟩
      have hat29 : cla5.slots[((2 : Int32)).toNatClampNeg]? = some (.ref a_FUND_BALANCE) := Has.at Ha5 hin29 rfl
      have pr30 : ∀ tg, Steps pP.tables eE below (T20.setTop (mkF mM 21 #[.val (.int dv), .val (.ref bv1), .val (.int (7 : Int32)), .val (.int (2 : Int32)), .val (.ref a_FUND_BALANCE)] [(.ref a_FUND_BALANCE)])) tg → Steps pP.tables eE below (s₁.setTop (entryFrame mM #[(.int dv)] 5)) tg := fun tg kg => pr23 _ (by
        show Steps pP.tables eE below (T20.setTop (mkF mM 25 #[.val (.int dv), .val (.ref bv1), .val (.int (7 : Int32)), .val (.int (1 : Int32)), .val (.ref a_LIABILITIES)] [(.int dv), (.int (50 : Int32))])) _
        refine XS.icmpYes X20.here hx rfl (pc0 := 25) (pc' := 34) rfl (hb hby d6_25) rfl (feq hc25_22).2 (by decide) (by decide) ?_
        show Steps pP.tables eE below (T20.setTop (mkF mM 34 #[.val (.int dv), .val (.ref bv1), .val (.int (7 : Int32)), .val (.int (1 : Int32)), .val (.ref a_LIABILITIES)] [])) _
        refine XS.iinc X20.here hx rfl (hb hby d6_34) rfl (l' := #[.val (.int dv), .val (.ref bv1), .val (.int (7 : Int32)), .val (.int (2 : Int32)), .val (.ref a_LIABILITIES)]) rfl ?_
        show Steps pP.tables eE below (T20.setTop (mkF mM 37 #[.val (.int dv), .val (.ref bv1), .val (.int (7 : Int32)), .val (.int (2 : Int32)), .val (.ref a_LIABILITIES)] [])) _
        refine XS.goto X20.here hx rfl (pc0 := 37) (pc' := 9) rfl (hb hby d6_37) (by decide) (by decide) ?_
        show Steps pP.tables eE below (T20.setTop (mkF mM 9 #[.val (.int dv), .val (.ref bv1), .val (.int (7 : Int32)), .val (.int (2 : Int32)), .val (.ref a_LIABILITIES)] [])) _
        refine XS.iloadN X20.here hx rfl (hb hby d6_9) rfl ?_
        show Steps pP.tables eE below (T20.setTop (mkF mM 10 #[.val (.int dv), .val (.ref bv1), .val (.int (7 : Int32)), .val (.int (2 : Int32)), .val (.ref a_LIABILITIES)] [(.int (2 : Int32))])) _
        refine XS.iloadN X20.here hx rfl (hb hby d6_10) rfl ?_
        show Steps pP.tables eE below (T20.setTop (mkF mM 11 #[.val (.int dv), .val (.ref bv1), .val (.int (7 : Int32)), .val (.int (2 : Int32)), .val (.ref a_LIABILITIES)] [(.int (7 : Int32)), (.int (2 : Int32))])) _
        refine XS.icmpNo X20.here hx rfl (hb hby d6_11) rfl (tlt (by decide)).2.1 ?_
        show Steps pP.tables eE below (T20.setTop (mkF mM 14 #[.val (.int dv), .val (.ref bv1), .val (.int (7 : Int32)), .val (.int (2 : Int32)), .val (.ref a_LIABILITIES)] [])) _
        refine XS.aloadN X20.here hx rfl (hb hby d6_14) rfl rfl ?_
        show Steps pP.tables eE below (T20.setTop (mkF mM 15 #[.val (.int dv), .val (.ref bv1), .val (.int (7 : Int32)), .val (.int (2 : Int32)), .val (.ref a_LIABILITIES)] [(.ref bv1)])) _
        refine XS.iloadN X20.here hx rfl (hb hby d6_15) rfl ?_
        show Steps pP.tables eE below (T20.setTop (mkF mM 16 #[.val (.int dv), .val (.ref bv1), .val (.int (7 : Int32)), .val (.int (2 : Int32)), .val (.ref a_LIABILITIES)] [(.int (2 : Int32)), (.ref bv1)])) _
        refine X20.aaload hx (j := (2 : Int32)) (v := (.ref a_FUND_BALANCE)) (by rw [e20]; exact Ara5.1) (State.isArrayOf_alike hZ.alike Ara5.2.1) rfl Ara5.2.2 hin29 hat29 (g := (mkF mM 16 #[.val (.int dv), .val (.ref bv1), .val (.int (7 : Int32)), .val (.int (2 : Int32)), .val (.ref a_LIABILITIES)] [(.int (2 : Int32)), (.ref bv1)])) rfl rfl (hb hby d6_16) _ ?_
        show Steps pP.tables eE below (T20.setTop (mkF mM 17 #[.val (.int dv), .val (.ref bv1), .val (.int (7 : Int32)), .val (.int (2 : Int32)), .val (.ref a_LIABILITIES)] [(.ref a_FUND_BALANCE)])) _
        refine XS.astore X20.here hx rfl (hb hby d6_17) rfl rfl (l' := #[.val (.int dv), .val (.ref bv1), .val (.int (7 : Int32)), .val (.int (2 : Int32)), .val (.ref a_FUND_BALANCE)]) rfl ?_
        show Steps pP.tables eE below (T20.setTop (mkF mM 19 #[.val (.int dv), .val (.ref bv1), .val (.int (7 : Int32)), .val (.int (2 : Int32)), .val (.ref a_FUND_BALANCE)] [])) _
        refine XS.aload X20.here hx rfl (hb hby d6_19) rfl rfl ?_
        exact kg)
      obtain ⟨T31, X31, e31, st31⟩ := getF X20 hx hZ hown (host := "") (Or.inl (hw _ (List.mem_of_getElem? (i := 26) rfl))) Via.refl e20 (Fld.ext (c7).2 F_FUND_BALANCE_digit) (g := (mkF mM 21 #[.val (.int dv), .val (.ref bv1), .val (.int (7 : Int32)), .val (.int (2 : Int32)), .val (.ref a_FUND_BALANCE)] [(.ref a_FUND_BALANCE)])) rfl rfl (hb hby d6_21)
      have pr32 : ∀ tg, Steps pP.tables eE below (T31.setTop (mkF mM 24 #[.val (.int dv), .val (.ref bv1), .val (.int (7 : Int32)), .val (.int (2 : Int32)), .val (.ref a_FUND_BALANCE)] [(.int (51 : Int32))])) tg → Steps pP.tables eE below (s₁.setTop (entryFrame mM #[(.int dv)] 5)) tg := fun tg kg => pr30 _ (st31 _ kg)
      have pr34 : ∀ tg, Steps pP.tables eE below (T31.setTop (mkF mM 25 #[.val (.int dv), .val (.ref bv1), .val (.int (7 : Int32)), .val (.int (2 : Int32)), .val (.ref a_FUND_BALANCE)] [(.int dv), (.int (51 : Int32))])) tg → Steps pP.tables eE below (s₁.setTop (entryFrame mM #[(.int dv)] 5)) tg := fun tg kg => pr32 _ (by
        show Steps pP.tables eE below (T31.setTop (mkF mM 24 #[.val (.int dv), .val (.ref bv1), .val (.int (7 : Int32)), .val (.int (2 : Int32)), .val (.ref a_FUND_BALANCE)] [(.int (51 : Int32))])) _
        refine XS.iloadN X31.here hx rfl (hb hby d6_24) rfl ?_
        exact kg)
      by_cases hc25_33 : (51 : Int32) = dv
      ·
        have pr35 : ∀ tg, Steps pP.tables eE below (T31.setTop (mkF mM 30 #[.val (.int dv), .val (.ref bv1), .val (.int (7 : Int32)), .val (.int (2 : Int32)), .val (.ref a_FUND_BALANCE)] [(.ref a_FUND_BALANCE)])) tg → Steps pP.tables eE below (s₁.setTop (entryFrame mM #[(.int dv)] 5)) tg := fun tg kg => pr34 _ (by
          show Steps pP.tables eE below (T31.setTop (mkF mM 25 #[.val (.int dv), .val (.ref bv1), .val (.int (7 : Int32)), .val (.int (2 : Int32)), .val (.ref a_FUND_BALANCE)] [(.int dv), (.int (51 : Int32))])) _
          refine XS.icmpNo X31.here hx rfl (hb hby d6_25) rfl (teq hc25_33).2 ?_
          show Steps pP.tables eE below (T31.setTop (mkF mM 28 #[.val (.int dv), .val (.ref bv1), .val (.int (7 : Int32)), .val (.int (2 : Int32)), .val (.ref a_FUND_BALANCE)] [])) _
          refine XS.aload X31.here hx rfl (hb hby d6_28) rfl rfl ?_
          exact kg)
        have c36 := (Nat.le_trans Z0 K1.1)
        obtain ⟨_, _, ⟨T37, L37, kk37, nn37⟩, -, X37, ⟨Lc37, hQ37, l37, y37, z37⟩, st37⟩ := Jvm.LawKit.callS X31 hx (y := (⟨"java/util/Optional", "of", "(Ljava/lang/Object;)Ljava/util/Optional;"⟩ : MethodName)) hown (mvT hZ (hw _ (List.mem_of_getElem? (i := 44) rfl))) (mvT hZ (hw _ (List.mem_of_getElem? (i := 45) rfl))) (mvT hZ (hw _ (List.mem_of_getElem? (i := 30) rfl))) (mvT hZ (hw _ (List.mem_of_getElem? (i := 46) rfl))) (by decide) (backOf (W := 0) (rm5 l Z a0 hw [] a_FUND_BALANCE T1.heap n0 c36) hZ (hw _ (List.mem_of_getElem? (i := 46) rfl)) (hw _ (List.mem_of_getElem? (i := 30) rfl)) (by decide) (by decide)) (g := (mkF mM 30 #[.val (.int dv), .val (.ref bv1), .val (.int (7 : Int32)), .val (.int (2 : Int32)), .val (.ref a_FUND_BALANCE)] [(.ref a_FUND_BALANCE)])) rfl (by rw [hml]; rfl) (argsL := [(.ref a_FUND_BALANCE)]) (rest := []) (lenOf pd_3 rfl) rfl (by show 2 * 0 + _ ≤ _; exact Nat.le_of_eq rfl) (hb hby d6_30) (fun _ _ => ⟨rfl, e31, (by decide : 1 + 1 ≤ _), (by decide : 7 + 1 ≤ _)⟩)
        dsimp only [Pt.U, Pt.locs, Pt.cells, Pt.slots] at X37 l37 y37 z37 st37 hQ37
        subst l37 y37 z37
        obtain ⟨bo37, rfl, Nq37, K37, E37, F37⟩ := hQ37
        have N37 := Fr.app N1 Nq37
        have pr38 : ∀ tg, Steps pP.tables eE below (T37.setTop (mkF mM 33 #[.val (.int dv), .val (.ref bv1), .val (.int (7 : Int32)), .val (.int (2 : Int32)), .val (.ref a_FUND_BALANCE)] [(.ref bo37)])) tg → Steps pP.tables eE below (s₁.setTop (entryFrame mM #[(.int dv)] 5)) tg := fun tg kg => pr35 _ (st37 _ kg)
        have c39 := (Keep.trans (Keep.trans (Keep.refl h0 []) K1 all0) K37 all0)
        obtain ⟨fs, hr, hrun, hended, hW, hsame⟩ := X37.leave (v := some (.ref bo37)) (fun h => by rw [Bd.returns] at h; cases h)
        refine ⟨_, _, pr38 _ (retOut X37 hx (t := (.object "java/util/Optional")) Bd.returns rfl (Or.inr (Or.inr (Or.inr (Or.inr ⟨rfl, rfl, rfl⟩)))) (hb hby d6_33) hr), hrun, hended, _, _, rfl, ?_, ⟨_, rfl⟩, hW, hsame.mono (by decide) (by decide)⟩
        show Q6 Z dv a_ASSETS a_LIABILITIES a_FUND_BALANCE a_REVENUES a_EXPENDITURES a_OTHER_RESOURCES a_OTHER_USES va kva em h0 n0 _ T37.heap _
        exact ⟨_, rfl, N37, c39, E37, Or.inr (Or.inr (Or.inl ⟨hc25_33, F37⟩))⟩
      ·
        have hin40 : ¬ ((3 : Int32) < 0 ∨ cla5.slots.size ≤ ((3 : Int32)).toNatClampNeg) := inb_of Sa5 ⟨by decide, by decide⟩
        have hat40 : cla5.slots[((3 : Int32)).toNatClampNeg]? = some (.ref a_REVENUES) := Has.at Ha5 hin40 rfl
        have pr41 : ∀ tg, Steps pP.tables eE below (T31.setTop (mkF mM 21 #[.val (.int dv), .val (.ref bv1), .val (.int (7 : Int32)), .val (.int (3 : Int32)), .val (.ref a_REVENUES)] [(.ref a_REVENUES)])) tg → Steps pP.tables eE below (s₁.setTop (entryFrame mM #[(.int dv)] 5)) tg := fun tg kg => pr34 _ (by
          show Steps pP.tables eE below (T31.setTop (mkF mM 25 #[.val (.int dv), .val (.ref bv1), .val (.int (7 : Int32)), .val (.int (2 : Int32)), .val (.ref a_FUND_BALANCE)] [(.int dv), (.int (51 : Int32))])) _
          refine XS.icmpYes X31.here hx rfl (pc0 := 25) (pc' := 34) rfl (hb hby d6_25) rfl (feq hc25_33).2 (by decide) (by decide) ?_
          show Steps pP.tables eE below (T31.setTop (mkF mM 34 #[.val (.int dv), .val (.ref bv1), .val (.int (7 : Int32)), .val (.int (2 : Int32)), .val (.ref a_FUND_BALANCE)] [])) _
          refine XS.iinc X31.here hx rfl (hb hby d6_34) rfl (l' := #[.val (.int dv), .val (.ref bv1), .val (.int (7 : Int32)), .val (.int (3 : Int32)), .val (.ref a_FUND_BALANCE)]) rfl ?_
          show Steps pP.tables eE below (T31.setTop (mkF mM 37 #[.val (.int dv), .val (.ref bv1), .val (.int (7 : Int32)), .val (.int (3 : Int32)), .val (.ref a_FUND_BALANCE)] [])) _
          refine XS.goto X31.here hx rfl (pc0 := 37) (pc' := 9) rfl (hb hby d6_37) (by decide) (by decide) ?_
          show Steps pP.tables eE below (T31.setTop (mkF mM 9 #[.val (.int dv), .val (.ref bv1), .val (.int (7 : Int32)), .val (.int (3 : Int32)), .val (.ref a_FUND_BALANCE)] [])) _
          refine XS.iloadN X31.here hx rfl (hb hby d6_9) rfl ?_
          show Steps pP.tables eE below (T31.setTop (mkF mM 10 #[.val (.int dv), .val (.ref bv1), .val (.int (7 : Int32)), .val (.int (3 : Int32)), .val (.ref a_FUND_BALANCE)] [(.int (3 : Int32))])) _
          refine XS.iloadN X31.here hx rfl (hb hby d6_10) rfl ?_
          show Steps pP.tables eE below (T31.setTop (mkF mM 11 #[.val (.int dv), .val (.ref bv1), .val (.int (7 : Int32)), .val (.int (3 : Int32)), .val (.ref a_FUND_BALANCE)] [(.int (7 : Int32)), (.int (3 : Int32))])) _
          refine XS.icmpNo X31.here hx rfl (hb hby d6_11) rfl (tlt (by decide)).2.1 ?_
          show Steps pP.tables eE below (T31.setTop (mkF mM 14 #[.val (.int dv), .val (.ref bv1), .val (.int (7 : Int32)), .val (.int (3 : Int32)), .val (.ref a_FUND_BALANCE)] [])) _
          refine XS.aloadN X31.here hx rfl (hb hby d6_14) rfl rfl ?_
          show Steps pP.tables eE below (T31.setTop (mkF mM 15 #[.val (.int dv), .val (.ref bv1), .val (.int (7 : Int32)), .val (.int (3 : Int32)), .val (.ref a_FUND_BALANCE)] [(.ref bv1)])) _
          refine XS.iloadN X31.here hx rfl (hb hby d6_15) rfl ?_
          show Steps pP.tables eE below (T31.setTop (mkF mM 16 #[.val (.int dv), .val (.ref bv1), .val (.int (7 : Int32)), .val (.int (3 : Int32)), .val (.ref a_FUND_BALANCE)] [(.int (3 : Int32)), (.ref bv1)])) _
          refine X31.aaload hx (j := (3 : Int32)) (v := (.ref a_REVENUES)) (by rw [e31]; exact Ara5.1) (State.isArrayOf_alike hZ.alike Ara5.2.1) rfl Ara5.2.2 hin40 hat40 (g := (mkF mM 16 #[.val (.int dv), .val (.ref bv1), .val (.int (7 : Int32)), .val (.int (3 : Int32)), .val (.ref a_FUND_BALANCE)] [(.int (3 : Int32)), (.ref bv1)])) rfl rfl (hb hby d6_16) _ ?_
          show Steps pP.tables eE below (T31.setTop (mkF mM 17 #[.val (.int dv), .val (.ref bv1), .val (.int (7 : Int32)), .val (.int (3 : Int32)), .val (.ref a_FUND_BALANCE)] [(.ref a_REVENUES)])) _
          refine XS.astore X31.here hx rfl (hb hby d6_17) rfl rfl (l' := #[.val (.int dv), .val (.ref bv1), .val (.int (7 : Int32)), .val (.int (3 : Int32)), .val (.ref a_REVENUES)]) rfl ?_
          show Steps pP.tables eE below (T31.setTop (mkF mM 19 #[.val (.int dv), .val (.ref bv1), .val (.int (7 : Int32)), .val (.int (3 : Int32)), .val (.ref a_REVENUES)] [])) _
          refine XS.aload X31.here hx rfl (hb hby d6_19) rfl rfl ?_
          exact kg)
        obtain ⟨T42, X42, e42, st42⟩ := getF X31 hx hZ hown (host := "") (Or.inl (hw _ (List.mem_of_getElem? (i := 26) rfl))) Via.refl e31 (Fld.ext (c7).2 F_REVENUES_digit) (g := (mkF mM 21 #[.val (.int dv), .val (.ref bv1), .val (.int (7 : Int32)), .val (.int (3 : Int32)), .val (.ref a_REVENUES)] [(.ref a_REVENUES)])) rfl rfl (hb hby d6_21)
        have pr43 : ∀ tg, Steps pP.tables eE below (T42.setTop (mkF mM 24 #[.val (.int dv), .val (.ref bv1), .val (.int (7 : Int32)), .val (.int (3 : Int32)), .val (.ref a_REVENUES)] [(.int (53 : Int32))])) tg → Steps pP.tables eE below (s₁.setTop (entryFrame mM #[(.int dv)] 5)) tg := fun tg kg => pr41 _ (st42 _ kg)
        have pr45 : ∀ tg, Steps pP.tables eE below (T42.setTop (mkF mM 25 #[.val (.int dv), .val (.ref bv1), .val (.int (7 : Int32)), .val (.int (3 : Int32)), .val (.ref a_REVENUES)] [(.int dv), (.int (53 : Int32))])) tg → Steps pP.tables eE below (s₁.setTop (entryFrame mM #[(.int dv)] 5)) tg := fun tg kg => pr43 _ (by
          show Steps pP.tables eE below (T42.setTop (mkF mM 24 #[.val (.int dv), .val (.ref bv1), .val (.int (7 : Int32)), .val (.int (3 : Int32)), .val (.ref a_REVENUES)] [(.int (53 : Int32))])) _
          refine XS.iloadN X42.here hx rfl (hb hby d6_24) rfl ?_
          exact kg)
        by_cases hc25_44 : (53 : Int32) = dv
        ·
          have pr46 : ∀ tg, Steps pP.tables eE below (T42.setTop (mkF mM 30 #[.val (.int dv), .val (.ref bv1), .val (.int (7 : Int32)), .val (.int (3 : Int32)), .val (.ref a_REVENUES)] [(.ref a_REVENUES)])) tg → Steps pP.tables eE below (s₁.setTop (entryFrame mM #[(.int dv)] 5)) tg := fun tg kg => pr45 _ (by
            show Steps pP.tables eE below (T42.setTop (mkF mM 25 #[.val (.int dv), .val (.ref bv1), .val (.int (7 : Int32)), .val (.int (3 : Int32)), .val (.ref a_REVENUES)] [(.int dv), (.int (53 : Int32))])) _
            refine XS.icmpNo X42.here hx rfl (hb hby d6_25) rfl (teq hc25_44).2 ?_
            show Steps pP.tables eE below (T42.setTop (mkF mM 28 #[.val (.int dv), .val (.ref bv1), .val (.int (7 : Int32)), .val (.int (3 : Int32)), .val (.ref a_REVENUES)] [])) _
            refine XS.aload X42.here hx rfl (hb hby d6_28) rfl rfl ?_
            exact kg)
          have c47 := (Nat.le_trans Z0 K1.1)
          obtain ⟨_, _, ⟨T48, L48, kk48, nn48⟩, -, X48, ⟨Lc48, hQ48, l48, y48, z48⟩, st48⟩ := Jvm.LawKit.callS X42 hx (y := (⟨"java/util/Optional", "of", "(Ljava/lang/Object;)Ljava/util/Optional;"⟩ : MethodName)) hown (mvT hZ (hw _ (List.mem_of_getElem? (i := 44) rfl))) (mvT hZ (hw _ (List.mem_of_getElem? (i := 45) rfl))) (mvT hZ (hw _ (List.mem_of_getElem? (i := 30) rfl))) (mvT hZ (hw _ (List.mem_of_getElem? (i := 46) rfl))) (by decide) (backOf (W := 0) (rm5 l Z a0 hw [] a_REVENUES T1.heap n0 c47) hZ (hw _ (List.mem_of_getElem? (i := 46) rfl)) (hw _ (List.mem_of_getElem? (i := 30) rfl)) (by decide) (by decide)) (g := (mkF mM 30 #[.val (.int dv), .val (.ref bv1), .val (.int (7 : Int32)), .val (.int (3 : Int32)), .val (.ref a_REVENUES)] [(.ref a_REVENUES)])) rfl (by rw [hml]; rfl) (argsL := [(.ref a_REVENUES)]) (rest := []) (lenOf pd_3 rfl) rfl (by show 2 * 0 + _ ≤ _; exact Nat.le_of_eq rfl) (hb hby d6_30) (fun _ _ => ⟨rfl, e42, (by decide : 1 + 1 ≤ _), (by decide : 7 + 1 ≤ _)⟩)
          dsimp only [Pt.U, Pt.locs, Pt.cells, Pt.slots] at X48 l48 y48 z48 st48 hQ48
          subst l48 y48 z48
          obtain ⟨bo48, rfl, Nq48, K48, E48, F48⟩ := hQ48
          have N48 := Fr.app N1 Nq48
          have pr49 : ∀ tg, Steps pP.tables eE below (T48.setTop (mkF mM 33 #[.val (.int dv), .val (.ref bv1), .val (.int (7 : Int32)), .val (.int (3 : Int32)), .val (.ref a_REVENUES)] [(.ref bo48)])) tg → Steps pP.tables eE below (s₁.setTop (entryFrame mM #[(.int dv)] 5)) tg := fun tg kg => pr46 _ (st48 _ kg)
          have c50 := (Keep.trans (Keep.trans (Keep.refl h0 []) K1 all0) K48 all0)
          obtain ⟨fs, hr, hrun, hended, hW, hsame⟩ := X48.leave (v := some (.ref bo48)) (fun h => by rw [Bd.returns] at h; cases h)
          refine ⟨_, _, pr49 _ (retOut X48 hx (t := (.object "java/util/Optional")) Bd.returns rfl (Or.inr (Or.inr (Or.inr (Or.inr ⟨rfl, rfl, rfl⟩)))) (hb hby d6_33) hr), hrun, hended, _, _, rfl, ?_, ⟨_, rfl⟩, hW, hsame.mono (by decide) (by decide)⟩
          show Q6 Z dv a_ASSETS a_LIABILITIES a_FUND_BALANCE a_REVENUES a_EXPENDITURES a_OTHER_RESOURCES a_OTHER_USES va kva em h0 n0 _ T48.heap _
          exact ⟨_, rfl, N48, c50, E48, Or.inr (Or.inr (Or.inr (Or.inl ⟨hc25_44, F48⟩)))⟩
        ·
          have hin51 : ¬ ((4 : Int32) < 0 ∨ cla5.slots.size ≤ ((4 : Int32)).toNatClampNeg) := inb_of Sa5 ⟨by decide, by decide⟩
          have hat51 : cla5.slots[((4 : Int32)).toNatClampNeg]? = some (.ref a_EXPENDITURES) := Has.at Ha5 hin51 rfl
          have pr52 : ∀ tg, Steps pP.tables eE below (T42.setTop (mkF mM 21 #[.val (.int dv), .val (.ref bv1), .val (.int (7 : Int32)), .val (.int (4 : Int32)), .val (.ref a_EXPENDITURES)] [(.ref a_EXPENDITURES)])) tg → Steps pP.tables eE below (s₁.setTop (entryFrame mM #[(.int dv)] 5)) tg := fun tg kg => pr45 _ (by
            show Steps pP.tables eE below (T42.setTop (mkF mM 25 #[.val (.int dv), .val (.ref bv1), .val (.int (7 : Int32)), .val (.int (3 : Int32)), .val (.ref a_REVENUES)] [(.int dv), (.int (53 : Int32))])) _
            refine XS.icmpYes X42.here hx rfl (pc0 := 25) (pc' := 34) rfl (hb hby d6_25) rfl (feq hc25_44).2 (by decide) (by decide) ?_
            show Steps pP.tables eE below (T42.setTop (mkF mM 34 #[.val (.int dv), .val (.ref bv1), .val (.int (7 : Int32)), .val (.int (3 : Int32)), .val (.ref a_REVENUES)] [])) _
            refine XS.iinc X42.here hx rfl (hb hby d6_34) rfl (l' := #[.val (.int dv), .val (.ref bv1), .val (.int (7 : Int32)), .val (.int (4 : Int32)), .val (.ref a_REVENUES)]) rfl ?_
            show Steps pP.tables eE below (T42.setTop (mkF mM 37 #[.val (.int dv), .val (.ref bv1), .val (.int (7 : Int32)), .val (.int (4 : Int32)), .val (.ref a_REVENUES)] [])) _
            refine XS.goto X42.here hx rfl (pc0 := 37) (pc' := 9) rfl (hb hby d6_37) (by decide) (by decide) ?_
            show Steps pP.tables eE below (T42.setTop (mkF mM 9 #[.val (.int dv), .val (.ref bv1), .val (.int (7 : Int32)), .val (.int (4 : Int32)), .val (.ref a_REVENUES)] [])) _
            refine XS.iloadN X42.here hx rfl (hb hby d6_9) rfl ?_
            show Steps pP.tables eE below (T42.setTop (mkF mM 10 #[.val (.int dv), .val (.ref bv1), .val (.int (7 : Int32)), .val (.int (4 : Int32)), .val (.ref a_REVENUES)] [(.int (4 : Int32))])) _
            refine XS.iloadN X42.here hx rfl (hb hby d6_10) rfl ?_
            show Steps pP.tables eE below (T42.setTop (mkF mM 11 #[.val (.int dv), .val (.ref bv1), .val (.int (7 : Int32)), .val (.int (4 : Int32)), .val (.ref a_REVENUES)] [(.int (7 : Int32)), (.int (4 : Int32))])) _
            refine XS.icmpNo X42.here hx rfl (hb hby d6_11) rfl (tlt (by decide)).2.1 ?_
            show Steps pP.tables eE below (T42.setTop (mkF mM 14 #[.val (.int dv), .val (.ref bv1), .val (.int (7 : Int32)), .val (.int (4 : Int32)), .val (.ref a_REVENUES)] [])) _
            refine XS.aloadN X42.here hx rfl (hb hby d6_14) rfl rfl ?_
            show Steps pP.tables eE below (T42.setTop (mkF mM 15 #[.val (.int dv), .val (.ref bv1), .val (.int (7 : Int32)), .val (.int (4 : Int32)), .val (.ref a_REVENUES)] [(.ref bv1)])) _
            refine XS.iloadN X42.here hx rfl (hb hby d6_15) rfl ?_
            show Steps pP.tables eE below (T42.setTop (mkF mM 16 #[.val (.int dv), .val (.ref bv1), .val (.int (7 : Int32)), .val (.int (4 : Int32)), .val (.ref a_REVENUES)] [(.int (4 : Int32)), (.ref bv1)])) _
            refine X42.aaload hx (j := (4 : Int32)) (v := (.ref a_EXPENDITURES)) (by rw [e42]; exact Ara5.1) (State.isArrayOf_alike hZ.alike Ara5.2.1) rfl Ara5.2.2 hin51 hat51 (g := (mkF mM 16 #[.val (.int dv), .val (.ref bv1), .val (.int (7 : Int32)), .val (.int (4 : Int32)), .val (.ref a_REVENUES)] [(.int (4 : Int32)), (.ref bv1)])) rfl rfl (hb hby d6_16) _ ?_
            show Steps pP.tables eE below (T42.setTop (mkF mM 17 #[.val (.int dv), .val (.ref bv1), .val (.int (7 : Int32)), .val (.int (4 : Int32)), .val (.ref a_REVENUES)] [(.ref a_EXPENDITURES)])) _
            refine XS.astore X42.here hx rfl (hb hby d6_17) rfl rfl (l' := #[.val (.int dv), .val (.ref bv1), .val (.int (7 : Int32)), .val (.int (4 : Int32)), .val (.ref a_EXPENDITURES)]) rfl ?_
            show Steps pP.tables eE below (T42.setTop (mkF mM 19 #[.val (.int dv), .val (.ref bv1), .val (.int (7 : Int32)), .val (.int (4 : Int32)), .val (.ref a_EXPENDITURES)] [])) _
            refine XS.aload X42.here hx rfl (hb hby d6_19) rfl rfl ?_
            exact kg)
          obtain ⟨T53, X53, e53, st53⟩ := getF X42 hx hZ hown (host := "") (Or.inl (hw _ (List.mem_of_getElem? (i := 26) rfl))) Via.refl e42 (Fld.ext (c7).2 F_EXPENDITURES_digit) (g := (mkF mM 21 #[.val (.int dv), .val (.ref bv1), .val (.int (7 : Int32)), .val (.int (4 : Int32)), .val (.ref a_EXPENDITURES)] [(.ref a_EXPENDITURES)])) rfl rfl (hb hby d6_21)
          have pr54 : ∀ tg, Steps pP.tables eE below (T53.setTop (mkF mM 24 #[.val (.int dv), .val (.ref bv1), .val (.int (7 : Int32)), .val (.int (4 : Int32)), .val (.ref a_EXPENDITURES)] [(.int (54 : Int32))])) tg → Steps pP.tables eE below (s₁.setTop (entryFrame mM #[(.int dv)] 5)) tg := fun tg kg => pr52 _ (st53 _ kg)
          have pr56 : ∀ tg, Steps pP.tables eE below (T53.setTop (mkF mM 25 #[.val (.int dv), .val (.ref bv1), .val (.int (7 : Int32)), .val (.int (4 : Int32)), .val (.ref a_EXPENDITURES)] [(.int dv), (.int (54 : Int32))])) tg → Steps pP.tables eE below (s₁.setTop (entryFrame mM #[(.int dv)] 5)) tg := fun tg kg => pr54 _ (by
            show Steps pP.tables eE below (T53.setTop (mkF mM 24 #[.val (.int dv), .val (.ref bv1), .val (.int (7 : Int32)), .val (.int (4 : Int32)), .val (.ref a_EXPENDITURES)] [(.int (54 : Int32))])) _
            refine XS.iloadN X53.here hx rfl (hb hby d6_24) rfl ?_
            exact kg)
          by_cases hc25_55 : (54 : Int32) = dv
          ·
            have pr57 : ∀ tg, Steps pP.tables eE below (T53.setTop (mkF mM 30 #[.val (.int dv), .val (.ref bv1), .val (.int (7 : Int32)), .val (.int (4 : Int32)), .val (.ref a_EXPENDITURES)] [(.ref a_EXPENDITURES)])) tg → Steps pP.tables eE below (s₁.setTop (entryFrame mM #[(.int dv)] 5)) tg := fun tg kg => pr56 _ (by
              show Steps pP.tables eE below (T53.setTop (mkF mM 25 #[.val (.int dv), .val (.ref bv1), .val (.int (7 : Int32)), .val (.int (4 : Int32)), .val (.ref a_EXPENDITURES)] [(.int dv), (.int (54 : Int32))])) _
              refine XS.icmpNo X53.here hx rfl (hb hby d6_25) rfl (teq hc25_55).2 ?_
              show Steps pP.tables eE below (T53.setTop (mkF mM 28 #[.val (.int dv), .val (.ref bv1), .val (.int (7 : Int32)), .val (.int (4 : Int32)), .val (.ref a_EXPENDITURES)] [])) _
              refine XS.aload X53.here hx rfl (hb hby d6_28) rfl rfl ?_
              exact kg)
            have c58 := (Nat.le_trans Z0 K1.1)
            obtain ⟨_, _, ⟨T59, L59, kk59, nn59⟩, -, X59, ⟨Lc59, hQ59, l59, y59, z59⟩, st59⟩ := Jvm.LawKit.callS X53 hx (y := (⟨"java/util/Optional", "of", "(Ljava/lang/Object;)Ljava/util/Optional;"⟩ : MethodName)) hown (mvT hZ (hw _ (List.mem_of_getElem? (i := 44) rfl))) (mvT hZ (hw _ (List.mem_of_getElem? (i := 45) rfl))) (mvT hZ (hw _ (List.mem_of_getElem? (i := 30) rfl))) (mvT hZ (hw _ (List.mem_of_getElem? (i := 46) rfl))) (by decide) (backOf (W := 0) (rm5 l Z a0 hw [] a_EXPENDITURES T1.heap n0 c58) hZ (hw _ (List.mem_of_getElem? (i := 46) rfl)) (hw _ (List.mem_of_getElem? (i := 30) rfl)) (by decide) (by decide)) (g := (mkF mM 30 #[.val (.int dv), .val (.ref bv1), .val (.int (7 : Int32)), .val (.int (4 : Int32)), .val (.ref a_EXPENDITURES)] [(.ref a_EXPENDITURES)])) rfl (by rw [hml]; rfl) (argsL := [(.ref a_EXPENDITURES)]) (rest := []) (lenOf pd_3 rfl) rfl (by show 2 * 0 + _ ≤ _; exact Nat.le_of_eq rfl) (hb hby d6_30) (fun _ _ => ⟨rfl, e53, (by decide : 1 + 1 ≤ _), (by decide : 7 + 1 ≤ _)⟩)
            dsimp only [Pt.U, Pt.locs, Pt.cells, Pt.slots] at X59 l59 y59 z59 st59 hQ59
            subst l59 y59 z59
            obtain ⟨bo59, rfl, Nq59, K59, E59, F59⟩ := hQ59
            have N59 := Fr.app N1 Nq59
            have pr60 : ∀ tg, Steps pP.tables eE below (T59.setTop (mkF mM 33 #[.val (.int dv), .val (.ref bv1), .val (.int (7 : Int32)), .val (.int (4 : Int32)), .val (.ref a_EXPENDITURES)] [(.ref bo59)])) tg → Steps pP.tables eE below (s₁.setTop (entryFrame mM #[(.int dv)] 5)) tg := fun tg kg => pr57 _ (st59 _ kg)
            have c61 := (Keep.trans (Keep.trans (Keep.refl h0 []) K1 all0) K59 all0)
            obtain ⟨fs, hr, hrun, hended, hW, hsame⟩ := X59.leave (v := some (.ref bo59)) (fun h => by rw [Bd.returns] at h; cases h)
            refine ⟨_, _, pr60 _ (retOut X59 hx (t := (.object "java/util/Optional")) Bd.returns rfl (Or.inr (Or.inr (Or.inr (Or.inr ⟨rfl, rfl, rfl⟩)))) (hb hby d6_33) hr), hrun, hended, _, _, rfl, ?_, ⟨_, rfl⟩, hW, hsame.mono (by decide) (by decide)⟩
            show Q6 Z dv a_ASSETS a_LIABILITIES a_FUND_BALANCE a_REVENUES a_EXPENDITURES a_OTHER_RESOURCES a_OTHER_USES va kva em h0 n0 _ T59.heap _
            exact ⟨_, rfl, N59, c61, E59, Or.inr (Or.inr (Or.inr (Or.inr (Or.inl ⟨hc25_55, F59⟩))))⟩
          ·
            have hin62 : ¬ ((5 : Int32) < 0 ∨ cla5.slots.size ≤ ((5 : Int32)).toNatClampNeg) := inb_of Sa5 ⟨by decide, by decide⟩
            have hat62 : cla5.slots[((5 : Int32)).toNatClampNeg]? = some (.ref a_OTHER_RESOURCES) := Has.at Ha5 hin62 rfl
            have pr63 : ∀ tg, Steps pP.tables eE below (T53.setTop (mkF mM 21 #[.val (.int dv), .val (.ref bv1), .val (.int (7 : Int32)), .val (.int (5 : Int32)), .val (.ref a_OTHER_RESOURCES)] [(.ref a_OTHER_RESOURCES)])) tg → Steps pP.tables eE below (s₁.setTop (entryFrame mM #[(.int dv)] 5)) tg := fun tg kg => pr56 _ (by
              show Steps pP.tables eE below (T53.setTop (mkF mM 25 #[.val (.int dv), .val (.ref bv1), .val (.int (7 : Int32)), .val (.int (4 : Int32)), .val (.ref a_EXPENDITURES)] [(.int dv), (.int (54 : Int32))])) _
              refine XS.icmpYes X53.here hx rfl (pc0 := 25) (pc' := 34) rfl (hb hby d6_25) rfl (feq hc25_55).2 (by decide) (by decide) ?_
              show Steps pP.tables eE below (T53.setTop (mkF mM 34 #[.val (.int dv), .val (.ref bv1), .val (.int (7 : Int32)), .val (.int (4 : Int32)), .val (.ref a_EXPENDITURES)] [])) _
              refine XS.iinc X53.here hx rfl (hb hby d6_34) rfl (l' := #[.val (.int dv), .val (.ref bv1), .val (.int (7 : Int32)), .val (.int (5 : Int32)), .val (.ref a_EXPENDITURES)]) rfl ?_
              show Steps pP.tables eE below (T53.setTop (mkF mM 37 #[.val (.int dv), .val (.ref bv1), .val (.int (7 : Int32)), .val (.int (5 : Int32)), .val (.ref a_EXPENDITURES)] [])) _
              refine XS.goto X53.here hx rfl (pc0 := 37) (pc' := 9) rfl (hb hby d6_37) (by decide) (by decide) ?_
              show Steps pP.tables eE below (T53.setTop (mkF mM 9 #[.val (.int dv), .val (.ref bv1), .val (.int (7 : Int32)), .val (.int (5 : Int32)), .val (.ref a_EXPENDITURES)] [])) _
              refine XS.iloadN X53.here hx rfl (hb hby d6_9) rfl ?_
              show Steps pP.tables eE below (T53.setTop (mkF mM 10 #[.val (.int dv), .val (.ref bv1), .val (.int (7 : Int32)), .val (.int (5 : Int32)), .val (.ref a_EXPENDITURES)] [(.int (5 : Int32))])) _
              refine XS.iloadN X53.here hx rfl (hb hby d6_10) rfl ?_
              show Steps pP.tables eE below (T53.setTop (mkF mM 11 #[.val (.int dv), .val (.ref bv1), .val (.int (7 : Int32)), .val (.int (5 : Int32)), .val (.ref a_EXPENDITURES)] [(.int (7 : Int32)), (.int (5 : Int32))])) _
              refine XS.icmpNo X53.here hx rfl (hb hby d6_11) rfl (tlt (by decide)).2.1 ?_
              show Steps pP.tables eE below (T53.setTop (mkF mM 14 #[.val (.int dv), .val (.ref bv1), .val (.int (7 : Int32)), .val (.int (5 : Int32)), .val (.ref a_EXPENDITURES)] [])) _
              refine XS.aloadN X53.here hx rfl (hb hby d6_14) rfl rfl ?_
              show Steps pP.tables eE below (T53.setTop (mkF mM 15 #[.val (.int dv), .val (.ref bv1), .val (.int (7 : Int32)), .val (.int (5 : Int32)), .val (.ref a_EXPENDITURES)] [(.ref bv1)])) _
              refine XS.iloadN X53.here hx rfl (hb hby d6_15) rfl ?_
              show Steps pP.tables eE below (T53.setTop (mkF mM 16 #[.val (.int dv), .val (.ref bv1), .val (.int (7 : Int32)), .val (.int (5 : Int32)), .val (.ref a_EXPENDITURES)] [(.int (5 : Int32)), (.ref bv1)])) _
              refine X53.aaload hx (j := (5 : Int32)) (v := (.ref a_OTHER_RESOURCES)) (by rw [e53]; exact Ara5.1) (State.isArrayOf_alike hZ.alike Ara5.2.1) rfl Ara5.2.2 hin62 hat62 (g := (mkF mM 16 #[.val (.int dv), .val (.ref bv1), .val (.int (7 : Int32)), .val (.int (5 : Int32)), .val (.ref a_EXPENDITURES)] [(.int (5 : Int32)), (.ref bv1)])) rfl rfl (hb hby d6_16) _ ?_
              show Steps pP.tables eE below (T53.setTop (mkF mM 17 #[.val (.int dv), .val (.ref bv1), .val (.int (7 : Int32)), .val (.int (5 : Int32)), .val (.ref a_EXPENDITURES)] [(.ref a_OTHER_RESOURCES)])) _
              refine XS.astore X53.here hx rfl (hb hby d6_17) rfl rfl (l' := #[.val (.int dv), .val (.ref bv1), .val (.int (7 : Int32)), .val (.int (5 : Int32)), .val (.ref a_OTHER_RESOURCES)]) rfl ?_
              show Steps pP.tables eE below (T53.setTop (mkF mM 19 #[.val (.int dv), .val (.ref bv1), .val (.int (7 : Int32)), .val (.int (5 : Int32)), .val (.ref a_OTHER_RESOURCES)] [])) _
              refine XS.aload X53.here hx rfl (hb hby d6_19) rfl rfl ?_
              exact kg)
            obtain ⟨T64, X64, e64, st64⟩ := getF X53 hx hZ hown (host := "") (Or.inl (hw _ (List.mem_of_getElem? (i := 26) rfl))) Via.refl e53 (Fld.ext (c7).2 F_OTHER_RESOURCES_digit) (g := (mkF mM 21 #[.val (.int dv), .val (.ref bv1), .val (.int (7 : Int32)), .val (.int (5 : Int32)), .val (.ref a_OTHER_RESOURCES)] [(.ref a_OTHER_RESOURCES)])) rfl rfl (hb hby d6_21)
            have pr65 : ∀ tg, Steps pP.tables eE below (T64.setTop (mkF mM 24 #[.val (.int dv), .val (.ref bv1), .val (.int (7 : Int32)), .val (.int (5 : Int32)), .val (.ref a_OTHER_RESOURCES)] [(.int (55 : Int32))])) tg → Steps pP.tables eE below (s₁.setTop (entryFrame mM #[(.int dv)] 5)) tg := fun tg kg => pr63 _ (st64 _ kg)
            have pr67 : ∀ tg, Steps pP.tables eE below (T64.setTop (mkF mM 25 #[.val (.int dv), .val (.ref bv1), .val (.int (7 : Int32)), .val (.int (5 : Int32)), .val (.ref a_OTHER_RESOURCES)] [(.int dv), (.int (55 : Int32))])) tg → Steps pP.tables eE below (s₁.setTop (entryFrame mM #[(.int dv)] 5)) tg := fun tg kg => pr65 _ (by
              show Steps pP.tables eE below (T64.setTop (mkF mM 24 #[.val (.int dv), .val (.ref bv1), .val (.int (7 : Int32)), .val (.int (5 : Int32)), .val (.ref a_OTHER_RESOURCES)] [(.int (55 : Int32))])) _
              refine XS.iloadN X64.here hx rfl (hb hby d6_24) rfl ?_
              exact kg)
            by_cases hc25_66 : (55 : Int32) = dv
            ·
              have pr68 : ∀ tg, Steps pP.tables eE below (T64.setTop (mkF mM 30 #[.val (.int dv), .val (.ref bv1), .val (.int (7 : Int32)), .val (.int (5 : Int32)), .val (.ref a_OTHER_RESOURCES)] [(.ref a_OTHER_RESOURCES)])) tg → Steps pP.tables eE below (s₁.setTop (entryFrame mM #[(.int dv)] 5)) tg := fun tg kg => pr67 _ (by
                show Steps pP.tables eE below (T64.setTop (mkF mM 25 #[.val (.int dv), .val (.ref bv1), .val (.int (7 : Int32)), .val (.int (5 : Int32)), .val (.ref a_OTHER_RESOURCES)] [(.int dv), (.int (55 : Int32))])) _
                refine XS.icmpNo X64.here hx rfl (hb hby d6_25) rfl (teq hc25_66).2 ?_
                show Steps pP.tables eE below (T64.setTop (mkF mM 28 #[.val (.int dv), .val (.ref bv1), .val (.int (7 : Int32)), .val (.int (5 : Int32)), .val (.ref a_OTHER_RESOURCES)] [])) _
                refine XS.aload X64.here hx rfl (hb hby d6_28) rfl rfl ?_
                exact kg)
              have c69 := (Nat.le_trans Z0 K1.1)
              obtain ⟨_, _, ⟨T70, L70, kk70, nn70⟩, -, X70, ⟨Lc70, hQ70, l70, y70, z70⟩, st70⟩ := Jvm.LawKit.callS X64 hx (y := (⟨"java/util/Optional", "of", "(Ljava/lang/Object;)Ljava/util/Optional;"⟩ : MethodName)) hown (mvT hZ (hw _ (List.mem_of_getElem? (i := 44) rfl))) (mvT hZ (hw _ (List.mem_of_getElem? (i := 45) rfl))) (mvT hZ (hw _ (List.mem_of_getElem? (i := 30) rfl))) (mvT hZ (hw _ (List.mem_of_getElem? (i := 46) rfl))) (by decide) (backOf (W := 0) (rm5 l Z a0 hw [] a_OTHER_RESOURCES T1.heap n0 c69) hZ (hw _ (List.mem_of_getElem? (i := 46) rfl)) (hw _ (List.mem_of_getElem? (i := 30) rfl)) (by decide) (by decide)) (g := (mkF mM 30 #[.val (.int dv), .val (.ref bv1), .val (.int (7 : Int32)), .val (.int (5 : Int32)), .val (.ref a_OTHER_RESOURCES)] [(.ref a_OTHER_RESOURCES)])) rfl (by rw [hml]; rfl) (argsL := [(.ref a_OTHER_RESOURCES)]) (rest := []) (lenOf pd_3 rfl) rfl (by show 2 * 0 + _ ≤ _; exact Nat.le_of_eq rfl) (hb hby d6_30) (fun _ _ => ⟨rfl, e64, (by decide : 1 + 1 ≤ _), (by decide : 7 + 1 ≤ _)⟩)
              dsimp only [Pt.U, Pt.locs, Pt.cells, Pt.slots] at X70 l70 y70 z70 st70 hQ70
              subst l70 y70 z70
              obtain ⟨bo70, rfl, Nq70, K70, E70, F70⟩ := hQ70
              have N70 := Fr.app N1 Nq70
              have pr71 : ∀ tg, Steps pP.tables eE below (T70.setTop (mkF mM 33 #[.val (.int dv), .val (.ref bv1), .val (.int (7 : Int32)), .val (.int (5 : Int32)), .val (.ref a_OTHER_RESOURCES)] [(.ref bo70)])) tg → Steps pP.tables eE below (s₁.setTop (entryFrame mM #[(.int dv)] 5)) tg := fun tg kg => pr68 _ (st70 _ kg)
              have c72 := (Keep.trans (Keep.trans (Keep.refl h0 []) K1 all0) K70 all0)
              obtain ⟨fs, hr, hrun, hended, hW, hsame⟩ := X70.leave (v := some (.ref bo70)) (fun h => by rw [Bd.returns] at h; cases h)
              refine ⟨_, _, pr71 _ (retOut X70 hx (t := (.object "java/util/Optional")) Bd.returns rfl (Or.inr (Or.inr (Or.inr (Or.inr ⟨rfl, rfl, rfl⟩)))) (hb hby d6_33) hr), hrun, hended, _, _, rfl, ?_, ⟨_, rfl⟩, hW, hsame.mono (by decide) (by decide)⟩
              show Q6 Z dv a_ASSETS a_LIABILITIES a_FUND_BALANCE a_REVENUES a_EXPENDITURES a_OTHER_RESOURCES a_OTHER_USES va kva em h0 n0 _ T70.heap _
              exact ⟨_, rfl, N70, c72, E70, Or.inr (Or.inr (Or.inr (Or.inr (Or.inr (Or.inl ⟨hc25_66, F70⟩)))))⟩
            ·
              have hin73 : ¬ ((6 : Int32) < 0 ∨ cla5.slots.size ≤ ((6 : Int32)).toNatClampNeg) := inb_of Sa5 ⟨by decide, by decide⟩
              have hat73 : cla5.slots[((6 : Int32)).toNatClampNeg]? = some (.ref a_OTHER_USES) := Has.at Ha5 hin73 rfl
              have pr74 : ∀ tg, Steps pP.tables eE below (T64.setTop (mkF mM 21 #[.val (.int dv), .val (.ref bv1), .val (.int (7 : Int32)), .val (.int (6 : Int32)), .val (.ref a_OTHER_USES)] [(.ref a_OTHER_USES)])) tg → Steps pP.tables eE below (s₁.setTop (entryFrame mM #[(.int dv)] 5)) tg := fun tg kg => pr67 _ (by
                show Steps pP.tables eE below (T64.setTop (mkF mM 25 #[.val (.int dv), .val (.ref bv1), .val (.int (7 : Int32)), .val (.int (5 : Int32)), .val (.ref a_OTHER_RESOURCES)] [(.int dv), (.int (55 : Int32))])) _
                refine XS.icmpYes X64.here hx rfl (pc0 := 25) (pc' := 34) rfl (hb hby d6_25) rfl (feq hc25_66).2 (by decide) (by decide) ?_
                show Steps pP.tables eE below (T64.setTop (mkF mM 34 #[.val (.int dv), .val (.ref bv1), .val (.int (7 : Int32)), .val (.int (5 : Int32)), .val (.ref a_OTHER_RESOURCES)] [])) _
                refine XS.iinc X64.here hx rfl (hb hby d6_34) rfl (l' := #[.val (.int dv), .val (.ref bv1), .val (.int (7 : Int32)), .val (.int (6 : Int32)), .val (.ref a_OTHER_RESOURCES)]) rfl ?_
                show Steps pP.tables eE below (T64.setTop (mkF mM 37 #[.val (.int dv), .val (.ref bv1), .val (.int (7 : Int32)), .val (.int (6 : Int32)), .val (.ref a_OTHER_RESOURCES)] [])) _
                refine XS.goto X64.here hx rfl (pc0 := 37) (pc' := 9) rfl (hb hby d6_37) (by decide) (by decide) ?_
                show Steps pP.tables eE below (T64.setTop (mkF mM 9 #[.val (.int dv), .val (.ref bv1), .val (.int (7 : Int32)), .val (.int (6 : Int32)), .val (.ref a_OTHER_RESOURCES)] [])) _
                refine XS.iloadN X64.here hx rfl (hb hby d6_9) rfl ?_
                show Steps pP.tables eE below (T64.setTop (mkF mM 10 #[.val (.int dv), .val (.ref bv1), .val (.int (7 : Int32)), .val (.int (6 : Int32)), .val (.ref a_OTHER_RESOURCES)] [(.int (6 : Int32))])) _
                refine XS.iloadN X64.here hx rfl (hb hby d6_10) rfl ?_
                show Steps pP.tables eE below (T64.setTop (mkF mM 11 #[.val (.int dv), .val (.ref bv1), .val (.int (7 : Int32)), .val (.int (6 : Int32)), .val (.ref a_OTHER_RESOURCES)] [(.int (7 : Int32)), (.int (6 : Int32))])) _
                refine XS.icmpNo X64.here hx rfl (hb hby d6_11) rfl (tlt (by decide)).2.1 ?_
                show Steps pP.tables eE below (T64.setTop (mkF mM 14 #[.val (.int dv), .val (.ref bv1), .val (.int (7 : Int32)), .val (.int (6 : Int32)), .val (.ref a_OTHER_RESOURCES)] [])) _
                refine XS.aloadN X64.here hx rfl (hb hby d6_14) rfl rfl ?_
                show Steps pP.tables eE below (T64.setTop (mkF mM 15 #[.val (.int dv), .val (.ref bv1), .val (.int (7 : Int32)), .val (.int (6 : Int32)), .val (.ref a_OTHER_RESOURCES)] [(.ref bv1)])) _
                refine XS.iloadN X64.here hx rfl (hb hby d6_15) rfl ?_
                show Steps pP.tables eE below (T64.setTop (mkF mM 16 #[.val (.int dv), .val (.ref bv1), .val (.int (7 : Int32)), .val (.int (6 : Int32)), .val (.ref a_OTHER_RESOURCES)] [(.int (6 : Int32)), (.ref bv1)])) _
                refine X64.aaload hx (j := (6 : Int32)) (v := (.ref a_OTHER_USES)) (by rw [e64]; exact Ara5.1) (State.isArrayOf_alike hZ.alike Ara5.2.1) rfl Ara5.2.2 hin73 hat73 (g := (mkF mM 16 #[.val (.int dv), .val (.ref bv1), .val (.int (7 : Int32)), .val (.int (6 : Int32)), .val (.ref a_OTHER_RESOURCES)] [(.int (6 : Int32)), (.ref bv1)])) rfl rfl (hb hby d6_16) _ ?_
                show Steps pP.tables eE below (T64.setTop (mkF mM 17 #[.val (.int dv), .val (.ref bv1), .val (.int (7 : Int32)), .val (.int (6 : Int32)), .val (.ref a_OTHER_RESOURCES)] [(.ref a_OTHER_USES)])) _
                refine XS.astore X64.here hx rfl (hb hby d6_17) rfl rfl (l' := #[.val (.int dv), .val (.ref bv1), .val (.int (7 : Int32)), .val (.int (6 : Int32)), .val (.ref a_OTHER_USES)]) rfl ?_
                show Steps pP.tables eE below (T64.setTop (mkF mM 19 #[.val (.int dv), .val (.ref bv1), .val (.int (7 : Int32)), .val (.int (6 : Int32)), .val (.ref a_OTHER_USES)] [])) _
                refine XS.aload X64.here hx rfl (hb hby d6_19) rfl rfl ?_
                exact kg)
              obtain ⟨T75, X75, e75, st75⟩ := getF X64 hx hZ hown (host := "") (Or.inl (hw _ (List.mem_of_getElem? (i := 26) rfl))) Via.refl e64 (Fld.ext (c7).2 F_OTHER_USES_digit) (g := (mkF mM 21 #[.val (.int dv), .val (.ref bv1), .val (.int (7 : Int32)), .val (.int (6 : Int32)), .val (.ref a_OTHER_USES)] [(.ref a_OTHER_USES)])) rfl rfl (hb hby d6_21)
              have pr76 : ∀ tg, Steps pP.tables eE below (T75.setTop (mkF mM 24 #[.val (.int dv), .val (.ref bv1), .val (.int (7 : Int32)), .val (.int (6 : Int32)), .val (.ref a_OTHER_USES)] [(.int (56 : Int32))])) tg → Steps pP.tables eE below (s₁.setTop (entryFrame mM #[(.int dv)] 5)) tg := fun tg kg => pr74 _ (st75 _ kg)
              have pr78 : ∀ tg, Steps pP.tables eE below (T75.setTop (mkF mM 25 #[.val (.int dv), .val (.ref bv1), .val (.int (7 : Int32)), .val (.int (6 : Int32)), .val (.ref a_OTHER_USES)] [(.int dv), (.int (56 : Int32))])) tg → Steps pP.tables eE below (s₁.setTop (entryFrame mM #[(.int dv)] 5)) tg := fun tg kg => pr76 _ (by
                show Steps pP.tables eE below (T75.setTop (mkF mM 24 #[.val (.int dv), .val (.ref bv1), .val (.int (7 : Int32)), .val (.int (6 : Int32)), .val (.ref a_OTHER_USES)] [(.int (56 : Int32))])) _
                refine XS.iloadN X75.here hx rfl (hb hby d6_24) rfl ?_
                exact kg)
              by_cases hc25_77 : (56 : Int32) = dv
              ·
                have pr79 : ∀ tg, Steps pP.tables eE below (T75.setTop (mkF mM 30 #[.val (.int dv), .val (.ref bv1), .val (.int (7 : Int32)), .val (.int (6 : Int32)), .val (.ref a_OTHER_USES)] [(.ref a_OTHER_USES)])) tg → Steps pP.tables eE below (s₁.setTop (entryFrame mM #[(.int dv)] 5)) tg := fun tg kg => pr78 _ (by
                  show Steps pP.tables eE below (T75.setTop (mkF mM 25 #[.val (.int dv), .val (.ref bv1), .val (.int (7 : Int32)), .val (.int (6 : Int32)), .val (.ref a_OTHER_USES)] [(.int dv), (.int (56 : Int32))])) _
                  refine XS.icmpNo X75.here hx rfl (hb hby d6_25) rfl (teq hc25_77).2 ?_
                  show Steps pP.tables eE below (T75.setTop (mkF mM 28 #[.val (.int dv), .val (.ref bv1), .val (.int (7 : Int32)), .val (.int (6 : Int32)), .val (.ref a_OTHER_USES)] [])) _
                  refine XS.aload X75.here hx rfl (hb hby d6_28) rfl rfl ?_
                  exact kg)
                have c80 := (Nat.le_trans Z0 K1.1)
                obtain ⟨_, _, ⟨T81, L81, kk81, nn81⟩, -, X81, ⟨Lc81, hQ81, l81, y81, z81⟩, st81⟩ := Jvm.LawKit.callS X75 hx (y := (⟨"java/util/Optional", "of", "(Ljava/lang/Object;)Ljava/util/Optional;"⟩ : MethodName)) hown (mvT hZ (hw _ (List.mem_of_getElem? (i := 44) rfl))) (mvT hZ (hw _ (List.mem_of_getElem? (i := 45) rfl))) (mvT hZ (hw _ (List.mem_of_getElem? (i := 30) rfl))) (mvT hZ (hw _ (List.mem_of_getElem? (i := 46) rfl))) (by decide) (backOf (W := 0) (rm5 l Z a0 hw [] a_OTHER_USES T1.heap n0 c80) hZ (hw _ (List.mem_of_getElem? (i := 46) rfl)) (hw _ (List.mem_of_getElem? (i := 30) rfl)) (by decide) (by decide)) (g := (mkF mM 30 #[.val (.int dv), .val (.ref bv1), .val (.int (7 : Int32)), .val (.int (6 : Int32)), .val (.ref a_OTHER_USES)] [(.ref a_OTHER_USES)])) rfl (by rw [hml]; rfl) (argsL := [(.ref a_OTHER_USES)]) (rest := []) (lenOf pd_3 rfl) rfl (by show 2 * 0 + _ ≤ _; exact Nat.le_of_eq rfl) (hb hby d6_30) (fun _ _ => ⟨rfl, e75, (by decide : 1 + 1 ≤ _), (by decide : 7 + 1 ≤ _)⟩)
                dsimp only [Pt.U, Pt.locs, Pt.cells, Pt.slots] at X81 l81 y81 z81 st81 hQ81
                subst l81 y81 z81
                obtain ⟨bo81, rfl, Nq81, K81, E81, F81⟩ := hQ81
                have N81 := Fr.app N1 Nq81
                have pr82 : ∀ tg, Steps pP.tables eE below (T81.setTop (mkF mM 33 #[.val (.int dv), .val (.ref bv1), .val (.int (7 : Int32)), .val (.int (6 : Int32)), .val (.ref a_OTHER_USES)] [(.ref bo81)])) tg → Steps pP.tables eE below (s₁.setTop (entryFrame mM #[(.int dv)] 5)) tg := fun tg kg => pr79 _ (st81 _ kg)
                have c83 := (Keep.trans (Keep.trans (Keep.refl h0 []) K1 all0) K81 all0)
                obtain ⟨fs, hr, hrun, hended, hW, hsame⟩ := X81.leave (v := some (.ref bo81)) (fun h => by rw [Bd.returns] at h; cases h)
                refine ⟨_, _, pr82 _ (retOut X81 hx (t := (.object "java/util/Optional")) Bd.returns rfl (Or.inr (Or.inr (Or.inr (Or.inr ⟨rfl, rfl, rfl⟩)))) (hb hby d6_33) hr), hrun, hended, _, _, rfl, ?_, ⟨_, rfl⟩, hW, hsame.mono (by decide) (by decide)⟩
                show Q6 Z dv a_ASSETS a_LIABILITIES a_FUND_BALANCE a_REVENUES a_EXPENDITURES a_OTHER_RESOURCES a_OTHER_USES va kva em h0 n0 _ T81.heap _
                exact ⟨_, rfl, N81, c83, E81, Or.inr (Or.inr (Or.inr (Or.inr (Or.inr (Or.inr (Or.inl ⟨hc25_77, F81⟩))))))⟩
              ·
                have pr84 : ∀ tg, Steps pP.tables eE below (T75.setTop (mkF mM 40 #[.val (.int dv), .val (.ref bv1), .val (.int (7 : Int32)), .val (.int (7 : Int32)), .val (.ref a_OTHER_USES)] [])) tg → Steps pP.tables eE below (s₁.setTop (entryFrame mM #[(.int dv)] 5)) tg := fun tg kg => pr78 _ (by
                  show Steps pP.tables eE below (T75.setTop (mkF mM 25 #[.val (.int dv), .val (.ref bv1), .val (.int (7 : Int32)), .val (.int (6 : Int32)), .val (.ref a_OTHER_USES)] [(.int dv), (.int (56 : Int32))])) _
                  refine XS.icmpYes X75.here hx rfl (pc0 := 25) (pc' := 34) rfl (hb hby d6_25) rfl (feq hc25_77).2 (by decide) (by decide) ?_
                  show Steps pP.tables eE below (T75.setTop (mkF mM 34 #[.val (.int dv), .val (.ref bv1), .val (.int (7 : Int32)), .val (.int (6 : Int32)), .val (.ref a_OTHER_USES)] [])) _
                  refine XS.iinc X75.here hx rfl (hb hby d6_34) rfl (l' := #[.val (.int dv), .val (.ref bv1), .val (.int (7 : Int32)), .val (.int (7 : Int32)), .val (.ref a_OTHER_USES)]) rfl ?_
                  show Steps pP.tables eE below (T75.setTop (mkF mM 37 #[.val (.int dv), .val (.ref bv1), .val (.int (7 : Int32)), .val (.int (7 : Int32)), .val (.ref a_OTHER_USES)] [])) _
                  refine XS.goto X75.here hx rfl (pc0 := 37) (pc' := 9) rfl (hb hby d6_37) (by decide) (by decide) ?_
                  show Steps pP.tables eE below (T75.setTop (mkF mM 9 #[.val (.int dv), .val (.ref bv1), .val (.int (7 : Int32)), .val (.int (7 : Int32)), .val (.ref a_OTHER_USES)] [])) _
                  refine XS.iloadN X75.here hx rfl (hb hby d6_9) rfl ?_
                  show Steps pP.tables eE below (T75.setTop (mkF mM 10 #[.val (.int dv), .val (.ref bv1), .val (.int (7 : Int32)), .val (.int (7 : Int32)), .val (.ref a_OTHER_USES)] [(.int (7 : Int32))])) _
                  refine XS.iloadN X75.here hx rfl (hb hby d6_10) rfl ?_
                  show Steps pP.tables eE below (T75.setTop (mkF mM 11 #[.val (.int dv), .val (.ref bv1), .val (.int (7 : Int32)), .val (.int (7 : Int32)), .val (.ref a_OTHER_USES)] [(.int (7 : Int32)), (.int (7 : Int32))])) _
                  refine XS.icmpYes X75.here hx rfl (pc0 := 11) (pc' := 40) rfl (hb hby d6_11) rfl (flt (by decide)).2.1 (by decide) (by decide) ?_
                  exact kg)
                have c85 := (Nat.le_trans Z0 K1.1)
                obtain ⟨_, _, ⟨T86, L86, kk86, nn86⟩, -, X86, ⟨Lc86, hQ86, l86, y86, z86⟩, st86⟩ := Jvm.LawKit.callS X75 hx (y := (⟨"java/util/Optional", "empty", "()Ljava/util/Optional;"⟩ : MethodName)) hown (mvT hZ (hw _ (List.mem_of_getElem? (i := 28) rfl))) (mvT hZ (hw _ (List.mem_of_getElem? (i := 29) rfl))) (mvT hZ (hw _ (List.mem_of_getElem? (i := 30) rfl))) (mvT hZ (hw _ (List.mem_of_getElem? (i := 31) rfl))) (by decide) (backOf (W := 0) (rm2 l Z a0 hw [] a_ASSETS a_LIABILITIES a_FUND_BALANCE a_REVENUES a_EXPENDITURES a_OTHER_RESOURCES a_OTHER_USES va kva em T1.heap n0 c85 c7 S_ASSETS E_ASSETS S_LIABILITIES E_LIABILITIES S_FUND_BALANCE E_FUND_BALANCE S_REVENUES E_REVENUES S_EXPENDITURES E_EXPENDITURES S_OTHER_RESOURCES E_OTHER_RESOURCES S_OTHER_USES E_OTHER_USES F_ASSETS_digit F_LIABILITIES_digit F_FUND_BALANCE_digit F_REVENUES_digit F_EXPENDITURES_digit F_OTHER_RESOURCES_digit F_OTHER_USES_digit S_VALUES E_VALUES V_VALUES S_EMPTY E_EMPTY F_EMPTY) hZ (hw _ (List.mem_of_getElem? (i := 31) rfl)) (hw _ (List.mem_of_getElem? (i := 30) rfl)) (by decide) (by decide)) (g := (mkF mM 40 #[.val (.int dv), .val (.ref bv1), .val (.int (7 : Int32)), .val (.int (7 : Int32)), .val (.ref a_OTHER_USES)] [])) rfl (by rw [hml]; rfl) (argsL := []) (rest := []) (lenOf pd_4 rfl) rfl (by show 2 * 0 + _ ≤ _; exact Nat.le_of_eq rfl) (hb hby d6_40) (fun _ _ => ⟨rfl, e75, (by decide : 1 + 0 ≤ _), (by decide : 7 + 0 ≤ _)⟩)
                dsimp only [Pt.U, Pt.locs, Pt.cells, Pt.slots] at X86 l86 y86 z86 st86 hQ86
                subst l86 y86 z86
                obtain ⟨rfl, Nq86, e86⟩ := hQ86
                have N86 := Fr.app N1 Nq86
                have pr87 : ∀ tg, Steps pP.tables eE below (T86.setTop (mkF mM 43 #[.val (.int dv), .val (.ref bv1), .val (.int (7 : Int32)), .val (.int (7 : Int32)), .val (.ref a_OTHER_USES)] [(.ref em)])) tg → Steps pP.tables eE below (s₁.setTop (entryFrame mM #[(.int dv)] 5)) tg := fun tg kg => pr84 _ (st86 _ kg)
                have c88 := (Keep.trans (Keep.refl h0 []) K1 all0)
                obtain ⟨fs, hr, hrun, hended, hW, hsame⟩ := X86.leave (v := some (.ref em)) (fun h => by rw [Bd.returns] at h; cases h)
                refine ⟨_, _, pr87 _ (retOut X86 hx (t := (.object "java/util/Optional")) Bd.returns rfl (Or.inr (Or.inr (Or.inr (Or.inr ⟨rfl, rfl, rfl⟩)))) (hb hby d6_43) hr), hrun, hended, _, _, rfl, ?_, ⟨_, rfl⟩, hW, hsame.mono (by decide) (by decide)⟩
                show Q6 Z dv a_ASSETS a_LIABILITIES a_FUND_BALANCE a_REVENUES a_EXPENDITURES a_OTHER_RESOURCES a_OTHER_USES va kva em h0 n0 _ T86.heap _
                rw [e86]
                exact ⟨_, rfl, N86, c88, (Exa.ext (c7).2 E_EMPTY), Or.inr (Or.inr (Or.inr (Or.inr (Or.inr (Or.inr (Or.inr (⟨⟨hc25_11, hc25_22, hc25_33, hc25_44, hc25_55, hc25_66, hc25_77⟩, (Fld.ext (c7).2 F_EMPTY)⟩)))))))⟩
theorem d7_0 : decode jdk_32_method_15_code 0 = .ok (.aload_n 0, 1) := by decide +kernel
theorem d7_1 : decode jdk_32_method_15_code 1 = .ok (.getfield 13, 3) := by decide +kernel
theorem d7_4 : decode jdk_32_method_15_code 4 = .ok (.ifnull 10, 3) := by decide +kernel
theorem d7_7 : decode jdk_32_method_15_code 7 = .ok (.aload_n 0, 1) := by decide +kernel
theorem d7_8 : decode jdk_32_method_15_code 8 = .ok (.getfield 13, 3) := by decide +kernel
theorem d7_11 : decode jdk_32_method_15_code 11 = .ok (.goto 4, 3) := by decide +kernel
theorem d7_15 : decode jdk_32_method_15_code 15 = .ok (.areturn, 1) := by decide +kernel
theorem ef_7 (mM : MethodId) (x0 : Addr) : entryFrame mM #[(.ref x0), .null] 2 = mkF mM 0 #[.val (.ref x0), .val .null] [] := by first | (simp [entryFrame, mkF, argsToLocals, Value.category]; done) | rfl
def Q7 (Z : State) (b : Addr) (x : Addr) (h0 : Heap) (n0 : Nat) (v : Option Value) (h : Heap) (L : List Loc) : Prop := v = some (.ref x) ∧ Fr n0 L ∧ h = h0
set_option maxRecDepth 65536 in
set_option maxHeartbeats 40000000 in
theorem rm7 (l : Launch) (Z : State) (a0 : Array Value) (hw : ∀ d ∈ tables_1, d.before a0 Z = true) (ws : List Jvm.Cond) (b : Addr) (x : Addr) (h0 : Heap) (n0 : Nat) (Z0 : n0 ≤ h0.size) (E_b : Exa Z h0 b "java/util/Optional") (F_b : Fld Z h0 b "java/util/Optional" "value" "Ljava/lang/Object;" (.ref x)) :
    MetFree l (⟨"java/util/Optional", "orElse", "(Ljava/lang/Object;)Ljava/lang/Object;"⟩ : MethodName) (head1 (Jvm.Cond.code (⟨"java/util/Optional", "orElse", "(Ljava/lang/Object;)Ljava/lang/Object;"⟩ : MethodName) jdk_32_method_15_code 2 (some (.object "java/lang/Object")) :: ws) ({ frames := 0, cells := 0, slots := 0, locals := 0 } : Room)) (fun aA uU => aA = #[(.ref b), .null] ∧ Z.Warmed39 uU.vm ∧ uU.heap = h0) (fun _ _ _ _ _ => True) (fun _ uU oO uU' => ∃ vV lL, oO = .returned vV ∧ Q7 Z b x h0 n0 vV uU'.heap lL ∧ FrameEnd uU oO uU' lL ({ frames := 0, cells := 0, slots := 0, locals := 0 } : Room).cells ({ frames := 0, cells := 0, slots := 0, locals := 0 } : Room).slots) := by
  refine MetFree.of_bodySF (plainFor_of_name pn_1) hisR ?_
  intro pP eE sS mM args below meth cC s₁ Bd hml0 hP hK
  obtain ⟨rfl, hZ, hh⟩ := hP
  have hx := Bd.exec
  have hby := Bd.bytes
  have hml : cC.maxLocals = 2 := hml0
  have hown : sS.vm.findClass "java/util/Optional" = some mM.cls := findClass_of_methodNamed Bd.named
  have hnm := (name_of_methodNamed Bd.named Bd.method).1
  have X0 : Stand pP l eE ({ frames := 0, cells := 0, slots := 0, locals := 0 } : Room) sS mM #[(.ref b), .null] below meth cC s₁ [] 0 0 := Stand.of_body Bd
  have e0 : s₁.heap = h0 := by rw [← hh, Bd.state]; rfl
  have N0 := Fr.nil n0
  have pre0 : ∀ tg, Steps pP.tables eE below (s₁.setTop (mkF mM 0 #[.val (.ref b), .val .null] [])) tg → Steps pP.tables eE below (s₁.setTop (entryFrame mM #[(.ref b), .null] 2)) tg := fun tg kg => castTop (ef_7 mM b) kg
  have pr1 : ∀ tg, Steps pP.tables eE below (s₁.setTop (mkF mM 1 #[.val (.ref b), .val .null] [(.ref b)])) tg → Steps pP.tables eE below (s₁.setTop (entryFrame mM #[(.ref b), .null] 2)) tg := fun tg kg => pre0 _ (by
    show Steps pP.tables eE below (s₁.setTop (mkF mM 0 #[.val (.ref b), .val .null] [])) _
    refine XS.aloadN X0.here hx rfl (hb hby d7_0) rfl rfl ?_
    exact kg)
  obtain ⟨T2, X2, e2, st2⟩ := getF X0 hx hZ hown (host := "") (Or.inl (hw _ (List.mem_of_getElem? (i := 38) rfl))) Via.refl e0 F_b (g := (mkF mM 1 #[.val (.ref b), .val .null] [(.ref b)])) rfl rfl (hb hby d7_1)
  have pr3 : ∀ tg, Steps pP.tables eE below (T2.setTop (mkF mM 4 #[.val (.ref b), .val .null] [(.ref x)])) tg → Steps pP.tables eE below (s₁.setTop (entryFrame mM #[(.ref b), .null] 2)) tg := fun tg kg => pr1 _ (st2 _ kg)
  have pr4 : ∀ tg, Steps pP.tables eE below (T2.setTop (mkF mM 8 #[.val (.ref b), .val .null] [(.ref b)])) tg → Steps pP.tables eE below (s₁.setTop (entryFrame mM #[(.ref b), .null] 2)) tg := fun tg kg => pr3 _ (by
    show Steps pP.tables eE below (T2.setTop (mkF mM 4 #[.val (.ref b), .val .null] [(.ref x)])) _
    refine XS.ifnullNo X2.here hx rfl (hb hby d7_4) rfl ?_
    show Steps pP.tables eE below (T2.setTop (mkF mM 7 #[.val (.ref b), .val .null] [])) _
    refine XS.aloadN X2.here hx rfl (hb hby d7_7) rfl rfl ?_
    exact kg)
  obtain ⟨T5, X5, e5, st5⟩ := getF X2 hx hZ hown (host := "") (Or.inl (hw _ (List.mem_of_getElem? (i := 38) rfl))) Via.refl e2 F_b (g := (mkF mM 8 #[.val (.ref b), .val .null] [(.ref b)])) rfl rfl (hb hby d7_8)
  have pr6 : ∀ tg, Steps pP.tables eE below (T5.setTop (mkF mM 11 #[.val (.ref b), .val .null] [(.ref x)])) tg → Steps pP.tables eE below (s₁.setTop (entryFrame mM #[(.ref b), .null] 2)) tg := fun tg kg => pr4 _ (st5 _ kg)
  have pr7 : ∀ tg, Steps pP.tables eE below (T5.setTop (mkF mM 15 #[.val (.ref b), .val .null] [(.ref x)])) tg → Steps pP.tables eE below (s₁.setTop (entryFrame mM #[(.ref b), .null] 2)) tg := fun tg kg => pr6 _ (by
    show Steps pP.tables eE below (T5.setTop (mkF mM 11 #[.val (.ref b), .val .null] [(.ref x)])) _
    refine XS.goto X5.here hx rfl (pc0 := 11) (pc' := 15) rfl (hb hby d7_11) (by decide) (by decide) ?_
    exact kg)
  obtain ⟨fs, hr, hrun, hended, hW, hsame⟩ := X5.leave (v := some (.ref x)) (fun h => by rw [Bd.returns] at h; cases h)
  refine ⟨_, _, pr7 _ (retOut X5 hx (t := (.object "java/lang/Object")) Bd.returns rfl (Or.inr (Or.inr (Or.inr (Or.inr ⟨rfl, rfl, rfl⟩)))) (hb hby d7_15) hr), hrun, hended, _, _, rfl, ?_, ⟨_, rfl⟩, hW, hsame.mono (by decide) (by decide)⟩
  show Q7 Z b x h0 n0 _ T5.heap _
  rw [e5]
  exact ⟨rfl, N0, rfl⟩
theorem d8_0 : decode jdk_32_method_15_code 0 = .ok (.aload_n 0, 1) := by decide +kernel
theorem d8_1 : decode jdk_32_method_15_code 1 = .ok (.getfield 13, 3) := by decide +kernel
theorem d8_4 : decode jdk_32_method_15_code 4 = .ok (.ifnull 10, 3) := by decide +kernel
theorem d8_14 : decode jdk_32_method_15_code 14 = .ok (.aload_n 1, 1) := by decide +kernel
theorem d8_15 : decode jdk_32_method_15_code 15 = .ok (.areturn, 1) := by decide +kernel
theorem ef_8 (mM : MethodId) (x0 : Addr) : entryFrame mM #[(.ref x0), .null] 2 = mkF mM 0 #[.val (.ref x0), .val .null] [] := by first | (simp [entryFrame, mkF, argsToLocals, Value.category]; done) | rfl
def Q8 (Z : State) (b : Addr) (h0 : Heap) (n0 : Nat) (v : Option Value) (h : Heap) (L : List Loc) : Prop := v = some .null ∧ Fr n0 L ∧ h = h0
set_option maxRecDepth 65536 in
set_option maxHeartbeats 40000000 in
theorem rm8 (l : Launch) (Z : State) (a0 : Array Value) (hw : ∀ d ∈ tables_1, d.before a0 Z = true) (ws : List Jvm.Cond) (b : Addr) (h0 : Heap) (n0 : Nat) (Z0 : n0 ≤ h0.size) (E_b : Exa Z h0 b "java/util/Optional") (F_b : Fld Z h0 b "java/util/Optional" "value" "Ljava/lang/Object;" .null) :
    MetFree l (⟨"java/util/Optional", "orElse", "(Ljava/lang/Object;)Ljava/lang/Object;"⟩ : MethodName) (head1 (Jvm.Cond.code (⟨"java/util/Optional", "orElse", "(Ljava/lang/Object;)Ljava/lang/Object;"⟩ : MethodName) jdk_32_method_15_code 2 (some (.object "java/lang/Object")) :: ws) ({ frames := 0, cells := 0, slots := 0, locals := 0 } : Room)) (fun aA uU => aA = #[(.ref b), .null] ∧ Z.Warmed39 uU.vm ∧ uU.heap = h0) (fun _ _ _ _ _ => True) (fun _ uU oO uU' => ∃ vV lL, oO = .returned vV ∧ Q8 Z b h0 n0 vV uU'.heap lL ∧ FrameEnd uU oO uU' lL ({ frames := 0, cells := 0, slots := 0, locals := 0 } : Room).cells ({ frames := 0, cells := 0, slots := 0, locals := 0 } : Room).slots) := by
  refine MetFree.of_bodySF (plainFor_of_name pn_1) hisR ?_
  intro pP eE sS mM args below meth cC s₁ Bd hml0 hP hK
  obtain ⟨rfl, hZ, hh⟩ := hP
  have hx := Bd.exec
  have hby := Bd.bytes
  have hml : cC.maxLocals = 2 := hml0
  have hown : sS.vm.findClass "java/util/Optional" = some mM.cls := findClass_of_methodNamed Bd.named
  have hnm := (name_of_methodNamed Bd.named Bd.method).1
  have X0 : Stand pP l eE ({ frames := 0, cells := 0, slots := 0, locals := 0 } : Room) sS mM #[(.ref b), .null] below meth cC s₁ [] 0 0 := Stand.of_body Bd
  have e0 : s₁.heap = h0 := by rw [← hh, Bd.state]; rfl
  have N0 := Fr.nil n0
  have pre0 : ∀ tg, Steps pP.tables eE below (s₁.setTop (mkF mM 0 #[.val (.ref b), .val .null] [])) tg → Steps pP.tables eE below (s₁.setTop (entryFrame mM #[(.ref b), .null] 2)) tg := fun tg kg => castTop (ef_8 mM b) kg
  have pr1 : ∀ tg, Steps pP.tables eE below (s₁.setTop (mkF mM 1 #[.val (.ref b), .val .null] [(.ref b)])) tg → Steps pP.tables eE below (s₁.setTop (entryFrame mM #[(.ref b), .null] 2)) tg := fun tg kg => pre0 _ (by
    show Steps pP.tables eE below (s₁.setTop (mkF mM 0 #[.val (.ref b), .val .null] [])) _
    refine XS.aloadN X0.here hx rfl (hb hby d8_0) rfl rfl ?_
    exact kg)
  obtain ⟨T2, X2, e2, st2⟩ := getF X0 hx hZ hown (host := "") (Or.inl (hw _ (List.mem_of_getElem? (i := 38) rfl))) Via.refl e0 F_b (g := (mkF mM 1 #[.val (.ref b), .val .null] [(.ref b)])) rfl rfl (hb hby d8_1)
  have pr3 : ∀ tg, Steps pP.tables eE below (T2.setTop (mkF mM 4 #[.val (.ref b), .val .null] [.null])) tg → Steps pP.tables eE below (s₁.setTop (entryFrame mM #[(.ref b), .null] 2)) tg := fun tg kg => pr1 _ (st2 _ kg)
  have pr4 : ∀ tg, Steps pP.tables eE below (T2.setTop (mkF mM 15 #[.val (.ref b), .val .null] [.null])) tg → Steps pP.tables eE below (s₁.setTop (entryFrame mM #[(.ref b), .null] 2)) tg := fun tg kg => pr3 _ (by
    show Steps pP.tables eE below (T2.setTop (mkF mM 4 #[.val (.ref b), .val .null] [.null])) _
    refine XS.ifnullYes X2.here hx rfl (pc0 := 4) (pc' := 14) rfl (hb hby d8_4) rfl (by decide) (by decide) ?_
    show Steps pP.tables eE below (T2.setTop (mkF mM 14 #[.val (.ref b), .val .null] [])) _
    refine XS.aloadN X2.here hx rfl (hb hby d8_14) rfl rfl ?_
    exact kg)
  obtain ⟨fs, hr, hrun, hended, hW, hsame⟩ := X2.leave (v := some .null) (fun h => by rw [Bd.returns] at h; cases h)
  refine ⟨_, _, pr4 _ (retOut X2 hx (t := (.object "java/lang/Object")) Bd.returns rfl (Or.inr (Or.inr (Or.inr (Or.inr ⟨rfl, rfl, rfl⟩)))) (hb hby d8_15) hr), hrun, hended, _, _, rfl, ?_, ⟨_, rfl⟩, hW, hsame.mono (by decide) (by decide)⟩
  show Q8 Z b h0 n0 _ T2.heap _
  rw [e2]
  exact ⟨rfl, N0, rfl⟩
theorem d90_0 : decode method_3_code 0 = .ok (.iload_n 0, 1) := by decide +kernel
theorem d90_1 : decode method_3_code 1 = .ok (.bipush 49, 2) := by decide +kernel
theorem d90_3 : decode method_3_code 3 = .ok (.if_icmp .ne 7, 3) := by decide +kernel
theorem d90_6 : decode method_3_code 6 = .ok (.getstatic 25, 3) := by decide +kernel
theorem d90_9 : decode method_3_code 9 = .ok (.areturn, 1) := by decide +kernel
theorem pn_3 : plainName "com/example/ledgerhall/ledgerhall/AccountClassOfDigitPinLaw" = true := by first | (simp [plainName, overriddenIn]; done) | decide +kernel
theorem ef_90 (mM : MethodId) (x0 : Int32) : entryFrame mM #[(.int x0)] 1 = mkF mM 0 #[.val (.int x0)] [] := by first | (simp [entryFrame, mkF, argsToLocals, Value.category]; done) | rfl
def Q90 (Z : State) (a_ASSETS : Addr) (a_LIABILITIES : Addr) (a_FUND_BALANCE : Addr) (a_REVENUES : Addr) (a_EXPENDITURES : Addr) (a_OTHER_RESOURCES : Addr) (a_OTHER_USES : Addr) (va : Addr) (kva : ClassId) (em : Addr) (h0 : Heap) (n0 : Nat) (v : Option Value) (h : Heap) (L : List Loc) : Prop := v = some (.ref a_ASSETS) ∧ Fr n0 L ∧ h = h0
set_option maxRecDepth 65536 in
set_option maxHeartbeats 40000000 in
theorem rm90 (l : Launch) (Z : State) (a0 : Array Value) (hw : ∀ d ∈ tables_1, d.before a0 Z = true) (ws : List Jvm.Cond) (a_ASSETS : Addr) (a_LIABILITIES : Addr) (a_FUND_BALANCE : Addr) (a_REVENUES : Addr) (a_EXPENDITURES : Addr) (a_OTHER_RESOURCES : Addr) (a_OTHER_USES : Addr) (va : Addr) (kva : ClassId) (em : Addr) (h0 : Heap) (n0 : Nat) (Z0 : n0 ≤ h0.size) (O : Old Z n0 h0) (S_ASSETS : Sta Z Z.heap "com/example/ledgerhall/ledgerhall/AccountClass" "ASSETS" "Lcom/example/ledgerhall/ledgerhall/AccountClass;" (.ref a_ASSETS)) (E_ASSETS : Exa Z Z.heap a_ASSETS "com/example/ledgerhall/ledgerhall/AccountClass") (S_LIABILITIES : Sta Z Z.heap "com/example/ledgerhall/ledgerhall/AccountClass" "LIABILITIES" "Lcom/example/ledgerhall/ledgerhall/AccountClass;" (.ref a_LIABILITIES)) (E_LIABILITIES : Exa Z Z.heap a_LIABILITIES "com/example/ledgerhall/ledgerhall/AccountClass") (S_FUND_BALANCE : Sta Z Z.heap "com/example/ledgerhall/ledgerhall/AccountClass" "FUND_BALANCE" "Lcom/example/ledgerhall/ledgerhall/AccountClass;" (.ref a_FUND_BALANCE)) (E_FUND_BALANCE : Exa Z Z.heap a_FUND_BALANCE "com/example/ledgerhall/ledgerhall/AccountClass") (S_REVENUES : Sta Z Z.heap "com/example/ledgerhall/ledgerhall/AccountClass" "REVENUES" "Lcom/example/ledgerhall/ledgerhall/AccountClass;" (.ref a_REVENUES)) (E_REVENUES : Exa Z Z.heap a_REVENUES "com/example/ledgerhall/ledgerhall/AccountClass") (S_EXPENDITURES : Sta Z Z.heap "com/example/ledgerhall/ledgerhall/AccountClass" "EXPENDITURES" "Lcom/example/ledgerhall/ledgerhall/AccountClass;" (.ref a_EXPENDITURES)) (E_EXPENDITURES : Exa Z Z.heap a_EXPENDITURES "com/example/ledgerhall/ledgerhall/AccountClass") (S_OTHER_RESOURCES : Sta Z Z.heap "com/example/ledgerhall/ledgerhall/AccountClass" "OTHER_RESOURCES" "Lcom/example/ledgerhall/ledgerhall/AccountClass;" (.ref a_OTHER_RESOURCES)) (E_OTHER_RESOURCES : Exa Z Z.heap a_OTHER_RESOURCES "com/example/ledgerhall/ledgerhall/AccountClass") (S_OTHER_USES : Sta Z Z.heap "com/example/ledgerhall/ledgerhall/AccountClass" "OTHER_USES" "Lcom/example/ledgerhall/ledgerhall/AccountClass;" (.ref a_OTHER_USES)) (E_OTHER_USES : Exa Z Z.heap a_OTHER_USES "com/example/ledgerhall/ledgerhall/AccountClass") (F_ASSETS_digit : Fld Z Z.heap a_ASSETS "com/example/ledgerhall/ledgerhall/AccountClass" "digit" "C" (.int (49 : Int32))) (F_LIABILITIES_digit : Fld Z Z.heap a_LIABILITIES "com/example/ledgerhall/ledgerhall/AccountClass" "digit" "C" (.int (50 : Int32))) (F_FUND_BALANCE_digit : Fld Z Z.heap a_FUND_BALANCE "com/example/ledgerhall/ledgerhall/AccountClass" "digit" "C" (.int (51 : Int32))) (F_REVENUES_digit : Fld Z Z.heap a_REVENUES "com/example/ledgerhall/ledgerhall/AccountClass" "digit" "C" (.int (53 : Int32))) (F_EXPENDITURES_digit : Fld Z Z.heap a_EXPENDITURES "com/example/ledgerhall/ledgerhall/AccountClass" "digit" "C" (.int (54 : Int32))) (F_OTHER_RESOURCES_digit : Fld Z Z.heap a_OTHER_RESOURCES "com/example/ledgerhall/ledgerhall/AccountClass" "digit" "C" (.int (55 : Int32))) (F_OTHER_USES_digit : Fld Z Z.heap a_OTHER_USES "com/example/ledgerhall/ledgerhall/AccountClass" "digit" "C" (.int (56 : Int32))) (S_VALUES : Sta Z Z.heap "com/example/ledgerhall/ledgerhall/AccountClass" "$VALUES" "[Lcom/example/ledgerhall/ledgerhall/AccountClass;" (.ref va)) (E_VALUES : Exa Z Z.heap va "[Lcom/example/ledgerhall/ledgerhall/AccountClass;") (V_VALUES : Arv Z Z.heap va kva (.object "com/example/ledgerhall/ledgerhall/AccountClass") (7 : Int32) [(.ref a_ASSETS), (.ref a_LIABILITIES), (.ref a_FUND_BALANCE), (.ref a_REVENUES), (.ref a_EXPENDITURES), (.ref a_OTHER_RESOURCES), (.ref a_OTHER_USES)] .null) (S_EMPTY : Sta Z Z.heap "java/util/Optional" "EMPTY" "Ljava/util/Optional;" (.ref em)) (E_EMPTY : Exa Z Z.heap em "java/util/Optional") (F_EMPTY : Fld Z Z.heap em "java/util/Optional" "value" "Ljava/lang/Object;" .null) :
    MetFree l (⟨"com/example/ledgerhall/ledgerhall/AccountClassOfDigitPinLaw", "expected", "(C)Lcom/example/ledgerhall/ledgerhall/AccountClass;"⟩ : MethodName) (head1 (Jvm.Cond.code (⟨"com/example/ledgerhall/ledgerhall/AccountClassOfDigitPinLaw", "expected", "(C)Lcom/example/ledgerhall/ledgerhall/AccountClass;"⟩ : MethodName) method_3_code 1 (some (.object "com/example/ledgerhall/ledgerhall/AccountClass")) :: ws) ({ frames := 0, cells := 0, slots := 0, locals := 0 } : Room)) (fun aA uU => aA = #[(.int (49 : Int32))] ∧ Z.Warmed39 uU.vm ∧ uU.heap = h0) (fun _ _ _ _ _ => True) (fun _ uU oO uU' => ∃ vV lL, oO = .returned vV ∧ Q90 Z a_ASSETS a_LIABILITIES a_FUND_BALANCE a_REVENUES a_EXPENDITURES a_OTHER_RESOURCES a_OTHER_USES va kva em h0 n0 vV uU'.heap lL ∧ FrameEnd uU oO uU' lL ({ frames := 0, cells := 0, slots := 0, locals := 0 } : Room).cells ({ frames := 0, cells := 0, slots := 0, locals := 0 } : Room).slots) := by
  refine MetFree.of_bodySF (plainFor_of_name pn_3) hisR ?_
  intro pP eE sS mM args below meth cC s₁ Bd hml0 hP hK
  obtain ⟨rfl, hZ, hh⟩ := hP
  have hx := Bd.exec
  have hby := Bd.bytes
  have hml : cC.maxLocals = 1 := hml0
  have hown : sS.vm.findClass "com/example/ledgerhall/ledgerhall/AccountClassOfDigitPinLaw" = some mM.cls := findClass_of_methodNamed Bd.named
  have hnm := (name_of_methodNamed Bd.named Bd.method).1
  have X0 : Stand pP l eE ({ frames := 0, cells := 0, slots := 0, locals := 0 } : Room) sS mM #[(.int (49 : Int32))] below meth cC s₁ [] 0 0 := Stand.of_body Bd
  have e0 : s₁.heap = h0 := by rw [← hh, Bd.state]; rfl
  have N0 := Fr.nil n0
  have pre0 : ∀ tg, Steps pP.tables eE below (s₁.setTop (mkF mM 0 #[.val (.int (49 : Int32))] [])) tg → Steps pP.tables eE below (s₁.setTop (entryFrame mM #[(.int (49 : Int32))] 1)) tg := fun tg kg => castTop (ef_90 mM (49 : Int32)) kg
  have pr1 : ∀ tg, Steps pP.tables eE below (s₁.setTop (mkF mM 6 #[.val (.int (49 : Int32))] [])) tg → Steps pP.tables eE below (s₁.setTop (entryFrame mM #[(.int (49 : Int32))] 1)) tg := fun tg kg => pre0 _ (by
    show Steps pP.tables eE below (s₁.setTop (mkF mM 0 #[.val (.int (49 : Int32))] [])) _
    refine XS.iloadN X0.here hx rfl (hb hby d90_0) rfl ?_
    show Steps pP.tables eE below (s₁.setTop (mkF mM 1 #[.val (.int (49 : Int32))] [(.int (49 : Int32))])) _
    refine XS.bipush X0.here hx rfl (hb hby d90_1) ?_
    show Steps pP.tables eE below (s₁.setTop (mkF mM 3 #[.val (.int (49 : Int32))] [(.int (49 : Int32)), (.int (49 : Int32))])) _
    refine XS.icmpNo X0.here hx rfl (hb hby d90_3) rfl (teq (by decide)).2 ?_
    exact kg)
  obtain ⟨T2, X2, e2, st2⟩ := getS2 X0 hx hZ hown (host := "") (Or.inl (hw _ (List.mem_of_getElem? (i := 65) rfl))) Via.refl e0 (Sta.ext (O).2 S_ASSETS) (g := (mkF mM 6 #[.val (.int (49 : Int32))] [])) rfl (hb hby d90_6)
  have pr3 : ∀ tg, Steps pP.tables eE below (T2.setTop (mkF mM 9 #[.val (.int (49 : Int32))] [(.ref a_ASSETS)])) tg → Steps pP.tables eE below (s₁.setTop (entryFrame mM #[(.int (49 : Int32))] 1)) tg := fun tg kg => pr1 _ (st2 _ kg)
  obtain ⟨fs, hr, hrun, hended, hW, hsame⟩ := X2.leave (v := some (.ref a_ASSETS)) (fun h => by rw [Bd.returns] at h; cases h)
  refine ⟨_, _, pr3 _ (retOut X2 hx (t := (.object "com/example/ledgerhall/ledgerhall/AccountClass")) Bd.returns rfl (Or.inr (Or.inr (Or.inr (Or.inr ⟨rfl, rfl, rfl⟩)))) (hb hby d90_9) hr), hrun, hended, _, _, rfl, ?_, ⟨_, rfl⟩, hW, hsame.mono (by decide) (by decide)⟩
  show Q90 Z a_ASSETS a_LIABILITIES a_FUND_BALANCE a_REVENUES a_EXPENDITURES a_OTHER_RESOURCES a_OTHER_USES va kva em h0 n0 _ T2.heap _
  rw [e2]
  exact ⟨rfl, N0, rfl⟩
theorem d91_0 : decode method_3_code 0 = .ok (.iload_n 0, 1) := by decide +kernel
theorem d91_1 : decode method_3_code 1 = .ok (.bipush 49, 2) := by decide +kernel
theorem d91_3 : decode method_3_code 3 = .ok (.if_icmp .ne 7, 3) := by decide +kernel
theorem d91_10 : decode method_3_code 10 = .ok (.iload_n 0, 1) := by decide +kernel
theorem d91_11 : decode method_3_code 11 = .ok (.bipush 50, 2) := by decide +kernel
theorem d91_13 : decode method_3_code 13 = .ok (.if_icmp .ne 7, 3) := by decide +kernel
theorem d91_16 : decode method_3_code 16 = .ok (.getstatic 29, 3) := by decide +kernel
theorem d91_19 : decode method_3_code 19 = .ok (.areturn, 1) := by decide +kernel
theorem ef_91 (mM : MethodId) (x0 : Int32) : entryFrame mM #[(.int x0)] 1 = mkF mM 0 #[.val (.int x0)] [] := by first | (simp [entryFrame, mkF, argsToLocals, Value.category]; done) | rfl
def Q91 (Z : State) (a_ASSETS : Addr) (a_LIABILITIES : Addr) (a_FUND_BALANCE : Addr) (a_REVENUES : Addr) (a_EXPENDITURES : Addr) (a_OTHER_RESOURCES : Addr) (a_OTHER_USES : Addr) (va : Addr) (kva : ClassId) (em : Addr) (h0 : Heap) (n0 : Nat) (v : Option Value) (h : Heap) (L : List Loc) : Prop := v = some (.ref a_LIABILITIES) ∧ Fr n0 L ∧ h = h0
set_option maxRecDepth 65536 in
set_option maxHeartbeats 40000000 in
theorem rm91 (l : Launch) (Z : State) (a0 : Array Value) (hw : ∀ d ∈ tables_1, d.before a0 Z = true) (ws : List Jvm.Cond) (a_ASSETS : Addr) (a_LIABILITIES : Addr) (a_FUND_BALANCE : Addr) (a_REVENUES : Addr) (a_EXPENDITURES : Addr) (a_OTHER_RESOURCES : Addr) (a_OTHER_USES : Addr) (va : Addr) (kva : ClassId) (em : Addr) (h0 : Heap) (n0 : Nat) (Z0 : n0 ≤ h0.size) (O : Old Z n0 h0) (S_ASSETS : Sta Z Z.heap "com/example/ledgerhall/ledgerhall/AccountClass" "ASSETS" "Lcom/example/ledgerhall/ledgerhall/AccountClass;" (.ref a_ASSETS)) (E_ASSETS : Exa Z Z.heap a_ASSETS "com/example/ledgerhall/ledgerhall/AccountClass") (S_LIABILITIES : Sta Z Z.heap "com/example/ledgerhall/ledgerhall/AccountClass" "LIABILITIES" "Lcom/example/ledgerhall/ledgerhall/AccountClass;" (.ref a_LIABILITIES)) (E_LIABILITIES : Exa Z Z.heap a_LIABILITIES "com/example/ledgerhall/ledgerhall/AccountClass") (S_FUND_BALANCE : Sta Z Z.heap "com/example/ledgerhall/ledgerhall/AccountClass" "FUND_BALANCE" "Lcom/example/ledgerhall/ledgerhall/AccountClass;" (.ref a_FUND_BALANCE)) (E_FUND_BALANCE : Exa Z Z.heap a_FUND_BALANCE "com/example/ledgerhall/ledgerhall/AccountClass") (S_REVENUES : Sta Z Z.heap "com/example/ledgerhall/ledgerhall/AccountClass" "REVENUES" "Lcom/example/ledgerhall/ledgerhall/AccountClass;" (.ref a_REVENUES)) (E_REVENUES : Exa Z Z.heap a_REVENUES "com/example/ledgerhall/ledgerhall/AccountClass") (S_EXPENDITURES : Sta Z Z.heap "com/example/ledgerhall/ledgerhall/AccountClass" "EXPENDITURES" "Lcom/example/ledgerhall/ledgerhall/AccountClass;" (.ref a_EXPENDITURES)) (E_EXPENDITURES : Exa Z Z.heap a_EXPENDITURES "com/example/ledgerhall/ledgerhall/AccountClass") (S_OTHER_RESOURCES : Sta Z Z.heap "com/example/ledgerhall/ledgerhall/AccountClass" "OTHER_RESOURCES" "Lcom/example/ledgerhall/ledgerhall/AccountClass;" (.ref a_OTHER_RESOURCES)) (E_OTHER_RESOURCES : Exa Z Z.heap a_OTHER_RESOURCES "com/example/ledgerhall/ledgerhall/AccountClass") (S_OTHER_USES : Sta Z Z.heap "com/example/ledgerhall/ledgerhall/AccountClass" "OTHER_USES" "Lcom/example/ledgerhall/ledgerhall/AccountClass;" (.ref a_OTHER_USES)) (E_OTHER_USES : Exa Z Z.heap a_OTHER_USES "com/example/ledgerhall/ledgerhall/AccountClass") (F_ASSETS_digit : Fld Z Z.heap a_ASSETS "com/example/ledgerhall/ledgerhall/AccountClass" "digit" "C" (.int (49 : Int32))) (F_LIABILITIES_digit : Fld Z Z.heap a_LIABILITIES "com/example/ledgerhall/ledgerhall/AccountClass" "digit" "C" (.int (50 : Int32))) (F_FUND_BALANCE_digit : Fld Z Z.heap a_FUND_BALANCE "com/example/ledgerhall/ledgerhall/AccountClass" "digit" "C" (.int (51 : Int32))) (F_REVENUES_digit : Fld Z Z.heap a_REVENUES "com/example/ledgerhall/ledgerhall/AccountClass" "digit" "C" (.int (53 : Int32))) (F_EXPENDITURES_digit : Fld Z Z.heap a_EXPENDITURES "com/example/ledgerhall/ledgerhall/AccountClass" "digit" "C" (.int (54 : Int32))) (F_OTHER_RESOURCES_digit : Fld Z Z.heap a_OTHER_RESOURCES "com/example/ledgerhall/ledgerhall/AccountClass" "digit" "C" (.int (55 : Int32))) (F_OTHER_USES_digit : Fld Z Z.heap a_OTHER_USES "com/example/ledgerhall/ledgerhall/AccountClass" "digit" "C" (.int (56 : Int32))) (S_VALUES : Sta Z Z.heap "com/example/ledgerhall/ledgerhall/AccountClass" "$VALUES" "[Lcom/example/ledgerhall/ledgerhall/AccountClass;" (.ref va)) (E_VALUES : Exa Z Z.heap va "[Lcom/example/ledgerhall/ledgerhall/AccountClass;") (V_VALUES : Arv Z Z.heap va kva (.object "com/example/ledgerhall/ledgerhall/AccountClass") (7 : Int32) [(.ref a_ASSETS), (.ref a_LIABILITIES), (.ref a_FUND_BALANCE), (.ref a_REVENUES), (.ref a_EXPENDITURES), (.ref a_OTHER_RESOURCES), (.ref a_OTHER_USES)] .null) (S_EMPTY : Sta Z Z.heap "java/util/Optional" "EMPTY" "Ljava/util/Optional;" (.ref em)) (E_EMPTY : Exa Z Z.heap em "java/util/Optional") (F_EMPTY : Fld Z Z.heap em "java/util/Optional" "value" "Ljava/lang/Object;" .null) :
    MetFree l (⟨"com/example/ledgerhall/ledgerhall/AccountClassOfDigitPinLaw", "expected", "(C)Lcom/example/ledgerhall/ledgerhall/AccountClass;"⟩ : MethodName) (head1 (Jvm.Cond.code (⟨"com/example/ledgerhall/ledgerhall/AccountClassOfDigitPinLaw", "expected", "(C)Lcom/example/ledgerhall/ledgerhall/AccountClass;"⟩ : MethodName) method_3_code 1 (some (.object "com/example/ledgerhall/ledgerhall/AccountClass")) :: ws) ({ frames := 0, cells := 0, slots := 0, locals := 0 } : Room)) (fun aA uU => aA = #[(.int (50 : Int32))] ∧ Z.Warmed39 uU.vm ∧ uU.heap = h0) (fun _ _ _ _ _ => True) (fun _ uU oO uU' => ∃ vV lL, oO = .returned vV ∧ Q91 Z a_ASSETS a_LIABILITIES a_FUND_BALANCE a_REVENUES a_EXPENDITURES a_OTHER_RESOURCES a_OTHER_USES va kva em h0 n0 vV uU'.heap lL ∧ FrameEnd uU oO uU' lL ({ frames := 0, cells := 0, slots := 0, locals := 0 } : Room).cells ({ frames := 0, cells := 0, slots := 0, locals := 0 } : Room).slots) := by
  refine MetFree.of_bodySF (plainFor_of_name pn_3) hisR ?_
  intro pP eE sS mM args below meth cC s₁ Bd hml0 hP hK
  obtain ⟨rfl, hZ, hh⟩ := hP
  have hx := Bd.exec
  have hby := Bd.bytes
  have hml : cC.maxLocals = 1 := hml0
  have hown : sS.vm.findClass "com/example/ledgerhall/ledgerhall/AccountClassOfDigitPinLaw" = some mM.cls := findClass_of_methodNamed Bd.named
  have hnm := (name_of_methodNamed Bd.named Bd.method).1
  have X0 : Stand pP l eE ({ frames := 0, cells := 0, slots := 0, locals := 0 } : Room) sS mM #[(.int (50 : Int32))] below meth cC s₁ [] 0 0 := Stand.of_body Bd
  have e0 : s₁.heap = h0 := by rw [← hh, Bd.state]; rfl
  have N0 := Fr.nil n0
  have pre0 : ∀ tg, Steps pP.tables eE below (s₁.setTop (mkF mM 0 #[.val (.int (50 : Int32))] [])) tg → Steps pP.tables eE below (s₁.setTop (entryFrame mM #[(.int (50 : Int32))] 1)) tg := fun tg kg => castTop (ef_91 mM (50 : Int32)) kg
  have pr1 : ∀ tg, Steps pP.tables eE below (s₁.setTop (mkF mM 16 #[.val (.int (50 : Int32))] [])) tg → Steps pP.tables eE below (s₁.setTop (entryFrame mM #[(.int (50 : Int32))] 1)) tg := fun tg kg => pre0 _ (by
    show Steps pP.tables eE below (s₁.setTop (mkF mM 0 #[.val (.int (50 : Int32))] [])) _
    refine XS.iloadN X0.here hx rfl (hb hby d91_0) rfl ?_
    show Steps pP.tables eE below (s₁.setTop (mkF mM 1 #[.val (.int (50 : Int32))] [(.int (50 : Int32))])) _
    refine XS.bipush X0.here hx rfl (hb hby d91_1) ?_
    show Steps pP.tables eE below (s₁.setTop (mkF mM 3 #[.val (.int (50 : Int32))] [(.int (49 : Int32)), (.int (50 : Int32))])) _
    refine XS.icmpYes X0.here hx rfl (pc0 := 3) (pc' := 10) rfl (hb hby d91_3) rfl (feq (by decide)).2 (by decide) (by decide) ?_
    show Steps pP.tables eE below (s₁.setTop (mkF mM 10 #[.val (.int (50 : Int32))] [])) _
    refine XS.iloadN X0.here hx rfl (hb hby d91_10) rfl ?_
    show Steps pP.tables eE below (s₁.setTop (mkF mM 11 #[.val (.int (50 : Int32))] [(.int (50 : Int32))])) _
    refine XS.bipush X0.here hx rfl (hb hby d91_11) ?_
    show Steps pP.tables eE below (s₁.setTop (mkF mM 13 #[.val (.int (50 : Int32))] [(.int (50 : Int32)), (.int (50 : Int32))])) _
    refine XS.icmpNo X0.here hx rfl (hb hby d91_13) rfl (teq (by decide)).2 ?_
    exact kg)
  obtain ⟨T2, X2, e2, st2⟩ := getS2 X0 hx hZ hown (host := "") (Or.inl (hw _ (List.mem_of_getElem? (i := 63) rfl))) Via.refl e0 (Sta.ext (O).2 S_LIABILITIES) (g := (mkF mM 16 #[.val (.int (50 : Int32))] [])) rfl (hb hby d91_16)
  have pr3 : ∀ tg, Steps pP.tables eE below (T2.setTop (mkF mM 19 #[.val (.int (50 : Int32))] [(.ref a_LIABILITIES)])) tg → Steps pP.tables eE below (s₁.setTop (entryFrame mM #[(.int (50 : Int32))] 1)) tg := fun tg kg => pr1 _ (st2 _ kg)
  obtain ⟨fs, hr, hrun, hended, hW, hsame⟩ := X2.leave (v := some (.ref a_LIABILITIES)) (fun h => by rw [Bd.returns] at h; cases h)
  refine ⟨_, _, pr3 _ (retOut X2 hx (t := (.object "com/example/ledgerhall/ledgerhall/AccountClass")) Bd.returns rfl (Or.inr (Or.inr (Or.inr (Or.inr ⟨rfl, rfl, rfl⟩)))) (hb hby d91_19) hr), hrun, hended, _, _, rfl, ?_, ⟨_, rfl⟩, hW, hsame.mono (by decide) (by decide)⟩
  show Q91 Z a_ASSETS a_LIABILITIES a_FUND_BALANCE a_REVENUES a_EXPENDITURES a_OTHER_RESOURCES a_OTHER_USES va kva em h0 n0 _ T2.heap _
  rw [e2]
  exact ⟨rfl, N0, rfl⟩
theorem d92_0 : decode method_3_code 0 = .ok (.iload_n 0, 1) := by decide +kernel
theorem d92_1 : decode method_3_code 1 = .ok (.bipush 49, 2) := by decide +kernel
theorem d92_3 : decode method_3_code 3 = .ok (.if_icmp .ne 7, 3) := by decide +kernel
theorem d92_10 : decode method_3_code 10 = .ok (.iload_n 0, 1) := by decide +kernel
theorem d92_11 : decode method_3_code 11 = .ok (.bipush 50, 2) := by decide +kernel
theorem d92_13 : decode method_3_code 13 = .ok (.if_icmp .ne 7, 3) := by decide +kernel
theorem d92_20 : decode method_3_code 20 = .ok (.iload_n 0, 1) := by decide +kernel
theorem d92_21 : decode method_3_code 21 = .ok (.bipush 51, 2) := by decide +kernel
theorem d92_23 : decode method_3_code 23 = .ok (.if_icmp .ne 7, 3) := by decide +kernel
theorem d92_26 : decode method_3_code 26 = .ok (.getstatic 32, 3) := by decide +kernel
theorem d92_29 : decode method_3_code 29 = .ok (.areturn, 1) := by decide +kernel
theorem ef_92 (mM : MethodId) (x0 : Int32) : entryFrame mM #[(.int x0)] 1 = mkF mM 0 #[.val (.int x0)] [] := by first | (simp [entryFrame, mkF, argsToLocals, Value.category]; done) | rfl
def Q92 (Z : State) (a_ASSETS : Addr) (a_LIABILITIES : Addr) (a_FUND_BALANCE : Addr) (a_REVENUES : Addr) (a_EXPENDITURES : Addr) (a_OTHER_RESOURCES : Addr) (a_OTHER_USES : Addr) (va : Addr) (kva : ClassId) (em : Addr) (h0 : Heap) (n0 : Nat) (v : Option Value) (h : Heap) (L : List Loc) : Prop := v = some (.ref a_FUND_BALANCE) ∧ Fr n0 L ∧ h = h0
set_option maxRecDepth 65536 in
set_option maxHeartbeats 40000000 in
theorem rm92 (l : Launch) (Z : State) (a0 : Array Value) (hw : ∀ d ∈ tables_1, d.before a0 Z = true) (ws : List Jvm.Cond) (a_ASSETS : Addr) (a_LIABILITIES : Addr) (a_FUND_BALANCE : Addr) (a_REVENUES : Addr) (a_EXPENDITURES : Addr) (a_OTHER_RESOURCES : Addr) (a_OTHER_USES : Addr) (va : Addr) (kva : ClassId) (em : Addr) (h0 : Heap) (n0 : Nat) (Z0 : n0 ≤ h0.size) (O : Old Z n0 h0) (S_ASSETS : Sta Z Z.heap "com/example/ledgerhall/ledgerhall/AccountClass" "ASSETS" "Lcom/example/ledgerhall/ledgerhall/AccountClass;" (.ref a_ASSETS)) (E_ASSETS : Exa Z Z.heap a_ASSETS "com/example/ledgerhall/ledgerhall/AccountClass") (S_LIABILITIES : Sta Z Z.heap "com/example/ledgerhall/ledgerhall/AccountClass" "LIABILITIES" "Lcom/example/ledgerhall/ledgerhall/AccountClass;" (.ref a_LIABILITIES)) (E_LIABILITIES : Exa Z Z.heap a_LIABILITIES "com/example/ledgerhall/ledgerhall/AccountClass") (S_FUND_BALANCE : Sta Z Z.heap "com/example/ledgerhall/ledgerhall/AccountClass" "FUND_BALANCE" "Lcom/example/ledgerhall/ledgerhall/AccountClass;" (.ref a_FUND_BALANCE)) (E_FUND_BALANCE : Exa Z Z.heap a_FUND_BALANCE "com/example/ledgerhall/ledgerhall/AccountClass") (S_REVENUES : Sta Z Z.heap "com/example/ledgerhall/ledgerhall/AccountClass" "REVENUES" "Lcom/example/ledgerhall/ledgerhall/AccountClass;" (.ref a_REVENUES)) (E_REVENUES : Exa Z Z.heap a_REVENUES "com/example/ledgerhall/ledgerhall/AccountClass") (S_EXPENDITURES : Sta Z Z.heap "com/example/ledgerhall/ledgerhall/AccountClass" "EXPENDITURES" "Lcom/example/ledgerhall/ledgerhall/AccountClass;" (.ref a_EXPENDITURES)) (E_EXPENDITURES : Exa Z Z.heap a_EXPENDITURES "com/example/ledgerhall/ledgerhall/AccountClass") (S_OTHER_RESOURCES : Sta Z Z.heap "com/example/ledgerhall/ledgerhall/AccountClass" "OTHER_RESOURCES" "Lcom/example/ledgerhall/ledgerhall/AccountClass;" (.ref a_OTHER_RESOURCES)) (E_OTHER_RESOURCES : Exa Z Z.heap a_OTHER_RESOURCES "com/example/ledgerhall/ledgerhall/AccountClass") (S_OTHER_USES : Sta Z Z.heap "com/example/ledgerhall/ledgerhall/AccountClass" "OTHER_USES" "Lcom/example/ledgerhall/ledgerhall/AccountClass;" (.ref a_OTHER_USES)) (E_OTHER_USES : Exa Z Z.heap a_OTHER_USES "com/example/ledgerhall/ledgerhall/AccountClass") (F_ASSETS_digit : Fld Z Z.heap a_ASSETS "com/example/ledgerhall/ledgerhall/AccountClass" "digit" "C" (.int (49 : Int32))) (F_LIABILITIES_digit : Fld Z Z.heap a_LIABILITIES "com/example/ledgerhall/ledgerhall/AccountClass" "digit" "C" (.int (50 : Int32))) (F_FUND_BALANCE_digit : Fld Z Z.heap a_FUND_BALANCE "com/example/ledgerhall/ledgerhall/AccountClass" "digit" "C" (.int (51 : Int32))) (F_REVENUES_digit : Fld Z Z.heap a_REVENUES "com/example/ledgerhall/ledgerhall/AccountClass" "digit" "C" (.int (53 : Int32))) (F_EXPENDITURES_digit : Fld Z Z.heap a_EXPENDITURES "com/example/ledgerhall/ledgerhall/AccountClass" "digit" "C" (.int (54 : Int32))) (F_OTHER_RESOURCES_digit : Fld Z Z.heap a_OTHER_RESOURCES "com/example/ledgerhall/ledgerhall/AccountClass" "digit" "C" (.int (55 : Int32))) (F_OTHER_USES_digit : Fld Z Z.heap a_OTHER_USES "com/example/ledgerhall/ledgerhall/AccountClass" "digit" "C" (.int (56 : Int32))) (S_VALUES : Sta Z Z.heap "com/example/ledgerhall/ledgerhall/AccountClass" "$VALUES" "[Lcom/example/ledgerhall/ledgerhall/AccountClass;" (.ref va)) (E_VALUES : Exa Z Z.heap va "[Lcom/example/ledgerhall/ledgerhall/AccountClass;") (V_VALUES : Arv Z Z.heap va kva (.object "com/example/ledgerhall/ledgerhall/AccountClass") (7 : Int32) [(.ref a_ASSETS), (.ref a_LIABILITIES), (.ref a_FUND_BALANCE), (.ref a_REVENUES), (.ref a_EXPENDITURES), (.ref a_OTHER_RESOURCES), (.ref a_OTHER_USES)] .null) (S_EMPTY : Sta Z Z.heap "java/util/Optional" "EMPTY" "Ljava/util/Optional;" (.ref em)) (E_EMPTY : Exa Z Z.heap em "java/util/Optional") (F_EMPTY : Fld Z Z.heap em "java/util/Optional" "value" "Ljava/lang/Object;" .null) :
    MetFree l (⟨"com/example/ledgerhall/ledgerhall/AccountClassOfDigitPinLaw", "expected", "(C)Lcom/example/ledgerhall/ledgerhall/AccountClass;"⟩ : MethodName) (head1 (Jvm.Cond.code (⟨"com/example/ledgerhall/ledgerhall/AccountClassOfDigitPinLaw", "expected", "(C)Lcom/example/ledgerhall/ledgerhall/AccountClass;"⟩ : MethodName) method_3_code 1 (some (.object "com/example/ledgerhall/ledgerhall/AccountClass")) :: ws) ({ frames := 0, cells := 0, slots := 0, locals := 0 } : Room)) (fun aA uU => aA = #[(.int (51 : Int32))] ∧ Z.Warmed39 uU.vm ∧ uU.heap = h0) (fun _ _ _ _ _ => True) (fun _ uU oO uU' => ∃ vV lL, oO = .returned vV ∧ Q92 Z a_ASSETS a_LIABILITIES a_FUND_BALANCE a_REVENUES a_EXPENDITURES a_OTHER_RESOURCES a_OTHER_USES va kva em h0 n0 vV uU'.heap lL ∧ FrameEnd uU oO uU' lL ({ frames := 0, cells := 0, slots := 0, locals := 0 } : Room).cells ({ frames := 0, cells := 0, slots := 0, locals := 0 } : Room).slots) := by
  refine MetFree.of_bodySF (plainFor_of_name pn_3) hisR ?_
  intro pP eE sS mM args below meth cC s₁ Bd hml0 hP hK
  obtain ⟨rfl, hZ, hh⟩ := hP
  have hx := Bd.exec
  have hby := Bd.bytes
  have hml : cC.maxLocals = 1 := hml0
  have hown : sS.vm.findClass "com/example/ledgerhall/ledgerhall/AccountClassOfDigitPinLaw" = some mM.cls := findClass_of_methodNamed Bd.named
  have hnm := (name_of_methodNamed Bd.named Bd.method).1
  have X0 : Stand pP l eE ({ frames := 0, cells := 0, slots := 0, locals := 0 } : Room) sS mM #[(.int (51 : Int32))] below meth cC s₁ [] 0 0 := Stand.of_body Bd
  have e0 : s₁.heap = h0 := by rw [← hh, Bd.state]; rfl
  have N0 := Fr.nil n0
  have pre0 : ∀ tg, Steps pP.tables eE below (s₁.setTop (mkF mM 0 #[.val (.int (51 : Int32))] [])) tg → Steps pP.tables eE below (s₁.setTop (entryFrame mM #[(.int (51 : Int32))] 1)) tg := fun tg kg => castTop (ef_92 mM (51 : Int32)) kg
  have pr1 : ∀ tg, Steps pP.tables eE below (s₁.setTop (mkF mM 26 #[.val (.int (51 : Int32))] [])) tg → Steps pP.tables eE below (s₁.setTop (entryFrame mM #[(.int (51 : Int32))] 1)) tg := fun tg kg => pre0 _ (by
    show Steps pP.tables eE below (s₁.setTop (mkF mM 0 #[.val (.int (51 : Int32))] [])) _
    refine XS.iloadN X0.here hx rfl (hb hby d92_0) rfl ?_
    show Steps pP.tables eE below (s₁.setTop (mkF mM 1 #[.val (.int (51 : Int32))] [(.int (51 : Int32))])) _
    refine XS.bipush X0.here hx rfl (hb hby d92_1) ?_
    show Steps pP.tables eE below (s₁.setTop (mkF mM 3 #[.val (.int (51 : Int32))] [(.int (49 : Int32)), (.int (51 : Int32))])) _
    refine XS.icmpYes X0.here hx rfl (pc0 := 3) (pc' := 10) rfl (hb hby d92_3) rfl (feq (by decide)).2 (by decide) (by decide) ?_
    show Steps pP.tables eE below (s₁.setTop (mkF mM 10 #[.val (.int (51 : Int32))] [])) _
    refine XS.iloadN X0.here hx rfl (hb hby d92_10) rfl ?_
    show Steps pP.tables eE below (s₁.setTop (mkF mM 11 #[.val (.int (51 : Int32))] [(.int (51 : Int32))])) _
    refine XS.bipush X0.here hx rfl (hb hby d92_11) ?_
    show Steps pP.tables eE below (s₁.setTop (mkF mM 13 #[.val (.int (51 : Int32))] [(.int (50 : Int32)), (.int (51 : Int32))])) _
    refine XS.icmpYes X0.here hx rfl (pc0 := 13) (pc' := 20) rfl (hb hby d92_13) rfl (feq (by decide)).2 (by decide) (by decide) ?_
    show Steps pP.tables eE below (s₁.setTop (mkF mM 20 #[.val (.int (51 : Int32))] [])) _
    refine XS.iloadN X0.here hx rfl (hb hby d92_20) rfl ?_
    show Steps pP.tables eE below (s₁.setTop (mkF mM 21 #[.val (.int (51 : Int32))] [(.int (51 : Int32))])) _
    refine XS.bipush X0.here hx rfl (hb hby d92_21) ?_
    show Steps pP.tables eE below (s₁.setTop (mkF mM 23 #[.val (.int (51 : Int32))] [(.int (51 : Int32)), (.int (51 : Int32))])) _
    refine XS.icmpNo X0.here hx rfl (hb hby d92_23) rfl (teq (by decide)).2 ?_
    exact kg)
  obtain ⟨T2, X2, e2, st2⟩ := getS2 X0 hx hZ hown (host := "") (Or.inl (hw _ (List.mem_of_getElem? (i := 68) rfl))) Via.refl e0 (Sta.ext (O).2 S_FUND_BALANCE) (g := (mkF mM 26 #[.val (.int (51 : Int32))] [])) rfl (hb hby d92_26)
  have pr3 : ∀ tg, Steps pP.tables eE below (T2.setTop (mkF mM 29 #[.val (.int (51 : Int32))] [(.ref a_FUND_BALANCE)])) tg → Steps pP.tables eE below (s₁.setTop (entryFrame mM #[(.int (51 : Int32))] 1)) tg := fun tg kg => pr1 _ (st2 _ kg)
  obtain ⟨fs, hr, hrun, hended, hW, hsame⟩ := X2.leave (v := some (.ref a_FUND_BALANCE)) (fun h => by rw [Bd.returns] at h; cases h)
  refine ⟨_, _, pr3 _ (retOut X2 hx (t := (.object "com/example/ledgerhall/ledgerhall/AccountClass")) Bd.returns rfl (Or.inr (Or.inr (Or.inr (Or.inr ⟨rfl, rfl, rfl⟩)))) (hb hby d92_29) hr), hrun, hended, _, _, rfl, ?_, ⟨_, rfl⟩, hW, hsame.mono (by decide) (by decide)⟩
  show Q92 Z a_ASSETS a_LIABILITIES a_FUND_BALANCE a_REVENUES a_EXPENDITURES a_OTHER_RESOURCES a_OTHER_USES va kva em h0 n0 _ T2.heap _
  rw [e2]
  exact ⟨rfl, N0, rfl⟩
theorem d93_0 : decode method_3_code 0 = .ok (.iload_n 0, 1) := by decide +kernel
theorem d93_1 : decode method_3_code 1 = .ok (.bipush 49, 2) := by decide +kernel
theorem d93_3 : decode method_3_code 3 = .ok (.if_icmp .ne 7, 3) := by decide +kernel
theorem d93_10 : decode method_3_code 10 = .ok (.iload_n 0, 1) := by decide +kernel
theorem d93_11 : decode method_3_code 11 = .ok (.bipush 50, 2) := by decide +kernel
theorem d93_13 : decode method_3_code 13 = .ok (.if_icmp .ne 7, 3) := by decide +kernel
theorem d93_20 : decode method_3_code 20 = .ok (.iload_n 0, 1) := by decide +kernel
theorem d93_21 : decode method_3_code 21 = .ok (.bipush 51, 2) := by decide +kernel
theorem d93_23 : decode method_3_code 23 = .ok (.if_icmp .ne 7, 3) := by decide +kernel
theorem d93_30 : decode method_3_code 30 = .ok (.iload_n 0, 1) := by decide +kernel
theorem d93_31 : decode method_3_code 31 = .ok (.bipush 53, 2) := by decide +kernel
theorem d93_33 : decode method_3_code 33 = .ok (.if_icmp .ne 7, 3) := by decide +kernel
theorem d93_36 : decode method_3_code 36 = .ok (.getstatic 35, 3) := by decide +kernel
theorem d93_39 : decode method_3_code 39 = .ok (.areturn, 1) := by decide +kernel
theorem ef_93 (mM : MethodId) (x0 : Int32) : entryFrame mM #[(.int x0)] 1 = mkF mM 0 #[.val (.int x0)] [] := by first | (simp [entryFrame, mkF, argsToLocals, Value.category]; done) | rfl
def Q93 (Z : State) (a_ASSETS : Addr) (a_LIABILITIES : Addr) (a_FUND_BALANCE : Addr) (a_REVENUES : Addr) (a_EXPENDITURES : Addr) (a_OTHER_RESOURCES : Addr) (a_OTHER_USES : Addr) (va : Addr) (kva : ClassId) (em : Addr) (h0 : Heap) (n0 : Nat) (v : Option Value) (h : Heap) (L : List Loc) : Prop := v = some (.ref a_REVENUES) ∧ Fr n0 L ∧ h = h0
set_option maxRecDepth 65536 in
set_option maxHeartbeats 40000000 in
theorem rm93 (l : Launch) (Z : State) (a0 : Array Value) (hw : ∀ d ∈ tables_1, d.before a0 Z = true) (ws : List Jvm.Cond) (a_ASSETS : Addr) (a_LIABILITIES : Addr) (a_FUND_BALANCE : Addr) (a_REVENUES : Addr) (a_EXPENDITURES : Addr) (a_OTHER_RESOURCES : Addr) (a_OTHER_USES : Addr) (va : Addr) (kva : ClassId) (em : Addr) (h0 : Heap) (n0 : Nat) (Z0 : n0 ≤ h0.size) (O : Old Z n0 h0) (S_ASSETS : Sta Z Z.heap "com/example/ledgerhall/ledgerhall/AccountClass" "ASSETS" "Lcom/example/ledgerhall/ledgerhall/AccountClass;" (.ref a_ASSETS)) (E_ASSETS : Exa Z Z.heap a_ASSETS "com/example/ledgerhall/ledgerhall/AccountClass") (S_LIABILITIES : Sta Z Z.heap "com/example/ledgerhall/ledgerhall/AccountClass" "LIABILITIES" "Lcom/example/ledgerhall/ledgerhall/AccountClass;" (.ref a_LIABILITIES)) (E_LIABILITIES : Exa Z Z.heap a_LIABILITIES "com/example/ledgerhall/ledgerhall/AccountClass") (S_FUND_BALANCE : Sta Z Z.heap "com/example/ledgerhall/ledgerhall/AccountClass" "FUND_BALANCE" "Lcom/example/ledgerhall/ledgerhall/AccountClass;" (.ref a_FUND_BALANCE)) (E_FUND_BALANCE : Exa Z Z.heap a_FUND_BALANCE "com/example/ledgerhall/ledgerhall/AccountClass") (S_REVENUES : Sta Z Z.heap "com/example/ledgerhall/ledgerhall/AccountClass" "REVENUES" "Lcom/example/ledgerhall/ledgerhall/AccountClass;" (.ref a_REVENUES)) (E_REVENUES : Exa Z Z.heap a_REVENUES "com/example/ledgerhall/ledgerhall/AccountClass") (S_EXPENDITURES : Sta Z Z.heap "com/example/ledgerhall/ledgerhall/AccountClass" "EXPENDITURES" "Lcom/example/ledgerhall/ledgerhall/AccountClass;" (.ref a_EXPENDITURES)) (E_EXPENDITURES : Exa Z Z.heap a_EXPENDITURES "com/example/ledgerhall/ledgerhall/AccountClass") (S_OTHER_RESOURCES : Sta Z Z.heap "com/example/ledgerhall/ledgerhall/AccountClass" "OTHER_RESOURCES" "Lcom/example/ledgerhall/ledgerhall/AccountClass;" (.ref a_OTHER_RESOURCES)) (E_OTHER_RESOURCES : Exa Z Z.heap a_OTHER_RESOURCES "com/example/ledgerhall/ledgerhall/AccountClass") (S_OTHER_USES : Sta Z Z.heap "com/example/ledgerhall/ledgerhall/AccountClass" "OTHER_USES" "Lcom/example/ledgerhall/ledgerhall/AccountClass;" (.ref a_OTHER_USES)) (E_OTHER_USES : Exa Z Z.heap a_OTHER_USES "com/example/ledgerhall/ledgerhall/AccountClass") (F_ASSETS_digit : Fld Z Z.heap a_ASSETS "com/example/ledgerhall/ledgerhall/AccountClass" "digit" "C" (.int (49 : Int32))) (F_LIABILITIES_digit : Fld Z Z.heap a_LIABILITIES "com/example/ledgerhall/ledgerhall/AccountClass" "digit" "C" (.int (50 : Int32))) (F_FUND_BALANCE_digit : Fld Z Z.heap a_FUND_BALANCE "com/example/ledgerhall/ledgerhall/AccountClass" "digit" "C" (.int (51 : Int32))) (F_REVENUES_digit : Fld Z Z.heap a_REVENUES "com/example/ledgerhall/ledgerhall/AccountClass" "digit" "C" (.int (53 : Int32))) (F_EXPENDITURES_digit : Fld Z Z.heap a_EXPENDITURES "com/example/ledgerhall/ledgerhall/AccountClass" "digit" "C" (.int (54 : Int32))) (F_OTHER_RESOURCES_digit : Fld Z Z.heap a_OTHER_RESOURCES "com/example/ledgerhall/ledgerhall/AccountClass" "digit" "C" (.int (55 : Int32))) (F_OTHER_USES_digit : Fld Z Z.heap a_OTHER_USES "com/example/ledgerhall/ledgerhall/AccountClass" "digit" "C" (.int (56 : Int32))) (S_VALUES : Sta Z Z.heap "com/example/ledgerhall/ledgerhall/AccountClass" "$VALUES" "[Lcom/example/ledgerhall/ledgerhall/AccountClass;" (.ref va)) (E_VALUES : Exa Z Z.heap va "[Lcom/example/ledgerhall/ledgerhall/AccountClass;") (V_VALUES : Arv Z Z.heap va kva (.object "com/example/ledgerhall/ledgerhall/AccountClass") (7 : Int32) [(.ref a_ASSETS), (.ref a_LIABILITIES), (.ref a_FUND_BALANCE), (.ref a_REVENUES), (.ref a_EXPENDITURES), (.ref a_OTHER_RESOURCES), (.ref a_OTHER_USES)] .null) (S_EMPTY : Sta Z Z.heap "java/util/Optional" "EMPTY" "Ljava/util/Optional;" (.ref em)) (E_EMPTY : Exa Z Z.heap em "java/util/Optional") (F_EMPTY : Fld Z Z.heap em "java/util/Optional" "value" "Ljava/lang/Object;" .null) :
    MetFree l (⟨"com/example/ledgerhall/ledgerhall/AccountClassOfDigitPinLaw", "expected", "(C)Lcom/example/ledgerhall/ledgerhall/AccountClass;"⟩ : MethodName) (head1 (Jvm.Cond.code (⟨"com/example/ledgerhall/ledgerhall/AccountClassOfDigitPinLaw", "expected", "(C)Lcom/example/ledgerhall/ledgerhall/AccountClass;"⟩ : MethodName) method_3_code 1 (some (.object "com/example/ledgerhall/ledgerhall/AccountClass")) :: ws) ({ frames := 0, cells := 0, slots := 0, locals := 0 } : Room)) (fun aA uU => aA = #[(.int (53 : Int32))] ∧ Z.Warmed39 uU.vm ∧ uU.heap = h0) (fun _ _ _ _ _ => True) (fun _ uU oO uU' => ∃ vV lL, oO = .returned vV ∧ Q93 Z a_ASSETS a_LIABILITIES a_FUND_BALANCE a_REVENUES a_EXPENDITURES a_OTHER_RESOURCES a_OTHER_USES va kva em h0 n0 vV uU'.heap lL ∧ FrameEnd uU oO uU' lL ({ frames := 0, cells := 0, slots := 0, locals := 0 } : Room).cells ({ frames := 0, cells := 0, slots := 0, locals := 0 } : Room).slots) := by
  refine MetFree.of_bodySF (plainFor_of_name pn_3) hisR ?_
  intro pP eE sS mM args below meth cC s₁ Bd hml0 hP hK
  obtain ⟨rfl, hZ, hh⟩ := hP
  have hx := Bd.exec
  have hby := Bd.bytes
  have hml : cC.maxLocals = 1 := hml0
  have hown : sS.vm.findClass "com/example/ledgerhall/ledgerhall/AccountClassOfDigitPinLaw" = some mM.cls := findClass_of_methodNamed Bd.named
  have hnm := (name_of_methodNamed Bd.named Bd.method).1
  have X0 : Stand pP l eE ({ frames := 0, cells := 0, slots := 0, locals := 0 } : Room) sS mM #[(.int (53 : Int32))] below meth cC s₁ [] 0 0 := Stand.of_body Bd
  have e0 : s₁.heap = h0 := by rw [← hh, Bd.state]; rfl
  have N0 := Fr.nil n0
  have pre0 : ∀ tg, Steps pP.tables eE below (s₁.setTop (mkF mM 0 #[.val (.int (53 : Int32))] [])) tg → Steps pP.tables eE below (s₁.setTop (entryFrame mM #[(.int (53 : Int32))] 1)) tg := fun tg kg => castTop (ef_93 mM (53 : Int32)) kg
  have pr1 : ∀ tg, Steps pP.tables eE below (s₁.setTop (mkF mM 36 #[.val (.int (53 : Int32))] [])) tg → Steps pP.tables eE below (s₁.setTop (entryFrame mM #[(.int (53 : Int32))] 1)) tg := fun tg kg => pre0 _ (by
    show Steps pP.tables eE below (s₁.setTop (mkF mM 0 #[.val (.int (53 : Int32))] [])) _
    refine XS.iloadN X0.here hx rfl (hb hby d93_0) rfl ?_
    show Steps pP.tables eE below (s₁.setTop (mkF mM 1 #[.val (.int (53 : Int32))] [(.int (53 : Int32))])) _
    refine XS.bipush X0.here hx rfl (hb hby d93_1) ?_
    show Steps pP.tables eE below (s₁.setTop (mkF mM 3 #[.val (.int (53 : Int32))] [(.int (49 : Int32)), (.int (53 : Int32))])) _
    refine XS.icmpYes X0.here hx rfl (pc0 := 3) (pc' := 10) rfl (hb hby d93_3) rfl (feq (by decide)).2 (by decide) (by decide) ?_
    show Steps pP.tables eE below (s₁.setTop (mkF mM 10 #[.val (.int (53 : Int32))] [])) _
    refine XS.iloadN X0.here hx rfl (hb hby d93_10) rfl ?_
    show Steps pP.tables eE below (s₁.setTop (mkF mM 11 #[.val (.int (53 : Int32))] [(.int (53 : Int32))])) _
    refine XS.bipush X0.here hx rfl (hb hby d93_11) ?_
    show Steps pP.tables eE below (s₁.setTop (mkF mM 13 #[.val (.int (53 : Int32))] [(.int (50 : Int32)), (.int (53 : Int32))])) _
    refine XS.icmpYes X0.here hx rfl (pc0 := 13) (pc' := 20) rfl (hb hby d93_13) rfl (feq (by decide)).2 (by decide) (by decide) ?_
    show Steps pP.tables eE below (s₁.setTop (mkF mM 20 #[.val (.int (53 : Int32))] [])) _
    refine XS.iloadN X0.here hx rfl (hb hby d93_20) rfl ?_
    show Steps pP.tables eE below (s₁.setTop (mkF mM 21 #[.val (.int (53 : Int32))] [(.int (53 : Int32))])) _
    refine XS.bipush X0.here hx rfl (hb hby d93_21) ?_
    show Steps pP.tables eE below (s₁.setTop (mkF mM 23 #[.val (.int (53 : Int32))] [(.int (51 : Int32)), (.int (53 : Int32))])) _
    refine XS.icmpYes X0.here hx rfl (pc0 := 23) (pc' := 30) rfl (hb hby d93_23) rfl (feq (by decide)).2 (by decide) (by decide) ?_
    show Steps pP.tables eE below (s₁.setTop (mkF mM 30 #[.val (.int (53 : Int32))] [])) _
    refine XS.iloadN X0.here hx rfl (hb hby d93_30) rfl ?_
    show Steps pP.tables eE below (s₁.setTop (mkF mM 31 #[.val (.int (53 : Int32))] [(.int (53 : Int32))])) _
    refine XS.bipush X0.here hx rfl (hb hby d93_31) ?_
    show Steps pP.tables eE below (s₁.setTop (mkF mM 33 #[.val (.int (53 : Int32))] [(.int (53 : Int32)), (.int (53 : Int32))])) _
    refine XS.icmpNo X0.here hx rfl (hb hby d93_33) rfl (teq (by decide)).2 ?_
    exact kg)
  obtain ⟨T2, X2, e2, st2⟩ := getS2 X0 hx hZ hown (host := "") (Or.inl (hw _ (List.mem_of_getElem? (i := 66) rfl))) Via.refl e0 (Sta.ext (O).2 S_REVENUES) (g := (mkF mM 36 #[.val (.int (53 : Int32))] [])) rfl (hb hby d93_36)
  have pr3 : ∀ tg, Steps pP.tables eE below (T2.setTop (mkF mM 39 #[.val (.int (53 : Int32))] [(.ref a_REVENUES)])) tg → Steps pP.tables eE below (s₁.setTop (entryFrame mM #[(.int (53 : Int32))] 1)) tg := fun tg kg => pr1 _ (st2 _ kg)
  obtain ⟨fs, hr, hrun, hended, hW, hsame⟩ := X2.leave (v := some (.ref a_REVENUES)) (fun h => by rw [Bd.returns] at h; cases h)
  refine ⟨_, _, pr3 _ (retOut X2 hx (t := (.object "com/example/ledgerhall/ledgerhall/AccountClass")) Bd.returns rfl (Or.inr (Or.inr (Or.inr (Or.inr ⟨rfl, rfl, rfl⟩)))) (hb hby d93_39) hr), hrun, hended, _, _, rfl, ?_, ⟨_, rfl⟩, hW, hsame.mono (by decide) (by decide)⟩
  show Q93 Z a_ASSETS a_LIABILITIES a_FUND_BALANCE a_REVENUES a_EXPENDITURES a_OTHER_RESOURCES a_OTHER_USES va kva em h0 n0 _ T2.heap _
  rw [e2]
  exact ⟨rfl, N0, rfl⟩
theorem d94_0 : decode method_3_code 0 = .ok (.iload_n 0, 1) := by decide +kernel
theorem d94_1 : decode method_3_code 1 = .ok (.bipush 49, 2) := by decide +kernel
theorem d94_3 : decode method_3_code 3 = .ok (.if_icmp .ne 7, 3) := by decide +kernel
theorem d94_10 : decode method_3_code 10 = .ok (.iload_n 0, 1) := by decide +kernel
theorem d94_11 : decode method_3_code 11 = .ok (.bipush 50, 2) := by decide +kernel
theorem d94_13 : decode method_3_code 13 = .ok (.if_icmp .ne 7, 3) := by decide +kernel
theorem d94_20 : decode method_3_code 20 = .ok (.iload_n 0, 1) := by decide +kernel
theorem d94_21 : decode method_3_code 21 = .ok (.bipush 51, 2) := by decide +kernel
theorem d94_23 : decode method_3_code 23 = .ok (.if_icmp .ne 7, 3) := by decide +kernel
theorem d94_30 : decode method_3_code 30 = .ok (.iload_n 0, 1) := by decide +kernel
theorem d94_31 : decode method_3_code 31 = .ok (.bipush 53, 2) := by decide +kernel
theorem d94_33 : decode method_3_code 33 = .ok (.if_icmp .ne 7, 3) := by decide +kernel
theorem d94_40 : decode method_3_code 40 = .ok (.iload_n 0, 1) := by decide +kernel
theorem d94_41 : decode method_3_code 41 = .ok (.bipush 54, 2) := by decide +kernel
theorem d94_43 : decode method_3_code 43 = .ok (.if_icmp .ne 7, 3) := by decide +kernel
theorem d94_46 : decode method_3_code 46 = .ok (.getstatic 38, 3) := by decide +kernel
theorem d94_49 : decode method_3_code 49 = .ok (.areturn, 1) := by decide +kernel
theorem ef_94 (mM : MethodId) (x0 : Int32) : entryFrame mM #[(.int x0)] 1 = mkF mM 0 #[.val (.int x0)] [] := by first | (simp [entryFrame, mkF, argsToLocals, Value.category]; done) | rfl
def Q94 (Z : State) (a_ASSETS : Addr) (a_LIABILITIES : Addr) (a_FUND_BALANCE : Addr) (a_REVENUES : Addr) (a_EXPENDITURES : Addr) (a_OTHER_RESOURCES : Addr) (a_OTHER_USES : Addr) (va : Addr) (kva : ClassId) (em : Addr) (h0 : Heap) (n0 : Nat) (v : Option Value) (h : Heap) (L : List Loc) : Prop := v = some (.ref a_EXPENDITURES) ∧ Fr n0 L ∧ h = h0
set_option maxRecDepth 65536 in
set_option maxHeartbeats 40000000 in
theorem rm94 (l : Launch) (Z : State) (a0 : Array Value) (hw : ∀ d ∈ tables_1, d.before a0 Z = true) (ws : List Jvm.Cond) (a_ASSETS : Addr) (a_LIABILITIES : Addr) (a_FUND_BALANCE : Addr) (a_REVENUES : Addr) (a_EXPENDITURES : Addr) (a_OTHER_RESOURCES : Addr) (a_OTHER_USES : Addr) (va : Addr) (kva : ClassId) (em : Addr) (h0 : Heap) (n0 : Nat) (Z0 : n0 ≤ h0.size) (O : Old Z n0 h0) (S_ASSETS : Sta Z Z.heap "com/example/ledgerhall/ledgerhall/AccountClass" "ASSETS" "Lcom/example/ledgerhall/ledgerhall/AccountClass;" (.ref a_ASSETS)) (E_ASSETS : Exa Z Z.heap a_ASSETS "com/example/ledgerhall/ledgerhall/AccountClass") (S_LIABILITIES : Sta Z Z.heap "com/example/ledgerhall/ledgerhall/AccountClass" "LIABILITIES" "Lcom/example/ledgerhall/ledgerhall/AccountClass;" (.ref a_LIABILITIES)) (E_LIABILITIES : Exa Z Z.heap a_LIABILITIES "com/example/ledgerhall/ledgerhall/AccountClass") (S_FUND_BALANCE : Sta Z Z.heap "com/example/ledgerhall/ledgerhall/AccountClass" "FUND_BALANCE" "Lcom/example/ledgerhall/ledgerhall/AccountClass;" (.ref a_FUND_BALANCE)) (E_FUND_BALANCE : Exa Z Z.heap a_FUND_BALANCE "com/example/ledgerhall/ledgerhall/AccountClass") (S_REVENUES : Sta Z Z.heap "com/example/ledgerhall/ledgerhall/AccountClass" "REVENUES" "Lcom/example/ledgerhall/ledgerhall/AccountClass;" (.ref a_REVENUES)) (E_REVENUES : Exa Z Z.heap a_REVENUES "com/example/ledgerhall/ledgerhall/AccountClass") (S_EXPENDITURES : Sta Z Z.heap "com/example/ledgerhall/ledgerhall/AccountClass" "EXPENDITURES" "Lcom/example/ledgerhall/ledgerhall/AccountClass;" (.ref a_EXPENDITURES)) (E_EXPENDITURES : Exa Z Z.heap a_EXPENDITURES "com/example/ledgerhall/ledgerhall/AccountClass") (S_OTHER_RESOURCES : Sta Z Z.heap "com/example/ledgerhall/ledgerhall/AccountClass" "OTHER_RESOURCES" "Lcom/example/ledgerhall/ledgerhall/AccountClass;" (.ref a_OTHER_RESOURCES)) (E_OTHER_RESOURCES : Exa Z Z.heap a_OTHER_RESOURCES "com/example/ledgerhall/ledgerhall/AccountClass") (S_OTHER_USES : Sta Z Z.heap "com/example/ledgerhall/ledgerhall/AccountClass" "OTHER_USES" "Lcom/example/ledgerhall/ledgerhall/AccountClass;" (.ref a_OTHER_USES)) (E_OTHER_USES : Exa Z Z.heap a_OTHER_USES "com/example/ledgerhall/ledgerhall/AccountClass") (F_ASSETS_digit : Fld Z Z.heap a_ASSETS "com/example/ledgerhall/ledgerhall/AccountClass" "digit" "C" (.int (49 : Int32))) (F_LIABILITIES_digit : Fld Z Z.heap a_LIABILITIES "com/example/ledgerhall/ledgerhall/AccountClass" "digit" "C" (.int (50 : Int32))) (F_FUND_BALANCE_digit : Fld Z Z.heap a_FUND_BALANCE "com/example/ledgerhall/ledgerhall/AccountClass" "digit" "C" (.int (51 : Int32))) (F_REVENUES_digit : Fld Z Z.heap a_REVENUES "com/example/ledgerhall/ledgerhall/AccountClass" "digit" "C" (.int (53 : Int32))) (F_EXPENDITURES_digit : Fld Z Z.heap a_EXPENDITURES "com/example/ledgerhall/ledgerhall/AccountClass" "digit" "C" (.int (54 : Int32))) (F_OTHER_RESOURCES_digit : Fld Z Z.heap a_OTHER_RESOURCES "com/example/ledgerhall/ledgerhall/AccountClass" "digit" "C" (.int (55 : Int32))) (F_OTHER_USES_digit : Fld Z Z.heap a_OTHER_USES "com/example/ledgerhall/ledgerhall/AccountClass" "digit" "C" (.int (56 : Int32))) (S_VALUES : Sta Z Z.heap "com/example/ledgerhall/ledgerhall/AccountClass" "$VALUES" "[Lcom/example/ledgerhall/ledgerhall/AccountClass;" (.ref va)) (E_VALUES : Exa Z Z.heap va "[Lcom/example/ledgerhall/ledgerhall/AccountClass;") (V_VALUES : Arv Z Z.heap va kva (.object "com/example/ledgerhall/ledgerhall/AccountClass") (7 : Int32) [(.ref a_ASSETS), (.ref a_LIABILITIES), (.ref a_FUND_BALANCE), (.ref a_REVENUES), (.ref a_EXPENDITURES), (.ref a_OTHER_RESOURCES), (.ref a_OTHER_USES)] .null) (S_EMPTY : Sta Z Z.heap "java/util/Optional" "EMPTY" "Ljava/util/Optional;" (.ref em)) (E_EMPTY : Exa Z Z.heap em "java/util/Optional") (F_EMPTY : Fld Z Z.heap em "java/util/Optional" "value" "Ljava/lang/Object;" .null) :
    MetFree l (⟨"com/example/ledgerhall/ledgerhall/AccountClassOfDigitPinLaw", "expected", "(C)Lcom/example/ledgerhall/ledgerhall/AccountClass;"⟩ : MethodName) (head1 (Jvm.Cond.code (⟨"com/example/ledgerhall/ledgerhall/AccountClassOfDigitPinLaw", "expected", "(C)Lcom/example/ledgerhall/ledgerhall/AccountClass;"⟩ : MethodName) method_3_code 1 (some (.object "com/example/ledgerhall/ledgerhall/AccountClass")) :: ws) ({ frames := 0, cells := 0, slots := 0, locals := 0 } : Room)) (fun aA uU => aA = #[(.int (54 : Int32))] ∧ Z.Warmed39 uU.vm ∧ uU.heap = h0) (fun _ _ _ _ _ => True) (fun _ uU oO uU' => ∃ vV lL, oO = .returned vV ∧ Q94 Z a_ASSETS a_LIABILITIES a_FUND_BALANCE a_REVENUES a_EXPENDITURES a_OTHER_RESOURCES a_OTHER_USES va kva em h0 n0 vV uU'.heap lL ∧ FrameEnd uU oO uU' lL ({ frames := 0, cells := 0, slots := 0, locals := 0 } : Room).cells ({ frames := 0, cells := 0, slots := 0, locals := 0 } : Room).slots) := by
  refine MetFree.of_bodySF (plainFor_of_name pn_3) hisR ?_
  intro pP eE sS mM args below meth cC s₁ Bd hml0 hP hK
  obtain ⟨rfl, hZ, hh⟩ := hP
  have hx := Bd.exec
  have hby := Bd.bytes
  have hml : cC.maxLocals = 1 := hml0
  have hown : sS.vm.findClass "com/example/ledgerhall/ledgerhall/AccountClassOfDigitPinLaw" = some mM.cls := findClass_of_methodNamed Bd.named
  have hnm := (name_of_methodNamed Bd.named Bd.method).1
  have X0 : Stand pP l eE ({ frames := 0, cells := 0, slots := 0, locals := 0 } : Room) sS mM #[(.int (54 : Int32))] below meth cC s₁ [] 0 0 := Stand.of_body Bd
  have e0 : s₁.heap = h0 := by rw [← hh, Bd.state]; rfl
  have N0 := Fr.nil n0
  have pre0 : ∀ tg, Steps pP.tables eE below (s₁.setTop (mkF mM 0 #[.val (.int (54 : Int32))] [])) tg → Steps pP.tables eE below (s₁.setTop (entryFrame mM #[(.int (54 : Int32))] 1)) tg := fun tg kg => castTop (ef_94 mM (54 : Int32)) kg
  have pr1 : ∀ tg, Steps pP.tables eE below (s₁.setTop (mkF mM 46 #[.val (.int (54 : Int32))] [])) tg → Steps pP.tables eE below (s₁.setTop (entryFrame mM #[(.int (54 : Int32))] 1)) tg := fun tg kg => pre0 _ (by
    show Steps pP.tables eE below (s₁.setTop (mkF mM 0 #[.val (.int (54 : Int32))] [])) _
    refine XS.iloadN X0.here hx rfl (hb hby d94_0) rfl ?_
    show Steps pP.tables eE below (s₁.setTop (mkF mM 1 #[.val (.int (54 : Int32))] [(.int (54 : Int32))])) _
    refine XS.bipush X0.here hx rfl (hb hby d94_1) ?_
    show Steps pP.tables eE below (s₁.setTop (mkF mM 3 #[.val (.int (54 : Int32))] [(.int (49 : Int32)), (.int (54 : Int32))])) _
    refine XS.icmpYes X0.here hx rfl (pc0 := 3) (pc' := 10) rfl (hb hby d94_3) rfl (feq (by decide)).2 (by decide) (by decide) ?_
    show Steps pP.tables eE below (s₁.setTop (mkF mM 10 #[.val (.int (54 : Int32))] [])) _
    refine XS.iloadN X0.here hx rfl (hb hby d94_10) rfl ?_
    show Steps pP.tables eE below (s₁.setTop (mkF mM 11 #[.val (.int (54 : Int32))] [(.int (54 : Int32))])) _
    refine XS.bipush X0.here hx rfl (hb hby d94_11) ?_
    show Steps pP.tables eE below (s₁.setTop (mkF mM 13 #[.val (.int (54 : Int32))] [(.int (50 : Int32)), (.int (54 : Int32))])) _
    refine XS.icmpYes X0.here hx rfl (pc0 := 13) (pc' := 20) rfl (hb hby d94_13) rfl (feq (by decide)).2 (by decide) (by decide) ?_
    show Steps pP.tables eE below (s₁.setTop (mkF mM 20 #[.val (.int (54 : Int32))] [])) _
    refine XS.iloadN X0.here hx rfl (hb hby d94_20) rfl ?_
    show Steps pP.tables eE below (s₁.setTop (mkF mM 21 #[.val (.int (54 : Int32))] [(.int (54 : Int32))])) _
    refine XS.bipush X0.here hx rfl (hb hby d94_21) ?_
    show Steps pP.tables eE below (s₁.setTop (mkF mM 23 #[.val (.int (54 : Int32))] [(.int (51 : Int32)), (.int (54 : Int32))])) _
    refine XS.icmpYes X0.here hx rfl (pc0 := 23) (pc' := 30) rfl (hb hby d94_23) rfl (feq (by decide)).2 (by decide) (by decide) ?_
    show Steps pP.tables eE below (s₁.setTop (mkF mM 30 #[.val (.int (54 : Int32))] [])) _
    refine XS.iloadN X0.here hx rfl (hb hby d94_30) rfl ?_
    show Steps pP.tables eE below (s₁.setTop (mkF mM 31 #[.val (.int (54 : Int32))] [(.int (54 : Int32))])) _
    refine XS.bipush X0.here hx rfl (hb hby d94_31) ?_
    show Steps pP.tables eE below (s₁.setTop (mkF mM 33 #[.val (.int (54 : Int32))] [(.int (53 : Int32)), (.int (54 : Int32))])) _
    refine XS.icmpYes X0.here hx rfl (pc0 := 33) (pc' := 40) rfl (hb hby d94_33) rfl (feq (by decide)).2 (by decide) (by decide) ?_
    show Steps pP.tables eE below (s₁.setTop (mkF mM 40 #[.val (.int (54 : Int32))] [])) _
    refine XS.iloadN X0.here hx rfl (hb hby d94_40) rfl ?_
    show Steps pP.tables eE below (s₁.setTop (mkF mM 41 #[.val (.int (54 : Int32))] [(.int (54 : Int32))])) _
    refine XS.bipush X0.here hx rfl (hb hby d94_41) ?_
    show Steps pP.tables eE below (s₁.setTop (mkF mM 43 #[.val (.int (54 : Int32))] [(.int (54 : Int32)), (.int (54 : Int32))])) _
    refine XS.icmpNo X0.here hx rfl (hb hby d94_43) rfl (teq (by decide)).2 ?_
    exact kg)
  obtain ⟨T2, X2, e2, st2⟩ := getS2 X0 hx hZ hown (host := "") (Or.inl (hw _ (List.mem_of_getElem? (i := 64) rfl))) Via.refl e0 (Sta.ext (O).2 S_EXPENDITURES) (g := (mkF mM 46 #[.val (.int (54 : Int32))] [])) rfl (hb hby d94_46)
  have pr3 : ∀ tg, Steps pP.tables eE below (T2.setTop (mkF mM 49 #[.val (.int (54 : Int32))] [(.ref a_EXPENDITURES)])) tg → Steps pP.tables eE below (s₁.setTop (entryFrame mM #[(.int (54 : Int32))] 1)) tg := fun tg kg => pr1 _ (st2 _ kg)
  obtain ⟨fs, hr, hrun, hended, hW, hsame⟩ := X2.leave (v := some (.ref a_EXPENDITURES)) (fun h => by rw [Bd.returns] at h; cases h)
  refine ⟨_, _, pr3 _ (retOut X2 hx (t := (.object "com/example/ledgerhall/ledgerhall/AccountClass")) Bd.returns rfl (Or.inr (Or.inr (Or.inr (Or.inr ⟨rfl, rfl, rfl⟩)))) (hb hby d94_49) hr), hrun, hended, _, _, rfl, ?_, ⟨_, rfl⟩, hW, hsame.mono (by decide) (by decide)⟩
  show Q94 Z a_ASSETS a_LIABILITIES a_FUND_BALANCE a_REVENUES a_EXPENDITURES a_OTHER_RESOURCES a_OTHER_USES va kva em h0 n0 _ T2.heap _
  rw [e2]
  exact ⟨rfl, N0, rfl⟩
theorem d95_0 : decode method_3_code 0 = .ok (.iload_n 0, 1) := by decide +kernel
theorem d95_1 : decode method_3_code 1 = .ok (.bipush 49, 2) := by decide +kernel
theorem d95_3 : decode method_3_code 3 = .ok (.if_icmp .ne 7, 3) := by decide +kernel
theorem d95_10 : decode method_3_code 10 = .ok (.iload_n 0, 1) := by decide +kernel
theorem d95_11 : decode method_3_code 11 = .ok (.bipush 50, 2) := by decide +kernel
theorem d95_13 : decode method_3_code 13 = .ok (.if_icmp .ne 7, 3) := by decide +kernel
theorem d95_20 : decode method_3_code 20 = .ok (.iload_n 0, 1) := by decide +kernel
theorem d95_21 : decode method_3_code 21 = .ok (.bipush 51, 2) := by decide +kernel
theorem d95_23 : decode method_3_code 23 = .ok (.if_icmp .ne 7, 3) := by decide +kernel
theorem d95_30 : decode method_3_code 30 = .ok (.iload_n 0, 1) := by decide +kernel
theorem d95_31 : decode method_3_code 31 = .ok (.bipush 53, 2) := by decide +kernel
theorem d95_33 : decode method_3_code 33 = .ok (.if_icmp .ne 7, 3) := by decide +kernel
theorem d95_40 : decode method_3_code 40 = .ok (.iload_n 0, 1) := by decide +kernel
theorem d95_41 : decode method_3_code 41 = .ok (.bipush 54, 2) := by decide +kernel
theorem d95_43 : decode method_3_code 43 = .ok (.if_icmp .ne 7, 3) := by decide +kernel
theorem d95_50 : decode method_3_code 50 = .ok (.iload_n 0, 1) := by decide +kernel
theorem d95_51 : decode method_3_code 51 = .ok (.bipush 55, 2) := by decide +kernel
theorem d95_53 : decode method_3_code 53 = .ok (.if_icmp .ne 7, 3) := by decide +kernel
theorem d95_56 : decode method_3_code 56 = .ok (.getstatic 41, 3) := by decide +kernel
theorem d95_59 : decode method_3_code 59 = .ok (.areturn, 1) := by decide +kernel
theorem ef_95 (mM : MethodId) (x0 : Int32) : entryFrame mM #[(.int x0)] 1 = mkF mM 0 #[.val (.int x0)] [] := by first | (simp [entryFrame, mkF, argsToLocals, Value.category]; done) | rfl
def Q95 (Z : State) (a_ASSETS : Addr) (a_LIABILITIES : Addr) (a_FUND_BALANCE : Addr) (a_REVENUES : Addr) (a_EXPENDITURES : Addr) (a_OTHER_RESOURCES : Addr) (a_OTHER_USES : Addr) (va : Addr) (kva : ClassId) (em : Addr) (h0 : Heap) (n0 : Nat) (v : Option Value) (h : Heap) (L : List Loc) : Prop := v = some (.ref a_OTHER_RESOURCES) ∧ Fr n0 L ∧ h = h0
set_option maxRecDepth 65536 in
set_option maxHeartbeats 40000000 in
theorem rm95 (l : Launch) (Z : State) (a0 : Array Value) (hw : ∀ d ∈ tables_1, d.before a0 Z = true) (ws : List Jvm.Cond) (a_ASSETS : Addr) (a_LIABILITIES : Addr) (a_FUND_BALANCE : Addr) (a_REVENUES : Addr) (a_EXPENDITURES : Addr) (a_OTHER_RESOURCES : Addr) (a_OTHER_USES : Addr) (va : Addr) (kva : ClassId) (em : Addr) (h0 : Heap) (n0 : Nat) (Z0 : n0 ≤ h0.size) (O : Old Z n0 h0) (S_ASSETS : Sta Z Z.heap "com/example/ledgerhall/ledgerhall/AccountClass" "ASSETS" "Lcom/example/ledgerhall/ledgerhall/AccountClass;" (.ref a_ASSETS)) (E_ASSETS : Exa Z Z.heap a_ASSETS "com/example/ledgerhall/ledgerhall/AccountClass") (S_LIABILITIES : Sta Z Z.heap "com/example/ledgerhall/ledgerhall/AccountClass" "LIABILITIES" "Lcom/example/ledgerhall/ledgerhall/AccountClass;" (.ref a_LIABILITIES)) (E_LIABILITIES : Exa Z Z.heap a_LIABILITIES "com/example/ledgerhall/ledgerhall/AccountClass") (S_FUND_BALANCE : Sta Z Z.heap "com/example/ledgerhall/ledgerhall/AccountClass" "FUND_BALANCE" "Lcom/example/ledgerhall/ledgerhall/AccountClass;" (.ref a_FUND_BALANCE)) (E_FUND_BALANCE : Exa Z Z.heap a_FUND_BALANCE "com/example/ledgerhall/ledgerhall/AccountClass") (S_REVENUES : Sta Z Z.heap "com/example/ledgerhall/ledgerhall/AccountClass" "REVENUES" "Lcom/example/ledgerhall/ledgerhall/AccountClass;" (.ref a_REVENUES)) (E_REVENUES : Exa Z Z.heap a_REVENUES "com/example/ledgerhall/ledgerhall/AccountClass") (S_EXPENDITURES : Sta Z Z.heap "com/example/ledgerhall/ledgerhall/AccountClass" "EXPENDITURES" "Lcom/example/ledgerhall/ledgerhall/AccountClass;" (.ref a_EXPENDITURES)) (E_EXPENDITURES : Exa Z Z.heap a_EXPENDITURES "com/example/ledgerhall/ledgerhall/AccountClass") (S_OTHER_RESOURCES : Sta Z Z.heap "com/example/ledgerhall/ledgerhall/AccountClass" "OTHER_RESOURCES" "Lcom/example/ledgerhall/ledgerhall/AccountClass;" (.ref a_OTHER_RESOURCES)) (E_OTHER_RESOURCES : Exa Z Z.heap a_OTHER_RESOURCES "com/example/ledgerhall/ledgerhall/AccountClass") (S_OTHER_USES : Sta Z Z.heap "com/example/ledgerhall/ledgerhall/AccountClass" "OTHER_USES" "Lcom/example/ledgerhall/ledgerhall/AccountClass;" (.ref a_OTHER_USES)) (E_OTHER_USES : Exa Z Z.heap a_OTHER_USES "com/example/ledgerhall/ledgerhall/AccountClass") (F_ASSETS_digit : Fld Z Z.heap a_ASSETS "com/example/ledgerhall/ledgerhall/AccountClass" "digit" "C" (.int (49 : Int32))) (F_LIABILITIES_digit : Fld Z Z.heap a_LIABILITIES "com/example/ledgerhall/ledgerhall/AccountClass" "digit" "C" (.int (50 : Int32))) (F_FUND_BALANCE_digit : Fld Z Z.heap a_FUND_BALANCE "com/example/ledgerhall/ledgerhall/AccountClass" "digit" "C" (.int (51 : Int32))) (F_REVENUES_digit : Fld Z Z.heap a_REVENUES "com/example/ledgerhall/ledgerhall/AccountClass" "digit" "C" (.int (53 : Int32))) (F_EXPENDITURES_digit : Fld Z Z.heap a_EXPENDITURES "com/example/ledgerhall/ledgerhall/AccountClass" "digit" "C" (.int (54 : Int32))) (F_OTHER_RESOURCES_digit : Fld Z Z.heap a_OTHER_RESOURCES "com/example/ledgerhall/ledgerhall/AccountClass" "digit" "C" (.int (55 : Int32))) (F_OTHER_USES_digit : Fld Z Z.heap a_OTHER_USES "com/example/ledgerhall/ledgerhall/AccountClass" "digit" "C" (.int (56 : Int32))) (S_VALUES : Sta Z Z.heap "com/example/ledgerhall/ledgerhall/AccountClass" "$VALUES" "[Lcom/example/ledgerhall/ledgerhall/AccountClass;" (.ref va)) (E_VALUES : Exa Z Z.heap va "[Lcom/example/ledgerhall/ledgerhall/AccountClass;") (V_VALUES : Arv Z Z.heap va kva (.object "com/example/ledgerhall/ledgerhall/AccountClass") (7 : Int32) [(.ref a_ASSETS), (.ref a_LIABILITIES), (.ref a_FUND_BALANCE), (.ref a_REVENUES), (.ref a_EXPENDITURES), (.ref a_OTHER_RESOURCES), (.ref a_OTHER_USES)] .null) (S_EMPTY : Sta Z Z.heap "java/util/Optional" "EMPTY" "Ljava/util/Optional;" (.ref em)) (E_EMPTY : Exa Z Z.heap em "java/util/Optional") (F_EMPTY : Fld Z Z.heap em "java/util/Optional" "value" "Ljava/lang/Object;" .null) :
    MetFree l (⟨"com/example/ledgerhall/ledgerhall/AccountClassOfDigitPinLaw", "expected", "(C)Lcom/example/ledgerhall/ledgerhall/AccountClass;"⟩ : MethodName) (head1 (Jvm.Cond.code (⟨"com/example/ledgerhall/ledgerhall/AccountClassOfDigitPinLaw", "expected", "(C)Lcom/example/ledgerhall/ledgerhall/AccountClass;"⟩ : MethodName) method_3_code 1 (some (.object "com/example/ledgerhall/ledgerhall/AccountClass")) :: ws) ({ frames := 0, cells := 0, slots := 0, locals := 0 } : Room)) (fun aA uU => aA = #[(.int (55 : Int32))] ∧ Z.Warmed39 uU.vm ∧ uU.heap = h0) (fun _ _ _ _ _ => True) (fun _ uU oO uU' => ∃ vV lL, oO = .returned vV ∧ Q95 Z a_ASSETS a_LIABILITIES a_FUND_BALANCE a_REVENUES a_EXPENDITURES a_OTHER_RESOURCES a_OTHER_USES va kva em h0 n0 vV uU'.heap lL ∧ FrameEnd uU oO uU' lL ({ frames := 0, cells := 0, slots := 0, locals := 0 } : Room).cells ({ frames := 0, cells := 0, slots := 0, locals := 0 } : Room).slots) := by
  refine MetFree.of_bodySF (plainFor_of_name pn_3) hisR ?_
  intro pP eE sS mM args below meth cC s₁ Bd hml0 hP hK
  obtain ⟨rfl, hZ, hh⟩ := hP
  have hx := Bd.exec
  have hby := Bd.bytes
  have hml : cC.maxLocals = 1 := hml0
  have hown : sS.vm.findClass "com/example/ledgerhall/ledgerhall/AccountClassOfDigitPinLaw" = some mM.cls := findClass_of_methodNamed Bd.named
  have hnm := (name_of_methodNamed Bd.named Bd.method).1
  have X0 : Stand pP l eE ({ frames := 0, cells := 0, slots := 0, locals := 0 } : Room) sS mM #[(.int (55 : Int32))] below meth cC s₁ [] 0 0 := Stand.of_body Bd
  have e0 : s₁.heap = h0 := by rw [← hh, Bd.state]; rfl
  have N0 := Fr.nil n0
  have pre0 : ∀ tg, Steps pP.tables eE below (s₁.setTop (mkF mM 0 #[.val (.int (55 : Int32))] [])) tg → Steps pP.tables eE below (s₁.setTop (entryFrame mM #[(.int (55 : Int32))] 1)) tg := fun tg kg => castTop (ef_95 mM (55 : Int32)) kg
  have pr1 : ∀ tg, Steps pP.tables eE below (s₁.setTop (mkF mM 56 #[.val (.int (55 : Int32))] [])) tg → Steps pP.tables eE below (s₁.setTop (entryFrame mM #[(.int (55 : Int32))] 1)) tg := fun tg kg => pre0 _ (by
    show Steps pP.tables eE below (s₁.setTop (mkF mM 0 #[.val (.int (55 : Int32))] [])) _
    refine XS.iloadN X0.here hx rfl (hb hby d95_0) rfl ?_
    show Steps pP.tables eE below (s₁.setTop (mkF mM 1 #[.val (.int (55 : Int32))] [(.int (55 : Int32))])) _
    refine XS.bipush X0.here hx rfl (hb hby d95_1) ?_
    show Steps pP.tables eE below (s₁.setTop (mkF mM 3 #[.val (.int (55 : Int32))] [(.int (49 : Int32)), (.int (55 : Int32))])) _
    refine XS.icmpYes X0.here hx rfl (pc0 := 3) (pc' := 10) rfl (hb hby d95_3) rfl (feq (by decide)).2 (by decide) (by decide) ?_
    show Steps pP.tables eE below (s₁.setTop (mkF mM 10 #[.val (.int (55 : Int32))] [])) _
    refine XS.iloadN X0.here hx rfl (hb hby d95_10) rfl ?_
    show Steps pP.tables eE below (s₁.setTop (mkF mM 11 #[.val (.int (55 : Int32))] [(.int (55 : Int32))])) _
    refine XS.bipush X0.here hx rfl (hb hby d95_11) ?_
    show Steps pP.tables eE below (s₁.setTop (mkF mM 13 #[.val (.int (55 : Int32))] [(.int (50 : Int32)), (.int (55 : Int32))])) _
    refine XS.icmpYes X0.here hx rfl (pc0 := 13) (pc' := 20) rfl (hb hby d95_13) rfl (feq (by decide)).2 (by decide) (by decide) ?_
    show Steps pP.tables eE below (s₁.setTop (mkF mM 20 #[.val (.int (55 : Int32))] [])) _
    refine XS.iloadN X0.here hx rfl (hb hby d95_20) rfl ?_
    show Steps pP.tables eE below (s₁.setTop (mkF mM 21 #[.val (.int (55 : Int32))] [(.int (55 : Int32))])) _
    refine XS.bipush X0.here hx rfl (hb hby d95_21) ?_
    show Steps pP.tables eE below (s₁.setTop (mkF mM 23 #[.val (.int (55 : Int32))] [(.int (51 : Int32)), (.int (55 : Int32))])) _
    refine XS.icmpYes X0.here hx rfl (pc0 := 23) (pc' := 30) rfl (hb hby d95_23) rfl (feq (by decide)).2 (by decide) (by decide) ?_
    show Steps pP.tables eE below (s₁.setTop (mkF mM 30 #[.val (.int (55 : Int32))] [])) _
    refine XS.iloadN X0.here hx rfl (hb hby d95_30) rfl ?_
    show Steps pP.tables eE below (s₁.setTop (mkF mM 31 #[.val (.int (55 : Int32))] [(.int (55 : Int32))])) _
    refine XS.bipush X0.here hx rfl (hb hby d95_31) ?_
    show Steps pP.tables eE below (s₁.setTop (mkF mM 33 #[.val (.int (55 : Int32))] [(.int (53 : Int32)), (.int (55 : Int32))])) _
    refine XS.icmpYes X0.here hx rfl (pc0 := 33) (pc' := 40) rfl (hb hby d95_33) rfl (feq (by decide)).2 (by decide) (by decide) ?_
    show Steps pP.tables eE below (s₁.setTop (mkF mM 40 #[.val (.int (55 : Int32))] [])) _
    refine XS.iloadN X0.here hx rfl (hb hby d95_40) rfl ?_
    show Steps pP.tables eE below (s₁.setTop (mkF mM 41 #[.val (.int (55 : Int32))] [(.int (55 : Int32))])) _
    refine XS.bipush X0.here hx rfl (hb hby d95_41) ?_
    show Steps pP.tables eE below (s₁.setTop (mkF mM 43 #[.val (.int (55 : Int32))] [(.int (54 : Int32)), (.int (55 : Int32))])) _
    refine XS.icmpYes X0.here hx rfl (pc0 := 43) (pc' := 50) rfl (hb hby d95_43) rfl (feq (by decide)).2 (by decide) (by decide) ?_
    show Steps pP.tables eE below (s₁.setTop (mkF mM 50 #[.val (.int (55 : Int32))] [])) _
    refine XS.iloadN X0.here hx rfl (hb hby d95_50) rfl ?_
    show Steps pP.tables eE below (s₁.setTop (mkF mM 51 #[.val (.int (55 : Int32))] [(.int (55 : Int32))])) _
    refine XS.bipush X0.here hx rfl (hb hby d95_51) ?_
    show Steps pP.tables eE below (s₁.setTop (mkF mM 53 #[.val (.int (55 : Int32))] [(.int (55 : Int32)), (.int (55 : Int32))])) _
    refine XS.icmpNo X0.here hx rfl (hb hby d95_53) rfl (teq (by decide)).2 ?_
    exact kg)
  obtain ⟨T2, X2, e2, st2⟩ := getS2 X0 hx hZ hown (host := "") (Or.inl (hw _ (List.mem_of_getElem? (i := 67) rfl))) Via.refl e0 (Sta.ext (O).2 S_OTHER_RESOURCES) (g := (mkF mM 56 #[.val (.int (55 : Int32))] [])) rfl (hb hby d95_56)
  have pr3 : ∀ tg, Steps pP.tables eE below (T2.setTop (mkF mM 59 #[.val (.int (55 : Int32))] [(.ref a_OTHER_RESOURCES)])) tg → Steps pP.tables eE below (s₁.setTop (entryFrame mM #[(.int (55 : Int32))] 1)) tg := fun tg kg => pr1 _ (st2 _ kg)
  obtain ⟨fs, hr, hrun, hended, hW, hsame⟩ := X2.leave (v := some (.ref a_OTHER_RESOURCES)) (fun h => by rw [Bd.returns] at h; cases h)
  refine ⟨_, _, pr3 _ (retOut X2 hx (t := (.object "com/example/ledgerhall/ledgerhall/AccountClass")) Bd.returns rfl (Or.inr (Or.inr (Or.inr (Or.inr ⟨rfl, rfl, rfl⟩)))) (hb hby d95_59) hr), hrun, hended, _, _, rfl, ?_, ⟨_, rfl⟩, hW, hsame.mono (by decide) (by decide)⟩
  show Q95 Z a_ASSETS a_LIABILITIES a_FUND_BALANCE a_REVENUES a_EXPENDITURES a_OTHER_RESOURCES a_OTHER_USES va kva em h0 n0 _ T2.heap _
  rw [e2]
  exact ⟨rfl, N0, rfl⟩
theorem d96_0 : decode method_3_code 0 = .ok (.iload_n 0, 1) := by decide +kernel
theorem d96_1 : decode method_3_code 1 = .ok (.bipush 49, 2) := by decide +kernel
theorem d96_3 : decode method_3_code 3 = .ok (.if_icmp .ne 7, 3) := by decide +kernel
theorem d96_10 : decode method_3_code 10 = .ok (.iload_n 0, 1) := by decide +kernel
theorem d96_11 : decode method_3_code 11 = .ok (.bipush 50, 2) := by decide +kernel
theorem d96_13 : decode method_3_code 13 = .ok (.if_icmp .ne 7, 3) := by decide +kernel
theorem d96_20 : decode method_3_code 20 = .ok (.iload_n 0, 1) := by decide +kernel
theorem d96_21 : decode method_3_code 21 = .ok (.bipush 51, 2) := by decide +kernel
theorem d96_23 : decode method_3_code 23 = .ok (.if_icmp .ne 7, 3) := by decide +kernel
theorem d96_30 : decode method_3_code 30 = .ok (.iload_n 0, 1) := by decide +kernel
theorem d96_31 : decode method_3_code 31 = .ok (.bipush 53, 2) := by decide +kernel
theorem d96_33 : decode method_3_code 33 = .ok (.if_icmp .ne 7, 3) := by decide +kernel
theorem d96_40 : decode method_3_code 40 = .ok (.iload_n 0, 1) := by decide +kernel
theorem d96_41 : decode method_3_code 41 = .ok (.bipush 54, 2) := by decide +kernel
theorem d96_43 : decode method_3_code 43 = .ok (.if_icmp .ne 7, 3) := by decide +kernel
theorem d96_50 : decode method_3_code 50 = .ok (.iload_n 0, 1) := by decide +kernel
theorem d96_51 : decode method_3_code 51 = .ok (.bipush 55, 2) := by decide +kernel
theorem d96_53 : decode method_3_code 53 = .ok (.if_icmp .ne 7, 3) := by decide +kernel
theorem d96_60 : decode method_3_code 60 = .ok (.iload_n 0, 1) := by decide +kernel
theorem d96_61 : decode method_3_code 61 = .ok (.bipush 56, 2) := by decide +kernel
theorem d96_63 : decode method_3_code 63 = .ok (.if_icmp .ne 7, 3) := by decide +kernel
theorem d96_66 : decode method_3_code 66 = .ok (.getstatic 44, 3) := by decide +kernel
theorem d96_69 : decode method_3_code 69 = .ok (.areturn, 1) := by decide +kernel
theorem ef_96 (mM : MethodId) (x0 : Int32) : entryFrame mM #[(.int x0)] 1 = mkF mM 0 #[.val (.int x0)] [] := by first | (simp [entryFrame, mkF, argsToLocals, Value.category]; done) | rfl
def Q96 (Z : State) (a_ASSETS : Addr) (a_LIABILITIES : Addr) (a_FUND_BALANCE : Addr) (a_REVENUES : Addr) (a_EXPENDITURES : Addr) (a_OTHER_RESOURCES : Addr) (a_OTHER_USES : Addr) (va : Addr) (kva : ClassId) (em : Addr) (h0 : Heap) (n0 : Nat) (v : Option Value) (h : Heap) (L : List Loc) : Prop := v = some (.ref a_OTHER_USES) ∧ Fr n0 L ∧ h = h0
set_option maxRecDepth 65536 in
set_option maxHeartbeats 40000000 in
theorem rm96 (l : Launch) (Z : State) (a0 : Array Value) (hw : ∀ d ∈ tables_1, d.before a0 Z = true) (ws : List Jvm.Cond) (a_ASSETS : Addr) (a_LIABILITIES : Addr) (a_FUND_BALANCE : Addr) (a_REVENUES : Addr) (a_EXPENDITURES : Addr) (a_OTHER_RESOURCES : Addr) (a_OTHER_USES : Addr) (va : Addr) (kva : ClassId) (em : Addr) (h0 : Heap) (n0 : Nat) (Z0 : n0 ≤ h0.size) (O : Old Z n0 h0) (S_ASSETS : Sta Z Z.heap "com/example/ledgerhall/ledgerhall/AccountClass" "ASSETS" "Lcom/example/ledgerhall/ledgerhall/AccountClass;" (.ref a_ASSETS)) (E_ASSETS : Exa Z Z.heap a_ASSETS "com/example/ledgerhall/ledgerhall/AccountClass") (S_LIABILITIES : Sta Z Z.heap "com/example/ledgerhall/ledgerhall/AccountClass" "LIABILITIES" "Lcom/example/ledgerhall/ledgerhall/AccountClass;" (.ref a_LIABILITIES)) (E_LIABILITIES : Exa Z Z.heap a_LIABILITIES "com/example/ledgerhall/ledgerhall/AccountClass") (S_FUND_BALANCE : Sta Z Z.heap "com/example/ledgerhall/ledgerhall/AccountClass" "FUND_BALANCE" "Lcom/example/ledgerhall/ledgerhall/AccountClass;" (.ref a_FUND_BALANCE)) (E_FUND_BALANCE : Exa Z Z.heap a_FUND_BALANCE "com/example/ledgerhall/ledgerhall/AccountClass") (S_REVENUES : Sta Z Z.heap "com/example/ledgerhall/ledgerhall/AccountClass" "REVENUES" "Lcom/example/ledgerhall/ledgerhall/AccountClass;" (.ref a_REVENUES)) (E_REVENUES : Exa Z Z.heap a_REVENUES "com/example/ledgerhall/ledgerhall/AccountClass") (S_EXPENDITURES : Sta Z Z.heap "com/example/ledgerhall/ledgerhall/AccountClass" "EXPENDITURES" "Lcom/example/ledgerhall/ledgerhall/AccountClass;" (.ref a_EXPENDITURES)) (E_EXPENDITURES : Exa Z Z.heap a_EXPENDITURES "com/example/ledgerhall/ledgerhall/AccountClass") (S_OTHER_RESOURCES : Sta Z Z.heap "com/example/ledgerhall/ledgerhall/AccountClass" "OTHER_RESOURCES" "Lcom/example/ledgerhall/ledgerhall/AccountClass;" (.ref a_OTHER_RESOURCES)) (E_OTHER_RESOURCES : Exa Z Z.heap a_OTHER_RESOURCES "com/example/ledgerhall/ledgerhall/AccountClass") (S_OTHER_USES : Sta Z Z.heap "com/example/ledgerhall/ledgerhall/AccountClass" "OTHER_USES" "Lcom/example/ledgerhall/ledgerhall/AccountClass;" (.ref a_OTHER_USES)) (E_OTHER_USES : Exa Z Z.heap a_OTHER_USES "com/example/ledgerhall/ledgerhall/AccountClass") (F_ASSETS_digit : Fld Z Z.heap a_ASSETS "com/example/ledgerhall/ledgerhall/AccountClass" "digit" "C" (.int (49 : Int32))) (F_LIABILITIES_digit : Fld Z Z.heap a_LIABILITIES "com/example/ledgerhall/ledgerhall/AccountClass" "digit" "C" (.int (50 : Int32))) (F_FUND_BALANCE_digit : Fld Z Z.heap a_FUND_BALANCE "com/example/ledgerhall/ledgerhall/AccountClass" "digit" "C" (.int (51 : Int32))) (F_REVENUES_digit : Fld Z Z.heap a_REVENUES "com/example/ledgerhall/ledgerhall/AccountClass" "digit" "C" (.int (53 : Int32))) (F_EXPENDITURES_digit : Fld Z Z.heap a_EXPENDITURES "com/example/ledgerhall/ledgerhall/AccountClass" "digit" "C" (.int (54 : Int32))) (F_OTHER_RESOURCES_digit : Fld Z Z.heap a_OTHER_RESOURCES "com/example/ledgerhall/ledgerhall/AccountClass" "digit" "C" (.int (55 : Int32))) (F_OTHER_USES_digit : Fld Z Z.heap a_OTHER_USES "com/example/ledgerhall/ledgerhall/AccountClass" "digit" "C" (.int (56 : Int32))) (S_VALUES : Sta Z Z.heap "com/example/ledgerhall/ledgerhall/AccountClass" "$VALUES" "[Lcom/example/ledgerhall/ledgerhall/AccountClass;" (.ref va)) (E_VALUES : Exa Z Z.heap va "[Lcom/example/ledgerhall/ledgerhall/AccountClass;") (V_VALUES : Arv Z Z.heap va kva (.object "com/example/ledgerhall/ledgerhall/AccountClass") (7 : Int32) [(.ref a_ASSETS), (.ref a_LIABILITIES), (.ref a_FUND_BALANCE), (.ref a_REVENUES), (.ref a_EXPENDITURES), (.ref a_OTHER_RESOURCES), (.ref a_OTHER_USES)] .null) (S_EMPTY : Sta Z Z.heap "java/util/Optional" "EMPTY" "Ljava/util/Optional;" (.ref em)) (E_EMPTY : Exa Z Z.heap em "java/util/Optional") (F_EMPTY : Fld Z Z.heap em "java/util/Optional" "value" "Ljava/lang/Object;" .null) :
    MetFree l (⟨"com/example/ledgerhall/ledgerhall/AccountClassOfDigitPinLaw", "expected", "(C)Lcom/example/ledgerhall/ledgerhall/AccountClass;"⟩ : MethodName) (head1 (Jvm.Cond.code (⟨"com/example/ledgerhall/ledgerhall/AccountClassOfDigitPinLaw", "expected", "(C)Lcom/example/ledgerhall/ledgerhall/AccountClass;"⟩ : MethodName) method_3_code 1 (some (.object "com/example/ledgerhall/ledgerhall/AccountClass")) :: ws) ({ frames := 0, cells := 0, slots := 0, locals := 0 } : Room)) (fun aA uU => aA = #[(.int (56 : Int32))] ∧ Z.Warmed39 uU.vm ∧ uU.heap = h0) (fun _ _ _ _ _ => True) (fun _ uU oO uU' => ∃ vV lL, oO = .returned vV ∧ Q96 Z a_ASSETS a_LIABILITIES a_FUND_BALANCE a_REVENUES a_EXPENDITURES a_OTHER_RESOURCES a_OTHER_USES va kva em h0 n0 vV uU'.heap lL ∧ FrameEnd uU oO uU' lL ({ frames := 0, cells := 0, slots := 0, locals := 0 } : Room).cells ({ frames := 0, cells := 0, slots := 0, locals := 0 } : Room).slots) := by
  refine MetFree.of_bodySF (plainFor_of_name pn_3) hisR ?_
  intro pP eE sS mM args below meth cC s₁ Bd hml0 hP hK
  obtain ⟨rfl, hZ, hh⟩ := hP
  have hx := Bd.exec
  have hby := Bd.bytes
  have hml : cC.maxLocals = 1 := hml0
  have hown : sS.vm.findClass "com/example/ledgerhall/ledgerhall/AccountClassOfDigitPinLaw" = some mM.cls := findClass_of_methodNamed Bd.named
  have hnm := (name_of_methodNamed Bd.named Bd.method).1
  have X0 : Stand pP l eE ({ frames := 0, cells := 0, slots := 0, locals := 0 } : Room) sS mM #[(.int (56 : Int32))] below meth cC s₁ [] 0 0 := Stand.of_body Bd
  have e0 : s₁.heap = h0 := by rw [← hh, Bd.state]; rfl
  have N0 := Fr.nil n0
  have pre0 : ∀ tg, Steps pP.tables eE below (s₁.setTop (mkF mM 0 #[.val (.int (56 : Int32))] [])) tg → Steps pP.tables eE below (s₁.setTop (entryFrame mM #[(.int (56 : Int32))] 1)) tg := fun tg kg => castTop (ef_96 mM (56 : Int32)) kg
  have pr1 : ∀ tg, Steps pP.tables eE below (s₁.setTop (mkF mM 66 #[.val (.int (56 : Int32))] [])) tg → Steps pP.tables eE below (s₁.setTop (entryFrame mM #[(.int (56 : Int32))] 1)) tg := fun tg kg => pre0 _ (by
    show Steps pP.tables eE below (s₁.setTop (mkF mM 0 #[.val (.int (56 : Int32))] [])) _
    refine XS.iloadN X0.here hx rfl (hb hby d96_0) rfl ?_
    show Steps pP.tables eE below (s₁.setTop (mkF mM 1 #[.val (.int (56 : Int32))] [(.int (56 : Int32))])) _
    refine XS.bipush X0.here hx rfl (hb hby d96_1) ?_
    show Steps pP.tables eE below (s₁.setTop (mkF mM 3 #[.val (.int (56 : Int32))] [(.int (49 : Int32)), (.int (56 : Int32))])) _
    refine XS.icmpYes X0.here hx rfl (pc0 := 3) (pc' := 10) rfl (hb hby d96_3) rfl (feq (by decide)).2 (by decide) (by decide) ?_
    show Steps pP.tables eE below (s₁.setTop (mkF mM 10 #[.val (.int (56 : Int32))] [])) _
    refine XS.iloadN X0.here hx rfl (hb hby d96_10) rfl ?_
    show Steps pP.tables eE below (s₁.setTop (mkF mM 11 #[.val (.int (56 : Int32))] [(.int (56 : Int32))])) _
    refine XS.bipush X0.here hx rfl (hb hby d96_11) ?_
    show Steps pP.tables eE below (s₁.setTop (mkF mM 13 #[.val (.int (56 : Int32))] [(.int (50 : Int32)), (.int (56 : Int32))])) _
    refine XS.icmpYes X0.here hx rfl (pc0 := 13) (pc' := 20) rfl (hb hby d96_13) rfl (feq (by decide)).2 (by decide) (by decide) ?_
    show Steps pP.tables eE below (s₁.setTop (mkF mM 20 #[.val (.int (56 : Int32))] [])) _
    refine XS.iloadN X0.here hx rfl (hb hby d96_20) rfl ?_
    show Steps pP.tables eE below (s₁.setTop (mkF mM 21 #[.val (.int (56 : Int32))] [(.int (56 : Int32))])) _
    refine XS.bipush X0.here hx rfl (hb hby d96_21) ?_
    show Steps pP.tables eE below (s₁.setTop (mkF mM 23 #[.val (.int (56 : Int32))] [(.int (51 : Int32)), (.int (56 : Int32))])) _
    refine XS.icmpYes X0.here hx rfl (pc0 := 23) (pc' := 30) rfl (hb hby d96_23) rfl (feq (by decide)).2 (by decide) (by decide) ?_
    show Steps pP.tables eE below (s₁.setTop (mkF mM 30 #[.val (.int (56 : Int32))] [])) _
    refine XS.iloadN X0.here hx rfl (hb hby d96_30) rfl ?_
    show Steps pP.tables eE below (s₁.setTop (mkF mM 31 #[.val (.int (56 : Int32))] [(.int (56 : Int32))])) _
    refine XS.bipush X0.here hx rfl (hb hby d96_31) ?_
    show Steps pP.tables eE below (s₁.setTop (mkF mM 33 #[.val (.int (56 : Int32))] [(.int (53 : Int32)), (.int (56 : Int32))])) _
    refine XS.icmpYes X0.here hx rfl (pc0 := 33) (pc' := 40) rfl (hb hby d96_33) rfl (feq (by decide)).2 (by decide) (by decide) ?_
    show Steps pP.tables eE below (s₁.setTop (mkF mM 40 #[.val (.int (56 : Int32))] [])) _
    refine XS.iloadN X0.here hx rfl (hb hby d96_40) rfl ?_
    show Steps pP.tables eE below (s₁.setTop (mkF mM 41 #[.val (.int (56 : Int32))] [(.int (56 : Int32))])) _
    refine XS.bipush X0.here hx rfl (hb hby d96_41) ?_
    show Steps pP.tables eE below (s₁.setTop (mkF mM 43 #[.val (.int (56 : Int32))] [(.int (54 : Int32)), (.int (56 : Int32))])) _
    refine XS.icmpYes X0.here hx rfl (pc0 := 43) (pc' := 50) rfl (hb hby d96_43) rfl (feq (by decide)).2 (by decide) (by decide) ?_
    show Steps pP.tables eE below (s₁.setTop (mkF mM 50 #[.val (.int (56 : Int32))] [])) _
    refine XS.iloadN X0.here hx rfl (hb hby d96_50) rfl ?_
    show Steps pP.tables eE below (s₁.setTop (mkF mM 51 #[.val (.int (56 : Int32))] [(.int (56 : Int32))])) _
    refine XS.bipush X0.here hx rfl (hb hby d96_51) ?_
    show Steps pP.tables eE below (s₁.setTop (mkF mM 53 #[.val (.int (56 : Int32))] [(.int (55 : Int32)), (.int (56 : Int32))])) _
    refine XS.icmpYes X0.here hx rfl (pc0 := 53) (pc' := 60) rfl (hb hby d96_53) rfl (feq (by decide)).2 (by decide) (by decide) ?_
    show Steps pP.tables eE below (s₁.setTop (mkF mM 60 #[.val (.int (56 : Int32))] [])) _
    refine XS.iloadN X0.here hx rfl (hb hby d96_60) rfl ?_
    show Steps pP.tables eE below (s₁.setTop (mkF mM 61 #[.val (.int (56 : Int32))] [(.int (56 : Int32))])) _
    refine XS.bipush X0.here hx rfl (hb hby d96_61) ?_
    show Steps pP.tables eE below (s₁.setTop (mkF mM 63 #[.val (.int (56 : Int32))] [(.int (56 : Int32)), (.int (56 : Int32))])) _
    refine XS.icmpNo X0.here hx rfl (hb hby d96_63) rfl (teq (by decide)).2 ?_
    exact kg)
  obtain ⟨T2, X2, e2, st2⟩ := getS2 X0 hx hZ hown (host := "") (Or.inl (hw _ (List.mem_of_getElem? (i := 62) rfl))) Via.refl e0 (Sta.ext (O).2 S_OTHER_USES) (g := (mkF mM 66 #[.val (.int (56 : Int32))] [])) rfl (hb hby d96_66)
  have pr3 : ∀ tg, Steps pP.tables eE below (T2.setTop (mkF mM 69 #[.val (.int (56 : Int32))] [(.ref a_OTHER_USES)])) tg → Steps pP.tables eE below (s₁.setTop (entryFrame mM #[(.int (56 : Int32))] 1)) tg := fun tg kg => pr1 _ (st2 _ kg)
  obtain ⟨fs, hr, hrun, hended, hW, hsame⟩ := X2.leave (v := some (.ref a_OTHER_USES)) (fun h => by rw [Bd.returns] at h; cases h)
  refine ⟨_, _, pr3 _ (retOut X2 hx (t := (.object "com/example/ledgerhall/ledgerhall/AccountClass")) Bd.returns rfl (Or.inr (Or.inr (Or.inr (Or.inr ⟨rfl, rfl, rfl⟩)))) (hb hby d96_69) hr), hrun, hended, _, _, rfl, ?_, ⟨_, rfl⟩, hW, hsame.mono (by decide) (by decide)⟩
  show Q96 Z a_ASSETS a_LIABILITIES a_FUND_BALANCE a_REVENUES a_EXPENDITURES a_OTHER_RESOURCES a_OTHER_USES va kva em h0 n0 _ T2.heap _
  rw [e2]
  exact ⟨rfl, N0, rfl⟩
theorem d97_0 : decode method_3_code 0 = .ok (.iload_n 0, 1) := by decide +kernel
theorem d97_1 : decode method_3_code 1 = .ok (.bipush 49, 2) := by decide +kernel
theorem d97_3 : decode method_3_code 3 = .ok (.if_icmp .ne 7, 3) := by decide +kernel
theorem d97_10 : decode method_3_code 10 = .ok (.iload_n 0, 1) := by decide +kernel
theorem d97_11 : decode method_3_code 11 = .ok (.bipush 50, 2) := by decide +kernel
theorem d97_13 : decode method_3_code 13 = .ok (.if_icmp .ne 7, 3) := by decide +kernel
theorem d97_20 : decode method_3_code 20 = .ok (.iload_n 0, 1) := by decide +kernel
theorem d97_21 : decode method_3_code 21 = .ok (.bipush 51, 2) := by decide +kernel
theorem d97_23 : decode method_3_code 23 = .ok (.if_icmp .ne 7, 3) := by decide +kernel
theorem d97_30 : decode method_3_code 30 = .ok (.iload_n 0, 1) := by decide +kernel
theorem d97_31 : decode method_3_code 31 = .ok (.bipush 53, 2) := by decide +kernel
theorem d97_33 : decode method_3_code 33 = .ok (.if_icmp .ne 7, 3) := by decide +kernel
theorem d97_40 : decode method_3_code 40 = .ok (.iload_n 0, 1) := by decide +kernel
theorem d97_41 : decode method_3_code 41 = .ok (.bipush 54, 2) := by decide +kernel
theorem d97_43 : decode method_3_code 43 = .ok (.if_icmp .ne 7, 3) := by decide +kernel
theorem d97_50 : decode method_3_code 50 = .ok (.iload_n 0, 1) := by decide +kernel
theorem d97_51 : decode method_3_code 51 = .ok (.bipush 55, 2) := by decide +kernel
theorem d97_53 : decode method_3_code 53 = .ok (.if_icmp .ne 7, 3) := by decide +kernel
theorem d97_60 : decode method_3_code 60 = .ok (.iload_n 0, 1) := by decide +kernel
theorem d97_61 : decode method_3_code 61 = .ok (.bipush 56, 2) := by decide +kernel
theorem d97_63 : decode method_3_code 63 = .ok (.if_icmp .ne 7, 3) := by decide +kernel
theorem d97_70 : decode method_3_code 70 = .ok (.aconst_null, 1) := by decide +kernel
theorem d97_71 : decode method_3_code 71 = .ok (.areturn, 1) := by decide +kernel
theorem ef_97 (mM : MethodId) (x0 : Int32) : entryFrame mM #[(.int x0)] 1 = mkF mM 0 #[.val (.int x0)] [] := by first | (simp [entryFrame, mkF, argsToLocals, Value.category]; done) | rfl
def Q97 (Z : State) (dv : Int32) (a_ASSETS : Addr) (a_LIABILITIES : Addr) (a_FUND_BALANCE : Addr) (a_REVENUES : Addr) (a_EXPENDITURES : Addr) (a_OTHER_RESOURCES : Addr) (a_OTHER_USES : Addr) (va : Addr) (kva : ClassId) (em : Addr) (h0 : Heap) (n0 : Nat) (v : Option Value) (h : Heap) (L : List Loc) : Prop := v = some .null ∧ Fr n0 L ∧ h = h0
set_option maxRecDepth 65536 in
set_option maxHeartbeats 40000000 in
theorem rm97 (l : Launch) (Z : State) (a0 : Array Value) (hw : ∀ d ∈ tables_1, d.before a0 Z = true) (ws : List Jvm.Cond) (dv : Int32) (a_ASSETS : Addr) (a_LIABILITIES : Addr) (a_FUND_BALANCE : Addr) (a_REVENUES : Addr) (a_EXPENDITURES : Addr) (a_OTHER_RESOURCES : Addr) (a_OTHER_USES : Addr) (va : Addr) (kva : ClassId) (em : Addr) (h0 : Heap) (n0 : Nat) (Z0 : n0 ≤ h0.size) (O : Old Z n0 h0) (S_ASSETS : Sta Z Z.heap "com/example/ledgerhall/ledgerhall/AccountClass" "ASSETS" "Lcom/example/ledgerhall/ledgerhall/AccountClass;" (.ref a_ASSETS)) (E_ASSETS : Exa Z Z.heap a_ASSETS "com/example/ledgerhall/ledgerhall/AccountClass") (S_LIABILITIES : Sta Z Z.heap "com/example/ledgerhall/ledgerhall/AccountClass" "LIABILITIES" "Lcom/example/ledgerhall/ledgerhall/AccountClass;" (.ref a_LIABILITIES)) (E_LIABILITIES : Exa Z Z.heap a_LIABILITIES "com/example/ledgerhall/ledgerhall/AccountClass") (S_FUND_BALANCE : Sta Z Z.heap "com/example/ledgerhall/ledgerhall/AccountClass" "FUND_BALANCE" "Lcom/example/ledgerhall/ledgerhall/AccountClass;" (.ref a_FUND_BALANCE)) (E_FUND_BALANCE : Exa Z Z.heap a_FUND_BALANCE "com/example/ledgerhall/ledgerhall/AccountClass") (S_REVENUES : Sta Z Z.heap "com/example/ledgerhall/ledgerhall/AccountClass" "REVENUES" "Lcom/example/ledgerhall/ledgerhall/AccountClass;" (.ref a_REVENUES)) (E_REVENUES : Exa Z Z.heap a_REVENUES "com/example/ledgerhall/ledgerhall/AccountClass") (S_EXPENDITURES : Sta Z Z.heap "com/example/ledgerhall/ledgerhall/AccountClass" "EXPENDITURES" "Lcom/example/ledgerhall/ledgerhall/AccountClass;" (.ref a_EXPENDITURES)) (E_EXPENDITURES : Exa Z Z.heap a_EXPENDITURES "com/example/ledgerhall/ledgerhall/AccountClass") (S_OTHER_RESOURCES : Sta Z Z.heap "com/example/ledgerhall/ledgerhall/AccountClass" "OTHER_RESOURCES" "Lcom/example/ledgerhall/ledgerhall/AccountClass;" (.ref a_OTHER_RESOURCES)) (E_OTHER_RESOURCES : Exa Z Z.heap a_OTHER_RESOURCES "com/example/ledgerhall/ledgerhall/AccountClass") (S_OTHER_USES : Sta Z Z.heap "com/example/ledgerhall/ledgerhall/AccountClass" "OTHER_USES" "Lcom/example/ledgerhall/ledgerhall/AccountClass;" (.ref a_OTHER_USES)) (E_OTHER_USES : Exa Z Z.heap a_OTHER_USES "com/example/ledgerhall/ledgerhall/AccountClass") (F_ASSETS_digit : Fld Z Z.heap a_ASSETS "com/example/ledgerhall/ledgerhall/AccountClass" "digit" "C" (.int (49 : Int32))) (F_LIABILITIES_digit : Fld Z Z.heap a_LIABILITIES "com/example/ledgerhall/ledgerhall/AccountClass" "digit" "C" (.int (50 : Int32))) (F_FUND_BALANCE_digit : Fld Z Z.heap a_FUND_BALANCE "com/example/ledgerhall/ledgerhall/AccountClass" "digit" "C" (.int (51 : Int32))) (F_REVENUES_digit : Fld Z Z.heap a_REVENUES "com/example/ledgerhall/ledgerhall/AccountClass" "digit" "C" (.int (53 : Int32))) (F_EXPENDITURES_digit : Fld Z Z.heap a_EXPENDITURES "com/example/ledgerhall/ledgerhall/AccountClass" "digit" "C" (.int (54 : Int32))) (F_OTHER_RESOURCES_digit : Fld Z Z.heap a_OTHER_RESOURCES "com/example/ledgerhall/ledgerhall/AccountClass" "digit" "C" (.int (55 : Int32))) (F_OTHER_USES_digit : Fld Z Z.heap a_OTHER_USES "com/example/ledgerhall/ledgerhall/AccountClass" "digit" "C" (.int (56 : Int32))) (S_VALUES : Sta Z Z.heap "com/example/ledgerhall/ledgerhall/AccountClass" "$VALUES" "[Lcom/example/ledgerhall/ledgerhall/AccountClass;" (.ref va)) (E_VALUES : Exa Z Z.heap va "[Lcom/example/ledgerhall/ledgerhall/AccountClass;") (V_VALUES : Arv Z Z.heap va kva (.object "com/example/ledgerhall/ledgerhall/AccountClass") (7 : Int32) [(.ref a_ASSETS), (.ref a_LIABILITIES), (.ref a_FUND_BALANCE), (.ref a_REVENUES), (.ref a_EXPENDITURES), (.ref a_OTHER_RESOURCES), (.ref a_OTHER_USES)] .null) (S_EMPTY : Sta Z Z.heap "java/util/Optional" "EMPTY" "Ljava/util/Optional;" (.ref em)) (E_EMPTY : Exa Z Z.heap em "java/util/Optional") (F_EMPTY : Fld Z Z.heap em "java/util/Optional" "value" "Ljava/lang/Object;" .null) (hd49 : ¬ (49 : Int32) = dv) (hd50 : ¬ (50 : Int32) = dv) (hd51 : ¬ (51 : Int32) = dv) (hd53 : ¬ (53 : Int32) = dv) (hd54 : ¬ (54 : Int32) = dv) (hd55 : ¬ (55 : Int32) = dv) (hd56 : ¬ (56 : Int32) = dv) :
    MetFree l (⟨"com/example/ledgerhall/ledgerhall/AccountClassOfDigitPinLaw", "expected", "(C)Lcom/example/ledgerhall/ledgerhall/AccountClass;"⟩ : MethodName) (head1 (Jvm.Cond.code (⟨"com/example/ledgerhall/ledgerhall/AccountClassOfDigitPinLaw", "expected", "(C)Lcom/example/ledgerhall/ledgerhall/AccountClass;"⟩ : MethodName) method_3_code 1 (some (.object "com/example/ledgerhall/ledgerhall/AccountClass")) :: ws) ({ frames := 0, cells := 0, slots := 0, locals := 0 } : Room)) (fun aA uU => aA = #[(.int dv)] ∧ Z.Warmed39 uU.vm ∧ uU.heap = h0) (fun _ _ _ _ _ => True) (fun _ uU oO uU' => ∃ vV lL, oO = .returned vV ∧ Q97 Z dv a_ASSETS a_LIABILITIES a_FUND_BALANCE a_REVENUES a_EXPENDITURES a_OTHER_RESOURCES a_OTHER_USES va kva em h0 n0 vV uU'.heap lL ∧ FrameEnd uU oO uU' lL ({ frames := 0, cells := 0, slots := 0, locals := 0 } : Room).cells ({ frames := 0, cells := 0, slots := 0, locals := 0 } : Room).slots) := by
  refine MetFree.of_bodySF (plainFor_of_name pn_3) hisR ?_
  intro pP eE sS mM args below meth cC s₁ Bd hml0 hP hK
  obtain ⟨rfl, hZ, hh⟩ := hP
  have hx := Bd.exec
  have hby := Bd.bytes
  have hml : cC.maxLocals = 1 := hml0
  have hown : sS.vm.findClass "com/example/ledgerhall/ledgerhall/AccountClassOfDigitPinLaw" = some mM.cls := findClass_of_methodNamed Bd.named
  have hnm := (name_of_methodNamed Bd.named Bd.method).1
  have X0 : Stand pP l eE ({ frames := 0, cells := 0, slots := 0, locals := 0 } : Room) sS mM #[(.int dv)] below meth cC s₁ [] 0 0 := Stand.of_body Bd
  have e0 : s₁.heap = h0 := by rw [← hh, Bd.state]; rfl
  have N0 := Fr.nil n0
  have pre0 : ∀ tg, Steps pP.tables eE below (s₁.setTop (mkF mM 0 #[.val (.int dv)] [])) tg → Steps pP.tables eE below (s₁.setTop (entryFrame mM #[(.int dv)] 1)) tg := fun tg kg => castTop (ef_97 mM dv) kg
  have pr1 : ∀ tg, Steps pP.tables eE below (s₁.setTop (mkF mM 71 #[.val (.int dv)] [.null])) tg → Steps pP.tables eE below (s₁.setTop (entryFrame mM #[(.int dv)] 1)) tg := fun tg kg => pre0 _ (by
    show Steps pP.tables eE below (s₁.setTop (mkF mM 0 #[.val (.int dv)] [])) _
    refine XS.iloadN X0.here hx rfl (hb hby d97_0) rfl ?_
    show Steps pP.tables eE below (s₁.setTop (mkF mM 1 #[.val (.int dv)] [(.int dv)])) _
    refine XS.bipush X0.here hx rfl (hb hby d97_1) ?_
    show Steps pP.tables eE below (s₁.setTop (mkF mM 3 #[.val (.int dv)] [(.int (49 : Int32)), (.int dv)])) _
    refine XS.icmpYes X0.here hx rfl (pc0 := 3) (pc' := 10) rfl (hb hby d97_3) rfl (feq (fun q => hd49 q.symm)).2 (by decide) (by decide) ?_
    show Steps pP.tables eE below (s₁.setTop (mkF mM 10 #[.val (.int dv)] [])) _
    refine XS.iloadN X0.here hx rfl (hb hby d97_10) rfl ?_
    show Steps pP.tables eE below (s₁.setTop (mkF mM 11 #[.val (.int dv)] [(.int dv)])) _
    refine XS.bipush X0.here hx rfl (hb hby d97_11) ?_
    show Steps pP.tables eE below (s₁.setTop (mkF mM 13 #[.val (.int dv)] [(.int (50 : Int32)), (.int dv)])) _
    refine XS.icmpYes X0.here hx rfl (pc0 := 13) (pc' := 20) rfl (hb hby d97_13) rfl (feq (fun q => hd50 q.symm)).2 (by decide) (by decide) ?_
    show Steps pP.tables eE below (s₁.setTop (mkF mM 20 #[.val (.int dv)] [])) _
    refine XS.iloadN X0.here hx rfl (hb hby d97_20) rfl ?_
    show Steps pP.tables eE below (s₁.setTop (mkF mM 21 #[.val (.int dv)] [(.int dv)])) _
    refine XS.bipush X0.here hx rfl (hb hby d97_21) ?_
    show Steps pP.tables eE below (s₁.setTop (mkF mM 23 #[.val (.int dv)] [(.int (51 : Int32)), (.int dv)])) _
    refine XS.icmpYes X0.here hx rfl (pc0 := 23) (pc' := 30) rfl (hb hby d97_23) rfl (feq (fun q => hd51 q.symm)).2 (by decide) (by decide) ?_
    show Steps pP.tables eE below (s₁.setTop (mkF mM 30 #[.val (.int dv)] [])) _
    refine XS.iloadN X0.here hx rfl (hb hby d97_30) rfl ?_
    show Steps pP.tables eE below (s₁.setTop (mkF mM 31 #[.val (.int dv)] [(.int dv)])) _
    refine XS.bipush X0.here hx rfl (hb hby d97_31) ?_
    show Steps pP.tables eE below (s₁.setTop (mkF mM 33 #[.val (.int dv)] [(.int (53 : Int32)), (.int dv)])) _
    refine XS.icmpYes X0.here hx rfl (pc0 := 33) (pc' := 40) rfl (hb hby d97_33) rfl (feq (fun q => hd53 q.symm)).2 (by decide) (by decide) ?_
    show Steps pP.tables eE below (s₁.setTop (mkF mM 40 #[.val (.int dv)] [])) _
    refine XS.iloadN X0.here hx rfl (hb hby d97_40) rfl ?_
    show Steps pP.tables eE below (s₁.setTop (mkF mM 41 #[.val (.int dv)] [(.int dv)])) _
    refine XS.bipush X0.here hx rfl (hb hby d97_41) ?_
    show Steps pP.tables eE below (s₁.setTop (mkF mM 43 #[.val (.int dv)] [(.int (54 : Int32)), (.int dv)])) _
    refine XS.icmpYes X0.here hx rfl (pc0 := 43) (pc' := 50) rfl (hb hby d97_43) rfl (feq (fun q => hd54 q.symm)).2 (by decide) (by decide) ?_
    show Steps pP.tables eE below (s₁.setTop (mkF mM 50 #[.val (.int dv)] [])) _
    refine XS.iloadN X0.here hx rfl (hb hby d97_50) rfl ?_
    show Steps pP.tables eE below (s₁.setTop (mkF mM 51 #[.val (.int dv)] [(.int dv)])) _
    refine XS.bipush X0.here hx rfl (hb hby d97_51) ?_
    show Steps pP.tables eE below (s₁.setTop (mkF mM 53 #[.val (.int dv)] [(.int (55 : Int32)), (.int dv)])) _
    refine XS.icmpYes X0.here hx rfl (pc0 := 53) (pc' := 60) rfl (hb hby d97_53) rfl (feq (fun q => hd55 q.symm)).2 (by decide) (by decide) ?_
    show Steps pP.tables eE below (s₁.setTop (mkF mM 60 #[.val (.int dv)] [])) _
    refine XS.iloadN X0.here hx rfl (hb hby d97_60) rfl ?_
    show Steps pP.tables eE below (s₁.setTop (mkF mM 61 #[.val (.int dv)] [(.int dv)])) _
    refine XS.bipush X0.here hx rfl (hb hby d97_61) ?_
    show Steps pP.tables eE below (s₁.setTop (mkF mM 63 #[.val (.int dv)] [(.int (56 : Int32)), (.int dv)])) _
    refine XS.icmpYes X0.here hx rfl (pc0 := 63) (pc' := 70) rfl (hb hby d97_63) rfl (feq (fun q => hd56 q.symm)).2 (by decide) (by decide) ?_
    show Steps pP.tables eE below (s₁.setTop (mkF mM 70 #[.val (.int dv)] [])) _
    refine XS.aconstNull X0.here hx rfl (hb hby d97_70) ?_
    exact kg)
  obtain ⟨fs, hr, hrun, hended, hW, hsame⟩ := X0.leave (v := some .null) (fun h => by rw [Bd.returns] at h; cases h)
  refine ⟨_, _, pr1 _ (retOut X0 hx (t := (.object "com/example/ledgerhall/ledgerhall/AccountClass")) Bd.returns rfl (Or.inr (Or.inr (Or.inr (Or.inr ⟨rfl, rfl, rfl⟩)))) (hb hby d97_71) hr), hrun, hended, _, _, rfl, ?_, ⟨_, rfl⟩, hW, hsame.mono (by decide) (by decide)⟩
  show Q97 Z dv a_ASSETS a_LIABILITIES a_FUND_BALANCE a_REVENUES a_EXPENDITURES a_OTHER_RESOURCES a_OTHER_USES va kva em h0 n0 _ s₁.heap _
  rw [e0]
  exact ⟨rfl, N0, rfl⟩
theorem pd_5 : parseMethodDescriptor "(C)Ljava/util/Optional;" = some ⟨[.char], some (.object "java/util/Optional")⟩ := by decide +kernel
theorem pd_6 : parseMethodDescriptor "(C)Lcom/example/ledgerhall/ledgerhall/AccountClass;" = some ⟨[.char], some (.object "com/example/ledgerhall/ledgerhall/AccountClass")⟩ := by decide +kernel
theorem ef_0 (mM : MethodId) (x0 : Int32) (x1 : Int32) : entryFrame mM #[(.int x0), (.int x1)] maxLocals = mkF mM 0 #[.val (.int x0), .val (.int x1), .unset, .unset, .unset] [] := by first | (simp [entryFrame, mkF, argsToLocals, Value.category, maxLocals]; done) | rfl
def Q0 (Z : State) (cv : Int32) (mo : Int32) (a_ASSETS : Addr) (a_LIABILITIES : Addr) (a_FUND_BALANCE : Addr) (a_REVENUES : Addr) (a_EXPENDITURES : Addr) (a_OTHER_RESOURCES : Addr) (a_OTHER_USES : Addr) (va : Addr) (kva : ClassId) (em : Addr) (h0 : Heap) (n0 : Nat) (v : Option Value) (h : Heap) (L : List Loc) : Prop := v = some (.int (1 : Int32)) ∧ Fr n0 L
set_option maxRecDepth 65536 in
set_option maxHeartbeats 40000000 in
theorem rm0 (l : Launch) (Z : State) (a0 : Array Value) (hw : ∀ d ∈ tables_1, d.before a0 Z = true) (ws : List Jvm.Cond) (cv : Int32) (mo : Int32) (a_ASSETS : Addr) (a_LIABILITIES : Addr) (a_FUND_BALANCE : Addr) (a_REVENUES : Addr) (a_EXPENDITURES : Addr) (a_OTHER_RESOURCES : Addr) (a_OTHER_USES : Addr) (va : Addr) (kva : ClassId) (em : Addr) (h0 : Heap) (n0 : Nat) (Z0 : n0 ≤ h0.size) (O : Old Z n0 h0) (S_ASSETS : Sta Z Z.heap "com/example/ledgerhall/ledgerhall/AccountClass" "ASSETS" "Lcom/example/ledgerhall/ledgerhall/AccountClass;" (.ref a_ASSETS)) (E_ASSETS : Exa Z Z.heap a_ASSETS "com/example/ledgerhall/ledgerhall/AccountClass") (S_LIABILITIES : Sta Z Z.heap "com/example/ledgerhall/ledgerhall/AccountClass" "LIABILITIES" "Lcom/example/ledgerhall/ledgerhall/AccountClass;" (.ref a_LIABILITIES)) (E_LIABILITIES : Exa Z Z.heap a_LIABILITIES "com/example/ledgerhall/ledgerhall/AccountClass") (S_FUND_BALANCE : Sta Z Z.heap "com/example/ledgerhall/ledgerhall/AccountClass" "FUND_BALANCE" "Lcom/example/ledgerhall/ledgerhall/AccountClass;" (.ref a_FUND_BALANCE)) (E_FUND_BALANCE : Exa Z Z.heap a_FUND_BALANCE "com/example/ledgerhall/ledgerhall/AccountClass") (S_REVENUES : Sta Z Z.heap "com/example/ledgerhall/ledgerhall/AccountClass" "REVENUES" "Lcom/example/ledgerhall/ledgerhall/AccountClass;" (.ref a_REVENUES)) (E_REVENUES : Exa Z Z.heap a_REVENUES "com/example/ledgerhall/ledgerhall/AccountClass") (S_EXPENDITURES : Sta Z Z.heap "com/example/ledgerhall/ledgerhall/AccountClass" "EXPENDITURES" "Lcom/example/ledgerhall/ledgerhall/AccountClass;" (.ref a_EXPENDITURES)) (E_EXPENDITURES : Exa Z Z.heap a_EXPENDITURES "com/example/ledgerhall/ledgerhall/AccountClass") (S_OTHER_RESOURCES : Sta Z Z.heap "com/example/ledgerhall/ledgerhall/AccountClass" "OTHER_RESOURCES" "Lcom/example/ledgerhall/ledgerhall/AccountClass;" (.ref a_OTHER_RESOURCES)) (E_OTHER_RESOURCES : Exa Z Z.heap a_OTHER_RESOURCES "com/example/ledgerhall/ledgerhall/AccountClass") (S_OTHER_USES : Sta Z Z.heap "com/example/ledgerhall/ledgerhall/AccountClass" "OTHER_USES" "Lcom/example/ledgerhall/ledgerhall/AccountClass;" (.ref a_OTHER_USES)) (E_OTHER_USES : Exa Z Z.heap a_OTHER_USES "com/example/ledgerhall/ledgerhall/AccountClass") (F_ASSETS_digit : Fld Z Z.heap a_ASSETS "com/example/ledgerhall/ledgerhall/AccountClass" "digit" "C" (.int (49 : Int32))) (F_LIABILITIES_digit : Fld Z Z.heap a_LIABILITIES "com/example/ledgerhall/ledgerhall/AccountClass" "digit" "C" (.int (50 : Int32))) (F_FUND_BALANCE_digit : Fld Z Z.heap a_FUND_BALANCE "com/example/ledgerhall/ledgerhall/AccountClass" "digit" "C" (.int (51 : Int32))) (F_REVENUES_digit : Fld Z Z.heap a_REVENUES "com/example/ledgerhall/ledgerhall/AccountClass" "digit" "C" (.int (53 : Int32))) (F_EXPENDITURES_digit : Fld Z Z.heap a_EXPENDITURES "com/example/ledgerhall/ledgerhall/AccountClass" "digit" "C" (.int (54 : Int32))) (F_OTHER_RESOURCES_digit : Fld Z Z.heap a_OTHER_RESOURCES "com/example/ledgerhall/ledgerhall/AccountClass" "digit" "C" (.int (55 : Int32))) (F_OTHER_USES_digit : Fld Z Z.heap a_OTHER_USES "com/example/ledgerhall/ledgerhall/AccountClass" "digit" "C" (.int (56 : Int32))) (S_VALUES : Sta Z Z.heap "com/example/ledgerhall/ledgerhall/AccountClass" "$VALUES" "[Lcom/example/ledgerhall/ledgerhall/AccountClass;" (.ref va)) (E_VALUES : Exa Z Z.heap va "[Lcom/example/ledgerhall/ledgerhall/AccountClass;") (V_VALUES : Arv Z Z.heap va kva (.object "com/example/ledgerhall/ledgerhall/AccountClass") (7 : Int32) [(.ref a_ASSETS), (.ref a_LIABILITIES), (.ref a_FUND_BALANCE), (.ref a_REVENUES), (.ref a_EXPENDITURES), (.ref a_OTHER_RESOURCES), (.ref a_OTHER_USES)] .null) (S_EMPTY : Sta Z Z.heap "java/util/Optional" "EMPTY" "Ljava/util/Optional;" (.ref em)) (E_EMPTY : Exa Z Z.heap em "java/util/Optional") (F_EMPTY : Fld Z Z.heap em "java/util/Optional" "value" "Ljava/lang/Object;" .null) :
    MetFree l x (head1 (Jvm.Cond.code x code maxLocals ret :: ws) room_1) (fun aA uU => aA = #[(.int cv), (.int mo)] ∧ Z.Warmed39 uU.vm ∧ uU.heap = h0) (fun _ _ _ _ _ => True) (fun _ uU oO uU' => ∃ vV lL, oO = .returned vV ∧ Q0 Z cv mo a_ASSETS a_LIABILITIES a_FUND_BALANCE a_REVENUES a_EXPENDITURES a_OTHER_RESOURCES a_OTHER_USES va kva em h0 n0 vV uU'.heap lL ∧ FrameEnd uU oO uU' lL room_1.cells room_1.slots) := by
  refine MetFree.of_bodySF (plainFor_of_name pn_3) hisR ?_
  intro pP eE sS mM args below meth cC s₁ Bd hml0 hP hK
  obtain ⟨rfl, hZ, hh⟩ := hP
  have hx := Bd.exec
  have hby := Bd.bytes
  have hml : cC.maxLocals = 5 := hml0
  have hown : sS.vm.findClass "com/example/ledgerhall/ledgerhall/AccountClassOfDigitPinLaw" = some mM.cls := findClass_of_methodNamed Bd.named
  have hnm := (name_of_methodNamed Bd.named Bd.method).1
  have X0 : Stand pP l eE room_1 sS mM #[(.int cv), (.int mo)] below meth cC s₁ [] 0 0 := Stand.of_body Bd
  have e0 : s₁.heap = h0 := by rw [← hh, Bd.state]; rfl
  have N0 := Fr.nil n0
  have pre0 : ∀ tg, Steps pP.tables eE below (s₁.setTop (mkF mM 0 #[.val (.int cv), .val (.int mo), .unset, .unset, .unset] [])) tg → Steps pP.tables eE below (s₁.setTop (entryFrame mM #[(.int cv), (.int mo)] maxLocals)) tg := fun tg kg => castTop (ef_0 mM cv mo) kg
  have pr1 : ∀ tg, Steps pP.tables eE below (s₁.setTop (mkF mM 3 #[.val (.int cv), .val (.int mo), .unset, .unset, .unset] [(.int (mo &&& (1 : Int32)))])) tg → Steps pP.tables eE below (s₁.setTop (entryFrame mM #[(.int cv), (.int mo)] maxLocals)) tg := fun tg kg => pre0 _ (by
    show Steps pP.tables eE below (s₁.setTop (mkF mM 0 #[.val (.int cv), .val (.int mo), .unset, .unset, .unset] [])) _
    refine XS.iloadN X0.here hx rfl (hb hby at_0) rfl ?_
    show Steps pP.tables eE below (s₁.setTop (mkF mM 1 #[.val (.int cv), .val (.int mo), .unset, .unset, .unset] [(.int mo)])) _
    refine XS.iconst X0.here hx rfl (hb hby at_1) ?_
    show Steps pP.tables eE below (s₁.setTop (mkF mM 2 #[.val (.int cv), .val (.int mo), .unset, .unset, .unset] [(.int (1 : Int32)), (.int mo)])) _
    refine XS.iand X0.here hx rfl (hb hby at_2) rfl ?_
    exact kg)
  obtain ⟨j3, hj3, st4⟩ : ∃ (j3 : Int32), j3 = (if (mo &&& (1 : Int32)) = (0 : Int32) then cv.toUInt32.toUInt16.toUInt32.toInt32 else ((44 : Int32) + (cv &&& (15 : Int32))).toUInt32.toUInt16.toUInt32.toInt32) ∧ ∀ tg, Steps pP.tables eE below (s₁.setTop (mkF mM 21 #[.val (.int cv), .val (.int mo), .val (.int j3), .unset, .unset] [])) tg → Steps pP.tables eE below (s₁.setTop (mkF mM 3 #[.val (.int cv), .val (.int mo), .unset, .unset, .unset] [(.int (mo &&& (1 : Int32)))])) tg := by
    by_cases hj3_2 : (mo &&& (1 : Int32)) = (0 : Int32)
    ·
      refine ⟨cv.toUInt32.toUInt16.toUInt32.toInt32, (by rw [if_pos hj3_2]), fun tg kg => ?_⟩
      show Steps pP.tables eE below (s₁.setTop (mkF mM 3 #[.val (.int cv), .val (.int mo), .unset, .unset, .unset] [(.int (mo &&& (1 : Int32)))])) _
      refine XS.ifYes X0.here hx rfl (pc0 := 3) (pc' := 18) rfl (hb hby at_3) rfl ((if0 _ _).trans (teq hj3_2).1) (by decide) (by decide) ?_
      show Steps pP.tables eE below (s₁.setTop (mkF mM 18 #[.val (.int cv), .val (.int mo), .unset, .unset, .unset] [])) _
      refine XS.iloadN X0.here hx rfl (hb hby at_18) rfl ?_
      show Steps pP.tables eE below (s₁.setTop (mkF mM 19 #[.val (.int cv), .val (.int mo), .unset, .unset, .unset] [(.int cv)])) _
      refine XS.i2c X0.here hx rfl (hb hby at_19) rfl ?_
      show Steps pP.tables eE below (s₁.setTop (mkF mM 20 #[.val (.int cv), .val (.int mo), .unset, .unset, .unset] [(.int cv.toUInt32.toUInt16.toUInt32.toInt32)])) _
      refine XS.istoreN X0.here hx rfl (hb hby at_20) rfl (l' := #[.val (.int cv), .val (.int mo), .val (.int cv.toUInt32.toUInt16.toUInt32.toInt32), .unset, .unset]) rfl ?_
      exact kg
    ·
      refine ⟨((44 : Int32) + (cv &&& (15 : Int32))).toUInt32.toUInt16.toUInt32.toInt32, (by rw [if_neg hj3_2]), fun tg kg => ?_⟩
      show Steps pP.tables eE below (s₁.setTop (mkF mM 3 #[.val (.int cv), .val (.int mo), .unset, .unset, .unset] [(.int (mo &&& (1 : Int32)))])) _
      refine XS.ifNo X0.here hx rfl (hb hby at_3) rfl ((if0 _ _).trans (feq hj3_2).1) ?_
      show Steps pP.tables eE below (s₁.setTop (mkF mM 6 #[.val (.int cv), .val (.int mo), .unset, .unset, .unset] [])) _
      refine XS.bipush X0.here hx rfl (hb hby at_6) ?_
      show Steps pP.tables eE below (s₁.setTop (mkF mM 8 #[.val (.int cv), .val (.int mo), .unset, .unset, .unset] [(.int (44 : Int32))])) _
      refine XS.iloadN X0.here hx rfl (hb hby at_8) rfl ?_
      show Steps pP.tables eE below (s₁.setTop (mkF mM 9 #[.val (.int cv), .val (.int mo), .unset, .unset, .unset] [(.int cv), (.int (44 : Int32))])) _
      refine XS.bipush X0.here hx rfl (hb hby at_9) ?_
      show Steps pP.tables eE below (s₁.setTop (mkF mM 11 #[.val (.int cv), .val (.int mo), .unset, .unset, .unset] [(.int (15 : Int32)), (.int cv), (.int (44 : Int32))])) _
      refine XS.iand X0.here hx rfl (hb hby at_11) rfl ?_
      show Steps pP.tables eE below (s₁.setTop (mkF mM 12 #[.val (.int cv), .val (.int mo), .unset, .unset, .unset] [(.int (cv &&& (15 : Int32))), (.int (44 : Int32))])) _
      refine XS.iadd X0.here hx rfl (hb hby at_12) rfl ?_
      show Steps pP.tables eE below (s₁.setTop (mkF mM 13 #[.val (.int cv), .val (.int mo), .unset, .unset, .unset] [(.int ((44 : Int32) + (cv &&& (15 : Int32))))])) _
      refine XS.i2c X0.here hx rfl (hb hby at_13) rfl ?_
      show Steps pP.tables eE below (s₁.setTop (mkF mM 14 #[.val (.int cv), .val (.int mo), .unset, .unset, .unset] [(.int ((44 : Int32) + (cv &&& (15 : Int32))).toUInt32.toUInt16.toUInt32.toInt32)])) _
      refine XS.istoreN X0.here hx rfl (hb hby at_14) rfl (l' := #[.val (.int cv), .val (.int mo), .val (.int ((44 : Int32) + (cv &&& (15 : Int32))).toUInt32.toUInt16.toUInt32.toInt32), .unset, .unset]) rfl ?_
      show Steps pP.tables eE below (s₁.setTop (mkF mM 15 #[.val (.int cv), .val (.int mo), .val (.int ((44 : Int32) + (cv &&& (15 : Int32))).toUInt32.toUInt16.toUInt32.toInt32), .unset, .unset] [])) _
      refine XS.goto X0.here hx rfl (pc0 := 15) (pc' := 21) rfl (hb hby at_15) (by decide) (by decide) ?_
      exact kg
  have pr5 : ∀ tg, Steps pP.tables eE below (s₁.setTop (mkF mM 21 #[.val (.int cv), .val (.int mo), .val (.int j3), .unset, .unset] [])) tg → Steps pP.tables eE below (s₁.setTop (entryFrame mM #[(.int cv), (.int mo)] maxLocals)) tg := fun tg kg => pr1 _ (st4 _ kg)
  have pr6 : ∀ tg, Steps pP.tables eE below (s₁.setTop (mkF mM 22 #[.val (.int cv), .val (.int mo), .val (.int j3), .unset, .unset] [(.int j3)])) tg → Steps pP.tables eE below (s₁.setTop (entryFrame mM #[(.int cv), (.int mo)] maxLocals)) tg := fun tg kg => pr5 _ (by
    show Steps pP.tables eE below (s₁.setTop (mkF mM 21 #[.val (.int cv), .val (.int mo), .val (.int j3), .unset, .unset] [])) _
    refine XS.iloadN X0.here hx rfl (hb hby at_21) rfl ?_
    exact kg)
  obtain ⟨_, _, ⟨T7, L7, kk7, nn7⟩, -, X7, ⟨Lc7, hQ7, l7, y7, z7⟩, st7⟩ := Jvm.LawKit.callS X0 hx (y := (⟨"com/example/ledgerhall/ledgerhall/AccountClass", "ofDigit", "(C)Ljava/util/Optional;"⟩ : MethodName)) hown (mvT hZ (hw _ (List.mem_of_getElem? (i := 0) rfl))) (mvT hZ (hw _ (List.mem_of_getElem? (i := 1) rfl))) (mvT hZ (hw _ (List.mem_of_getElem? (i := 2) rfl))) (mvT hZ (hw _ (List.mem_of_getElem? (i := 3) rfl))) (by decide) (backOf (W := 0) (rm6 l Z a0 hw [] j3 a_ASSETS a_LIABILITIES a_FUND_BALANCE a_REVENUES a_EXPENDITURES a_OTHER_RESOURCES a_OTHER_USES va kva em h0 n0 Z0 O S_ASSETS E_ASSETS S_LIABILITIES E_LIABILITIES S_FUND_BALANCE E_FUND_BALANCE S_REVENUES E_REVENUES S_EXPENDITURES E_EXPENDITURES S_OTHER_RESOURCES E_OTHER_RESOURCES S_OTHER_USES E_OTHER_USES F_ASSETS_digit F_LIABILITIES_digit F_FUND_BALANCE_digit F_REVENUES_digit F_EXPENDITURES_digit F_OTHER_RESOURCES_digit F_OTHER_USES_digit S_VALUES E_VALUES V_VALUES S_EMPTY E_EMPTY F_EMPTY) hZ (hw _ (List.mem_of_getElem? (i := 3) rfl)) (hw _ (List.mem_of_getElem? (i := 2) rfl)) (by decide) (by decide)) (g := (mkF mM 22 #[.val (.int cv), .val (.int mo), .val (.int j3), .unset, .unset] [(.int j3)])) rfl (by rw [hml]; rfl) (argsL := [(.int j3)]) (rest := []) (lenOf pd_5 rfl) rfl (by show 2 * 0 + _ ≤ _; exact Nat.le_of_eq rfl) (hb hby at_22) (fun _ _ => ⟨rfl, e0, (by decide : 0 + 2 ≤ _), (by decide : 0 + 8 ≤ _)⟩)
  dsimp only [Pt.U, Pt.locs, Pt.cells, Pt.slots] at X7 l7 y7 z7 st7 hQ7
  subst l7 y7 z7
  obtain ⟨bd7, rfl, Nq7, K7, E7, hd7⟩ := hQ7
  have N7 := Fr.app N0 Nq7
  have pr8 : ∀ tg, Steps pP.tables eE below (T7.setTop (mkF mM 25 #[.val (.int cv), .val (.int mo), .val (.int j3), .unset, .unset] [(.ref bd7)])) tg → Steps pP.tables eE below (s₁.setTop (entryFrame mM #[(.int cv), (.int mo)] maxLocals)) tg := fun tg kg => pr6 _ (st7 _ kg)
  rcases hd7 with ⟨hq, hF⟩ | ⟨hq, hF⟩ | ⟨hq, hF⟩ | ⟨hq, hF⟩ | ⟨hq, hF⟩ | ⟨hq, hF⟩ | ⟨hq, hF⟩ | ⟨⟨hd49, hd50, hd51, hd53, hd54, hd55, hd56⟩, hF⟩
  ·
    subst hq
    have pr9 : ∀ tg, Steps pP.tables eE below (T7.setTop (mkF mM 26 #[.val (.int cv), .val (.int mo), .val (.int (49 : Int32)), .unset, .unset] [.null, (.ref bd7)])) tg → Steps pP.tables eE below (s₁.setTop (entryFrame mM #[(.int cv), (.int mo)] maxLocals)) tg := fun tg kg => pr8 _ (by
      show Steps pP.tables eE below (T7.setTop (mkF mM 25 #[.val (.int cv), .val (.int mo), .val (.int (49 : Int32)), .unset, .unset] [(.ref bd7)])) _
      refine XS.aconstNull X7.here hx rfl (hb hby at_25) ?_
      exact kg)
    have c10 := (Nat.le_trans Z0 K7.1)
    obtain ⟨cq11, kq11, qa11, qb11, qc11⟩ := isOf hZ rfl E7
    obtain ⟨_, _, ⟨T11, L11, kk11, nn11⟩, -, X11, ⟨Lc11, hQ11, l11, y11, z11⟩, st11⟩ := X7.virtualBack hx (y := (⟨"java/util/Optional", "orElse", "(Ljava/lang/Object;)Ljava/lang/Object;"⟩ : MethodName)) (z := (⟨"java/util/Optional", "orElse", "(Ljava/lang/Object;)Ljava/lang/Object;"⟩ : MethodName)) hown (mvT hZ (hw _ (List.mem_of_getElem? (i := 33) rfl))) (mvT hZ (hw _ (List.mem_of_getElem? (i := 34) rfl))) (notFace_of_selects (args := #[]) (mvT hZ (hw _ (List.mem_of_getElem? (i := 36) rfl)))) (mvT hZ (hw _ (List.mem_of_getElem? (i := 36) rfl))) (mvT hZ (hw _ (List.mem_of_getElem? (i := 35) rfl))) (by decide) (backOf (W := 0) (rm7 l Z a0 hw [] bd7 a_ASSETS T7.heap n0 c10 E7 hF) hZ (hw _ (List.mem_of_getElem? (i := 37) rfl)) (hw _ (List.mem_of_getElem? (i := 30) rfl)) (by decide) (by decide)) qa11 qc11 (g := (mkF mM 26 #[.val (.int cv), .val (.int mo), .val (.int (49 : Int32)), .unset, .unset] [.null, (.ref bd7)])) rfl (by rw [hml]; rfl) (Steps.refl _) (argsL := [.null]) (rest := []) (lenOf pd_0 rfl) rfl (by show 2 * 0 + _ ≤ _; exact Nat.le_of_eq rfl) (hb hby at_26) (fun _ _ => ⟨rfl, rfl, (by decide : 2 + 0 ≤ _), (by decide : 8 + 0 ≤ _)⟩)
    dsimp only [Pt.U, Pt.locs, Pt.cells, Pt.slots] at X11 l11 y11 z11 st11 hQ11
    subst l11 y11 z11
    obtain ⟨rfl, Nq11, e11⟩ := hQ11
    have N11 := Fr.app N7 Nq11
    have pr12 : ∀ tg, Steps pP.tables eE below (T11.setTop (mkF mM 29 #[.val (.int cv), .val (.int mo), .val (.int (49 : Int32)), .unset, .unset] [(.ref a_ASSETS)])) tg → Steps pP.tables eE below (s₁.setTop (entryFrame mM #[(.int cv), (.int mo)] maxLocals)) tg := fun tg kg => pr9 _ (st11.trans kg)
    have c13 := (Old.keep O K7 all0)
    obtain ⟨T14, X14, e14, st14⟩ := castY X11 hx hZ hown (hw _ (List.mem_of_getElem? (i := 60) rfl)) e11 (Ins.self (Exa.ext (c13).2 E_ASSETS)) (g := (mkF mM 29 #[.val (.int cv), .val (.int mo), .val (.int (49 : Int32)), .unset, .unset] [(.ref a_ASSETS)])) rfl rfl (hb hby at_29)
    have pr15 : ∀ tg, Steps pP.tables eE below (T14.setTop (mkF mM 32 #[.val (.int cv), .val (.int mo), .val (.int (49 : Int32)), .unset, .unset] [(.ref a_ASSETS)])) tg → Steps pP.tables eE below (s₁.setTop (entryFrame mM #[(.int cv), (.int mo)] maxLocals)) tg := fun tg kg => pr12 _ (st14 _ kg)
    have pr16 : ∀ tg, Steps pP.tables eE below (T14.setTop (mkF mM 34 #[.val (.int cv), .val (.int mo), .val (.int (49 : Int32)), .val (.ref a_ASSETS), .unset] [(.int (49 : Int32))])) tg → Steps pP.tables eE below (s₁.setTop (entryFrame mM #[(.int cv), (.int mo)] maxLocals)) tg := fun tg kg => pr15 _ (by
      show Steps pP.tables eE below (T14.setTop (mkF mM 32 #[.val (.int cv), .val (.int mo), .val (.int (49 : Int32)), .unset, .unset] [(.ref a_ASSETS)])) _
      refine XS.astoreN X14.here hx rfl (hb hby at_32) rfl rfl (l' := #[.val (.int cv), .val (.int mo), .val (.int (49 : Int32)), .val (.ref a_ASSETS), .unset]) rfl ?_
      show Steps pP.tables eE below (T14.setTop (mkF mM 33 #[.val (.int cv), .val (.int mo), .val (.int (49 : Int32)), .val (.ref a_ASSETS), .unset] [])) _
      refine XS.iloadN X14.here hx rfl (hb hby at_33) rfl ?_
      exact kg)
    obtain ⟨_, _, ⟨T17, L17, kk17, nn17⟩, -, X17, ⟨Lc17, hQ17, l17, y17, z17⟩, st17⟩ := Jvm.LawKit.callS X14 hx (y := (⟨"com/example/ledgerhall/ledgerhall/AccountClassOfDigitPinLaw", "expected", "(C)Lcom/example/ledgerhall/ledgerhall/AccountClass;"⟩ : MethodName)) hown (mvT hZ (hw _ (List.mem_of_getElem? (i := 40) rfl))) (mvT hZ (hw _ (List.mem_of_getElem? (i := 41) rfl))) (mvT hZ (hw _ (List.mem_of_getElem? (i := 42) rfl))) (mvT hZ (hw _ (List.mem_of_getElem? (i := 43) rfl))) (by decide) (backOf (W := 0) (rm90 l Z a0 hw [] a_ASSETS a_LIABILITIES a_FUND_BALANCE a_REVENUES a_EXPENDITURES a_OTHER_RESOURCES a_OTHER_USES va kva em T7.heap n0 c10 c13 S_ASSETS E_ASSETS S_LIABILITIES E_LIABILITIES S_FUND_BALANCE E_FUND_BALANCE S_REVENUES E_REVENUES S_EXPENDITURES E_EXPENDITURES S_OTHER_RESOURCES E_OTHER_RESOURCES S_OTHER_USES E_OTHER_USES F_ASSETS_digit F_LIABILITIES_digit F_FUND_BALANCE_digit F_REVENUES_digit F_EXPENDITURES_digit F_OTHER_RESOURCES_digit F_OTHER_USES_digit S_VALUES E_VALUES V_VALUES S_EMPTY E_EMPTY F_EMPTY) hZ (hw _ (List.mem_of_getElem? (i := 43) rfl)) (hw _ (List.mem_of_getElem? (i := 42) rfl)) (by decide) (by decide)) (g := (mkF mM 34 #[.val (.int cv), .val (.int mo), .val (.int (49 : Int32)), .val (.ref a_ASSETS), .unset] [(.int (49 : Int32))])) rfl (by rw [hml]; rfl) (argsL := [(.int (49 : Int32))]) (rest := []) (lenOf pd_6 rfl) rfl (by show 2 * 0 + _ ≤ _; exact Nat.le_of_eq rfl) (hb hby at_34) (fun _ _ => ⟨rfl, e14, (by decide : 2 + 0 ≤ _), (by decide : 8 + 0 ≤ _)⟩)
    dsimp only [Pt.U, Pt.locs, Pt.cells, Pt.slots] at X17 l17 y17 z17 st17 hQ17
    subst l17 y17 z17
    obtain ⟨rfl, Nq17, e17⟩ := hQ17
    have N17 := Fr.app N11 Nq17
    have pr18 : ∀ tg, Steps pP.tables eE below (T17.setTop (mkF mM 37 #[.val (.int cv), .val (.int mo), .val (.int (49 : Int32)), .val (.ref a_ASSETS), .unset] [(.ref a_ASSETS)])) tg → Steps pP.tables eE below (s₁.setTop (entryFrame mM #[(.int cv), (.int mo)] maxLocals)) tg := fun tg kg => pr16 _ (st17 _ kg)
    have pr19 : ∀ tg, Steps pP.tables eE below (T17.setTop (mkF mM 50 #[.val (.int cv), .val (.int mo), .val (.int (49 : Int32)), .val (.ref a_ASSETS), .val (.ref a_ASSETS)] [(.int (1 : Int32))])) tg → Steps pP.tables eE below (s₁.setTop (entryFrame mM #[(.int cv), (.int mo)] maxLocals)) tg := fun tg kg => pr18 _ (by
      show Steps pP.tables eE below (T17.setTop (mkF mM 37 #[.val (.int cv), .val (.int mo), .val (.int (49 : Int32)), .val (.ref a_ASSETS), .unset] [(.ref a_ASSETS)])) _
      refine XS.astore X17.here hx rfl (hb hby at_37) rfl rfl (l' := #[.val (.int cv), .val (.int mo), .val (.int (49 : Int32)), .val (.ref a_ASSETS), .val (.ref a_ASSETS)]) rfl ?_
      show Steps pP.tables eE below (T17.setTop (mkF mM 39 #[.val (.int cv), .val (.int mo), .val (.int (49 : Int32)), .val (.ref a_ASSETS), .val (.ref a_ASSETS)] [])) _
      refine XS.aloadN X17.here hx rfl (hb hby at_39) rfl rfl ?_
      show Steps pP.tables eE below (T17.setTop (mkF mM 40 #[.val (.int cv), .val (.int mo), .val (.int (49 : Int32)), .val (.ref a_ASSETS), .val (.ref a_ASSETS)] [(.ref a_ASSETS)])) _
      refine XS.aload X17.here hx rfl (hb hby at_40) rfl rfl ?_
      show Steps pP.tables eE below (T17.setTop (mkF mM 42 #[.val (.int cv), .val (.int mo), .val (.int (49 : Int32)), .val (.ref a_ASSETS), .val (.ref a_ASSETS)] [(.ref a_ASSETS), (.ref a_ASSETS)])) _
      refine Jvm.RoadKit.acmp (g := (mkF mM 42 #[.val (.int cv), .val (.int mo), .val (.int (49 : Int32)), .val (.ref a_ASSETS), .val (.ref a_ASSETS)] [(.ref a_ASSETS), (.ref a_ASSETS)])) X17 hx rfl rfl rfl (pc0 := 42) (pc' := 45) (same := true) rfl (hb hby at_42) rfl (decide_eq_true rfl) (by decide) (by decide) ?_
      show Steps pP.tables eE below (T17.setTop (mkF mM 45 #[.val (.int cv), .val (.int mo), .val (.int (49 : Int32)), .val (.ref a_ASSETS), .val (.ref a_ASSETS)] [])) _
      refine XS.iconst X17.here hx rfl (hb hby at_45) ?_
      show Steps pP.tables eE below (T17.setTop (mkF mM 46 #[.val (.int cv), .val (.int mo), .val (.int (49 : Int32)), .val (.ref a_ASSETS), .val (.ref a_ASSETS)] [(.int (1 : Int32))])) _
      refine XS.goto X17.here hx rfl (pc0 := 46) (pc' := 50) rfl (hb hby at_46) (by decide) (by decide) ?_
      exact kg)
    obtain ⟨fs, hr, hrun, hended, hW, hsame⟩ := X17.leave (v := some (.int (1 : Int32))) (fun h => by rw [Bd.returns] at h; cases h)
    refine ⟨_, _, pr19 _ (retOut X17 hx (t := .boolean) Bd.returns rfl (Or.inl ⟨rfl, Or.inr (Or.inl rfl), _, rfl⟩) (hb hby at_50) hr), hrun, hended, _, _, rfl, ?_, ⟨_, rfl⟩, hW, hsame.mono (by decide) (by decide)⟩
    show Q0 Z cv mo a_ASSETS a_LIABILITIES a_FUND_BALANCE a_REVENUES a_EXPENDITURES a_OTHER_RESOURCES a_OTHER_USES va kva em h0 n0 _ T17.heap _
    rw [e17]
    exact ⟨rfl, N17⟩
  ·
    subst hq
    have pr20 : ∀ tg, Steps pP.tables eE below (T7.setTop (mkF mM 26 #[.val (.int cv), .val (.int mo), .val (.int (50 : Int32)), .unset, .unset] [.null, (.ref bd7)])) tg → Steps pP.tables eE below (s₁.setTop (entryFrame mM #[(.int cv), (.int mo)] maxLocals)) tg := fun tg kg => pr8 _ (by
      show Steps pP.tables eE below (T7.setTop (mkF mM 25 #[.val (.int cv), .val (.int mo), .val (.int (50 : Int32)), .unset, .unset] [(.ref bd7)])) _
      refine XS.aconstNull X7.here hx rfl (hb hby at_25) ?_
      exact kg)
    have c21 := (Nat.le_trans Z0 K7.1)
    obtain ⟨cq22, kq22, qa22, qb22, qc22⟩ := isOf hZ rfl E7
    obtain ⟨_, _, ⟨T22, L22, kk22, nn22⟩, -, X22, ⟨Lc22, hQ22, l22, y22, z22⟩, st22⟩ := X7.virtualBack hx (y := (⟨"java/util/Optional", "orElse", "(Ljava/lang/Object;)Ljava/lang/Object;"⟩ : MethodName)) (z := (⟨"java/util/Optional", "orElse", "(Ljava/lang/Object;)Ljava/lang/Object;"⟩ : MethodName)) hown (mvT hZ (hw _ (List.mem_of_getElem? (i := 33) rfl))) (mvT hZ (hw _ (List.mem_of_getElem? (i := 34) rfl))) (notFace_of_selects (args := #[]) (mvT hZ (hw _ (List.mem_of_getElem? (i := 36) rfl)))) (mvT hZ (hw _ (List.mem_of_getElem? (i := 36) rfl))) (mvT hZ (hw _ (List.mem_of_getElem? (i := 35) rfl))) (by decide) (backOf (W := 0) (rm7 l Z a0 hw [] bd7 a_LIABILITIES T7.heap n0 c21 E7 hF) hZ (hw _ (List.mem_of_getElem? (i := 37) rfl)) (hw _ (List.mem_of_getElem? (i := 30) rfl)) (by decide) (by decide)) qa22 qc22 (g := (mkF mM 26 #[.val (.int cv), .val (.int mo), .val (.int (50 : Int32)), .unset, .unset] [.null, (.ref bd7)])) rfl (by rw [hml]; rfl) (Steps.refl _) (argsL := [.null]) (rest := []) (lenOf pd_0 rfl) rfl (by show 2 * 0 + _ ≤ _; exact Nat.le_of_eq rfl) (hb hby at_26) (fun _ _ => ⟨rfl, rfl, (by decide : 2 + 0 ≤ _), (by decide : 8 + 0 ≤ _)⟩)
    dsimp only [Pt.U, Pt.locs, Pt.cells, Pt.slots] at X22 l22 y22 z22 st22 hQ22
    subst l22 y22 z22
    obtain ⟨rfl, Nq22, e22⟩ := hQ22
    have N22 := Fr.app N7 Nq22
    have pr23 : ∀ tg, Steps pP.tables eE below (T22.setTop (mkF mM 29 #[.val (.int cv), .val (.int mo), .val (.int (50 : Int32)), .unset, .unset] [(.ref a_LIABILITIES)])) tg → Steps pP.tables eE below (s₁.setTop (entryFrame mM #[(.int cv), (.int mo)] maxLocals)) tg := fun tg kg => pr20 _ (st22.trans kg)
    have c24 := (Old.keep O K7 all0)
    obtain ⟨T25, X25, e25, st25⟩ := castY X22 hx hZ hown (hw _ (List.mem_of_getElem? (i := 60) rfl)) e22 (Ins.self (Exa.ext (c24).2 E_LIABILITIES)) (g := (mkF mM 29 #[.val (.int cv), .val (.int mo), .val (.int (50 : Int32)), .unset, .unset] [(.ref a_LIABILITIES)])) rfl rfl (hb hby at_29)
    have pr26 : ∀ tg, Steps pP.tables eE below (T25.setTop (mkF mM 32 #[.val (.int cv), .val (.int mo), .val (.int (50 : Int32)), .unset, .unset] [(.ref a_LIABILITIES)])) tg → Steps pP.tables eE below (s₁.setTop (entryFrame mM #[(.int cv), (.int mo)] maxLocals)) tg := fun tg kg => pr23 _ (st25 _ kg)
    have pr27 : ∀ tg, Steps pP.tables eE below (T25.setTop (mkF mM 34 #[.val (.int cv), .val (.int mo), .val (.int (50 : Int32)), .val (.ref a_LIABILITIES), .unset] [(.int (50 : Int32))])) tg → Steps pP.tables eE below (s₁.setTop (entryFrame mM #[(.int cv), (.int mo)] maxLocals)) tg := fun tg kg => pr26 _ (by
      show Steps pP.tables eE below (T25.setTop (mkF mM 32 #[.val (.int cv), .val (.int mo), .val (.int (50 : Int32)), .unset, .unset] [(.ref a_LIABILITIES)])) _
      refine XS.astoreN X25.here hx rfl (hb hby at_32) rfl rfl (l' := #[.val (.int cv), .val (.int mo), .val (.int (50 : Int32)), .val (.ref a_LIABILITIES), .unset]) rfl ?_
      show Steps pP.tables eE below (T25.setTop (mkF mM 33 #[.val (.int cv), .val (.int mo), .val (.int (50 : Int32)), .val (.ref a_LIABILITIES), .unset] [])) _
      refine XS.iloadN X25.here hx rfl (hb hby at_33) rfl ?_
      exact kg)
    obtain ⟨_, _, ⟨T28, L28, kk28, nn28⟩, -, X28, ⟨Lc28, hQ28, l28, y28, z28⟩, st28⟩ := Jvm.LawKit.callS X25 hx (y := (⟨"com/example/ledgerhall/ledgerhall/AccountClassOfDigitPinLaw", "expected", "(C)Lcom/example/ledgerhall/ledgerhall/AccountClass;"⟩ : MethodName)) hown (mvT hZ (hw _ (List.mem_of_getElem? (i := 40) rfl))) (mvT hZ (hw _ (List.mem_of_getElem? (i := 41) rfl))) (mvT hZ (hw _ (List.mem_of_getElem? (i := 42) rfl))) (mvT hZ (hw _ (List.mem_of_getElem? (i := 43) rfl))) (by decide) (backOf (W := 0) (rm91 l Z a0 hw [] a_ASSETS a_LIABILITIES a_FUND_BALANCE a_REVENUES a_EXPENDITURES a_OTHER_RESOURCES a_OTHER_USES va kva em T7.heap n0 c21 c24 S_ASSETS E_ASSETS S_LIABILITIES E_LIABILITIES S_FUND_BALANCE E_FUND_BALANCE S_REVENUES E_REVENUES S_EXPENDITURES E_EXPENDITURES S_OTHER_RESOURCES E_OTHER_RESOURCES S_OTHER_USES E_OTHER_USES F_ASSETS_digit F_LIABILITIES_digit F_FUND_BALANCE_digit F_REVENUES_digit F_EXPENDITURES_digit F_OTHER_RESOURCES_digit F_OTHER_USES_digit S_VALUES E_VALUES V_VALUES S_EMPTY E_EMPTY F_EMPTY) hZ (hw _ (List.mem_of_getElem? (i := 43) rfl)) (hw _ (List.mem_of_getElem? (i := 42) rfl)) (by decide) (by decide)) (g := (mkF mM 34 #[.val (.int cv), .val (.int mo), .val (.int (50 : Int32)), .val (.ref a_LIABILITIES), .unset] [(.int (50 : Int32))])) rfl (by rw [hml]; rfl) (argsL := [(.int (50 : Int32))]) (rest := []) (lenOf pd_6 rfl) rfl (by show 2 * 0 + _ ≤ _; exact Nat.le_of_eq rfl) (hb hby at_34) (fun _ _ => ⟨rfl, e25, (by decide : 2 + 0 ≤ _), (by decide : 8 + 0 ≤ _)⟩)
    dsimp only [Pt.U, Pt.locs, Pt.cells, Pt.slots] at X28 l28 y28 z28 st28 hQ28
    subst l28 y28 z28
    obtain ⟨rfl, Nq28, e28⟩ := hQ28
    have N28 := Fr.app N22 Nq28
    have pr29 : ∀ tg, Steps pP.tables eE below (T28.setTop (mkF mM 37 #[.val (.int cv), .val (.int mo), .val (.int (50 : Int32)), .val (.ref a_LIABILITIES), .unset] [(.ref a_LIABILITIES)])) tg → Steps pP.tables eE below (s₁.setTop (entryFrame mM #[(.int cv), (.int mo)] maxLocals)) tg := fun tg kg => pr27 _ (st28 _ kg)
    have pr30 : ∀ tg, Steps pP.tables eE below (T28.setTop (mkF mM 50 #[.val (.int cv), .val (.int mo), .val (.int (50 : Int32)), .val (.ref a_LIABILITIES), .val (.ref a_LIABILITIES)] [(.int (1 : Int32))])) tg → Steps pP.tables eE below (s₁.setTop (entryFrame mM #[(.int cv), (.int mo)] maxLocals)) tg := fun tg kg => pr29 _ (by
      show Steps pP.tables eE below (T28.setTop (mkF mM 37 #[.val (.int cv), .val (.int mo), .val (.int (50 : Int32)), .val (.ref a_LIABILITIES), .unset] [(.ref a_LIABILITIES)])) _
      refine XS.astore X28.here hx rfl (hb hby at_37) rfl rfl (l' := #[.val (.int cv), .val (.int mo), .val (.int (50 : Int32)), .val (.ref a_LIABILITIES), .val (.ref a_LIABILITIES)]) rfl ?_
      show Steps pP.tables eE below (T28.setTop (mkF mM 39 #[.val (.int cv), .val (.int mo), .val (.int (50 : Int32)), .val (.ref a_LIABILITIES), .val (.ref a_LIABILITIES)] [])) _
      refine XS.aloadN X28.here hx rfl (hb hby at_39) rfl rfl ?_
      show Steps pP.tables eE below (T28.setTop (mkF mM 40 #[.val (.int cv), .val (.int mo), .val (.int (50 : Int32)), .val (.ref a_LIABILITIES), .val (.ref a_LIABILITIES)] [(.ref a_LIABILITIES)])) _
      refine XS.aload X28.here hx rfl (hb hby at_40) rfl rfl ?_
      show Steps pP.tables eE below (T28.setTop (mkF mM 42 #[.val (.int cv), .val (.int mo), .val (.int (50 : Int32)), .val (.ref a_LIABILITIES), .val (.ref a_LIABILITIES)] [(.ref a_LIABILITIES), (.ref a_LIABILITIES)])) _
      refine Jvm.RoadKit.acmp (g := (mkF mM 42 #[.val (.int cv), .val (.int mo), .val (.int (50 : Int32)), .val (.ref a_LIABILITIES), .val (.ref a_LIABILITIES)] [(.ref a_LIABILITIES), (.ref a_LIABILITIES)])) X28 hx rfl rfl rfl (pc0 := 42) (pc' := 45) (same := true) rfl (hb hby at_42) rfl (decide_eq_true rfl) (by decide) (by decide) ?_
      show Steps pP.tables eE below (T28.setTop (mkF mM 45 #[.val (.int cv), .val (.int mo), .val (.int (50 : Int32)), .val (.ref a_LIABILITIES), .val (.ref a_LIABILITIES)] [])) _
      refine XS.iconst X28.here hx rfl (hb hby at_45) ?_
      show Steps pP.tables eE below (T28.setTop (mkF mM 46 #[.val (.int cv), .val (.int mo), .val (.int (50 : Int32)), .val (.ref a_LIABILITIES), .val (.ref a_LIABILITIES)] [(.int (1 : Int32))])) _
      refine XS.goto X28.here hx rfl (pc0 := 46) (pc' := 50) rfl (hb hby at_46) (by decide) (by decide) ?_
      exact kg)
    obtain ⟨fs, hr, hrun, hended, hW, hsame⟩ := X28.leave (v := some (.int (1 : Int32))) (fun h => by rw [Bd.returns] at h; cases h)
    refine ⟨_, _, pr30 _ (retOut X28 hx (t := .boolean) Bd.returns rfl (Or.inl ⟨rfl, Or.inr (Or.inl rfl), _, rfl⟩) (hb hby at_50) hr), hrun, hended, _, _, rfl, ?_, ⟨_, rfl⟩, hW, hsame.mono (by decide) (by decide)⟩
    show Q0 Z cv mo a_ASSETS a_LIABILITIES a_FUND_BALANCE a_REVENUES a_EXPENDITURES a_OTHER_RESOURCES a_OTHER_USES va kva em h0 n0 _ T28.heap _
    rw [e28]
    exact ⟨rfl, N28⟩
  ·
    subst hq
    have pr31 : ∀ tg, Steps pP.tables eE below (T7.setTop (mkF mM 26 #[.val (.int cv), .val (.int mo), .val (.int (51 : Int32)), .unset, .unset] [.null, (.ref bd7)])) tg → Steps pP.tables eE below (s₁.setTop (entryFrame mM #[(.int cv), (.int mo)] maxLocals)) tg := fun tg kg => pr8 _ (by
      show Steps pP.tables eE below (T7.setTop (mkF mM 25 #[.val (.int cv), .val (.int mo), .val (.int (51 : Int32)), .unset, .unset] [(.ref bd7)])) _
      refine XS.aconstNull X7.here hx rfl (hb hby at_25) ?_
      exact kg)
    have c32 := (Nat.le_trans Z0 K7.1)
    obtain ⟨cq33, kq33, qa33, qb33, qc33⟩ := isOf hZ rfl E7
    obtain ⟨_, _, ⟨T33, L33, kk33, nn33⟩, -, X33, ⟨Lc33, hQ33, l33, y33, z33⟩, st33⟩ := X7.virtualBack hx (y := (⟨"java/util/Optional", "orElse", "(Ljava/lang/Object;)Ljava/lang/Object;"⟩ : MethodName)) (z := (⟨"java/util/Optional", "orElse", "(Ljava/lang/Object;)Ljava/lang/Object;"⟩ : MethodName)) hown (mvT hZ (hw _ (List.mem_of_getElem? (i := 33) rfl))) (mvT hZ (hw _ (List.mem_of_getElem? (i := 34) rfl))) (notFace_of_selects (args := #[]) (mvT hZ (hw _ (List.mem_of_getElem? (i := 36) rfl)))) (mvT hZ (hw _ (List.mem_of_getElem? (i := 36) rfl))) (mvT hZ (hw _ (List.mem_of_getElem? (i := 35) rfl))) (by decide) (backOf (W := 0) (rm7 l Z a0 hw [] bd7 a_FUND_BALANCE T7.heap n0 c32 E7 hF) hZ (hw _ (List.mem_of_getElem? (i := 37) rfl)) (hw _ (List.mem_of_getElem? (i := 30) rfl)) (by decide) (by decide)) qa33 qc33 (g := (mkF mM 26 #[.val (.int cv), .val (.int mo), .val (.int (51 : Int32)), .unset, .unset] [.null, (.ref bd7)])) rfl (by rw [hml]; rfl) (Steps.refl _) (argsL := [.null]) (rest := []) (lenOf pd_0 rfl) rfl (by show 2 * 0 + _ ≤ _; exact Nat.le_of_eq rfl) (hb hby at_26) (fun _ _ => ⟨rfl, rfl, (by decide : 2 + 0 ≤ _), (by decide : 8 + 0 ≤ _)⟩)
    dsimp only [Pt.U, Pt.locs, Pt.cells, Pt.slots] at X33 l33 y33 z33 st33 hQ33
    subst l33 y33 z33
    obtain ⟨rfl, Nq33, e33⟩ := hQ33
    have N33 := Fr.app N7 Nq33
    have pr34 : ∀ tg, Steps pP.tables eE below (T33.setTop (mkF mM 29 #[.val (.int cv), .val (.int mo), .val (.int (51 : Int32)), .unset, .unset] [(.ref a_FUND_BALANCE)])) tg → Steps pP.tables eE below (s₁.setTop (entryFrame mM #[(.int cv), (.int mo)] maxLocals)) tg := fun tg kg => pr31 _ (st33.trans kg)
    have c35 := (Old.keep O K7 all0)
    obtain ⟨T36, X36, e36, st36⟩ := castY X33 hx hZ hown (hw _ (List.mem_of_getElem? (i := 60) rfl)) e33 (Ins.self (Exa.ext (c35).2 E_FUND_BALANCE)) (g := (mkF mM 29 #[.val (.int cv), .val (.int mo), .val (.int (51 : Int32)), .unset, .unset] [(.ref a_FUND_BALANCE)])) rfl rfl (hb hby at_29)
    have pr37 : ∀ tg, Steps pP.tables eE below (T36.setTop (mkF mM 32 #[.val (.int cv), .val (.int mo), .val (.int (51 : Int32)), .unset, .unset] [(.ref a_FUND_BALANCE)])) tg → Steps pP.tables eE below (s₁.setTop (entryFrame mM #[(.int cv), (.int mo)] maxLocals)) tg := fun tg kg => pr34 _ (st36 _ kg)
    have pr38 : ∀ tg, Steps pP.tables eE below (T36.setTop (mkF mM 34 #[.val (.int cv), .val (.int mo), .val (.int (51 : Int32)), .val (.ref a_FUND_BALANCE), .unset] [(.int (51 : Int32))])) tg → Steps pP.tables eE below (s₁.setTop (entryFrame mM #[(.int cv), (.int mo)] maxLocals)) tg := fun tg kg => pr37 _ (by
      show Steps pP.tables eE below (T36.setTop (mkF mM 32 #[.val (.int cv), .val (.int mo), .val (.int (51 : Int32)), .unset, .unset] [(.ref a_FUND_BALANCE)])) _
      refine XS.astoreN X36.here hx rfl (hb hby at_32) rfl rfl (l' := #[.val (.int cv), .val (.int mo), .val (.int (51 : Int32)), .val (.ref a_FUND_BALANCE), .unset]) rfl ?_
      show Steps pP.tables eE below (T36.setTop (mkF mM 33 #[.val (.int cv), .val (.int mo), .val (.int (51 : Int32)), .val (.ref a_FUND_BALANCE), .unset] [])) _
      refine XS.iloadN X36.here hx rfl (hb hby at_33) rfl ?_
      exact kg)
    obtain ⟨_, _, ⟨T39, L39, kk39, nn39⟩, -, X39, ⟨Lc39, hQ39, l39, y39, z39⟩, st39⟩ := Jvm.LawKit.callS X36 hx (y := (⟨"com/example/ledgerhall/ledgerhall/AccountClassOfDigitPinLaw", "expected", "(C)Lcom/example/ledgerhall/ledgerhall/AccountClass;"⟩ : MethodName)) hown (mvT hZ (hw _ (List.mem_of_getElem? (i := 40) rfl))) (mvT hZ (hw _ (List.mem_of_getElem? (i := 41) rfl))) (mvT hZ (hw _ (List.mem_of_getElem? (i := 42) rfl))) (mvT hZ (hw _ (List.mem_of_getElem? (i := 43) rfl))) (by decide) (backOf (W := 0) (rm92 l Z a0 hw [] a_ASSETS a_LIABILITIES a_FUND_BALANCE a_REVENUES a_EXPENDITURES a_OTHER_RESOURCES a_OTHER_USES va kva em T7.heap n0 c32 c35 S_ASSETS E_ASSETS S_LIABILITIES E_LIABILITIES S_FUND_BALANCE E_FUND_BALANCE S_REVENUES E_REVENUES S_EXPENDITURES E_EXPENDITURES S_OTHER_RESOURCES E_OTHER_RESOURCES S_OTHER_USES E_OTHER_USES F_ASSETS_digit F_LIABILITIES_digit F_FUND_BALANCE_digit F_REVENUES_digit F_EXPENDITURES_digit F_OTHER_RESOURCES_digit F_OTHER_USES_digit S_VALUES E_VALUES V_VALUES S_EMPTY E_EMPTY F_EMPTY) hZ (hw _ (List.mem_of_getElem? (i := 43) rfl)) (hw _ (List.mem_of_getElem? (i := 42) rfl)) (by decide) (by decide)) (g := (mkF mM 34 #[.val (.int cv), .val (.int mo), .val (.int (51 : Int32)), .val (.ref a_FUND_BALANCE), .unset] [(.int (51 : Int32))])) rfl (by rw [hml]; rfl) (argsL := [(.int (51 : Int32))]) (rest := []) (lenOf pd_6 rfl) rfl (by show 2 * 0 + _ ≤ _; exact Nat.le_of_eq rfl) (hb hby at_34) (fun _ _ => ⟨rfl, e36, (by decide : 2 + 0 ≤ _), (by decide : 8 + 0 ≤ _)⟩)
    dsimp only [Pt.U, Pt.locs, Pt.cells, Pt.slots] at X39 l39 y39 z39 st39 hQ39
    subst l39 y39 z39
    obtain ⟨rfl, Nq39, e39⟩ := hQ39
    have N39 := Fr.app N33 Nq39
    have pr40 : ∀ tg, Steps pP.tables eE below (T39.setTop (mkF mM 37 #[.val (.int cv), .val (.int mo), .val (.int (51 : Int32)), .val (.ref a_FUND_BALANCE), .unset] [(.ref a_FUND_BALANCE)])) tg → Steps pP.tables eE below (s₁.setTop (entryFrame mM #[(.int cv), (.int mo)] maxLocals)) tg := fun tg kg => pr38 _ (st39 _ kg)
    have pr41 : ∀ tg, Steps pP.tables eE below (T39.setTop (mkF mM 50 #[.val (.int cv), .val (.int mo), .val (.int (51 : Int32)), .val (.ref a_FUND_BALANCE), .val (.ref a_FUND_BALANCE)] [(.int (1 : Int32))])) tg → Steps pP.tables eE below (s₁.setTop (entryFrame mM #[(.int cv), (.int mo)] maxLocals)) tg := fun tg kg => pr40 _ (by
      show Steps pP.tables eE below (T39.setTop (mkF mM 37 #[.val (.int cv), .val (.int mo), .val (.int (51 : Int32)), .val (.ref a_FUND_BALANCE), .unset] [(.ref a_FUND_BALANCE)])) _
      refine XS.astore X39.here hx rfl (hb hby at_37) rfl rfl (l' := #[.val (.int cv), .val (.int mo), .val (.int (51 : Int32)), .val (.ref a_FUND_BALANCE), .val (.ref a_FUND_BALANCE)]) rfl ?_
      show Steps pP.tables eE below (T39.setTop (mkF mM 39 #[.val (.int cv), .val (.int mo), .val (.int (51 : Int32)), .val (.ref a_FUND_BALANCE), .val (.ref a_FUND_BALANCE)] [])) _
      refine XS.aloadN X39.here hx rfl (hb hby at_39) rfl rfl ?_
      show Steps pP.tables eE below (T39.setTop (mkF mM 40 #[.val (.int cv), .val (.int mo), .val (.int (51 : Int32)), .val (.ref a_FUND_BALANCE), .val (.ref a_FUND_BALANCE)] [(.ref a_FUND_BALANCE)])) _
      refine XS.aload X39.here hx rfl (hb hby at_40) rfl rfl ?_
      show Steps pP.tables eE below (T39.setTop (mkF mM 42 #[.val (.int cv), .val (.int mo), .val (.int (51 : Int32)), .val (.ref a_FUND_BALANCE), .val (.ref a_FUND_BALANCE)] [(.ref a_FUND_BALANCE), (.ref a_FUND_BALANCE)])) _
      refine Jvm.RoadKit.acmp (g := (mkF mM 42 #[.val (.int cv), .val (.int mo), .val (.int (51 : Int32)), .val (.ref a_FUND_BALANCE), .val (.ref a_FUND_BALANCE)] [(.ref a_FUND_BALANCE), (.ref a_FUND_BALANCE)])) X39 hx rfl rfl rfl (pc0 := 42) (pc' := 45) (same := true) rfl (hb hby at_42) rfl (decide_eq_true rfl) (by decide) (by decide) ?_
      show Steps pP.tables eE below (T39.setTop (mkF mM 45 #[.val (.int cv), .val (.int mo), .val (.int (51 : Int32)), .val (.ref a_FUND_BALANCE), .val (.ref a_FUND_BALANCE)] [])) _
      refine XS.iconst X39.here hx rfl (hb hby at_45) ?_
      show Steps pP.tables eE below (T39.setTop (mkF mM 46 #[.val (.int cv), .val (.int mo), .val (.int (51 : Int32)), .val (.ref a_FUND_BALANCE), .val (.ref a_FUND_BALANCE)] [(.int (1 : Int32))])) _
      refine XS.goto X39.here hx rfl (pc0 := 46) (pc' := 50) rfl (hb hby at_46) (by decide) (by decide) ?_
      exact kg)
    obtain ⟨fs, hr, hrun, hended, hW, hsame⟩ := X39.leave (v := some (.int (1 : Int32))) (fun h => by rw [Bd.returns] at h; cases h)
    refine ⟨_, _, pr41 _ (retOut X39 hx (t := .boolean) Bd.returns rfl (Or.inl ⟨rfl, Or.inr (Or.inl rfl), _, rfl⟩) (hb hby at_50) hr), hrun, hended, _, _, rfl, ?_, ⟨_, rfl⟩, hW, hsame.mono (by decide) (by decide)⟩
    show Q0 Z cv mo a_ASSETS a_LIABILITIES a_FUND_BALANCE a_REVENUES a_EXPENDITURES a_OTHER_RESOURCES a_OTHER_USES va kva em h0 n0 _ T39.heap _
    rw [e39]
    exact ⟨rfl, N39⟩
  ·
    subst hq
    have pr42 : ∀ tg, Steps pP.tables eE below (T7.setTop (mkF mM 26 #[.val (.int cv), .val (.int mo), .val (.int (53 : Int32)), .unset, .unset] [.null, (.ref bd7)])) tg → Steps pP.tables eE below (s₁.setTop (entryFrame mM #[(.int cv), (.int mo)] maxLocals)) tg := fun tg kg => pr8 _ (by
      show Steps pP.tables eE below (T7.setTop (mkF mM 25 #[.val (.int cv), .val (.int mo), .val (.int (53 : Int32)), .unset, .unset] [(.ref bd7)])) _
      refine XS.aconstNull X7.here hx rfl (hb hby at_25) ?_
      exact kg)
    have c43 := (Nat.le_trans Z0 K7.1)
    obtain ⟨cq44, kq44, qa44, qb44, qc44⟩ := isOf hZ rfl E7
    obtain ⟨_, _, ⟨T44, L44, kk44, nn44⟩, -, X44, ⟨Lc44, hQ44, l44, y44, z44⟩, st44⟩ := X7.virtualBack hx (y := (⟨"java/util/Optional", "orElse", "(Ljava/lang/Object;)Ljava/lang/Object;"⟩ : MethodName)) (z := (⟨"java/util/Optional", "orElse", "(Ljava/lang/Object;)Ljava/lang/Object;"⟩ : MethodName)) hown (mvT hZ (hw _ (List.mem_of_getElem? (i := 33) rfl))) (mvT hZ (hw _ (List.mem_of_getElem? (i := 34) rfl))) (notFace_of_selects (args := #[]) (mvT hZ (hw _ (List.mem_of_getElem? (i := 36) rfl)))) (mvT hZ (hw _ (List.mem_of_getElem? (i := 36) rfl))) (mvT hZ (hw _ (List.mem_of_getElem? (i := 35) rfl))) (by decide) (backOf (W := 0) (rm7 l Z a0 hw [] bd7 a_REVENUES T7.heap n0 c43 E7 hF) hZ (hw _ (List.mem_of_getElem? (i := 37) rfl)) (hw _ (List.mem_of_getElem? (i := 30) rfl)) (by decide) (by decide)) qa44 qc44 (g := (mkF mM 26 #[.val (.int cv), .val (.int mo), .val (.int (53 : Int32)), .unset, .unset] [.null, (.ref bd7)])) rfl (by rw [hml]; rfl) (Steps.refl _) (argsL := [.null]) (rest := []) (lenOf pd_0 rfl) rfl (by show 2 * 0 + _ ≤ _; exact Nat.le_of_eq rfl) (hb hby at_26) (fun _ _ => ⟨rfl, rfl, (by decide : 2 + 0 ≤ _), (by decide : 8 + 0 ≤ _)⟩)
    dsimp only [Pt.U, Pt.locs, Pt.cells, Pt.slots] at X44 l44 y44 z44 st44 hQ44
    subst l44 y44 z44
    obtain ⟨rfl, Nq44, e44⟩ := hQ44
    have N44 := Fr.app N7 Nq44
    have pr45 : ∀ tg, Steps pP.tables eE below (T44.setTop (mkF mM 29 #[.val (.int cv), .val (.int mo), .val (.int (53 : Int32)), .unset, .unset] [(.ref a_REVENUES)])) tg → Steps pP.tables eE below (s₁.setTop (entryFrame mM #[(.int cv), (.int mo)] maxLocals)) tg := fun tg kg => pr42 _ (st44.trans kg)
    have c46 := (Old.keep O K7 all0)
    obtain ⟨T47, X47, e47, st47⟩ := castY X44 hx hZ hown (hw _ (List.mem_of_getElem? (i := 60) rfl)) e44 (Ins.self (Exa.ext (c46).2 E_REVENUES)) (g := (mkF mM 29 #[.val (.int cv), .val (.int mo), .val (.int (53 : Int32)), .unset, .unset] [(.ref a_REVENUES)])) rfl rfl (hb hby at_29)
    have pr48 : ∀ tg, Steps pP.tables eE below (T47.setTop (mkF mM 32 #[.val (.int cv), .val (.int mo), .val (.int (53 : Int32)), .unset, .unset] [(.ref a_REVENUES)])) tg → Steps pP.tables eE below (s₁.setTop (entryFrame mM #[(.int cv), (.int mo)] maxLocals)) tg := fun tg kg => pr45 _ (st47 _ kg)
    have pr49 : ∀ tg, Steps pP.tables eE below (T47.setTop (mkF mM 34 #[.val (.int cv), .val (.int mo), .val (.int (53 : Int32)), .val (.ref a_REVENUES), .unset] [(.int (53 : Int32))])) tg → Steps pP.tables eE below (s₁.setTop (entryFrame mM #[(.int cv), (.int mo)] maxLocals)) tg := fun tg kg => pr48 _ (by
      show Steps pP.tables eE below (T47.setTop (mkF mM 32 #[.val (.int cv), .val (.int mo), .val (.int (53 : Int32)), .unset, .unset] [(.ref a_REVENUES)])) _
      refine XS.astoreN X47.here hx rfl (hb hby at_32) rfl rfl (l' := #[.val (.int cv), .val (.int mo), .val (.int (53 : Int32)), .val (.ref a_REVENUES), .unset]) rfl ?_
      show Steps pP.tables eE below (T47.setTop (mkF mM 33 #[.val (.int cv), .val (.int mo), .val (.int (53 : Int32)), .val (.ref a_REVENUES), .unset] [])) _
      refine XS.iloadN X47.here hx rfl (hb hby at_33) rfl ?_
      exact kg)
    obtain ⟨_, _, ⟨T50, L50, kk50, nn50⟩, -, X50, ⟨Lc50, hQ50, l50, y50, z50⟩, st50⟩ := Jvm.LawKit.callS X47 hx (y := (⟨"com/example/ledgerhall/ledgerhall/AccountClassOfDigitPinLaw", "expected", "(C)Lcom/example/ledgerhall/ledgerhall/AccountClass;"⟩ : MethodName)) hown (mvT hZ (hw _ (List.mem_of_getElem? (i := 40) rfl))) (mvT hZ (hw _ (List.mem_of_getElem? (i := 41) rfl))) (mvT hZ (hw _ (List.mem_of_getElem? (i := 42) rfl))) (mvT hZ (hw _ (List.mem_of_getElem? (i := 43) rfl))) (by decide) (backOf (W := 0) (rm93 l Z a0 hw [] a_ASSETS a_LIABILITIES a_FUND_BALANCE a_REVENUES a_EXPENDITURES a_OTHER_RESOURCES a_OTHER_USES va kva em T7.heap n0 c43 c46 S_ASSETS E_ASSETS S_LIABILITIES E_LIABILITIES S_FUND_BALANCE E_FUND_BALANCE S_REVENUES E_REVENUES S_EXPENDITURES E_EXPENDITURES S_OTHER_RESOURCES E_OTHER_RESOURCES S_OTHER_USES E_OTHER_USES F_ASSETS_digit F_LIABILITIES_digit F_FUND_BALANCE_digit F_REVENUES_digit F_EXPENDITURES_digit F_OTHER_RESOURCES_digit F_OTHER_USES_digit S_VALUES E_VALUES V_VALUES S_EMPTY E_EMPTY F_EMPTY) hZ (hw _ (List.mem_of_getElem? (i := 43) rfl)) (hw _ (List.mem_of_getElem? (i := 42) rfl)) (by decide) (by decide)) (g := (mkF mM 34 #[.val (.int cv), .val (.int mo), .val (.int (53 : Int32)), .val (.ref a_REVENUES), .unset] [(.int (53 : Int32))])) rfl (by rw [hml]; rfl) (argsL := [(.int (53 : Int32))]) (rest := []) (lenOf pd_6 rfl) rfl (by show 2 * 0 + _ ≤ _; exact Nat.le_of_eq rfl) (hb hby at_34) (fun _ _ => ⟨rfl, e47, (by decide : 2 + 0 ≤ _), (by decide : 8 + 0 ≤ _)⟩)
    dsimp only [Pt.U, Pt.locs, Pt.cells, Pt.slots] at X50 l50 y50 z50 st50 hQ50
    subst l50 y50 z50
    obtain ⟨rfl, Nq50, e50⟩ := hQ50
    have N50 := Fr.app N44 Nq50
    have pr51 : ∀ tg, Steps pP.tables eE below (T50.setTop (mkF mM 37 #[.val (.int cv), .val (.int mo), .val (.int (53 : Int32)), .val (.ref a_REVENUES), .unset] [(.ref a_REVENUES)])) tg → Steps pP.tables eE below (s₁.setTop (entryFrame mM #[(.int cv), (.int mo)] maxLocals)) tg := fun tg kg => pr49 _ (st50 _ kg)
    have pr52 : ∀ tg, Steps pP.tables eE below (T50.setTop (mkF mM 50 #[.val (.int cv), .val (.int mo), .val (.int (53 : Int32)), .val (.ref a_REVENUES), .val (.ref a_REVENUES)] [(.int (1 : Int32))])) tg → Steps pP.tables eE below (s₁.setTop (entryFrame mM #[(.int cv), (.int mo)] maxLocals)) tg := fun tg kg => pr51 _ (by
      show Steps pP.tables eE below (T50.setTop (mkF mM 37 #[.val (.int cv), .val (.int mo), .val (.int (53 : Int32)), .val (.ref a_REVENUES), .unset] [(.ref a_REVENUES)])) _
      refine XS.astore X50.here hx rfl (hb hby at_37) rfl rfl (l' := #[.val (.int cv), .val (.int mo), .val (.int (53 : Int32)), .val (.ref a_REVENUES), .val (.ref a_REVENUES)]) rfl ?_
      show Steps pP.tables eE below (T50.setTop (mkF mM 39 #[.val (.int cv), .val (.int mo), .val (.int (53 : Int32)), .val (.ref a_REVENUES), .val (.ref a_REVENUES)] [])) _
      refine XS.aloadN X50.here hx rfl (hb hby at_39) rfl rfl ?_
      show Steps pP.tables eE below (T50.setTop (mkF mM 40 #[.val (.int cv), .val (.int mo), .val (.int (53 : Int32)), .val (.ref a_REVENUES), .val (.ref a_REVENUES)] [(.ref a_REVENUES)])) _
      refine XS.aload X50.here hx rfl (hb hby at_40) rfl rfl ?_
      show Steps pP.tables eE below (T50.setTop (mkF mM 42 #[.val (.int cv), .val (.int mo), .val (.int (53 : Int32)), .val (.ref a_REVENUES), .val (.ref a_REVENUES)] [(.ref a_REVENUES), (.ref a_REVENUES)])) _
      refine Jvm.RoadKit.acmp (g := (mkF mM 42 #[.val (.int cv), .val (.int mo), .val (.int (53 : Int32)), .val (.ref a_REVENUES), .val (.ref a_REVENUES)] [(.ref a_REVENUES), (.ref a_REVENUES)])) X50 hx rfl rfl rfl (pc0 := 42) (pc' := 45) (same := true) rfl (hb hby at_42) rfl (decide_eq_true rfl) (by decide) (by decide) ?_
      show Steps pP.tables eE below (T50.setTop (mkF mM 45 #[.val (.int cv), .val (.int mo), .val (.int (53 : Int32)), .val (.ref a_REVENUES), .val (.ref a_REVENUES)] [])) _
      refine XS.iconst X50.here hx rfl (hb hby at_45) ?_
      show Steps pP.tables eE below (T50.setTop (mkF mM 46 #[.val (.int cv), .val (.int mo), .val (.int (53 : Int32)), .val (.ref a_REVENUES), .val (.ref a_REVENUES)] [(.int (1 : Int32))])) _
      refine XS.goto X50.here hx rfl (pc0 := 46) (pc' := 50) rfl (hb hby at_46) (by decide) (by decide) ?_
      exact kg)
    obtain ⟨fs, hr, hrun, hended, hW, hsame⟩ := X50.leave (v := some (.int (1 : Int32))) (fun h => by rw [Bd.returns] at h; cases h)
    refine ⟨_, _, pr52 _ (retOut X50 hx (t := .boolean) Bd.returns rfl (Or.inl ⟨rfl, Or.inr (Or.inl rfl), _, rfl⟩) (hb hby at_50) hr), hrun, hended, _, _, rfl, ?_, ⟨_, rfl⟩, hW, hsame.mono (by decide) (by decide)⟩
    show Q0 Z cv mo a_ASSETS a_LIABILITIES a_FUND_BALANCE a_REVENUES a_EXPENDITURES a_OTHER_RESOURCES a_OTHER_USES va kva em h0 n0 _ T50.heap _
    rw [e50]
    exact ⟨rfl, N50⟩
  ·
    subst hq
    have pr53 : ∀ tg, Steps pP.tables eE below (T7.setTop (mkF mM 26 #[.val (.int cv), .val (.int mo), .val (.int (54 : Int32)), .unset, .unset] [.null, (.ref bd7)])) tg → Steps pP.tables eE below (s₁.setTop (entryFrame mM #[(.int cv), (.int mo)] maxLocals)) tg := fun tg kg => pr8 _ (by
      show Steps pP.tables eE below (T7.setTop (mkF mM 25 #[.val (.int cv), .val (.int mo), .val (.int (54 : Int32)), .unset, .unset] [(.ref bd7)])) _
      refine XS.aconstNull X7.here hx rfl (hb hby at_25) ?_
      exact kg)
    have c54 := (Nat.le_trans Z0 K7.1)
    obtain ⟨cq55, kq55, qa55, qb55, qc55⟩ := isOf hZ rfl E7
    obtain ⟨_, _, ⟨T55, L55, kk55, nn55⟩, -, X55, ⟨Lc55, hQ55, l55, y55, z55⟩, st55⟩ := X7.virtualBack hx (y := (⟨"java/util/Optional", "orElse", "(Ljava/lang/Object;)Ljava/lang/Object;"⟩ : MethodName)) (z := (⟨"java/util/Optional", "orElse", "(Ljava/lang/Object;)Ljava/lang/Object;"⟩ : MethodName)) hown (mvT hZ (hw _ (List.mem_of_getElem? (i := 33) rfl))) (mvT hZ (hw _ (List.mem_of_getElem? (i := 34) rfl))) (notFace_of_selects (args := #[]) (mvT hZ (hw _ (List.mem_of_getElem? (i := 36) rfl)))) (mvT hZ (hw _ (List.mem_of_getElem? (i := 36) rfl))) (mvT hZ (hw _ (List.mem_of_getElem? (i := 35) rfl))) (by decide) (backOf (W := 0) (rm7 l Z a0 hw [] bd7 a_EXPENDITURES T7.heap n0 c54 E7 hF) hZ (hw _ (List.mem_of_getElem? (i := 37) rfl)) (hw _ (List.mem_of_getElem? (i := 30) rfl)) (by decide) (by decide)) qa55 qc55 (g := (mkF mM 26 #[.val (.int cv), .val (.int mo), .val (.int (54 : Int32)), .unset, .unset] [.null, (.ref bd7)])) rfl (by rw [hml]; rfl) (Steps.refl _) (argsL := [.null]) (rest := []) (lenOf pd_0 rfl) rfl (by show 2 * 0 + _ ≤ _; exact Nat.le_of_eq rfl) (hb hby at_26) (fun _ _ => ⟨rfl, rfl, (by decide : 2 + 0 ≤ _), (by decide : 8 + 0 ≤ _)⟩)
    dsimp only [Pt.U, Pt.locs, Pt.cells, Pt.slots] at X55 l55 y55 z55 st55 hQ55
    subst l55 y55 z55
    obtain ⟨rfl, Nq55, e55⟩ := hQ55
    have N55 := Fr.app N7 Nq55
    have pr56 : ∀ tg, Steps pP.tables eE below (T55.setTop (mkF mM 29 #[.val (.int cv), .val (.int mo), .val (.int (54 : Int32)), .unset, .unset] [(.ref a_EXPENDITURES)])) tg → Steps pP.tables eE below (s₁.setTop (entryFrame mM #[(.int cv), (.int mo)] maxLocals)) tg := fun tg kg => pr53 _ (st55.trans kg)
    have c57 := (Old.keep O K7 all0)
    obtain ⟨T58, X58, e58, st58⟩ := castY X55 hx hZ hown (hw _ (List.mem_of_getElem? (i := 60) rfl)) e55 (Ins.self (Exa.ext (c57).2 E_EXPENDITURES)) (g := (mkF mM 29 #[.val (.int cv), .val (.int mo), .val (.int (54 : Int32)), .unset, .unset] [(.ref a_EXPENDITURES)])) rfl rfl (hb hby at_29)
    have pr59 : ∀ tg, Steps pP.tables eE below (T58.setTop (mkF mM 32 #[.val (.int cv), .val (.int mo), .val (.int (54 : Int32)), .unset, .unset] [(.ref a_EXPENDITURES)])) tg → Steps pP.tables eE below (s₁.setTop (entryFrame mM #[(.int cv), (.int mo)] maxLocals)) tg := fun tg kg => pr56 _ (st58 _ kg)
    have pr60 : ∀ tg, Steps pP.tables eE below (T58.setTop (mkF mM 34 #[.val (.int cv), .val (.int mo), .val (.int (54 : Int32)), .val (.ref a_EXPENDITURES), .unset] [(.int (54 : Int32))])) tg → Steps pP.tables eE below (s₁.setTop (entryFrame mM #[(.int cv), (.int mo)] maxLocals)) tg := fun tg kg => pr59 _ (by
      show Steps pP.tables eE below (T58.setTop (mkF mM 32 #[.val (.int cv), .val (.int mo), .val (.int (54 : Int32)), .unset, .unset] [(.ref a_EXPENDITURES)])) _
      refine XS.astoreN X58.here hx rfl (hb hby at_32) rfl rfl (l' := #[.val (.int cv), .val (.int mo), .val (.int (54 : Int32)), .val (.ref a_EXPENDITURES), .unset]) rfl ?_
      show Steps pP.tables eE below (T58.setTop (mkF mM 33 #[.val (.int cv), .val (.int mo), .val (.int (54 : Int32)), .val (.ref a_EXPENDITURES), .unset] [])) _
      refine XS.iloadN X58.here hx rfl (hb hby at_33) rfl ?_
      exact kg)
    obtain ⟨_, _, ⟨T61, L61, kk61, nn61⟩, -, X61, ⟨Lc61, hQ61, l61, y61, z61⟩, st61⟩ := Jvm.LawKit.callS X58 hx (y := (⟨"com/example/ledgerhall/ledgerhall/AccountClassOfDigitPinLaw", "expected", "(C)Lcom/example/ledgerhall/ledgerhall/AccountClass;"⟩ : MethodName)) hown (mvT hZ (hw _ (List.mem_of_getElem? (i := 40) rfl))) (mvT hZ (hw _ (List.mem_of_getElem? (i := 41) rfl))) (mvT hZ (hw _ (List.mem_of_getElem? (i := 42) rfl))) (mvT hZ (hw _ (List.mem_of_getElem? (i := 43) rfl))) (by decide) (backOf (W := 0) (rm94 l Z a0 hw [] a_ASSETS a_LIABILITIES a_FUND_BALANCE a_REVENUES a_EXPENDITURES a_OTHER_RESOURCES a_OTHER_USES va kva em T7.heap n0 c54 c57 S_ASSETS E_ASSETS S_LIABILITIES E_LIABILITIES S_FUND_BALANCE E_FUND_BALANCE S_REVENUES E_REVENUES S_EXPENDITURES E_EXPENDITURES S_OTHER_RESOURCES E_OTHER_RESOURCES S_OTHER_USES E_OTHER_USES F_ASSETS_digit F_LIABILITIES_digit F_FUND_BALANCE_digit F_REVENUES_digit F_EXPENDITURES_digit F_OTHER_RESOURCES_digit F_OTHER_USES_digit S_VALUES E_VALUES V_VALUES S_EMPTY E_EMPTY F_EMPTY) hZ (hw _ (List.mem_of_getElem? (i := 43) rfl)) (hw _ (List.mem_of_getElem? (i := 42) rfl)) (by decide) (by decide)) (g := (mkF mM 34 #[.val (.int cv), .val (.int mo), .val (.int (54 : Int32)), .val (.ref a_EXPENDITURES), .unset] [(.int (54 : Int32))])) rfl (by rw [hml]; rfl) (argsL := [(.int (54 : Int32))]) (rest := []) (lenOf pd_6 rfl) rfl (by show 2 * 0 + _ ≤ _; exact Nat.le_of_eq rfl) (hb hby at_34) (fun _ _ => ⟨rfl, e58, (by decide : 2 + 0 ≤ _), (by decide : 8 + 0 ≤ _)⟩)
    dsimp only [Pt.U, Pt.locs, Pt.cells, Pt.slots] at X61 l61 y61 z61 st61 hQ61
    subst l61 y61 z61
    obtain ⟨rfl, Nq61, e61⟩ := hQ61
    have N61 := Fr.app N55 Nq61
    have pr62 : ∀ tg, Steps pP.tables eE below (T61.setTop (mkF mM 37 #[.val (.int cv), .val (.int mo), .val (.int (54 : Int32)), .val (.ref a_EXPENDITURES), .unset] [(.ref a_EXPENDITURES)])) tg → Steps pP.tables eE below (s₁.setTop (entryFrame mM #[(.int cv), (.int mo)] maxLocals)) tg := fun tg kg => pr60 _ (st61 _ kg)
    have pr63 : ∀ tg, Steps pP.tables eE below (T61.setTop (mkF mM 50 #[.val (.int cv), .val (.int mo), .val (.int (54 : Int32)), .val (.ref a_EXPENDITURES), .val (.ref a_EXPENDITURES)] [(.int (1 : Int32))])) tg → Steps pP.tables eE below (s₁.setTop (entryFrame mM #[(.int cv), (.int mo)] maxLocals)) tg := fun tg kg => pr62 _ (by
      show Steps pP.tables eE below (T61.setTop (mkF mM 37 #[.val (.int cv), .val (.int mo), .val (.int (54 : Int32)), .val (.ref a_EXPENDITURES), .unset] [(.ref a_EXPENDITURES)])) _
      refine XS.astore X61.here hx rfl (hb hby at_37) rfl rfl (l' := #[.val (.int cv), .val (.int mo), .val (.int (54 : Int32)), .val (.ref a_EXPENDITURES), .val (.ref a_EXPENDITURES)]) rfl ?_
      show Steps pP.tables eE below (T61.setTop (mkF mM 39 #[.val (.int cv), .val (.int mo), .val (.int (54 : Int32)), .val (.ref a_EXPENDITURES), .val (.ref a_EXPENDITURES)] [])) _
      refine XS.aloadN X61.here hx rfl (hb hby at_39) rfl rfl ?_
      show Steps pP.tables eE below (T61.setTop (mkF mM 40 #[.val (.int cv), .val (.int mo), .val (.int (54 : Int32)), .val (.ref a_EXPENDITURES), .val (.ref a_EXPENDITURES)] [(.ref a_EXPENDITURES)])) _
      refine XS.aload X61.here hx rfl (hb hby at_40) rfl rfl ?_
      show Steps pP.tables eE below (T61.setTop (mkF mM 42 #[.val (.int cv), .val (.int mo), .val (.int (54 : Int32)), .val (.ref a_EXPENDITURES), .val (.ref a_EXPENDITURES)] [(.ref a_EXPENDITURES), (.ref a_EXPENDITURES)])) _
      refine Jvm.RoadKit.acmp (g := (mkF mM 42 #[.val (.int cv), .val (.int mo), .val (.int (54 : Int32)), .val (.ref a_EXPENDITURES), .val (.ref a_EXPENDITURES)] [(.ref a_EXPENDITURES), (.ref a_EXPENDITURES)])) X61 hx rfl rfl rfl (pc0 := 42) (pc' := 45) (same := true) rfl (hb hby at_42) rfl (decide_eq_true rfl) (by decide) (by decide) ?_
      show Steps pP.tables eE below (T61.setTop (mkF mM 45 #[.val (.int cv), .val (.int mo), .val (.int (54 : Int32)), .val (.ref a_EXPENDITURES), .val (.ref a_EXPENDITURES)] [])) _
      refine XS.iconst X61.here hx rfl (hb hby at_45) ?_
      show Steps pP.tables eE below (T61.setTop (mkF mM 46 #[.val (.int cv), .val (.int mo), .val (.int (54 : Int32)), .val (.ref a_EXPENDITURES), .val (.ref a_EXPENDITURES)] [(.int (1 : Int32))])) _
      refine XS.goto X61.here hx rfl (pc0 := 46) (pc' := 50) rfl (hb hby at_46) (by decide) (by decide) ?_
      exact kg)
    obtain ⟨fs, hr, hrun, hended, hW, hsame⟩ := X61.leave (v := some (.int (1 : Int32))) (fun h => by rw [Bd.returns] at h; cases h)
    refine ⟨_, _, pr63 _ (retOut X61 hx (t := .boolean) Bd.returns rfl (Or.inl ⟨rfl, Or.inr (Or.inl rfl), _, rfl⟩) (hb hby at_50) hr), hrun, hended, _, _, rfl, ?_, ⟨_, rfl⟩, hW, hsame.mono (by decide) (by decide)⟩
    show Q0 Z cv mo a_ASSETS a_LIABILITIES a_FUND_BALANCE a_REVENUES a_EXPENDITURES a_OTHER_RESOURCES a_OTHER_USES va kva em h0 n0 _ T61.heap _
    rw [e61]
    exact ⟨rfl, N61⟩
  ·
    subst hq
    have pr64 : ∀ tg, Steps pP.tables eE below (T7.setTop (mkF mM 26 #[.val (.int cv), .val (.int mo), .val (.int (55 : Int32)), .unset, .unset] [.null, (.ref bd7)])) tg → Steps pP.tables eE below (s₁.setTop (entryFrame mM #[(.int cv), (.int mo)] maxLocals)) tg := fun tg kg => pr8 _ (by
      show Steps pP.tables eE below (T7.setTop (mkF mM 25 #[.val (.int cv), .val (.int mo), .val (.int (55 : Int32)), .unset, .unset] [(.ref bd7)])) _
      refine XS.aconstNull X7.here hx rfl (hb hby at_25) ?_
      exact kg)
    have c65 := (Nat.le_trans Z0 K7.1)
    obtain ⟨cq66, kq66, qa66, qb66, qc66⟩ := isOf hZ rfl E7
    obtain ⟨_, _, ⟨T66, L66, kk66, nn66⟩, -, X66, ⟨Lc66, hQ66, l66, y66, z66⟩, st66⟩ := X7.virtualBack hx (y := (⟨"java/util/Optional", "orElse", "(Ljava/lang/Object;)Ljava/lang/Object;"⟩ : MethodName)) (z := (⟨"java/util/Optional", "orElse", "(Ljava/lang/Object;)Ljava/lang/Object;"⟩ : MethodName)) hown (mvT hZ (hw _ (List.mem_of_getElem? (i := 33) rfl))) (mvT hZ (hw _ (List.mem_of_getElem? (i := 34) rfl))) (notFace_of_selects (args := #[]) (mvT hZ (hw _ (List.mem_of_getElem? (i := 36) rfl)))) (mvT hZ (hw _ (List.mem_of_getElem? (i := 36) rfl))) (mvT hZ (hw _ (List.mem_of_getElem? (i := 35) rfl))) (by decide) (backOf (W := 0) (rm7 l Z a0 hw [] bd7 a_OTHER_RESOURCES T7.heap n0 c65 E7 hF) hZ (hw _ (List.mem_of_getElem? (i := 37) rfl)) (hw _ (List.mem_of_getElem? (i := 30) rfl)) (by decide) (by decide)) qa66 qc66 (g := (mkF mM 26 #[.val (.int cv), .val (.int mo), .val (.int (55 : Int32)), .unset, .unset] [.null, (.ref bd7)])) rfl (by rw [hml]; rfl) (Steps.refl _) (argsL := [.null]) (rest := []) (lenOf pd_0 rfl) rfl (by show 2 * 0 + _ ≤ _; exact Nat.le_of_eq rfl) (hb hby at_26) (fun _ _ => ⟨rfl, rfl, (by decide : 2 + 0 ≤ _), (by decide : 8 + 0 ≤ _)⟩)
    dsimp only [Pt.U, Pt.locs, Pt.cells, Pt.slots] at X66 l66 y66 z66 st66 hQ66
    subst l66 y66 z66
    obtain ⟨rfl, Nq66, e66⟩ := hQ66
    have N66 := Fr.app N7 Nq66
    have pr67 : ∀ tg, Steps pP.tables eE below (T66.setTop (mkF mM 29 #[.val (.int cv), .val (.int mo), .val (.int (55 : Int32)), .unset, .unset] [(.ref a_OTHER_RESOURCES)])) tg → Steps pP.tables eE below (s₁.setTop (entryFrame mM #[(.int cv), (.int mo)] maxLocals)) tg := fun tg kg => pr64 _ (st66.trans kg)
    have c68 := (Old.keep O K7 all0)
    obtain ⟨T69, X69, e69, st69⟩ := castY X66 hx hZ hown (hw _ (List.mem_of_getElem? (i := 60) rfl)) e66 (Ins.self (Exa.ext (c68).2 E_OTHER_RESOURCES)) (g := (mkF mM 29 #[.val (.int cv), .val (.int mo), .val (.int (55 : Int32)), .unset, .unset] [(.ref a_OTHER_RESOURCES)])) rfl rfl (hb hby at_29)
    have pr70 : ∀ tg, Steps pP.tables eE below (T69.setTop (mkF mM 32 #[.val (.int cv), .val (.int mo), .val (.int (55 : Int32)), .unset, .unset] [(.ref a_OTHER_RESOURCES)])) tg → Steps pP.tables eE below (s₁.setTop (entryFrame mM #[(.int cv), (.int mo)] maxLocals)) tg := fun tg kg => pr67 _ (st69 _ kg)
    have pr71 : ∀ tg, Steps pP.tables eE below (T69.setTop (mkF mM 34 #[.val (.int cv), .val (.int mo), .val (.int (55 : Int32)), .val (.ref a_OTHER_RESOURCES), .unset] [(.int (55 : Int32))])) tg → Steps pP.tables eE below (s₁.setTop (entryFrame mM #[(.int cv), (.int mo)] maxLocals)) tg := fun tg kg => pr70 _ (by
      show Steps pP.tables eE below (T69.setTop (mkF mM 32 #[.val (.int cv), .val (.int mo), .val (.int (55 : Int32)), .unset, .unset] [(.ref a_OTHER_RESOURCES)])) _
      refine XS.astoreN X69.here hx rfl (hb hby at_32) rfl rfl (l' := #[.val (.int cv), .val (.int mo), .val (.int (55 : Int32)), .val (.ref a_OTHER_RESOURCES), .unset]) rfl ?_
      show Steps pP.tables eE below (T69.setTop (mkF mM 33 #[.val (.int cv), .val (.int mo), .val (.int (55 : Int32)), .val (.ref a_OTHER_RESOURCES), .unset] [])) _
      refine XS.iloadN X69.here hx rfl (hb hby at_33) rfl ?_
      exact kg)
    obtain ⟨_, _, ⟨T72, L72, kk72, nn72⟩, -, X72, ⟨Lc72, hQ72, l72, y72, z72⟩, st72⟩ := Jvm.LawKit.callS X69 hx (y := (⟨"com/example/ledgerhall/ledgerhall/AccountClassOfDigitPinLaw", "expected", "(C)Lcom/example/ledgerhall/ledgerhall/AccountClass;"⟩ : MethodName)) hown (mvT hZ (hw _ (List.mem_of_getElem? (i := 40) rfl))) (mvT hZ (hw _ (List.mem_of_getElem? (i := 41) rfl))) (mvT hZ (hw _ (List.mem_of_getElem? (i := 42) rfl))) (mvT hZ (hw _ (List.mem_of_getElem? (i := 43) rfl))) (by decide) (backOf (W := 0) (rm95 l Z a0 hw [] a_ASSETS a_LIABILITIES a_FUND_BALANCE a_REVENUES a_EXPENDITURES a_OTHER_RESOURCES a_OTHER_USES va kva em T7.heap n0 c65 c68 S_ASSETS E_ASSETS S_LIABILITIES E_LIABILITIES S_FUND_BALANCE E_FUND_BALANCE S_REVENUES E_REVENUES S_EXPENDITURES E_EXPENDITURES S_OTHER_RESOURCES E_OTHER_RESOURCES S_OTHER_USES E_OTHER_USES F_ASSETS_digit F_LIABILITIES_digit F_FUND_BALANCE_digit F_REVENUES_digit F_EXPENDITURES_digit F_OTHER_RESOURCES_digit F_OTHER_USES_digit S_VALUES E_VALUES V_VALUES S_EMPTY E_EMPTY F_EMPTY) hZ (hw _ (List.mem_of_getElem? (i := 43) rfl)) (hw _ (List.mem_of_getElem? (i := 42) rfl)) (by decide) (by decide)) (g := (mkF mM 34 #[.val (.int cv), .val (.int mo), .val (.int (55 : Int32)), .val (.ref a_OTHER_RESOURCES), .unset] [(.int (55 : Int32))])) rfl (by rw [hml]; rfl) (argsL := [(.int (55 : Int32))]) (rest := []) (lenOf pd_6 rfl) rfl (by show 2 * 0 + _ ≤ _; exact Nat.le_of_eq rfl) (hb hby at_34) (fun _ _ => ⟨rfl, e69, (by decide : 2 + 0 ≤ _), (by decide : 8 + 0 ≤ _)⟩)
    dsimp only [Pt.U, Pt.locs, Pt.cells, Pt.slots] at X72 l72 y72 z72 st72 hQ72
    subst l72 y72 z72
    obtain ⟨rfl, Nq72, e72⟩ := hQ72
    have N72 := Fr.app N66 Nq72
    have pr73 : ∀ tg, Steps pP.tables eE below (T72.setTop (mkF mM 37 #[.val (.int cv), .val (.int mo), .val (.int (55 : Int32)), .val (.ref a_OTHER_RESOURCES), .unset] [(.ref a_OTHER_RESOURCES)])) tg → Steps pP.tables eE below (s₁.setTop (entryFrame mM #[(.int cv), (.int mo)] maxLocals)) tg := fun tg kg => pr71 _ (st72 _ kg)
    have pr74 : ∀ tg, Steps pP.tables eE below (T72.setTop (mkF mM 50 #[.val (.int cv), .val (.int mo), .val (.int (55 : Int32)), .val (.ref a_OTHER_RESOURCES), .val (.ref a_OTHER_RESOURCES)] [(.int (1 : Int32))])) tg → Steps pP.tables eE below (s₁.setTop (entryFrame mM #[(.int cv), (.int mo)] maxLocals)) tg := fun tg kg => pr73 _ (by
      show Steps pP.tables eE below (T72.setTop (mkF mM 37 #[.val (.int cv), .val (.int mo), .val (.int (55 : Int32)), .val (.ref a_OTHER_RESOURCES), .unset] [(.ref a_OTHER_RESOURCES)])) _
      refine XS.astore X72.here hx rfl (hb hby at_37) rfl rfl (l' := #[.val (.int cv), .val (.int mo), .val (.int (55 : Int32)), .val (.ref a_OTHER_RESOURCES), .val (.ref a_OTHER_RESOURCES)]) rfl ?_
      show Steps pP.tables eE below (T72.setTop (mkF mM 39 #[.val (.int cv), .val (.int mo), .val (.int (55 : Int32)), .val (.ref a_OTHER_RESOURCES), .val (.ref a_OTHER_RESOURCES)] [])) _
      refine XS.aloadN X72.here hx rfl (hb hby at_39) rfl rfl ?_
      show Steps pP.tables eE below (T72.setTop (mkF mM 40 #[.val (.int cv), .val (.int mo), .val (.int (55 : Int32)), .val (.ref a_OTHER_RESOURCES), .val (.ref a_OTHER_RESOURCES)] [(.ref a_OTHER_RESOURCES)])) _
      refine XS.aload X72.here hx rfl (hb hby at_40) rfl rfl ?_
      show Steps pP.tables eE below (T72.setTop (mkF mM 42 #[.val (.int cv), .val (.int mo), .val (.int (55 : Int32)), .val (.ref a_OTHER_RESOURCES), .val (.ref a_OTHER_RESOURCES)] [(.ref a_OTHER_RESOURCES), (.ref a_OTHER_RESOURCES)])) _
      refine Jvm.RoadKit.acmp (g := (mkF mM 42 #[.val (.int cv), .val (.int mo), .val (.int (55 : Int32)), .val (.ref a_OTHER_RESOURCES), .val (.ref a_OTHER_RESOURCES)] [(.ref a_OTHER_RESOURCES), (.ref a_OTHER_RESOURCES)])) X72 hx rfl rfl rfl (pc0 := 42) (pc' := 45) (same := true) rfl (hb hby at_42) rfl (decide_eq_true rfl) (by decide) (by decide) ?_
      show Steps pP.tables eE below (T72.setTop (mkF mM 45 #[.val (.int cv), .val (.int mo), .val (.int (55 : Int32)), .val (.ref a_OTHER_RESOURCES), .val (.ref a_OTHER_RESOURCES)] [])) _
      refine XS.iconst X72.here hx rfl (hb hby at_45) ?_
      show Steps pP.tables eE below (T72.setTop (mkF mM 46 #[.val (.int cv), .val (.int mo), .val (.int (55 : Int32)), .val (.ref a_OTHER_RESOURCES), .val (.ref a_OTHER_RESOURCES)] [(.int (1 : Int32))])) _
      refine XS.goto X72.here hx rfl (pc0 := 46) (pc' := 50) rfl (hb hby at_46) (by decide) (by decide) ?_
      exact kg)
    obtain ⟨fs, hr, hrun, hended, hW, hsame⟩ := X72.leave (v := some (.int (1 : Int32))) (fun h => by rw [Bd.returns] at h; cases h)
    refine ⟨_, _, pr74 _ (retOut X72 hx (t := .boolean) Bd.returns rfl (Or.inl ⟨rfl, Or.inr (Or.inl rfl), _, rfl⟩) (hb hby at_50) hr), hrun, hended, _, _, rfl, ?_, ⟨_, rfl⟩, hW, hsame.mono (by decide) (by decide)⟩
    show Q0 Z cv mo a_ASSETS a_LIABILITIES a_FUND_BALANCE a_REVENUES a_EXPENDITURES a_OTHER_RESOURCES a_OTHER_USES va kva em h0 n0 _ T72.heap _
    rw [e72]
    exact ⟨rfl, N72⟩
  ·
    subst hq
    have pr75 : ∀ tg, Steps pP.tables eE below (T7.setTop (mkF mM 26 #[.val (.int cv), .val (.int mo), .val (.int (56 : Int32)), .unset, .unset] [.null, (.ref bd7)])) tg → Steps pP.tables eE below (s₁.setTop (entryFrame mM #[(.int cv), (.int mo)] maxLocals)) tg := fun tg kg => pr8 _ (by
      show Steps pP.tables eE below (T7.setTop (mkF mM 25 #[.val (.int cv), .val (.int mo), .val (.int (56 : Int32)), .unset, .unset] [(.ref bd7)])) _
      refine XS.aconstNull X7.here hx rfl (hb hby at_25) ?_
      exact kg)
    have c76 := (Nat.le_trans Z0 K7.1)
    obtain ⟨cq77, kq77, qa77, qb77, qc77⟩ := isOf hZ rfl E7
    obtain ⟨_, _, ⟨T77, L77, kk77, nn77⟩, -, X77, ⟨Lc77, hQ77, l77, y77, z77⟩, st77⟩ := X7.virtualBack hx (y := (⟨"java/util/Optional", "orElse", "(Ljava/lang/Object;)Ljava/lang/Object;"⟩ : MethodName)) (z := (⟨"java/util/Optional", "orElse", "(Ljava/lang/Object;)Ljava/lang/Object;"⟩ : MethodName)) hown (mvT hZ (hw _ (List.mem_of_getElem? (i := 33) rfl))) (mvT hZ (hw _ (List.mem_of_getElem? (i := 34) rfl))) (notFace_of_selects (args := #[]) (mvT hZ (hw _ (List.mem_of_getElem? (i := 36) rfl)))) (mvT hZ (hw _ (List.mem_of_getElem? (i := 36) rfl))) (mvT hZ (hw _ (List.mem_of_getElem? (i := 35) rfl))) (by decide) (backOf (W := 0) (rm7 l Z a0 hw [] bd7 a_OTHER_USES T7.heap n0 c76 E7 hF) hZ (hw _ (List.mem_of_getElem? (i := 37) rfl)) (hw _ (List.mem_of_getElem? (i := 30) rfl)) (by decide) (by decide)) qa77 qc77 (g := (mkF mM 26 #[.val (.int cv), .val (.int mo), .val (.int (56 : Int32)), .unset, .unset] [.null, (.ref bd7)])) rfl (by rw [hml]; rfl) (Steps.refl _) (argsL := [.null]) (rest := []) (lenOf pd_0 rfl) rfl (by show 2 * 0 + _ ≤ _; exact Nat.le_of_eq rfl) (hb hby at_26) (fun _ _ => ⟨rfl, rfl, (by decide : 2 + 0 ≤ _), (by decide : 8 + 0 ≤ _)⟩)
    dsimp only [Pt.U, Pt.locs, Pt.cells, Pt.slots] at X77 l77 y77 z77 st77 hQ77
    subst l77 y77 z77
    obtain ⟨rfl, Nq77, e77⟩ := hQ77
    have N77 := Fr.app N7 Nq77
    have pr78 : ∀ tg, Steps pP.tables eE below (T77.setTop (mkF mM 29 #[.val (.int cv), .val (.int mo), .val (.int (56 : Int32)), .unset, .unset] [(.ref a_OTHER_USES)])) tg → Steps pP.tables eE below (s₁.setTop (entryFrame mM #[(.int cv), (.int mo)] maxLocals)) tg := fun tg kg => pr75 _ (st77.trans kg)
    have c79 := (Old.keep O K7 all0)
    obtain ⟨T80, X80, e80, st80⟩ := castY X77 hx hZ hown (hw _ (List.mem_of_getElem? (i := 60) rfl)) e77 (Ins.self (Exa.ext (c79).2 E_OTHER_USES)) (g := (mkF mM 29 #[.val (.int cv), .val (.int mo), .val (.int (56 : Int32)), .unset, .unset] [(.ref a_OTHER_USES)])) rfl rfl (hb hby at_29)
    have pr81 : ∀ tg, Steps pP.tables eE below (T80.setTop (mkF mM 32 #[.val (.int cv), .val (.int mo), .val (.int (56 : Int32)), .unset, .unset] [(.ref a_OTHER_USES)])) tg → Steps pP.tables eE below (s₁.setTop (entryFrame mM #[(.int cv), (.int mo)] maxLocals)) tg := fun tg kg => pr78 _ (st80 _ kg)
    have pr82 : ∀ tg, Steps pP.tables eE below (T80.setTop (mkF mM 34 #[.val (.int cv), .val (.int mo), .val (.int (56 : Int32)), .val (.ref a_OTHER_USES), .unset] [(.int (56 : Int32))])) tg → Steps pP.tables eE below (s₁.setTop (entryFrame mM #[(.int cv), (.int mo)] maxLocals)) tg := fun tg kg => pr81 _ (by
      show Steps pP.tables eE below (T80.setTop (mkF mM 32 #[.val (.int cv), .val (.int mo), .val (.int (56 : Int32)), .unset, .unset] [(.ref a_OTHER_USES)])) _
      refine XS.astoreN X80.here hx rfl (hb hby at_32) rfl rfl (l' := #[.val (.int cv), .val (.int mo), .val (.int (56 : Int32)), .val (.ref a_OTHER_USES), .unset]) rfl ?_
      show Steps pP.tables eE below (T80.setTop (mkF mM 33 #[.val (.int cv), .val (.int mo), .val (.int (56 : Int32)), .val (.ref a_OTHER_USES), .unset] [])) _
      refine XS.iloadN X80.here hx rfl (hb hby at_33) rfl ?_
      exact kg)
    obtain ⟨_, _, ⟨T83, L83, kk83, nn83⟩, -, X83, ⟨Lc83, hQ83, l83, y83, z83⟩, st83⟩ := Jvm.LawKit.callS X80 hx (y := (⟨"com/example/ledgerhall/ledgerhall/AccountClassOfDigitPinLaw", "expected", "(C)Lcom/example/ledgerhall/ledgerhall/AccountClass;"⟩ : MethodName)) hown (mvT hZ (hw _ (List.mem_of_getElem? (i := 40) rfl))) (mvT hZ (hw _ (List.mem_of_getElem? (i := 41) rfl))) (mvT hZ (hw _ (List.mem_of_getElem? (i := 42) rfl))) (mvT hZ (hw _ (List.mem_of_getElem? (i := 43) rfl))) (by decide) (backOf (W := 0) (rm96 l Z a0 hw [] a_ASSETS a_LIABILITIES a_FUND_BALANCE a_REVENUES a_EXPENDITURES a_OTHER_RESOURCES a_OTHER_USES va kva em T7.heap n0 c76 c79 S_ASSETS E_ASSETS S_LIABILITIES E_LIABILITIES S_FUND_BALANCE E_FUND_BALANCE S_REVENUES E_REVENUES S_EXPENDITURES E_EXPENDITURES S_OTHER_RESOURCES E_OTHER_RESOURCES S_OTHER_USES E_OTHER_USES F_ASSETS_digit F_LIABILITIES_digit F_FUND_BALANCE_digit F_REVENUES_digit F_EXPENDITURES_digit F_OTHER_RESOURCES_digit F_OTHER_USES_digit S_VALUES E_VALUES V_VALUES S_EMPTY E_EMPTY F_EMPTY) hZ (hw _ (List.mem_of_getElem? (i := 43) rfl)) (hw _ (List.mem_of_getElem? (i := 42) rfl)) (by decide) (by decide)) (g := (mkF mM 34 #[.val (.int cv), .val (.int mo), .val (.int (56 : Int32)), .val (.ref a_OTHER_USES), .unset] [(.int (56 : Int32))])) rfl (by rw [hml]; rfl) (argsL := [(.int (56 : Int32))]) (rest := []) (lenOf pd_6 rfl) rfl (by show 2 * 0 + _ ≤ _; exact Nat.le_of_eq rfl) (hb hby at_34) (fun _ _ => ⟨rfl, e80, (by decide : 2 + 0 ≤ _), (by decide : 8 + 0 ≤ _)⟩)
    dsimp only [Pt.U, Pt.locs, Pt.cells, Pt.slots] at X83 l83 y83 z83 st83 hQ83
    subst l83 y83 z83
    obtain ⟨rfl, Nq83, e83⟩ := hQ83
    have N83 := Fr.app N77 Nq83
    have pr84 : ∀ tg, Steps pP.tables eE below (T83.setTop (mkF mM 37 #[.val (.int cv), .val (.int mo), .val (.int (56 : Int32)), .val (.ref a_OTHER_USES), .unset] [(.ref a_OTHER_USES)])) tg → Steps pP.tables eE below (s₁.setTop (entryFrame mM #[(.int cv), (.int mo)] maxLocals)) tg := fun tg kg => pr82 _ (st83 _ kg)
    have pr85 : ∀ tg, Steps pP.tables eE below (T83.setTop (mkF mM 50 #[.val (.int cv), .val (.int mo), .val (.int (56 : Int32)), .val (.ref a_OTHER_USES), .val (.ref a_OTHER_USES)] [(.int (1 : Int32))])) tg → Steps pP.tables eE below (s₁.setTop (entryFrame mM #[(.int cv), (.int mo)] maxLocals)) tg := fun tg kg => pr84 _ (by
      show Steps pP.tables eE below (T83.setTop (mkF mM 37 #[.val (.int cv), .val (.int mo), .val (.int (56 : Int32)), .val (.ref a_OTHER_USES), .unset] [(.ref a_OTHER_USES)])) _
      refine XS.astore X83.here hx rfl (hb hby at_37) rfl rfl (l' := #[.val (.int cv), .val (.int mo), .val (.int (56 : Int32)), .val (.ref a_OTHER_USES), .val (.ref a_OTHER_USES)]) rfl ?_
      show Steps pP.tables eE below (T83.setTop (mkF mM 39 #[.val (.int cv), .val (.int mo), .val (.int (56 : Int32)), .val (.ref a_OTHER_USES), .val (.ref a_OTHER_USES)] [])) _
      refine XS.aloadN X83.here hx rfl (hb hby at_39) rfl rfl ?_
      show Steps pP.tables eE below (T83.setTop (mkF mM 40 #[.val (.int cv), .val (.int mo), .val (.int (56 : Int32)), .val (.ref a_OTHER_USES), .val (.ref a_OTHER_USES)] [(.ref a_OTHER_USES)])) _
      refine XS.aload X83.here hx rfl (hb hby at_40) rfl rfl ?_
      show Steps pP.tables eE below (T83.setTop (mkF mM 42 #[.val (.int cv), .val (.int mo), .val (.int (56 : Int32)), .val (.ref a_OTHER_USES), .val (.ref a_OTHER_USES)] [(.ref a_OTHER_USES), (.ref a_OTHER_USES)])) _
      refine Jvm.RoadKit.acmp (g := (mkF mM 42 #[.val (.int cv), .val (.int mo), .val (.int (56 : Int32)), .val (.ref a_OTHER_USES), .val (.ref a_OTHER_USES)] [(.ref a_OTHER_USES), (.ref a_OTHER_USES)])) X83 hx rfl rfl rfl (pc0 := 42) (pc' := 45) (same := true) rfl (hb hby at_42) rfl (decide_eq_true rfl) (by decide) (by decide) ?_
      show Steps pP.tables eE below (T83.setTop (mkF mM 45 #[.val (.int cv), .val (.int mo), .val (.int (56 : Int32)), .val (.ref a_OTHER_USES), .val (.ref a_OTHER_USES)] [])) _
      refine XS.iconst X83.here hx rfl (hb hby at_45) ?_
      show Steps pP.tables eE below (T83.setTop (mkF mM 46 #[.val (.int cv), .val (.int mo), .val (.int (56 : Int32)), .val (.ref a_OTHER_USES), .val (.ref a_OTHER_USES)] [(.int (1 : Int32))])) _
      refine XS.goto X83.here hx rfl (pc0 := 46) (pc' := 50) rfl (hb hby at_46) (by decide) (by decide) ?_
      exact kg)
    obtain ⟨fs, hr, hrun, hended, hW, hsame⟩ := X83.leave (v := some (.int (1 : Int32))) (fun h => by rw [Bd.returns] at h; cases h)
    refine ⟨_, _, pr85 _ (retOut X83 hx (t := .boolean) Bd.returns rfl (Or.inl ⟨rfl, Or.inr (Or.inl rfl), _, rfl⟩) (hb hby at_50) hr), hrun, hended, _, _, rfl, ?_, ⟨_, rfl⟩, hW, hsame.mono (by decide) (by decide)⟩
    show Q0 Z cv mo a_ASSETS a_LIABILITIES a_FUND_BALANCE a_REVENUES a_EXPENDITURES a_OTHER_RESOURCES a_OTHER_USES va kva em h0 n0 _ T83.heap _
    rw [e83]
    exact ⟨rfl, N83⟩
  ·
    have pr86 : ∀ tg, Steps pP.tables eE below (T7.setTop (mkF mM 26 #[.val (.int cv), .val (.int mo), .val (.int j3), .unset, .unset] [.null, (.ref bd7)])) tg → Steps pP.tables eE below (s₁.setTop (entryFrame mM #[(.int cv), (.int mo)] maxLocals)) tg := fun tg kg => pr8 _ (by
      show Steps pP.tables eE below (T7.setTop (mkF mM 25 #[.val (.int cv), .val (.int mo), .val (.int j3), .unset, .unset] [(.ref bd7)])) _
      refine XS.aconstNull X7.here hx rfl (hb hby at_25) ?_
      exact kg)
    have c87 := (Nat.le_trans Z0 K7.1)
    obtain ⟨cq88, kq88, qa88, qb88, qc88⟩ := isOf hZ rfl E7
    obtain ⟨_, _, ⟨T88, L88, kk88, nn88⟩, -, X88, ⟨Lc88, hQ88, l88, y88, z88⟩, st88⟩ := X7.virtualBack hx (y := (⟨"java/util/Optional", "orElse", "(Ljava/lang/Object;)Ljava/lang/Object;"⟩ : MethodName)) (z := (⟨"java/util/Optional", "orElse", "(Ljava/lang/Object;)Ljava/lang/Object;"⟩ : MethodName)) hown (mvT hZ (hw _ (List.mem_of_getElem? (i := 33) rfl))) (mvT hZ (hw _ (List.mem_of_getElem? (i := 34) rfl))) (notFace_of_selects (args := #[]) (mvT hZ (hw _ (List.mem_of_getElem? (i := 36) rfl)))) (mvT hZ (hw _ (List.mem_of_getElem? (i := 36) rfl))) (mvT hZ (hw _ (List.mem_of_getElem? (i := 35) rfl))) (by decide) (backOf (W := 0) (rm8 l Z a0 hw [] bd7 T7.heap n0 c87 E7 hF) hZ (hw _ (List.mem_of_getElem? (i := 37) rfl)) (hw _ (List.mem_of_getElem? (i := 30) rfl)) (by decide) (by decide)) qa88 qc88 (g := (mkF mM 26 #[.val (.int cv), .val (.int mo), .val (.int j3), .unset, .unset] [.null, (.ref bd7)])) rfl (by rw [hml]; rfl) (Steps.refl _) (argsL := [.null]) (rest := []) (lenOf pd_0 rfl) rfl (by show 2 * 0 + _ ≤ _; exact Nat.le_of_eq rfl) (hb hby at_26) (fun _ _ => ⟨rfl, rfl, (by decide : 2 + 0 ≤ _), (by decide : 8 + 0 ≤ _)⟩)
    dsimp only [Pt.U, Pt.locs, Pt.cells, Pt.slots] at X88 l88 y88 z88 st88 hQ88
    subst l88 y88 z88
    obtain ⟨rfl, Nq88, e88⟩ := hQ88
    have N88 := Fr.app N7 Nq88
    have pr89 : ∀ tg, Steps pP.tables eE below (T88.setTop (mkF mM 29 #[.val (.int cv), .val (.int mo), .val (.int j3), .unset, .unset] [.null])) tg → Steps pP.tables eE below (s₁.setTop (entryFrame mM #[(.int cv), (.int mo)] maxLocals)) tg := fun tg kg => pr86 _ (st88.trans kg)
    have c90 := (Old.keep O K7 all0)
    have pr91 : ∀ tg, Steps pP.tables eE below (T88.setTop (mkF mM 34 #[.val (.int cv), .val (.int mo), .val (.int j3), .val .null, .unset] [(.int j3)])) tg → Steps pP.tables eE below (s₁.setTop (entryFrame mM #[(.int cv), (.int mo)] maxLocals)) tg := fun tg kg => pr89 _ (by
      show Steps pP.tables eE below (T88.setTop (mkF mM 29 #[.val (.int cv), .val (.int mo), .val (.int j3), .unset, .unset] [.null])) _
      refine X88.checkcastNull hx (g := (mkF mM 29 #[.val (.int cv), .val (.int mo), .val (.int j3), .unset, .unset] [.null])) rfl rfl (hb hby at_29) _ ?_
      show Steps pP.tables eE below (T88.setTop (mkF mM 32 #[.val (.int cv), .val (.int mo), .val (.int j3), .unset, .unset] [.null])) _
      refine XS.astoreN X88.here hx rfl (hb hby at_32) rfl rfl (l' := #[.val (.int cv), .val (.int mo), .val (.int j3), .val .null, .unset]) rfl ?_
      show Steps pP.tables eE below (T88.setTop (mkF mM 33 #[.val (.int cv), .val (.int mo), .val (.int j3), .val .null, .unset] [])) _
      refine XS.iloadN X88.here hx rfl (hb hby at_33) rfl ?_
      exact kg)
    obtain ⟨_, _, ⟨T92, L92, kk92, nn92⟩, -, X92, ⟨Lc92, hQ92, l92, y92, z92⟩, st92⟩ := Jvm.LawKit.callS X88 hx (y := (⟨"com/example/ledgerhall/ledgerhall/AccountClassOfDigitPinLaw", "expected", "(C)Lcom/example/ledgerhall/ledgerhall/AccountClass;"⟩ : MethodName)) hown (mvT hZ (hw _ (List.mem_of_getElem? (i := 40) rfl))) (mvT hZ (hw _ (List.mem_of_getElem? (i := 41) rfl))) (mvT hZ (hw _ (List.mem_of_getElem? (i := 42) rfl))) (mvT hZ (hw _ (List.mem_of_getElem? (i := 43) rfl))) (by decide) (backOf (W := 0) (rm97 l Z a0 hw [] j3 a_ASSETS a_LIABILITIES a_FUND_BALANCE a_REVENUES a_EXPENDITURES a_OTHER_RESOURCES a_OTHER_USES va kva em T7.heap n0 c87 c90 S_ASSETS E_ASSETS S_LIABILITIES E_LIABILITIES S_FUND_BALANCE E_FUND_BALANCE S_REVENUES E_REVENUES S_EXPENDITURES E_EXPENDITURES S_OTHER_RESOURCES E_OTHER_RESOURCES S_OTHER_USES E_OTHER_USES F_ASSETS_digit F_LIABILITIES_digit F_FUND_BALANCE_digit F_REVENUES_digit F_EXPENDITURES_digit F_OTHER_RESOURCES_digit F_OTHER_USES_digit S_VALUES E_VALUES V_VALUES S_EMPTY E_EMPTY F_EMPTY hd49 hd50 hd51 hd53 hd54 hd55 hd56) hZ (hw _ (List.mem_of_getElem? (i := 43) rfl)) (hw _ (List.mem_of_getElem? (i := 42) rfl)) (by decide) (by decide)) (g := (mkF mM 34 #[.val (.int cv), .val (.int mo), .val (.int j3), .val .null, .unset] [(.int j3)])) rfl (by rw [hml]; rfl) (argsL := [(.int j3)]) (rest := []) (lenOf pd_6 rfl) rfl (by show 2 * 0 + _ ≤ _; exact Nat.le_of_eq rfl) (hb hby at_34) (fun _ _ => ⟨rfl, e88, (by decide : 2 + 0 ≤ _), (by decide : 8 + 0 ≤ _)⟩)
    dsimp only [Pt.U, Pt.locs, Pt.cells, Pt.slots] at X92 l92 y92 z92 st92 hQ92
    subst l92 y92 z92
    obtain ⟨rfl, Nq92, e92⟩ := hQ92
    have N92 := Fr.app N88 Nq92
    have pr93 : ∀ tg, Steps pP.tables eE below (T92.setTop (mkF mM 37 #[.val (.int cv), .val (.int mo), .val (.int j3), .val .null, .unset] [.null])) tg → Steps pP.tables eE below (s₁.setTop (entryFrame mM #[(.int cv), (.int mo)] maxLocals)) tg := fun tg kg => pr91 _ (st92 _ kg)
    have pr94 : ∀ tg, Steps pP.tables eE below (T92.setTop (mkF mM 50 #[.val (.int cv), .val (.int mo), .val (.int j3), .val .null, .val .null] [(.int (1 : Int32))])) tg → Steps pP.tables eE below (s₁.setTop (entryFrame mM #[(.int cv), (.int mo)] maxLocals)) tg := fun tg kg => pr93 _ (by
      show Steps pP.tables eE below (T92.setTop (mkF mM 37 #[.val (.int cv), .val (.int mo), .val (.int j3), .val .null, .unset] [.null])) _
      refine XS.astore X92.here hx rfl (hb hby at_37) rfl rfl (l' := #[.val (.int cv), .val (.int mo), .val (.int j3), .val .null, .val .null]) rfl ?_
      show Steps pP.tables eE below (T92.setTop (mkF mM 39 #[.val (.int cv), .val (.int mo), .val (.int j3), .val .null, .val .null] [])) _
      refine XS.aloadN X92.here hx rfl (hb hby at_39) rfl rfl ?_
      show Steps pP.tables eE below (T92.setTop (mkF mM 40 #[.val (.int cv), .val (.int mo), .val (.int j3), .val .null, .val .null] [.null])) _
      refine XS.aload X92.here hx rfl (hb hby at_40) rfl rfl ?_
      show Steps pP.tables eE below (T92.setTop (mkF mM 42 #[.val (.int cv), .val (.int mo), .val (.int j3), .val .null, .val .null] [.null, .null])) _
      refine Jvm.RoadKit.acmp (g := (mkF mM 42 #[.val (.int cv), .val (.int mo), .val (.int j3), .val .null, .val .null] [.null, .null])) X92 hx rfl rfl rfl (pc0 := 42) (pc' := 45) (same := true) rfl (hb hby at_42) rfl (decide_eq_true rfl) (by decide) (by decide) ?_
      show Steps pP.tables eE below (T92.setTop (mkF mM 45 #[.val (.int cv), .val (.int mo), .val (.int j3), .val .null, .val .null] [])) _
      refine XS.iconst X92.here hx rfl (hb hby at_45) ?_
      show Steps pP.tables eE below (T92.setTop (mkF mM 46 #[.val (.int cv), .val (.int mo), .val (.int j3), .val .null, .val .null] [(.int (1 : Int32))])) _
      refine XS.goto X92.here hx rfl (pc0 := 46) (pc' := 50) rfl (hb hby at_46) (by decide) (by decide) ?_
      exact kg)
    obtain ⟨fs, hr, hrun, hended, hW, hsame⟩ := X92.leave (v := some (.int (1 : Int32))) (fun h => by rw [Bd.returns] at h; cases h)
    refine ⟨_, _, pr94 _ (retOut X92 hx (t := .boolean) Bd.returns rfl (Or.inl ⟨rfl, Or.inr (Or.inl rfl), _, rfl⟩) (hb hby at_50) hr), hrun, hended, _, _, rfl, ?_, ⟨_, rfl⟩, hW, hsame.mono (by decide) (by decide)⟩
    show Q0 Z cv mo a_ASSETS a_LIABILITIES a_FUND_BALANCE a_REVENUES a_EXPENDITURES a_OTHER_RESOURCES a_OTHER_USES va kva em h0 n0 _ T92.heap _
    rw [e92]
    exact ⟨rfl, N92⟩
set_option maxRecDepth 65536 in
set_option maxHeartbeats 40000000 in
theorem comes_1 {Post : Tables → Env → Array Value → State → Outcome → State → Prop} (hpost : ∀ tb e args s v u, (limb_1_1.after args s (.returned v) u = true ∧ limb_1_2.after args s (.returned v) u = true ∧ True) → FrameEnd s (.returned v) u (Jvm.fieldLocs frame_1_writes args s ++ Jvm.arrayLocs frame_1_arrays args s ++ Jvm.staticLocs frame_1_statics s) 16 128 → Post tb e args s (.returned v) u) :
    ArmFor flags0 classFile x code maxLocals ret World_1 tables_1 room_1 Calls_1 rest_1 Pre_1 Post := by
  intro l hfl _ _ p e ha hc hk s m args below hf hA hF happ hP
  obtain ⟨hcalls, hrest, hpre⟩ := hP
  obtain ⟨-, -, -, hnamed, -, -, -, hat⟩ := (Spec.applies_iff hf).mp happ
  obtain ⟨hg, hn⟩ := and_e (Cond.before_iff.mp (show (Jvm.Cond.and given_1 narrow_1).before args s = true from hpre))
  obtain ⟨n1, n2⟩ := and_e hg
  obtain ⟨n3, n4⟩ := and_e n2
  obtain ⟨w0, w1, rfl⟩ : ∃ w0 w1 : Value, args = #[w0, w1] := by
    have hs : args.size = 2 := by simpa [Cond.value, given_1] using n1
    obtain ⟨L⟩ := args
    match L, hs with
    | [w0, w1], _ => exact ⟨w0, w1, rfl⟩
  have hw := fun d (hd : d ∈ tables_1) => atoms_spec (ws := Jvm.Cond.code x code maxLocals ret :: tables_1) hat d (List.mem_cons_of_mem _ hd)
  have hfit : Fit s := fun {y c} hc i hi => by
    obtain ⟨ha, rfl⟩ := Array.getElem?_eq_some_iff.mp hc
    have q := List.all_eq_true.mp ((Array.all_eq_true_iff_forall_mem.mp hF) _ (Array.getElem_mem ha)) i (List.mem_range.mpr hi)
    simpa [Array.getElem?_eq_getElem hi] using q
  obtain ⟨hsets, hown0⟩ := atoms_of _ (rest_1_c_eq ▸ (show rest_1_c.before _ s = true from hrest))
  have hr0 := Cond.before_iff.mp hown0
  obtain ⟨i0, ei0⟩ := is_v n3
  obtain rfl : w0 = (.int i0) := Option.some.inj ei0
  obtain ⟨i1, ei1⟩ := is_v n4
  obtain rfl : w1 = (.int i1) := Option.some.inj ei1
  obtain ⟨n5, n6⟩ := and_e hn
  obtain ⟨n7, n8⟩ := and_e n6
  obtain ⟨n9, n10⟩ := and_e n8
  obtain ⟨n11, n12⟩ := and_e n10
  obtain ⟨n13, n14⟩ := and_e n12
  obtain ⟨n15, n16⟩ := and_e n14
  obtain ⟨n17, n18⟩ := and_e n16
  obtain ⟨n19, n20⟩ := and_e n18
  obtain ⟨n21, n22⟩ := and_e n20
  obtain ⟨n23, n24⟩ := and_e n22
  obtain ⟨n25, n26⟩ := and_e n24
  obtain ⟨n27, n28⟩ := and_e n26
  obtain ⟨n29, n30⟩ := and_e n28
  obtain ⟨n31, n32⟩ := and_e n30
  obtain ⟨n33, n34⟩ := and_e n32
  obtain ⟨n35, n36⟩ := and_e n34
  obtain ⟨n37, n38⟩ := and_e n36
  obtain ⟨n39, n40⟩ := and_e n38
  obtain ⟨n41, n42⟩ := and_e n40
  obtain ⟨n43, n44⟩ := and_e n42
  obtain ⟨n45, n46⟩ := and_e n44
  obtain ⟨n47, n48⟩ := and_e n46
  obtain ⟨n49, n50⟩ := and_e n48
  obtain ⟨a__VALUES, ea__VALUES⟩ := exa_v n7
  have S__VALUES : Sta s s.heap "com/example/ledgerhall/ledgerhall/AccountClass" "$VALUES" "[Lcom/example/ledgerhall/ledgerhall/AccountClass;" (.ref a__VALUES) := Sta.start ea__VALUES (Or.inl (hw _ (List.mem_of_getElem? (i := 23) rfl)))
  have E__VALUES : Exa s s.heap a__VALUES "[Lcom/example/ledgerhall/ledgerhall/AccountClass;" := Exa.start ea__VALUES n7
  obtain ⟨a_ASSETS, ea_ASSETS⟩ := exa_v n11
  have S_ASSETS : Sta s s.heap "com/example/ledgerhall/ledgerhall/AccountClass" "ASSETS" "Lcom/example/ledgerhall/ledgerhall/AccountClass;" (.ref a_ASSETS) := Sta.start ea_ASSETS (Or.inr ⟨(hw _ (List.mem_of_getElem? (i := 2) rfl)), (hw _ (List.mem_of_getElem? (i := 16) rfl))⟩)
  have E_ASSETS : Exa s s.heap a_ASSETS "com/example/ledgerhall/ledgerhall/AccountClass" := Exa.start ea_ASSETS n11
  obtain ⟨a_LIABILITIES, ea_LIABILITIES⟩ := exa_v n15
  have S_LIABILITIES : Sta s s.heap "com/example/ledgerhall/ledgerhall/AccountClass" "LIABILITIES" "Lcom/example/ledgerhall/ledgerhall/AccountClass;" (.ref a_LIABILITIES) := Sta.start ea_LIABILITIES (Or.inr ⟨(hw _ (List.mem_of_getElem? (i := 2) rfl)), (hw _ (List.mem_of_getElem? (i := 17) rfl))⟩)
  have E_LIABILITIES : Exa s s.heap a_LIABILITIES "com/example/ledgerhall/ledgerhall/AccountClass" := Exa.start ea_LIABILITIES n15
  obtain ⟨a_FUND_BALANCE, ea_FUND_BALANCE⟩ := exa_v n19
  have S_FUND_BALANCE : Sta s s.heap "com/example/ledgerhall/ledgerhall/AccountClass" "FUND_BALANCE" "Lcom/example/ledgerhall/ledgerhall/AccountClass;" (.ref a_FUND_BALANCE) := Sta.start ea_FUND_BALANCE (Or.inr ⟨(hw _ (List.mem_of_getElem? (i := 2) rfl)), (hw _ (List.mem_of_getElem? (i := 18) rfl))⟩)
  have E_FUND_BALANCE : Exa s s.heap a_FUND_BALANCE "com/example/ledgerhall/ledgerhall/AccountClass" := Exa.start ea_FUND_BALANCE n19
  obtain ⟨a_REVENUES, ea_REVENUES⟩ := exa_v n23
  have S_REVENUES : Sta s s.heap "com/example/ledgerhall/ledgerhall/AccountClass" "REVENUES" "Lcom/example/ledgerhall/ledgerhall/AccountClass;" (.ref a_REVENUES) := Sta.start ea_REVENUES (Or.inr ⟨(hw _ (List.mem_of_getElem? (i := 2) rfl)), (hw _ (List.mem_of_getElem? (i := 19) rfl))⟩)
  have E_REVENUES : Exa s s.heap a_REVENUES "com/example/ledgerhall/ledgerhall/AccountClass" := Exa.start ea_REVENUES n23
  obtain ⟨a_EXPENDITURES, ea_EXPENDITURES⟩ := exa_v n27
  have S_EXPENDITURES : Sta s s.heap "com/example/ledgerhall/ledgerhall/AccountClass" "EXPENDITURES" "Lcom/example/ledgerhall/ledgerhall/AccountClass;" (.ref a_EXPENDITURES) := Sta.start ea_EXPENDITURES (Or.inr ⟨(hw _ (List.mem_of_getElem? (i := 2) rfl)), (hw _ (List.mem_of_getElem? (i := 20) rfl))⟩)
  have E_EXPENDITURES : Exa s s.heap a_EXPENDITURES "com/example/ledgerhall/ledgerhall/AccountClass" := Exa.start ea_EXPENDITURES n27
  obtain ⟨a_OTHER_RESOURCES, ea_OTHER_RESOURCES⟩ := exa_v n31
  have S_OTHER_RESOURCES : Sta s s.heap "com/example/ledgerhall/ledgerhall/AccountClass" "OTHER_RESOURCES" "Lcom/example/ledgerhall/ledgerhall/AccountClass;" (.ref a_OTHER_RESOURCES) := Sta.start ea_OTHER_RESOURCES (Or.inr ⟨(hw _ (List.mem_of_getElem? (i := 2) rfl)), (hw _ (List.mem_of_getElem? (i := 21) rfl))⟩)
  have E_OTHER_RESOURCES : Exa s s.heap a_OTHER_RESOURCES "com/example/ledgerhall/ledgerhall/AccountClass" := Exa.start ea_OTHER_RESOURCES n31
  obtain ⟨a_OTHER_USES, ea_OTHER_USES⟩ := exa_v n35
  have S_OTHER_USES : Sta s s.heap "com/example/ledgerhall/ledgerhall/AccountClass" "OTHER_USES" "Lcom/example/ledgerhall/ledgerhall/AccountClass;" (.ref a_OTHER_USES) := Sta.start ea_OTHER_USES (Or.inr ⟨(hw _ (List.mem_of_getElem? (i := 2) rfl)), (hw _ (List.mem_of_getElem? (i := 22) rfl))⟩)
  have E_OTHER_USES : Exa s s.heap a_OTHER_USES "com/example/ledgerhall/ledgerhall/AccountClass" := Exa.start ea_OTHER_USES n35
  have F_ASSETS_digit : Fld s s.heap a_ASSETS "com/example/ledgerhall/ledgerhall/AccountClass" "digit" "C" (.int (49 : Int32)) := Fld.start ((fld_at ea_ASSETS).symm.trans (eqv_i (Term.int_eval (49)) n39))
  have F_LIABILITIES_digit : Fld s s.heap a_LIABILITIES "com/example/ledgerhall/ledgerhall/AccountClass" "digit" "C" (.int (50 : Int32)) := Fld.start ((fld_at ea_LIABILITIES).symm.trans (eqv_i (Term.int_eval (50)) n41))
  have F_FUND_BALANCE_digit : Fld s s.heap a_FUND_BALANCE "com/example/ledgerhall/ledgerhall/AccountClass" "digit" "C" (.int (51 : Int32)) := Fld.start ((fld_at ea_FUND_BALANCE).symm.trans (eqv_i (Term.int_eval (51)) n43))
  have F_REVENUES_digit : Fld s s.heap a_REVENUES "com/example/ledgerhall/ledgerhall/AccountClass" "digit" "C" (.int (53 : Int32)) := Fld.start ((fld_at ea_REVENUES).symm.trans (eqv_i (Term.int_eval (53)) n45))
  have F_EXPENDITURES_digit : Fld s s.heap a_EXPENDITURES "com/example/ledgerhall/ledgerhall/AccountClass" "digit" "C" (.int (54 : Int32)) := Fld.start ((fld_at ea_EXPENDITURES).symm.trans (eqv_i (Term.int_eval (54)) n47))
  have F_OTHER_RESOURCES_digit : Fld s s.heap a_OTHER_RESOURCES "com/example/ledgerhall/ledgerhall/AccountClass" "digit" "C" (.int (55 : Int32)) := Fld.start ((fld_at ea_OTHER_RESOURCES).symm.trans (eqv_i (Term.int_eval (55)) n49))
  have F_OTHER_USES_digit : Fld s s.heap a_OTHER_USES "com/example/ledgerhall/ledgerhall/AccountClass" "digit" "C" (.int (56 : Int32)) := Fld.start ((fld_at ea_OTHER_USES).symm.trans (eqv_i (Term.int_eval (56)) n50))
  obtain ⟨cva, Acv⟩ := Arr.start ea__VALUES n5
  obtain ⟨hl1, hl2⟩ := own_len ea__VALUES Acv (eqv_i (Term.int_eval (7)) n9)
  have hv0 : cva.slots[0]? = some (.ref a_ASSETS) := (elem_in (own_eqr ea_ASSETS n13) ea__VALUES (Term.int_eval (0)) Acv.1).2
  have hv1 : cva.slots[1]? = some (.ref a_LIABILITIES) := (elem_in (own_eqr ea_LIABILITIES n17) ea__VALUES (Term.int_eval (1)) Acv.1).2
  have hv2 : cva.slots[2]? = some (.ref a_FUND_BALANCE) := (elem_in (own_eqr ea_FUND_BALANCE n21) ea__VALUES (Term.int_eval (2)) Acv.1).2
  have hv3 : cva.slots[3]? = some (.ref a_REVENUES) := (elem_in (own_eqr ea_REVENUES n25) ea__VALUES (Term.int_eval (3)) Acv.1).2
  have hv4 : cva.slots[4]? = some (.ref a_EXPENDITURES) := (elem_in (own_eqr ea_EXPENDITURES n29) ea__VALUES (Term.int_eval (4)) Acv.1).2
  have hv5 : cva.slots[5]? = some (.ref a_OTHER_RESOURCES) := (elem_in (own_eqr ea_OTHER_RESOURCES n33) ea__VALUES (Term.int_eval (5)) Acv.1).2
  have hv6 : cva.slots[6]? = some (.ref a_OTHER_USES) := (elem_in (own_eqr ea_OTHER_USES n37) ea__VALUES (Term.int_eval (6)) Acv.1).2
  have V_VALUES : Arv s s.heap a__VALUES cva.cls (.object "com/example/ledgerhall/ledgerhall/AccountClass") (7 : Int32) [(.ref a_ASSETS), (.ref a_LIABILITIES), (.ref a_FUND_BALANCE), (.ref a_REVENUES), (.ref a_EXPENDITURES), (.ref a_OTHER_RESOURCES), (.ref a_OTHER_USES)] .null := Arv.start hfit Acv hl1 hl2 (by decide) rfl ⟨hv0, hv1, hv2, hv3, hv4, hv5, hv6, trivial⟩
  obtain ⟨em, eem⟩ := exa_v (Cond.before_iff.mp (hsets _ (List.mem_of_getElem? (i := 2) rfl)))
  have S_EMPTY : Sta s s.heap "java/util/Optional" "EMPTY" "Ljava/util/Optional;" (.ref em) := Sta.start eem (Or.inl (hsets _ (List.mem_of_getElem? (i := 1) rfl)))
  have E_EMPTY : Exa s s.heap em "java/util/Optional" := Exa.start eem (Cond.before_iff.mp (hsets _ (List.mem_of_getElem? (i := 2) rfl)))
  have F_EMPTY : Fld s s.heap em "java/util/Optional" "value" "Ljava/lang/Object;" .null := Fld.start ((fld_at eem).symm.trans (null_v (Cond.before_iff.mp (hsets _ (List.mem_of_getElem? (i := 3) rfl)))))
  obtain ⟨n, o, h1, h2, h3, _, L, rfl, ⟨rfl, N⟩, hq⟩ := rm0 l s _ hw tables_1 i0 i1 a_ASSETS a_LIABILITIES a_FUND_BALANCE a_REVENUES a_EXPENDITURES a_OTHER_RESOURCES a_OTHER_USES a__VALUES cva.cls em s.heap s.heap.size (Nat.le_refl _) (Old.start s) S_ASSETS E_ASSETS S_LIABILITIES E_LIABILITIES S_FUND_BALANCE E_FUND_BALANCE S_REVENUES E_REVENUES S_EXPENDITURES E_EXPENDITURES S_OTHER_RESOURCES E_OTHER_RESOURCES S_OTHER_USES E_OTHER_USES F_ASSETS_digit F_LIABILITIES_digit F_FUND_BALANCE_digit F_REVENUES_digit F_EXPENDITURES_digit F_OTHER_RESOURCES_digit F_OTHER_USES_digit S__VALUES E__VALUES V_VALUES S_EMPTY E_EMPTY F_EMPTY p e ha hc hk s m _ below hf ((Spec.applies_iff_loose hf).mp happ).1 ⟨rfl, State.Warmed39.refl s, rfl⟩ trivial
  refine ⟨n, _, h1, h2, h3, hpost _ _ _ _ _ _ ⟨Cond.after_iff.mpr rfl, Cond.after_iff.mpr (eq_i res_at (Term.int_eval (1)) rfl), trivial⟩ ⟨hq.1, hq.2.1, (hq.2.2.sift fun y hy => Or.inr (N y hy)).mono (by decide) (by decide)⟩⟩
theorem main_1_1 : Claimed_1_1 := comes_1 fun _ _ _ _ _ _ h hF => ⟨h.1, hF⟩
theorem main_1_2 : Claimed_1_2 := comes_1 fun _ _ _ _ _ _ h hF => ⟨h.2.1, hF⟩
end Jvm.Pilot.@@N@@
namespace Jvm.Pilot.@@N@@
open Jvm Jvm.ClassFile Sem Op Lib Jvm.Free Jvm.Stand Jvm.Pilot.@@N@@.Jvm.D
/-! MADE BY PROGRAM (witnessworld.py) out of the Statement's table words and the real class files: 15 classes; the members and pool entries that the words name. The judged class is class 1, her method 1. -/
namespace start1
open Jvm.ClassFile
def u (s : String) : CpInfo := .utf8 (stringToUtf16 s)
/-- a pool by its gaps: so many unusable entries, then the entry; so many at the end -/
def gap : Nat → List CpInfo → List CpInfo
  | 0, r => r
  | n + 1, r => .unusable :: gap n r
def poolList (es : List (Nat × CpInfo)) (last : Nat) : List CpInfo := es.foldr (fun e r => gap e.1 (e.2 :: r)) (gap last [])
def pool (es : List (Nat × CpInfo)) (last : Nat) : Array CpInfo := ⟨poolList es last⟩
def fileOf (pool : Array CpInfo) (this : Nat) (attrs : Array Attribute := #[]) (ms : Array MethodInfo := #[]) (fl : Nat := 33) (sup : Nat := 0) (ifs : Array Nat := #[]) (fds : Array FieldInfo := #[]) : ClassFile where
  minorVersion := 0
  majorVersion := 65
  constantPool := pool
  accessFlags := fl
  thisClass := this
  superClass := sup
  interfaces := ifs
  fields := fds
  methods := ms
  attributes := attrs
def plain (name : String) (sup : Option ClassId) : Class where
  name := name
  kind := .ordinary
  loader := none
  accessFlags := 33
  super := sup
  interfaces := #[]
  cf := none
  fields := #[]
  methods := #[]
  instanceTypes := #[]
  staticTypes := #[]
  resolved := #[]
  callSites := []
  init := .initialized
  statics := none
  mirror := none

def pool0 : Array CpInfo := pool [(5, u "<init>"), (0, u "()V"), (1, .class_ 10), (1, u "java/lang/Object"), (85, u "clone"), (0, u "()Ljava/lang/Object;")] 26

def k0c0 : Code := { maxStack := 0, maxLocals := 1, code := object_method_1_code, exceptionTable := #[], attributes := #[] }
def k0m0 : Method := { name := "<init>", desc := "()V", sig := { parameters := [], returnType := none }, accessFlags := 1, code := some k0c0 }
def k0m1 : Method := { name := "clone", desc := "()Ljava/lang/Object;", sig := { parameters := [], returnType := some (.object "java/lang/Object") }, accessFlags := 260, code := none }
/-- java/lang/Object -/
def k0 : Class := { plain "java/lang/Object" none with
  accessFlags := 33
  interfaces := #[]
  cf := some (fileOf pool0 8 #[] #[{ accessFlags := 1, nameIndex := 5, descriptorIndex := 6, attributes := #[] }, { accessFlags := 260, nameIndex := 96, descriptorIndex := 97, attributes := #[] }] 33 0 #[] #[])
  fields := #[]
  methods := #[k0m0, k0m1]
  instanceTypes := #[]
  staticTypes := #[]
  resolved := Array.replicate 124 none
  statics := none }

def pool1 : Array CpInfo := pool [(2, .class_ 4), (1, u "java/lang/Object"), (0, u "<init>"), (0, u "()V"), (0, .methodref 8 9), (0, .class_ 10), (0, .nameAndType 11 12), (0, u "com/example/ledgerhall/ledgerhall/AccountClass"), (0, u "ofDigit"), (0, u "(C)Ljava/util/Optional;"), (0, .methodref 14 15), (0, .class_ 16), (0, .nameAndType 17 18), (0, u "java/util/Optional"), (0, u "orElse"), (0, u "(Ljava/lang/Object;)Ljava/lang/Object;"), (0, .methodref 20 21), (0, .class_ 22), (0, .nameAndType 23 24), (0, u "com/example/ledgerhall/ledgerhall/AccountClassOfDigitPinLaw"), (0, u "expected"), (0, u "(C)Lcom/example/ledgerhall/ledgerhall/AccountClass;"), (0, .fieldref 8 26), (0, .nameAndType 27 28), (0, u "ASSETS"), (0, u "Lcom/example/ledgerhall/ledgerhall/AccountClass;"), (0, .fieldref 8 30), (0, .nameAndType 31 28), (0, u "LIABILITIES"), (0, .fieldref 8 33), (0, .nameAndType 34 28), (0, u "FUND_BALANCE"), (0, .fieldref 8 36), (0, .nameAndType 37 28), (0, u "REVENUES"), (0, .fieldref 8 39), (0, .nameAndType 40 28), (0, u "EXPENDITURES"), (0, .fieldref 8 42), (0, .nameAndType 43 28), (0, u "OTHER_RESOURCES"), (0, .fieldref 8 45), (0, .nameAndType 46 28), (0, u "OTHER_USES"), (2, u "law"), (0, u "(II)Z")] 3

def k1m0 : Method := { name := "<init>", desc := "()V", sig := { parameters := [], returnType := none }, accessFlags := 2, code := none }
def k1c1 : Code := { maxStack := 3, maxLocals := 5, code := code, exceptionTable := #[], attributes := #[] }
def k1m1 : Method := { name := "law", desc := "(II)Z", sig := { parameters := [.int, .int], returnType := some .boolean }, accessFlags := 9, code := some k1c1 }
def k1c2 : Code := { maxStack := 2, maxLocals := 1, code := method_3_code, exceptionTable := #[], attributes := #[] }
def k1m2 : Method := { name := "expected", desc := "(C)Lcom/example/ledgerhall/ledgerhall/AccountClass;", sig := { parameters := [.char], returnType := some (.object "com/example/ledgerhall/ledgerhall/AccountClass") }, accessFlags := 10, code := some k1c2 }
/-- com/example/ledgerhall/ledgerhall/AccountClassOfDigitPinLaw -/
def k1 : Class := { plain "com/example/ledgerhall/ledgerhall/AccountClassOfDigitPinLaw" (some 0) with
  accessFlags := 49
  interfaces := #[]
  cf := some (fileOf pool1 20 #[] #[{ accessFlags := 2, nameIndex := 5, descriptorIndex := 6, attributes := #[] }, { accessFlags := 9, nameIndex := 49, descriptorIndex := 50, attributes := #[] }, { accessFlags := 10, nameIndex := 23, descriptorIndex := 24, attributes := #[] }] 49 2 #[] #[])
  fields := #[]
  methods := #[k1m0, k1m1, k1m2]
  instanceTypes := #[]
  staticTypes := #[]
  resolved := Array.replicate 54 none
  statics := none }

def pool2 : Array CpInfo := pool [(1, .class_ 2), (0, u "java/lang/constant/Constable"), (0, .class_ 4), (0, u "java/lang/Object")] 6

/-- java/lang/constant/Constable -/
def k2 : Class := { plain "java/lang/constant/Constable" (some 0) with
  accessFlags := 1537
  interfaces := #[]
  cf := some (fileOf pool2 1 #[] #[] 1537 3 #[] #[])
  fields := #[]
  methods := #[]
  instanceTypes := #[]
  staticTypes := #[]
  resolved := Array.replicate 11 none
  statics := none }

def pool3 : Array CpInfo := pool [(1, .class_ 2), (0, u "java/lang/Comparable"), (0, .class_ 4), (0, u "java/lang/Object")] 7

/-- java/lang/Comparable -/
def k3 : Class := { plain "java/lang/Comparable" (some 0) with
  accessFlags := 1537
  interfaces := #[]
  cf := some (fileOf pool3 1 #[] #[] 1537 3 #[] #[])
  fields := #[]
  methods := #[]
  instanceTypes := #[]
  staticTypes := #[]
  resolved := Array.replicate 12 none
  statics := none }

def pool4 : Array CpInfo := pool [(1, .class_ 2), (0, u "java/io/Serializable"), (0, .class_ 4), (0, u "java/lang/Object")] 2

/-- java/io/Serializable -/
def k4 : Class := { plain "java/io/Serializable" (some 0) with
  accessFlags := 1537
  interfaces := #[]
  cf := some (fileOf pool4 1 #[] #[] 1537 3 #[] #[])
  fields := #[]
  methods := #[]
  instanceTypes := #[]
  staticTypes := #[]
  resolved := Array.replicate 7 none
  statics := none }

def pool5 : Array CpInfo := pool [(2, .class_ 4), (1, u "java/lang/Enum"), (0, u "name"), (0, u "Ljava/lang/String;"), (2, u "ordinal"), (0, u "I"), (1, .class_ 14), (1, u "java/lang/Object"), (4, u "hash"), (86, .class_ 108), (1, u "java/lang/Enum$EnumDesc"), (2, .class_ 112), (0, u "java/lang/constant/Constable"), (0, .class_ 114), (0, u "java/lang/Comparable"), (0, .class_ 116), (0, u "java/io/Serializable")] 87

/-- java/lang/Enum -/
def k5 : Class := { plain "java/lang/Enum" (some 0) with
  accessFlags := 1057
  interfaces := #[2, 3, 4]
  cf := some (fileOf pool5 2 #[.nestMembers #[106]] #[] 1057 12 #[111, 113, 115] #[{ accessFlags := 18, nameIndex := 5, descriptorIndex := 6, attributes := #[] }, { accessFlags := 18, nameIndex := 9, descriptorIndex := 10, attributes := #[] }, { accessFlags := 2, nameIndex := 19, descriptorIndex := 10, attributes := #[] }])
  fields := #[{ name := "name", type := (.object "java/lang/String"), accessFlags := 18, slot := 0, constantValue := 0 }, { name := "ordinal", type := .int, accessFlags := 18, slot := 1, constantValue := 0 }, { name := "hash", type := .int, accessFlags := 2, slot := 2, constantValue := 0 }]
  methods := #[]
  instanceTypes := #[(.object "java/lang/String"), .int, .int]
  staticTypes := #[]
  resolved := Array.replicate 204 none
  statics := none }

def pool6 : Array CpInfo := pool [(1, .class_ 2), (0, u "com/example/ledgerhall/ledgerhall/AccountClass"), (2, u "ASSETS"), (0, u "Lcom/example/ledgerhall/ledgerhall/AccountClass;"), (2, u "LIABILITIES"), (2, u "FUND_BALANCE"), (2, u "REVENUES"), (2, u "EXPENDITURES"), (2, u "OTHER_RESOURCES"), (2, u "OTHER_USES"), (0, .fieldref 1 26), (0, .nameAndType 27 28), (0, u "$VALUES"), (0, u "[Lcom/example/ledgerhall/ledgerhall/AccountClass;"), (0, .methodref 30 31), (0, .class_ 28), (0, .nameAndType 32 33), (0, u "clone"), (0, u "()Ljava/lang/Object;"), (1, .class_ 37), (1, u "java/lang/Enum"), (6, .fieldref 1 45), (0, .nameAndType 46 47), (0, u "digit"), (0, u "C"), (2, u "ledgerHeading"), (0, u "Lcom/example/ledgerhall/ledgerhall/LedgerHeading;"), (1, .class_ 55), (1, u "java/util/Optional"), (1, u "(Ljava/lang/Object;)Ljava/util/Optional;"), (0, .methodref 1 59), (0, .nameAndType 60 61), (0, u "values"), (0, u "()[Lcom/example/ledgerhall/ledgerhall/AccountClass;"), (0, .methodref 53 63), (0, .nameAndType 64 57), (0, u "of"), (0, .methodref 53 66), (0, .nameAndType 67 68), (0, u "empty"), (0, u "()Ljava/util/Optional;"), (30, u "ofDigit"), (0, u "(C)Ljava/util/Optional;")] 7

def k6c0 : Code := { maxStack := 1, maxLocals := 0, code := prog_1_method_1_code, exceptionTable := #[], attributes := #[] }
def k6m0 : Method := { name := "values", desc := "()[Lcom/example/ledgerhall/ledgerhall/AccountClass;", sig := { parameters := [], returnType := some (.array (.object "com/example/ledgerhall/ledgerhall/AccountClass")) }, accessFlags := 9, code := some k6c0 }
def k6c1 : Code := { maxStack := 2, maxLocals := 5, code := prog_1_method_5_code, exceptionTable := #[], attributes := #[] }
def k6m1 : Method := { name := "ofDigit", desc := "(C)Ljava/util/Optional;", sig := { parameters := [.char], returnType := some (.object "java/util/Optional") }, accessFlags := 8, code := some k6c1 }
/-- com/example/ledgerhall/ledgerhall/AccountClass -/
def k6 : Class := { plain "com/example/ledgerhall/ledgerhall/AccountClass" (some 5) with
  accessFlags := 16433
  interfaces := #[]
  cf := some (fileOf pool6 1 #[] #[{ accessFlags := 9, nameIndex := 60, descriptorIndex := 61, attributes := #[] }, { accessFlags := 8, nameIndex := 99, descriptorIndex := 100, attributes := #[] }] 16433 35 #[] #[{ accessFlags := 16409, nameIndex := 5, descriptorIndex := 6, attributes := #[] }, { accessFlags := 16409, nameIndex := 9, descriptorIndex := 6, attributes := #[] }, { accessFlags := 16409, nameIndex := 12, descriptorIndex := 6, attributes := #[] }, { accessFlags := 16409, nameIndex := 15, descriptorIndex := 6, attributes := #[] }, { accessFlags := 16409, nameIndex := 18, descriptorIndex := 6, attributes := #[] }, { accessFlags := 16409, nameIndex := 21, descriptorIndex := 6, attributes := #[] }, { accessFlags := 16409, nameIndex := 24, descriptorIndex := 6, attributes := #[] }, { accessFlags := 18, nameIndex := 46, descriptorIndex := 47, attributes := #[] }, { accessFlags := 18, nameIndex := 50, descriptorIndex := 51, attributes := #[] }, { accessFlags := 4122, nameIndex := 27, descriptorIndex := 28, attributes := #[] }])
  fields := #[{ name := "ASSETS", type := (.object "com/example/ledgerhall/ledgerhall/AccountClass"), accessFlags := 16409, slot := 0, constantValue := 0 }, { name := "LIABILITIES", type := (.object "com/example/ledgerhall/ledgerhall/AccountClass"), accessFlags := 16409, slot := 1, constantValue := 0 }, { name := "FUND_BALANCE", type := (.object "com/example/ledgerhall/ledgerhall/AccountClass"), accessFlags := 16409, slot := 2, constantValue := 0 }, { name := "REVENUES", type := (.object "com/example/ledgerhall/ledgerhall/AccountClass"), accessFlags := 16409, slot := 3, constantValue := 0 }, { name := "EXPENDITURES", type := (.object "com/example/ledgerhall/ledgerhall/AccountClass"), accessFlags := 16409, slot := 4, constantValue := 0 }, { name := "OTHER_RESOURCES", type := (.object "com/example/ledgerhall/ledgerhall/AccountClass"), accessFlags := 16409, slot := 5, constantValue := 0 }, { name := "OTHER_USES", type := (.object "com/example/ledgerhall/ledgerhall/AccountClass"), accessFlags := 16409, slot := 6, constantValue := 0 }, { name := "digit", type := .char, accessFlags := 18, slot := 3, constantValue := 0 }, { name := "ledgerHeading", type := (.object "com/example/ledgerhall/ledgerhall/LedgerHeading"), accessFlags := 18, slot := 4, constantValue := 0 }, { name := "$VALUES", type := (.array (.object "com/example/ledgerhall/ledgerhall/AccountClass")), accessFlags := 4122, slot := 7, constantValue := 0 }]
  methods := #[k6m0, k6m1]
  instanceTypes := #[(.object "java/lang/String"), .int, .int, .char, (.object "com/example/ledgerhall/ledgerhall/LedgerHeading")]
  staticTypes := #[(.object "com/example/ledgerhall/ledgerhall/AccountClass"), (.object "com/example/ledgerhall/ledgerhall/AccountClass"), (.object "com/example/ledgerhall/ledgerhall/AccountClass"), (.object "com/example/ledgerhall/ledgerhall/AccountClass"), (.object "com/example/ledgerhall/ledgerhall/AccountClass"), (.object "com/example/ledgerhall/ledgerhall/AccountClass"), (.object "com/example/ledgerhall/ledgerhall/AccountClass"), (.array (.object "com/example/ledgerhall/ledgerhall/AccountClass"))]
  resolved := Array.replicate 108 none
  statics := some 0 }

def pool7 : Array CpInfo := pool [(1, .class_ 2), (0, u "java/lang/Cloneable"), (0, .class_ 4), (0, u "java/lang/Object")] 2

/-- java/lang/Cloneable -/
def k7 : Class := { plain "java/lang/Cloneable" (some 0) with
  accessFlags := 1537
  interfaces := #[]
  cf := some (fileOf pool7 1 #[] #[] 1537 3 #[] #[])
  fields := #[]
  methods := #[]
  instanceTypes := #[]
  staticTypes := #[]
  resolved := Array.replicate 7 none
  statics := none }

def pool8 : Array CpInfo := pool [(1, .fieldref 2 3), (0, .class_ 4), (0, .nameAndType 5 6), (0, u "java/util/Optional"), (0, u "EMPTY"), (0, u "Ljava/util/Optional;"), (0, .methodref 8 9), (0, .class_ 10), (0, .nameAndType 11 12), (0, u "java/lang/Object"), (0, u "<init>"), (0, u "()V"), (0, .fieldref 2 14), (0, .nameAndType 15 16), (0, u "value"), (0, u "Ljava/lang/Object;"), (0, .methodref 18 19), (0, .class_ 20), (0, .nameAndType 21 22), (0, u "java/util/Objects"), (0, u "requireNonNull"), (0, u "(Ljava/lang/Object;)Ljava/lang/Object;"), (0, .methodref 2 24), (0, .nameAndType 11 25), (0, u "(Ljava/lang/Object;)V"), (29, u "empty"), (0, u "()Ljava/util/Optional;"), (8, u "(Ljava/lang/Object;)Ljava/util/Optional;"), (16, u "of"), (82, u "orElse")] 21

def k8c0 : Code := { maxStack := 1, maxLocals := 1, code := jdk_32_method_1_code, exceptionTable := #[], attributes := #[] }
def k8m0 : Method := { name := "empty", desc := "()Ljava/util/Optional;", sig := { parameters := [], returnType := some (.object "java/util/Optional") }, accessFlags := 9, code := some k8c0 }
def k8c1 : Code := { maxStack := 2, maxLocals := 2, code := jdk_32_method_2_code, exceptionTable := #[], attributes := #[] }
def k8m1 : Method := { name := "<init>", desc := "(Ljava/lang/Object;)V", sig := { parameters := [(.object "java/lang/Object")], returnType := none }, accessFlags := 2, code := some k8c1 }
def k8c2 : Code := { maxStack := 3, maxLocals := 1, code := jdk_32_method_3_code, exceptionTable := #[], attributes := #[] }
def k8m2 : Method := { name := "of", desc := "(Ljava/lang/Object;)Ljava/util/Optional;", sig := { parameters := [(.object "java/lang/Object")], returnType := some (.object "java/util/Optional") }, accessFlags := 9, code := some k8c2 }
def k8c3 : Code := { maxStack := 1, maxLocals := 2, code := jdk_32_method_15_code, exceptionTable := #[], attributes := #[] }
def k8m3 : Method := { name := "orElse", desc := "(Ljava/lang/Object;)Ljava/lang/Object;", sig := { parameters := [(.object "java/lang/Object")], returnType := some (.object "java/lang/Object") }, accessFlags := 1, code := some k8c3 }
/-- java/util/Optional -/
def k8 : Class := { plain "java/util/Optional" (some 0) with
  accessFlags := 49
  interfaces := #[]
  cf := some (fileOf pool8 2 #[] #[{ accessFlags := 9, nameIndex := 55, descriptorIndex := 56, attributes := #[] }, { accessFlags := 2, nameIndex := 11, descriptorIndex := 25, attributes := #[] }, { accessFlags := 9, nameIndex := 82, descriptorIndex := 65, attributes := #[] }, { accessFlags := 1, nameIndex := 165, descriptorIndex := 22, attributes := #[] }] 49 8 #[] #[{ accessFlags := 26, nameIndex := 5, descriptorIndex := 6, attributes := #[] }, { accessFlags := 18, nameIndex := 15, descriptorIndex := 16, attributes := #[] }])
  fields := #[{ name := "EMPTY", type := (.object "java/util/Optional"), accessFlags := 26, slot := 0, constantValue := 0 }, { name := "value", type := (.object "java/lang/Object"), accessFlags := 18, slot := 0, constantValue := 0 }]
  methods := #[k8m0, k8m1, k8m2, k8m3]
  instanceTypes := #[(.object "java/lang/Object")]
  staticTypes := #[(.object "java/util/Optional")]
  resolved := Array.replicate 187 none
  statics := some 1 }

def pool9 : Array CpInfo := pool [(2, .class_ 4), (1, u "java/lang/Object"), (0, u "<init>"), (0, u "()V"), (35, .class_ 44), (1, u "java/util/Objects"), (0, u "requireNonNull"), (0, u "(Ljava/lang/Object;)Ljava/lang/Object;")] 137

def k9m0 : Method := { name := "<init>", desc := "()V", sig := { parameters := [], returnType := none }, accessFlags := 2, code := none }
def k9c1 : Code := { maxStack := 2, maxLocals := 1, code := jdk_31_method_10_code, exceptionTable := #[], attributes := #[] }
def k9m1 : Method := { name := "requireNonNull", desc := "(Ljava/lang/Object;)Ljava/lang/Object;", sig := { parameters := [(.object "java/lang/Object")], returnType := some (.object "java/lang/Object") }, accessFlags := 9, code := some k9c1 }
/-- java/util/Objects -/
def k9 : Class := { plain "java/util/Objects" (some 0) with
  accessFlags := 49
  interfaces := #[]
  cf := some (fileOf pool9 42 #[] #[{ accessFlags := 2, nameIndex := 5, descriptorIndex := 6, attributes := #[] }, { accessFlags := 9, nameIndex := 45, descriptorIndex := 46, attributes := #[] }] 49 2 #[] #[])
  fields := #[]
  methods := #[k9m0, k9m1]
  instanceTypes := #[]
  staticTypes := #[]
  resolved := Array.replicate 184 none
  statics := none }

/-- the primitive byte -/
def k10 : Class := { plain "byte" none with kind := .primitive 'B', accessFlags := 0x411 }
/-- [B -/
def k11 : Class := { plain "[B" (some 0) with kind := .array 10 .byte, interfaces := #[7, 4], accessFlags := 1041 }

/-- the primitive int -/
def k12 : Class := { plain "int" none with kind := .primitive 'I', accessFlags := 0x411 }
/-- [I -/
def k13 : Class := { plain "[I" (some 0) with kind := .array 12 .int, interfaces := #[7, 4], accessFlags := 1041 }

/-- [Lcom/example/ledgerhall/ledgerhall/AccountClass; -/
def k14 : Class := { plain "[Lcom/example/ledgerhall/ledgerhall/AccountClass;" (some 0) with kind := .array 6 (.object "com/example/ledgerhall/ledgerhall/AccountClass"), interfaces := #[7, 4], accessFlags := 1041 }

def heap : Heap := #[{ cls := 6, slots := #[.ref 3, .ref 4, .ref 5, .ref 6, .ref 7, .ref 8, .ref 9, .ref 2], vm := .statics 6 },
  { cls := 8, slots := #[.ref 10], vm := .statics 8 },
  { cls := 14, slots := #[.ref 3, .ref 4, .ref 5, .ref 6, .ref 7, .ref 8, .ref 9], vm := .none },
  { cls := 6, slots := #[.null, .int 0, .int 0, .int 49, .null], vm := .none },
  { cls := 6, slots := #[.null, .int 0, .int 0, .int 50, .null], vm := .none },
  { cls := 6, slots := #[.null, .int 0, .int 0, .int 51, .null], vm := .none },
  { cls := 6, slots := #[.null, .int 0, .int 0, .int 53, .null], vm := .none },
  { cls := 6, slots := #[.null, .int 0, .int 0, .int 54, .null], vm := .none },
  { cls := 6, slots := #[.null, .int 0, .int 0, .int 55, .null], vm := .none },
  { cls := 6, slots := #[.null, .int 0, .int 0, .int 56, .null], vm := .none },
  { cls := 8, slots := #[.null], vm := .none }]
def classes : Array Class := #[k0, k1, k2, k3, k4, k5, k6, k7, k8, k9, k10, k11, k12, k13, k14]
def interned : List (Array UInt16 × Addr) := []
def slotsUsed : Nat := 52
def theMethod : MethodId := ⟨1, 1⟩
def args0 : Array Value := #[.int 49, .int 0]
def aboutOver (below : List Frame) : State where
  vm := { classes := classes, interned := interned.toArray }
  heap := heap
  slotsUsed := slotsUsed
  threads := #[{ frames := .invoking theMethod args0 :: below }]
def below0 : List Frame := [.native { method := ⟨0, 0⟩, args := #[] }]
def about1 : State := aboutOver below0
def p0 : Program := .bare "" "" ""
def e0 : Env := launch0.env 0 0 0
theorem w_frames : about1.frames = Frame.invoking theMethod args0 :: below0 := rfl
set_option maxRecDepth 65536 in
theorem w_args : argsFit about1.vm theMethod args0 = true := by decide +kernel
set_option maxRecDepth 65536 in
theorem w_heap : heapFits about1 = true := by decide +kernel
set_option maxRecDepth 65536 in
theorem w_runnable : about1.curStatus? = some .runnable := by decide +kernel
set_option maxRecDepth 65536 in
theorem w_alone : about1.alone = true := by decide +kernel
set_option maxRecDepth 65536 in
theorem w_named : about1.methodNamed? x = some theMethod := by decide +kernel
set_option maxRecDepth 65536 in
theorem w_hears : about1.hears theMethod below0 = true := by decide +kernel
set_option maxRecDepth 65536 in
theorem w_ripe : about1.ripe theMethod args0 below0 = true := by decide +kernel
theorem w_running : about1.status = .running := rfl
set_option maxRecDepth 65536 in
theorem w_room : about1.hasRoom e0.platform room_1 = true :=
  launch0.hasRoom_least _ room_1 (by decide +kernel) (by decide +kernel) (by decide +kernel) (by decide +kernel) (by decide +kernel) (by decide +kernel)
theorem allAtoms_all (ts : List Jvm.Cond) (a : Array Jvm.Value) (st : Jvm.State) : (allAtoms ts).before a st = ts.all (fun c => c.before a st) := by
  induction ts with
  | nil => rfl
  | cons c t ih =>
    show (Jvm.Cond.and c (allAtoms t)).before a st = _
    rw [Jvm.Cond.before_and, ih, List.all_cons]
def words1 : List Jvm.Cond := Jvm.Cond.code x code maxLocals ret :: tables_1
/-- a 'code' word, met by the world's own term for the bytes: nothing is compared byte by byte -/
theorem code_word {y : MethodName} {bytes : ByteArray} {mx : Nat} {rt : Option FieldType} {a : Array Value} {s : State} {m : MethodId} {meth : Method} {c : Code} (h1 : s.methodNamed? y = some m) (h2 : s.vm.method? m = some meth) (h3 : meth.code = some c) (h4 : c.code = bytes)
    (h5 : (c.maxLocals == mx && c.exceptionTable.isEmpty && decide (c.maxStack ≤ mostOperands) && decide (meth.sig.returnType = rt) && !meth.locks && decide (parseMethodDescriptor y.desc = some meth.sig)) = true) : (Jvm.Cond.code y bytes mx rt).before a s = true := by
  simp only [Bool.and_eq_true, beq_iff_eq, Bool.not_eq_true', decide_eq_true_eq] at h5
  obtain ⟨⟨⟨⟨⟨g1, g2⟩, g3⟩, g4⟩, g5⟩, g6⟩ := h5
  simp [Cond.before, Cond.holds, Cond.value, h1, h2, h3, h4, g1, g2, g3, g4, g5, g6]
def isCode : Jvm.Cond → Bool
  | .code _ _ _ _ => true
  | _ => false
theorem all_split {L : List Jvm.Cond} {P : Jvm.Cond → Bool} (h1 : L.all (fun c => isCode c || P c) = true) (h2 : ∀ c ∈ L.filter isCode, P c = true) : L.all P = true := by
  refine List.all_eq_true.mpr fun c hc => ?_
  have h := List.all_eq_true.mp h1 c hc
  rcases Bool.eq_false_or_eq_true (isCode c) with hi | hi
  · exact h2 c (List.mem_filter.mpr ⟨hc, hi⟩)
  · simpa [hi] using h
set_option maxRecDepth 65536 in
theorem w_c0 : (Jvm.Cond.code x code maxLocals ret).before args0 about1 = true := code_word (m := ⟨1, 1⟩) (meth := k1m1) (c := k1c1) (by decide +kernel) rfl rfl rfl (by decide +kernel)
set_option maxRecDepth 65536 in
theorem w_c1 : (Jvm.Cond.code ({ cls := "com/example/ledgerhall/ledgerhall/AccountClass", name := "ofDigit", desc := "(C)Ljava/util/Optional;" } : Jvm.MethodName) prog_1_method_5_code (5 : Nat) (Option.some (Jvm.ClassFile.FieldType.object "java/util/Optional"))).before args0 about1 = true := code_word (m := ⟨6, 1⟩) (meth := k6m1) (c := k6c1) (by decide +kernel) rfl rfl rfl (by decide +kernel)
set_option maxRecDepth 65536 in
theorem w_c2 : (Jvm.Cond.code ({ cls := "com/example/ledgerhall/ledgerhall/AccountClass", name := "values", desc := "()[Lcom/example/ledgerhall/ledgerhall/AccountClass;" } : Jvm.MethodName) prog_1_method_1_code (0 : Nat) (Option.some (Jvm.ClassFile.FieldType.array (Jvm.ClassFile.FieldType.object "com/example/ledgerhall/ledgerhall/AccountClass")))).before args0 about1 = true := code_word (m := ⟨6, 0⟩) (meth := k6m0) (c := k6c0) (by decide +kernel) rfl rfl rfl (by decide +kernel)
set_option maxRecDepth 65536 in
theorem w_c3 : (Jvm.Cond.code ({ cls := "java/util/Optional", name := "empty", desc := "()Ljava/util/Optional;" } : Jvm.MethodName) jdk_32_method_1_code (1 : Nat) (Option.some (Jvm.ClassFile.FieldType.object "java/util/Optional"))).before args0 about1 = true := code_word (m := ⟨8, 0⟩) (meth := k8m0) (c := k8c0) (by decide +kernel) rfl rfl rfl (by decide +kernel)
set_option maxRecDepth 65536 in
theorem w_c4 : (Jvm.Cond.code ({ cls := "java/util/Optional", name := "orElse", desc := "(Ljava/lang/Object;)Ljava/lang/Object;" } : Jvm.MethodName) jdk_32_method_15_code (2 : Nat) (Option.some (Jvm.ClassFile.FieldType.object "java/lang/Object"))).before args0 about1 = true := code_word (m := ⟨8, 3⟩) (meth := k8m3) (c := k8c3) (by decide +kernel) rfl rfl rfl (by decide +kernel)
set_option maxRecDepth 65536 in
theorem w_c5 : (Jvm.Cond.code ({ cls := "com/example/ledgerhall/ledgerhall/AccountClassOfDigitPinLaw", name := "expected", desc := "(C)Lcom/example/ledgerhall/ledgerhall/AccountClass;" } : Jvm.MethodName) method_3_code (1 : Nat) (Option.some (Jvm.ClassFile.FieldType.object "com/example/ledgerhall/ledgerhall/AccountClass"))).before args0 about1 = true := code_word (m := ⟨1, 2⟩) (meth := k1m2) (c := k1c2) (by decide +kernel) rfl rfl rfl (by decide +kernel)
set_option maxRecDepth 65536 in
theorem w_c6 : (Jvm.Cond.code ({ cls := "java/util/Optional", name := "of", desc := "(Ljava/lang/Object;)Ljava/util/Optional;" } : Jvm.MethodName) jdk_32_method_3_code (1 : Nat) (Option.some (Jvm.ClassFile.FieldType.object "java/util/Optional"))).before args0 about1 = true := code_word (m := ⟨8, 2⟩) (meth := k8m2) (c := k8c2) (by decide +kernel) rfl rfl rfl (by decide +kernel)
set_option maxRecDepth 65536 in
theorem w_c7 : (Jvm.Cond.code ({ cls := "java/util/Objects", name := "requireNonNull", desc := "(Ljava/lang/Object;)Ljava/lang/Object;" } : Jvm.MethodName) jdk_31_method_10_code (1 : Nat) (Option.some (Jvm.ClassFile.FieldType.object "java/lang/Object"))).before args0 about1 = true := code_word (m := ⟨9, 1⟩) (meth := k9m1) (c := k9c1) (by decide +kernel) rfl rfl rfl (by decide +kernel)
set_option maxRecDepth 65536 in
theorem w_c8 : (Jvm.Cond.code ({ cls := "java/util/Optional", name := "<init>", desc := "(Ljava/lang/Object;)V" } : Jvm.MethodName) jdk_32_method_2_code (2 : Nat) (Option.none : Option Jvm.ClassFile.FieldType)).before args0 about1 = true := code_word (m := ⟨8, 1⟩) (meth := k8m1) (c := k8c1) (by decide +kernel) rfl rfl rfl (by decide +kernel)
set_option maxRecDepth 65536 in
theorem w_c9 : (Jvm.Cond.code ({ cls := "java/lang/Object", name := "<init>", desc := "()V" } : Jvm.MethodName) object_method_1_code (1 : Nat) (Option.none : Option Jvm.ClassFile.FieldType)).before args0 about1 = true := code_word (m := ⟨0, 0⟩) (meth := k0m0) (c := k0c0) (by decide +kernel) rfl rfl rfl (by decide +kernel)
def codes1 : List Jvm.Cond := [Jvm.Cond.code x code maxLocals ret, Jvm.Cond.code ({ cls := "com/example/ledgerhall/ledgerhall/AccountClass", name := "ofDigit", desc := "(C)Ljava/util/Optional;" } : Jvm.MethodName) prog_1_method_5_code (5 : Nat) (Option.some (Jvm.ClassFile.FieldType.object "java/util/Optional")), Jvm.Cond.code ({ cls := "com/example/ledgerhall/ledgerhall/AccountClass", name := "values", desc := "()[Lcom/example/ledgerhall/ledgerhall/AccountClass;" } : Jvm.MethodName) prog_1_method_1_code (0 : Nat) (Option.some (Jvm.ClassFile.FieldType.array (Jvm.ClassFile.FieldType.object "com/example/ledgerhall/ledgerhall/AccountClass"))), Jvm.Cond.code ({ cls := "java/util/Optional", name := "empty", desc := "()Ljava/util/Optional;" } : Jvm.MethodName) jdk_32_method_1_code (1 : Nat) (Option.some (Jvm.ClassFile.FieldType.object "java/util/Optional")), Jvm.Cond.code ({ cls := "java/util/Optional", name := "orElse", desc := "(Ljava/lang/Object;)Ljava/lang/Object;" } : Jvm.MethodName) jdk_32_method_15_code (2 : Nat) (Option.some (Jvm.ClassFile.FieldType.object "java/lang/Object")), Jvm.Cond.code ({ cls := "com/example/ledgerhall/ledgerhall/AccountClassOfDigitPinLaw", name := "expected", desc := "(C)Lcom/example/ledgerhall/ledgerhall/AccountClass;" } : Jvm.MethodName) method_3_code (1 : Nat) (Option.some (Jvm.ClassFile.FieldType.object "com/example/ledgerhall/ledgerhall/AccountClass")), Jvm.Cond.code ({ cls := "java/util/Optional", name := "of", desc := "(Ljava/lang/Object;)Ljava/util/Optional;" } : Jvm.MethodName) jdk_32_method_3_code (1 : Nat) (Option.some (Jvm.ClassFile.FieldType.object "java/util/Optional")), Jvm.Cond.code ({ cls := "java/util/Objects", name := "requireNonNull", desc := "(Ljava/lang/Object;)Ljava/lang/Object;" } : Jvm.MethodName) jdk_31_method_10_code (1 : Nat) (Option.some (Jvm.ClassFile.FieldType.object "java/lang/Object")), Jvm.Cond.code ({ cls := "java/util/Optional", name := "<init>", desc := "(Ljava/lang/Object;)V" } : Jvm.MethodName) jdk_32_method_2_code (2 : Nat) (Option.none : Option Jvm.ClassFile.FieldType), Jvm.Cond.code ({ cls := "java/lang/Object", name := "<init>", desc := "()V" } : Jvm.MethodName) object_method_1_code (1 : Nat) (Option.none : Option Jvm.ClassFile.FieldType)]
set_option maxRecDepth 65536 in
theorem codes_eq : words1.filter isCode = codes1 := rfl
theorem w_codes : ∀ c ∈ words1.filter isCode, c.before args0 about1 = true := by
  rw [codes_eq]
  intro c hc
  simp only [codes1, List.mem_cons, List.not_mem_nil, or_false] at hc
  rcases hc with rfl | rfl | rfl | rfl | rfl | rfl | rfl | rfl | rfl | rfl
  · exact w_c0
  · exact w_c1
  · exact w_c2
  · exact w_c3
  · exact w_c4
  · exact w_c5
  · exact w_c6
  · exact w_c7
  · exact w_c8
  · exact w_c9
set_option maxRecDepth 65536 in
theorem w_t1 : (words1.take 24).all (fun c => isCode c || c.before args0 about1) = true := by decide +kernel
set_option maxRecDepth 65536 in
theorem w_t2 : ((words1.drop 24).take 24).all (fun c => isCode c || c.before args0 about1) = true := by decide +kernel
set_option maxRecDepth 65536 in
theorem w_t3 : ((words1.drop 24).drop 24).all (fun c => isCode c || c.before args0 about1) = true := by decide +kernel
theorem w_tables : (allAtoms (Jvm.Cond.code x code maxLocals ret :: tables_1)).before args0 about1 = true := by
  rw [allAtoms_all]
  show words1.all (fun c => c.before args0 about1) = true
  refine all_split ?_ w_codes
  rw [← List.take_append_drop 24 words1, List.all_append, w_t1, ← List.take_append_drop 24 (words1.drop 24), List.all_append, w_t2, w_t3]
  rfl
set_option maxRecDepth 65536 in
theorem w_rest : rest_1_c.before args0 about1 = true := by decide +kernel
set_option maxRecDepth 65536 in
theorem w_case : (Jvm.Cond.and given_1 narrow_1).before args0 about1 = true := by decide +kernel
theorem w_applies : (headSpec (Jvm.Cond.code x code maxLocals ret :: tables_1) room_1).applies x e0.platform about1 = true :=
  (Spec.applies_iff w_frames).mpr ⟨w_running, w_runnable, w_alone, w_named, w_hears, w_ripe, w_room, w_tables⟩
theorem atStart : AtStart classFile x code maxLocals ret World_1 tables_1 room_1 Calls_1 rest_1 Pre_1 launch0 p0 e0 about1 theMethod args0 below0 :=
  ⟨lists_1, trivial, launch0.admits_env _ _ _, launch0.least_env, fairChoices_fair.cas, fairChoices_fair.clock, w_frames, w_args, w_heap, w_applies, trivial, w_rest, w_case⟩
end start1
theorem witness_1 : WitnessClaimed_1 := ⟨start1.p0, start1.e0, start1.about1, start1.theMethod, start1.args0, start1.below0, start1.atStart⟩
end Jvm.Pilot.@@N@@
