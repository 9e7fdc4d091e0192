import JvmDerived
import JvmDerived.Pilot.@@N@@Statement
import JvmDerived.Pilot.@@N@@Code
set_option linter.unusedVariables false
set_option linter.unusedSimpArgs false
@@BLOCK:NumsL.lean.txt@@
namespace Jvm.Pilot.@@N@@
open Jvm Jvm.ClassFile Sem Op Lib Jvm.Free Jvm.Stand Jvm.LawKit Jvm.RoadKit Bundle Jvm.Pilot.@@N@@.Jvm.D
theorem own_ns {Z : State} {a0 : Array Value} {O K : String} {n : Nat} (w : (Cond.noSuperclass O).before a0 Z = true) (wk : (Cond.instantiable K n).before a0 Z = true) (hn : O ≠ K) : NS Z O K := by
  obtain ⟨c, k, f1, f2, f3, -, -⟩ := Cond.noSuperclass_spec w
  obtain ⟨t, kt, g1, -⟩ := Cond.instantiable_spec wk
  exact ⟨c, t, f1, g1, fun fuel => by
    cases fuel with
    | zero => rfl
    | succ f => simp [Vm.isSubclassAux, ids_ne f1 g1 hn, f2, f3]⟩
theorem own_noinst {Z : State} {a0 : Array Value} {C S K : String} {n : Nat} (w : (Cond.superclass C S).before a0 Z = true) (wk : (Cond.instantiable K n).before a0 Z = true) (q : NS Z C K) (hn : C ≠ K) : ∃ c t, Z.vm.findClass C = some c ∧ Z.vm.findClass K = some t ∧ Z.vm.assignable c t = false := by
  obtain ⟨c, t, f1, g1, r⟩ := q
  obtain ⟨p, k, kp, -, f2, -, -, f5, -, -⟩ := Cond.superclass_spec f1 w
  obtain ⟨t', kt, g1', g2, g3, g4, -, -⟩ := Cond.instantiable_spec wk
  cases g1.symm.trans g1'
  have g5 : kt.isInterface = false := by simp only [Bool.or_eq_false_iff] at g4; exact g4.1
  refine ⟨c, t, f1, g1, ?_⟩
  show Z.vm.assignableAux (255 + 1) c t = false
  simp [Vm.assignableAux, ids_ne f1 g1 hn, f2, g2, f5, g3, g5, Vm.isSubclass, r]
theorem own_len {args : Array Value} {s : State} {t : Term} {a : Addr} {c : Cell} {ty : FieldType} {n : Int32} (et : t.eval args s none [] s = some (.ref a)) (A : Arr s s.heap a c ty) (h : (Term.length t).eval args s none [] s = some (.int n)) : c.slots.size < 2 ^ 31 ∧ c.slots.size.toInt32 = n := by
  have hA := A.fin (Vm.Alike.refl s.vm)
  have h31 := Jvm.Free.SBG.length_lt et hA h
  exact ⟨h31, by simpa using (len_f et hA h31).symm.trans h⟩
theorem d1_0 : decode prog_2_method_1_code 0 = .ok (.aload_n 0, 1) := by decide +kernel
theorem d1_1 : decode prog_2_method_1_code 1 = .ok (.invokespecial 1, 3) := by decide +kernel
theorem d1_4 : decode prog_2_method_1_code 4 = .ok (.aload_n 0, 1) := by decide +kernel
theorem d1_5 : decode prog_2_method_1_code 5 = .ok (.iload_n 1, 1) := by decide +kernel
theorem d1_6 : decode prog_2_method_1_code 6 = .ok (.putfield 7, 3) := by decide +kernel
theorem d1_9 : decode prog_2_method_1_code 9 = .ok (.aload_n 0, 1) := by decide +kernel
theorem d1_10 : decode prog_2_method_1_code 10 = .ok (.iload_n 2, 1) := by decide +kernel
theorem d1_11 : decode prog_2_method_1_code 11 = .ok (.putfield 13, 3) := by decide +kernel
theorem d1_14 : decode prog_2_method_1_code 14 = .ok (.aload_n 0, 1) := by decide +kernel
theorem d1_15 : decode prog_2_method_1_code 15 = .ok (.iload_n 3, 1) := by decide +kernel
theorem d1_16 : decode prog_2_method_1_code 16 = .ok (.putfield 16, 3) := by decide +kernel
theorem d1_19 : decode prog_2_method_1_code 19 = .ok (.return_, 1) := by decide +kernel
theorem pn_0 : plainName "com/example/refine/refine/aut/AutHeader" = true := by first | (simp [plainName, overriddenIn]; done) | decide +kernel
theorem ef_1 (mM : MethodId) (x0 : Addr) (x1 : Int32) (x2 : Int32) (x3 : Int32) : entryFrame mM #[(.ref x0), (.int x1), (.int x2), (.int x3)] 4 = mkF mM 0 #[.val (.ref x0), .val (.int x1), .val (.int x2), .val (.int x3)] [] := by first | (simp [entryFrame, mkF, argsToLocals, Value.category]; done) | rfl
def Q1 (Z : State) (a : Addr) (p : Int32) (q : Int32) (u : Int32) (h0 : Heap) (n0 : Nat) (v : Option Value) (h : Heap) (L : List Loc) : Prop := v = none ∧ Fr n0 L ∧ Keep h0 h [a] ∧ Exa Z h a "com/example/refine/refine/aut/AutHeader" ∧ Fld Z h a "com/example/refine/refine/aut/AutHeader" "initialState" "I" (.int p) ∧ Fld Z h a "com/example/refine/refine/aut/AutHeader" "transitionCount" "I" (.int q) ∧ Fld Z h a "com/example/refine/refine/aut/AutHeader" "stateCount" "I" (.int u)
set_option maxRecDepth 65536 in
set_option maxHeartbeats 40000000 in
theorem rm1 (l : Launch) (Z : State) (a0 : Array Value) (hw : ∀ d ∈ tables_1, d.before a0 Z = true) (ws : List Jvm.Cond) (a : Addr) (p : Int32) (q : Int32) (u : Int32) (h0 : Heap) (n0 : Nat) (Z0 : n0 ≤ h0.size) (E_a : Exa Z h0 a "com/example/refine/refine/aut/AutHeader") (g_a : n0 ≤ a) (F_initialState : Fld Z h0 a "com/example/refine/refine/aut/AutHeader" "initialState" "I" (.int (0 : Int32))) (F_transitionCount : Fld Z h0 a "com/example/refine/refine/aut/AutHeader" "transitionCount" "I" (.int (0 : Int32))) (F_stateCount : Fld Z h0 a "com/example/refine/refine/aut/AutHeader" "stateCount" "I" (.int (0 : Int32))) :
    MetFree l (⟨"com/example/refine/refine/aut/AutHeader", "<init>", "(III)V"⟩ : MethodName) (head1 (Jvm.Cond.code (⟨"com/example/refine/refine/aut/AutHeader", "<init>", "(III)V"⟩ : MethodName) prog_2_method_1_code 4 none :: ws) ({ frames := 1, cells := 0, slots := 0, locals := 12 } : Room)) (fun aA uU => aA = #[(.ref a), (.int p), (.int q), (.int u)] ∧ Z.Warmed39 uU.vm ∧ uU.heap = h0) (fun _ _ _ _ _ => True) (fun _ uU oO uU' => ∃ vV lL, oO = .returned vV ∧ Q1 Z a p q u h0 n0 vV uU'.heap lL ∧ FrameEnd uU oO uU' lL ({ frames := 1, cells := 0, slots := 0, locals := 12 } : Room).cells ({ frames := 1, cells := 0, slots := 0, locals := 12 } : Room).slots) := by
  refine MetFree.of_bodySF (plainFor_of_name pn_0) hisR ?_
  intro pP eE sS mM args below meth cC s₁ Bd hml0 hP hK
  obtain ⟨rfl, hZ, hh⟩ := hP
  have hx := Bd.exec
  have hby := Bd.bytes
  have hml : cC.maxLocals = 4 := hml0
  have hown : sS.vm.findClass "com/example/refine/refine/aut/AutHeader" = some mM.cls := findClass_of_methodNamed Bd.named
  have hnm := (name_of_methodNamed Bd.named Bd.method).1
  have X0 : Stand pP l eE ({ frames := 1, cells := 0, slots := 0, locals := 12 } : Room) sS mM #[(.ref a), (.int p), (.int q), (.int u)] below meth cC s₁ [] 0 0 := Stand.of_body Bd
  have e0 : s₁.heap = h0 := by rw [← hh, Bd.state]; rfl
  have N0 := Fr.nil n0
  have pre0 : ∀ tg, Steps pP.tables eE below (s₁.setTop (mkF mM 0 #[.val (.ref a), .val (.int p), .val (.int q), .val (.int u)] [])) tg → Steps pP.tables eE below (s₁.setTop (entryFrame mM #[(.ref a), (.int p), (.int q), (.int u)] 4)) tg := fun tg kg => castTop (ef_1 mM a p q u) kg
  have pr1 : ∀ tg, Steps pP.tables eE below (s₁.setTop (mkF mM 1 #[.val (.ref a), .val (.int p), .val (.int q), .val (.int u)] [(.ref a)])) tg → Steps pP.tables eE below (s₁.setTop (entryFrame mM #[(.ref a), (.int p), (.int q), (.int u)] 4)) tg := fun tg kg => pre0 _ (by
    show Steps pP.tables eE below (s₁.setTop (mkF mM 0 #[.val (.ref a), .val (.int p), .val (.int q), .val (.int u)] [])) _
    refine XS.aloadN X0.here hx rfl (hb hby d1_0) rfl rfl ?_
    exact kg)
  obtain ⟨T2, X2, e2, st2⟩ := initO X0 hx hZ hown (hw _ (List.mem_of_getElem? (i := 6) rfl)) (hw _ (List.mem_of_getElem? (i := 7) rfl)) (hw _ (List.mem_of_getElem? (i := 8) rfl)) e0 (g := (mkF mM 1 #[.val (.ref a), .val (.int p), .val (.int q), .val (.int u)] [(.ref a)])) rfl (by rw [hml]; rfl) rfl (hb hby d1_1) (by decide) (W := 0) (by show 2 * 0 + _ ≤ _; exact Nat.le_of_eq rfl) (by decide)
  have pr3 : ∀ tg, Steps pP.tables eE below (T2.setTop (mkF mM 4 #[.val (.ref a), .val (.int p), .val (.int q), .val (.int u)] [])) tg → Steps pP.tables eE below (s₁.setTop (entryFrame mM #[(.ref a), (.int p), (.int q), (.int u)] 4)) tg := fun tg kg => pr1 _ (st2 _ kg)
  have pr4 : ∀ tg, Steps pP.tables eE below (T2.setTop (mkF mM 6 #[.val (.ref a), .val (.int p), .val (.int q), .val (.int u)] [(.int p), (.ref a)])) tg → Steps pP.tables eE below (s₁.setTop (entryFrame mM #[(.ref a), (.int p), (.int q), (.int u)] 4)) tg := fun tg kg => pr3 _ (by
    show Steps pP.tables eE below (T2.setTop (mkF mM 4 #[.val (.ref a), .val (.int p), .val (.int q), .val (.int u)] [])) _
    refine XS.aloadN X2.here hx rfl (hb hby d1_4) rfl rfl ?_
    show Steps pP.tables eE below (T2.setTop (mkF mM 5 #[.val (.ref a), .val (.int p), .val (.int q), .val (.int u)] [(.ref a)])) _
    refine XS.iloadN X2.here hx rfl (hb hby d1_5) rfl ?_
    exact kg)
  obtain ⟨T5, h5, X5, e5, W5, st5⟩ := putF X2 hx hZ hown (host := "") (Or.inl (hw _ (List.mem_of_getElem? (i := 9) rfl))) Via.refl e2 F_initialState E_a (Or.inr ⟨(hw _ (List.mem_of_getElem? (i := 10) rfl)), rfl, hnm⟩) (hw _ (List.mem_of_getElem? (i := 1) rfl)) (ty := .int) (by decide) rfl rfl (g := (mkF mM 6 #[.val (.ref a), .val (.int p), .val (.int q), .val (.int u)] [(.int p), (.ref a)])) rfl rfl (hb hby d1_6)
  have Fw5 := Fld.same W5 F_initialState
  have N5 := Fr.snoc X5 N0 g_a
  have pr6 : ∀ tg, Steps pP.tables eE below (T5.setTop (mkF mM 9 #[.val (.ref a), .val (.int p), .val (.int q), .val (.int u)] [])) tg → Steps pP.tables eE below (s₁.setTop (entryFrame mM #[(.ref a), (.int p), (.int q), (.int u)] 4)) tg := fun tg kg => pr4 _ (st5 _ kg)
  have c7 := (Fld.other W5 F_transitionCount (Or.inr (slot_ne (C := "com/example/refine/refine/aut/AutHeader") (Or.inr (hw _ (List.mem_of_getElem? (i := 12) rfl))) (Or.inr (hw _ (List.mem_of_getElem? (i := 10) rfl))) (by decide) (t := .int) (t' := .int) (by decide) (by decide))))
  have c8 := (Exa.wr W5 E_a)
  have pr9 : ∀ tg, Steps pP.tables eE below (T5.setTop (mkF mM 11 #[.val (.ref a), .val (.int p), .val (.int q), .val (.int u)] [(.int q), (.ref a)])) tg → Steps pP.tables eE below (s₁.setTop (entryFrame mM #[(.ref a), (.int p), (.int q), (.int u)] 4)) tg := fun tg kg => pr6 _ (by
    show Steps pP.tables eE below (T5.setTop (mkF mM 9 #[.val (.ref a), .val (.int p), .val (.int q), .val (.int u)] [])) _
    refine XS.aloadN X5.here hx rfl (hb hby d1_9) rfl rfl ?_
    show Steps pP.tables eE below (T5.setTop (mkF mM 10 #[.val (.ref a), .val (.int p), .val (.int q), .val (.int u)] [(.ref a)])) _
    refine XS.iloadN X5.here hx rfl (hb hby d1_10) rfl ?_
    exact kg)
  obtain ⟨T10, h10, X10, e10, W10, st10⟩ := putF X5 hx hZ hown (host := "") (Or.inl (hw _ (List.mem_of_getElem? (i := 11) rfl))) Via.refl e5 c7 c8 (Or.inr ⟨(hw _ (List.mem_of_getElem? (i := 12) rfl)), rfl, hnm⟩) (hw _ (List.mem_of_getElem? (i := 1) rfl)) (ty := .int) (by decide) rfl rfl (g := (mkF mM 11 #[.val (.ref a), .val (.int p), .val (.int q), .val (.int u)] [(.int q), (.ref a)])) rfl rfl (hb hby d1_11)
  have Fw10 := Fld.same W10 c7
  have N10 := Fr.snoc X10 N5 g_a
  have pr11 : ∀ tg, Steps pP.tables eE below (T10.setTop (mkF mM 14 #[.val (.ref a), .val (.int p), .val (.int q), .val (.int u)] [])) tg → Steps pP.tables eE below (s₁.setTop (entryFrame mM #[(.ref a), (.int p), (.int q), (.int u)] 4)) tg := fun tg kg => pr9 _ (st10 _ kg)
  have c12 := (Fld.other W10 (Fld.other W5 F_stateCount (Or.inr (slot_ne (C := "com/example/refine/refine/aut/AutHeader") (Or.inr (hw _ (List.mem_of_getElem? (i := 14) rfl))) (Or.inr (hw _ (List.mem_of_getElem? (i := 10) rfl))) (by decide) (t := .int) (t' := .int) (by decide) (by decide)))) (Or.inr (slot_ne (C := "com/example/refine/refine/aut/AutHeader") (Or.inr (hw _ (List.mem_of_getElem? (i := 14) rfl))) (Or.inr (hw _ (List.mem_of_getElem? (i := 12) rfl))) (by decide) (t := .int) (t' := .int) (by decide) (by decide))))
  have c13 := (Exa.wr W10 c8)
  have pr14 : ∀ tg, Steps pP.tables eE below (T10.setTop (mkF mM 16 #[.val (.ref a), .val (.int p), .val (.int q), .val (.int u)] [(.int u), (.ref a)])) tg → Steps pP.tables eE below (s₁.setTop (entryFrame mM #[(.ref a), (.int p), (.int q), (.int u)] 4)) tg := fun tg kg => pr11 _ (by
    show Steps pP.tables eE below (T10.setTop (mkF mM 14 #[.val (.ref a), .val (.int p), .val (.int q), .val (.int u)] [])) _
    refine XS.aloadN X10.here hx rfl (hb hby d1_14) rfl rfl ?_
    show Steps pP.tables eE below (T10.setTop (mkF mM 15 #[.val (.ref a), .val (.int p), .val (.int q), .val (.int u)] [(.ref a)])) _
    refine XS.iloadN X10.here hx rfl (hb hby d1_15) rfl ?_
    exact kg)
  obtain ⟨T15, h15, X15, e15, W15, st15⟩ := putF X10 hx hZ hown (host := "") (Or.inl (hw _ (List.mem_of_getElem? (i := 13) rfl))) Via.refl e10 c12 c13 (Or.inr ⟨(hw _ (List.mem_of_getElem? (i := 14) rfl)), rfl, hnm⟩) (hw _ (List.mem_of_getElem? (i := 1) rfl)) (ty := .int) (by decide) rfl rfl (g := (mkF mM 16 #[.val (.ref a), .val (.int p), .val (.int q), .val (.int u)] [(.int u), (.ref a)])) rfl rfl (hb hby d1_16)
  have Fw15 := Fld.same W15 c12
  have N15 := Fr.snoc X15 N10 g_a
  have pr16 : ∀ tg, Steps pP.tables eE below (T15.setTop (mkF mM 19 #[.val (.ref a), .val (.int p), .val (.int q), .val (.int u)] [])) tg → Steps pP.tables eE below (s₁.setTop (entryFrame mM #[(.ref a), (.int p), (.int q), (.int u)] 4)) tg := fun tg kg => pr14 _ (st15 _ kg)
  have c17 := (Keep.wr (Keep.wr (Keep.wr (Keep.refl h0 [a]) W5 (Or.inl (List.mem_of_getElem? (i := 0) rfl))) W10 (Or.inl (List.mem_of_getElem? (i := 0) rfl))) W15 (Or.inl (List.mem_of_getElem? (i := 0) rfl)))
  have c18 := (Exa.wr W15 c13)
  have c19 := (Fld.other W15 (Fld.other W10 Fw5 (Or.inr (slot_ne (C := "com/example/refine/refine/aut/AutHeader") (Or.inr (hw _ (List.mem_of_getElem? (i := 10) rfl))) (Or.inr (hw _ (List.mem_of_getElem? (i := 12) rfl))) (by decide) (t := .int) (t' := .int) (by decide) (by decide)))) (Or.inr (slot_ne (C := "com/example/refine/refine/aut/AutHeader") (Or.inr (hw _ (List.mem_of_getElem? (i := 10) rfl))) (Or.inr (hw _ (List.mem_of_getElem? (i := 14) rfl))) (by decide) (t := .int) (t' := .int) (by decide) (by decide))))
  have c20 := (Fld.other W15 Fw10 (Or.inr (slot_ne (C := "com/example/refine/refine/aut/AutHeader") (Or.inr (hw _ (List.mem_of_getElem? (i := 12) rfl))) (Or.inr (hw _ (List.mem_of_getElem? (i := 14) rfl))) (by decide) (t := .int) (t' := .int) (by decide) (by decide))))
  obtain ⟨fs, hr, hrun, hended, hW, hsame⟩ := X15.leave (v := none) (fun _ => rfl)
  refine ⟨_, _, pr16 _ (X15.returnOut hx Bd.returns (hb hby d1_19) hr), hrun, hended, _, _, rfl, ?_, ⟨_, rfl⟩, hW, hsame.mono (by decide) (by decide)⟩
  show Q1 Z a p q u h0 n0 _ T15.heap _
  rw [e15]
  exact ⟨rfl, N15, c17, c18, c19, c20, Fw15⟩
theorem d2_0 : decode jdk_18_method_1_code 0 = .ok (.aload_n 0, 1) := by decide +kernel
theorem d2_1 : decode jdk_18_method_1_code 1 = .ok (.invokespecial 1, 3) := by decide +kernel
theorem d2_4 : decode jdk_18_method_1_code 4 = .ok (.return_, 1) := by decide +kernel
theorem pn_1 : plainName "java/lang/Number" = true := by first | (simp [plainName, overriddenIn]; done) | decide +kernel
theorem ef_2 (mM : MethodId) (x0 : Addr) : entryFrame mM #[(.ref x0)] 1 = mkF mM 0 #[.val (.ref x0)] [] := by first | (simp [entryFrame, mkF, argsToLocals, Value.category]; done) | rfl
def Q2 (Z : State) (a : Addr) (h0 : Heap) (n0 : Nat) (v : Option Value) (h : Heap) (L : List Loc) : Prop := v = none ∧ Fr n0 L ∧ h = h0
set_option maxRecDepth 65536 in
set_option maxHeartbeats 40000000 in
theorem rm2 (l : Launch) (Z : State) (a0 : Array Value) (hw : ∀ d ∈ tables_1, d.before a0 Z = true) (ws : List Jvm.Cond) (a : Addr) (h0 : Heap) (n0 : Nat) (Z0 : n0 ≤ h0.size) :
    MetFree l (⟨"java/lang/Number", "<init>", "()V"⟩ : MethodName) (head1 (Jvm.Cond.code (⟨"java/lang/Number", "<init>", "()V"⟩ : MethodName) jdk_18_method_1_code 1 none :: ws) ({ frames := 1, cells := 0, slots := 0, locals := 12 } : Room)) (fun aA uU => aA = #[(.ref a)] ∧ Z.Warmed39 uU.vm ∧ uU.heap = h0) (fun _ _ _ _ _ => True) (fun _ uU oO uU' => ∃ vV lL, oO = .returned vV ∧ Q2 Z a h0 n0 vV uU'.heap lL ∧ FrameEnd uU oO uU' lL ({ frames := 1, cells := 0, slots := 0, locals := 12 } : Room).cells ({ frames := 1, cells := 0, slots := 0, locals := 12 } : Room).slots) := by
  refine MetFree.of_bodySF (plainFor_of_name pn_1) hisR ?_
  intro pP eE sS mM args below meth cC s₁ Bd hml0 hP hK
  obtain ⟨rfl, hZ, hh⟩ := hP
  have hx := Bd.exec
  have hby := Bd.bytes
  have hml : cC.maxLocals = 1 := hml0
  have hown : sS.vm.findClass "java/lang/Number" = some mM.cls := findClass_of_methodNamed Bd.named
  have hnm := (name_of_methodNamed Bd.named Bd.method).1
  have X0 : Stand pP l eE ({ frames := 1, cells := 0, slots := 0, locals := 12 } : Room) sS mM #[(.ref a)] below meth cC s₁ [] 0 0 := Stand.of_body Bd
  have e0 : s₁.heap = h0 := by rw [← hh, Bd.state]; rfl
  have N0 := Fr.nil n0
  have pre0 : ∀ tg, Steps pP.tables eE below (s₁.setTop (mkF mM 0 #[.val (.ref a)] [])) tg → Steps pP.tables eE below (s₁.setTop (entryFrame mM #[(.ref a)] 1)) tg := fun tg kg => castTop (ef_2 mM a) kg
  have pr1 : ∀ tg, Steps pP.tables eE below (s₁.setTop (mkF mM 1 #[.val (.ref a)] [(.ref a)])) tg → Steps pP.tables eE below (s₁.setTop (entryFrame mM #[(.ref a)] 1)) tg := fun tg kg => pre0 _ (by
    show Steps pP.tables eE below (s₁.setTop (mkF mM 0 #[.val (.ref a)] [])) _
    refine XS.aloadN X0.here hx rfl (hb hby d2_0) rfl rfl ?_
    exact kg)
  obtain ⟨T2, X2, e2, st2⟩ := initO X0 hx hZ hown (hw _ (List.mem_of_getElem? (i := 38) rfl)) (hw _ (List.mem_of_getElem? (i := 7) rfl)) (hw _ (List.mem_of_getElem? (i := 8) rfl)) e0 (g := (mkF mM 1 #[.val (.ref a)] [(.ref a)])) rfl (by rw [hml]; rfl) rfl (hb hby d2_1) (by decide) (W := 0) (by show 2 * 0 + _ ≤ _; exact Nat.le_of_eq rfl) (by decide)
  have pr3 : ∀ tg, Steps pP.tables eE below (T2.setTop (mkF mM 4 #[.val (.ref a)] [])) tg → Steps pP.tables eE below (s₁.setTop (entryFrame mM #[(.ref a)] 1)) tg := fun tg kg => pr1 _ (st2 _ kg)
  obtain ⟨fs, hr, hrun, hended, hW, hsame⟩ := X2.leave (v := none) (fun _ => rfl)
  refine ⟨_, _, pr3 _ (X2.returnOut hx Bd.returns (hb hby d2_4) hr), hrun, hended, _, _, rfl, ?_, ⟨_, rfl⟩, hW, hsame.mono (by decide) (by decide)⟩
  show Q2 Z a h0 n0 _ T2.heap _
  rw [e2]
  exact ⟨rfl, N0, rfl⟩
theorem pd_0 : parseMethodDescriptor "()V" = some ⟨[], none⟩ := by decide +kernel
theorem d3_0 : decode jdk_33_method_23_code 0 = .ok (.aload_n 0, 1) := by decide +kernel
theorem d3_1 : decode jdk_33_method_23_code 1 = .ok (.invokespecial 202, 3) := by decide +kernel
theorem d3_4 : decode jdk_33_method_23_code 4 = .ok (.aload_n 0, 1) := by decide +kernel
theorem d3_5 : decode jdk_33_method_23_code 5 = .ok (.iload_n 1, 1) := by decide +kernel
theorem d3_6 : decode jdk_33_method_23_code 6 = .ok (.putfield 205, 3) := by decide +kernel
theorem d3_9 : decode jdk_33_method_23_code 9 = .ok (.return_, 1) := by decide +kernel
theorem pn_2 : plainName "java/lang/Integer" = true := by first | (simp [plainName, overriddenIn]; done) | decide +kernel
theorem ef_3 (mM : MethodId) (x0 : Addr) (x1 : Int32) : entryFrame mM #[(.ref x0), (.int x1)] 2 = mkF mM 0 #[.val (.ref x0), .val (.int x1)] [] := by first | (simp [entryFrame, mkF, argsToLocals, Value.category]; done) | rfl
def Q3 (Z : State) (a : Addr) (p : Int32) (h0 : Heap) (n0 : Nat) (v : Option Value) (h : Heap) (L : List Loc) : Prop := v = none ∧ Fr n0 L ∧ Keep h0 h [a] ∧ Exa Z h a "java/lang/Integer" ∧ Fld Z h a "java/lang/Integer" "value" "I" (.int p)
set_option maxRecDepth 65536 in
set_option maxHeartbeats 40000000 in
theorem rm3 (l : Launch) (Z : State) (a0 : Array Value) (hw : ∀ d ∈ tables_1, d.before a0 Z = true) (ws : List Jvm.Cond) (a : Addr) (p : Int32) (h0 : Heap) (n0 : Nat) (Z0 : n0 ≤ h0.size) (E_a : Exa Z h0 a "java/lang/Integer") (g_a : n0 ≤ a) (F_value : Fld Z h0 a "java/lang/Integer" "value" "I" (.int (0 : Int32))) :
    MetFree l (⟨"java/lang/Integer", "<init>", "(I)V"⟩ : MethodName) (head1 (Jvm.Cond.code (⟨"java/lang/Integer", "<init>", "(I)V"⟩ : MethodName) jdk_33_method_23_code 2 none :: ws) ({ frames := 2, cells := 0, slots := 0, locals := 24 } : Room)) (fun aA uU => aA = #[(.ref a), (.int p)] ∧ Z.Warmed39 uU.vm ∧ uU.heap = h0) (fun _ _ _ _ _ => True) (fun _ uU oO uU' => ∃ vV lL, oO = .returned vV ∧ Q3 Z a p h0 n0 vV uU'.heap lL ∧ FrameEnd uU oO uU' lL ({ frames := 2, cells := 0, slots := 0, locals := 24 } : Room).cells ({ frames := 2, cells := 0, slots := 0, locals := 24 } : Room).slots) := by
  refine MetFree.of_bodySF (plainFor_of_name pn_2) hisR ?_
  intro pP eE sS mM args below meth cC s₁ Bd hml0 hP hK
  obtain ⟨rfl, hZ, hh⟩ := hP
  have hx := Bd.exec
  have hby := Bd.bytes
  have hml : cC.maxLocals = 2 := hml0
  have hown : sS.vm.findClass "java/lang/Integer" = some mM.cls := findClass_of_methodNamed Bd.named
  have hnm := (name_of_methodNamed Bd.named Bd.method).1
  have X0 : Stand pP l eE ({ frames := 2, cells := 0, slots := 0, locals := 24 } : Room) sS mM #[(.ref a), (.int p)] below meth cC s₁ [] 0 0 := Stand.of_body Bd
  have e0 : s₁.heap = h0 := by rw [← hh, Bd.state]; rfl
  have N0 := Fr.nil n0
  have pre0 : ∀ tg, Steps pP.tables eE below (s₁.setTop (mkF mM 0 #[.val (.ref a), .val (.int p)] [])) tg → Steps pP.tables eE below (s₁.setTop (entryFrame mM #[(.ref a), (.int p)] 2)) tg := fun tg kg => castTop (ef_3 mM a p) kg
  have pr1 : ∀ tg, Steps pP.tables eE below (s₁.setTop (mkF mM 1 #[.val (.ref a), .val (.int p)] [(.ref a)])) tg → Steps pP.tables eE below (s₁.setTop (entryFrame mM #[(.ref a), (.int p)] 2)) tg := fun tg kg => pre0 _ (by
    show Steps pP.tables eE below (s₁.setTop (mkF mM 0 #[.val (.ref a), .val (.int p)] [])) _
    refine XS.aloadN X0.here hx rfl (hb hby d3_0) rfl rfl ?_
    exact kg)
  obtain ⟨_, _, ⟨T2, L2, kk2, nn2⟩, -, X2, ⟨Lc2, hQ2, l2, y2, z2⟩, st2⟩ := X0.specialBack hx (y := (⟨"java/lang/Number", "<init>", "()V"⟩ : MethodName)) rfl hown (mvT hZ (hw _ (List.mem_of_getElem? (i := 32) rfl))) (mvT hZ (hw _ (List.mem_of_getElem? (i := 33) rfl))) (mvT hZ (hw _ (List.mem_of_getElem? (i := 37) rfl))) (by decide) (backOf (W := 0) (rm2 l Z a0 hw [] a h0 n0 Z0) hZ (hw _ (List.mem_of_getElem? (i := 37) rfl)) (hw _ (List.mem_of_getElem? (i := 36) rfl)) (by decide) (by decide)) (g := (mkF mM 1 #[.val (.ref a), .val (.int p)] [(.ref a)])) rfl (by rw [hml]; rfl) (Steps.refl _) (a := a) (argsL := []) (rest := []) (lenOf pd_0 rfl) rfl (by show 2 * 0 + _ ≤ _; exact Nat.le_of_eq rfl) (hb hby d3_1) (fun _ _ => ⟨rfl, e0, (by decide : 0 + 0 ≤ _), (by decide : 0 + 0 ≤ _)⟩)
  dsimp only [Pt.U, Pt.locs, Pt.cells, Pt.slots] at X2 l2 y2 z2 st2 hQ2
  subst l2 y2 z2
  obtain ⟨rfl, Nq2, e2⟩ := hQ2
  have N2 := Fr.app N0 Nq2
  have pr3 : ∀ tg, Steps pP.tables eE below (T2.setTop (mkF mM 4 #[.val (.ref a), .val (.int p)] [])) tg → Steps pP.tables eE below (s₁.setTop (entryFrame mM #[(.ref a), (.int p)] 2)) tg := fun tg kg => pr1 _ (st2.trans kg)
  have pr4 : ∀ tg, Steps pP.tables eE below (T2.setTop (mkF mM 6 #[.val (.ref a), .val (.int p)] [(.int p), (.ref a)])) tg → Steps pP.tables eE below (s₁.setTop (entryFrame mM #[(.ref a), (.int p)] 2)) tg := fun tg kg => pr3 _ (by
    show Steps pP.tables eE below (T2.setTop (mkF mM 4 #[.val (.ref a), .val (.int p)] [])) _
    refine XS.aloadN X2.here hx rfl (hb hby d3_4) rfl rfl ?_
    show Steps pP.tables eE below (T2.setTop (mkF mM 5 #[.val (.ref a), .val (.int p)] [(.ref a)])) _
    refine XS.iloadN X2.here hx rfl (hb hby d3_5) rfl ?_
    exact kg)
  obtain ⟨T5, h5, X5, e5, W5, st5⟩ := putF X2 hx hZ hown (host := "") (Or.inl (hw _ (List.mem_of_getElem? (i := 39) rfl))) Via.refl e2 F_value E_a (Or.inr ⟨(hw _ (List.mem_of_getElem? (i := 40) rfl)), rfl, hnm⟩) (hw _ (List.mem_of_getElem? (i := 27) rfl)) (ty := .int) (by decide) rfl rfl (g := (mkF mM 6 #[.val (.ref a), .val (.int p)] [(.int p), (.ref a)])) rfl rfl (hb hby d3_6)
  have Fw5 := Fld.same W5 F_value
  have N5 := Fr.snoc X5 N2 g_a
  have pr6 : ∀ tg, Steps pP.tables eE below (T5.setTop (mkF mM 9 #[.val (.ref a), .val (.int p)] [])) tg → Steps pP.tables eE below (s₁.setTop (entryFrame mM #[(.ref a), (.int p)] 2)) tg := fun tg kg => pr4 _ (st5 _ kg)
  have c7 := (Keep.wr (Keep.refl h0 [a]) W5 (Or.inl (List.mem_of_getElem? (i := 0) rfl)))
  have c8 := (Exa.wr W5 E_a)
  obtain ⟨fs, hr, hrun, hended, hW, hsame⟩ := X5.leave (v := none) (fun _ => rfl)
  refine ⟨_, _, pr6 _ (X5.returnOut hx Bd.returns (hb hby d3_9) hr), hrun, hended, _, _, rfl, ?_, ⟨_, rfl⟩, hW, hsame.mono (by decide) (by decide)⟩
  show Q3 Z a p h0 n0 _ T5.heap _
  rw [e5]
  exact ⟨rfl, N5, c7, c8, Fw5⟩
theorem own_box {p : Int32} (h1 : ¬ p < (-128 : Int32)) (h2 : ¬ (127 : Int32) < p) : ¬ (p + (128 : Int32)) < 0 ∧ (p + (128 : Int32)) < (256 : Int32) := by
  rw [Int32.lt_iff_toInt_lt] at h1 h2
  have a1 : (-128 : Int32).toInt = -128 := rfl
  have a2 : (127 : Int32).toInt = 127 := rfl
  have a3 : (128 : Int32).toInt = 128 := rfl
  have a4 : (256 : Int32).toInt = 256 := rfl
  have a5 : (0 : Int32).toInt = 0 := rfl
  have e2 := Jvm.Kit.i32_add (p := p) (q := 128) (by omega) (by omega)
  rw [Int32.lt_iff_toInt_lt, Int32.lt_iff_toInt_lt]; omega
theorem pd_1 : parseMethodDescriptor "(I)V" = some ⟨[.int], none⟩ := by decide +kernel
theorem d4_0 : decode jdk_33_method_22_code 0 = .ok (.iload_n 0, 1) := by decide +kernel
theorem d4_1 : decode jdk_33_method_22_code 1 = .ok (.bipush (-128), 2) := by decide +kernel
theorem d4_3 : decode jdk_33_method_22_code 3 = .ok (.if_icmp .lt 20, 3) := by decide +kernel
theorem d4_6 : decode jdk_33_method_22_code 6 = .ok (.iload_n 0, 1) := by decide +kernel
theorem d4_7 : decode jdk_33_method_22_code 7 = .ok (.getstatic 191, 3) := by decide +kernel
theorem d4_10 : decode jdk_33_method_22_code 10 = .ok (.if_icmp .gt 13, 3) := by decide +kernel
theorem d4_13 : decode jdk_33_method_22_code 13 = .ok (.getstatic 195, 3) := by decide +kernel
theorem d4_16 : decode jdk_33_method_22_code 16 = .ok (.iload_n 0, 1) := by decide +kernel
theorem d4_17 : decode jdk_33_method_22_code 17 = .ok (.sipush 128, 3) := by decide +kernel
theorem d4_20 : decode jdk_33_method_22_code 20 = .ok (.iadd, 1) := by decide +kernel
theorem d4_21 : decode jdk_33_method_22_code 21 = .ok (.aaload, 1) := by decide +kernel
theorem d4_22 : decode jdk_33_method_22_code 22 = .ok (.areturn, 1) := by decide +kernel
theorem d4_23 : decode jdk_33_method_22_code 23 = .ok (.new 1, 3) := by decide +kernel
theorem d4_26 : decode jdk_33_method_22_code 26 = .ok (.dup, 1) := by decide +kernel
theorem d4_27 : decode jdk_33_method_22_code 27 = .ok (.iload_n 0, 1) := by decide +kernel
theorem d4_28 : decode jdk_33_method_22_code 28 = .ok (.invokespecial 199, 3) := by decide +kernel
theorem d4_31 : decode jdk_33_method_22_code 31 = .ok (.areturn, 1) := by decide +kernel
theorem ef_4 (mM : MethodId) (x0 : Int32) : entryFrame mM #[(.int x0)] 1 = mkF mM 0 #[.val (.int x0)] [] := by first | (simp [entryFrame, mkF, argsToLocals, Value.category]; done) | rfl
def Q4 (Z : State) (p : Int32) (ca : Addr) (cc : Cell) (h0 : Heap) (n0 : Nat) (v : Option Value) (h : Heap) (L : List Loc) : Prop := ∃ b : Addr, v = some (.ref b) ∧ Fr n0 L ∧ Keep h0 h [] ∧ Exa Z h b "java/lang/Integer"
set_option maxRecDepth 65536 in
set_option maxHeartbeats 40000000 in
theorem rm4 (l : Launch) (Z : State) (a0 : Array Value) (hw : ∀ d ∈ tables_1, d.before a0 Z = true) (ws : List Jvm.Cond) (p : Int32) (ca : Addr) (cc : Cell) (h0 : Heap) (n0 : Nat) (Z0 : n0 ≤ h0.size) (O : Old Z n0 h0) (S_cache : Sta Z Z.heap "java/lang/Integer$IntegerCache" "cache" "[Ljava/lang/Integer;" (.ref ca)) (B : Bxs Z ca cc "java/lang/Integer" "I" (256 : Int32) (fun j : Int32 => Value.int (j - 128))) (S_high : Sta Z Z.heap "java/lang/Integer$IntegerCache" "high" "I" (.int (127 : Int32))) :
    MetFree l (⟨"java/lang/Integer", "valueOf", "(I)Ljava/lang/Integer;"⟩ : MethodName) (head1 (Jvm.Cond.code (⟨"java/lang/Integer", "valueOf", "(I)Ljava/lang/Integer;"⟩ : MethodName) jdk_33_method_22_code 1 (some (.object "java/lang/Integer")) :: ws) ({ frames := 3, cells := 1, slots := 1, locals := 38 } : Room)) (fun aA uU => aA = #[(.int p)] ∧ Z.Warmed39 uU.vm ∧ uU.heap = h0) (fun _ _ _ _ _ => True) (fun _ uU oO uU' => ∃ vV lL, oO = .returned vV ∧ Q4 Z p ca cc h0 n0 vV uU'.heap lL ∧ FrameEnd uU oO uU' lL ({ frames := 3, cells := 1, slots := 1, locals := 38 } : Room).cells ({ frames := 3, cells := 1, slots := 1, locals := 38 } : Room).slots) := by
  refine MetFree.of_bodySF (plainFor_of_name pn_2) hisR ?_
  intro pP eE sS mM args below meth cC s₁ Bd hml0 hP hK
  obtain ⟨rfl, hZ, hh⟩ := hP
  have hx := Bd.exec
  have hby := Bd.bytes
  have hml : cC.maxLocals = 1 := hml0
  have hown : sS.vm.findClass "java/lang/Integer" = some mM.cls := findClass_of_methodNamed Bd.named
  have hnm := (name_of_methodNamed Bd.named Bd.method).1
  have X0 : Stand pP l eE ({ frames := 3, cells := 1, slots := 1, locals := 38 } : Room) sS mM #[(.int p)] below meth cC s₁ [] 0 0 := Stand.of_body Bd
  have e0 : s₁.heap = h0 := by rw [← hh, Bd.state]; rfl
  have N0 := Fr.nil n0
  have pre0 : ∀ tg, Steps pP.tables eE below (s₁.setTop (mkF mM 0 #[.val (.int p)] [])) tg → Steps pP.tables eE below (s₁.setTop (entryFrame mM #[(.int p)] 1)) tg := fun tg kg => castTop (ef_4 mM p) kg
  have pr2 : ∀ tg, Steps pP.tables eE below (s₁.setTop (mkF mM 3 #[.val (.int p)] [(.int (-128 : Int32)), (.int p)])) tg → Steps pP.tables eE below (s₁.setTop (entryFrame mM #[(.int p)] 1)) tg := fun tg kg => pre0 _ (by
    show Steps pP.tables eE below (s₁.setTop (mkF mM 0 #[.val (.int p)] [])) _
    refine XS.iloadN X0.here hx rfl (hb hby d4_0) rfl ?_
    show Steps pP.tables eE below (s₁.setTop (mkF mM 1 #[.val (.int p)] [(.int p)])) _
    refine XS.bipush X0.here hx rfl (hb hby d4_1) ?_
    exact kg)
  by_cases hc3_1 : p < (-128 : Int32)
  ·
    have pr3 : ∀ tg, Steps pP.tables eE below (s₁.setTop (mkF mM 23 #[.val (.int p)] [])) tg → Steps pP.tables eE below (s₁.setTop (entryFrame mM #[(.int p)] 1)) tg := fun tg kg => pr2 _ (by
      show Steps pP.tables eE below (s₁.setTop (mkF mM 3 #[.val (.int p)] [(.int (-128 : Int32)), (.int p)])) _
      refine XS.icmpYes X0.here hx rfl (pc0 := 3) (pc' := 23) rfl (hb hby d4_3) rfl (tlt hc3_1).1 (by decide) (by decide) ?_
      exact kg)
    obtain ⟨T4, h4, X4, e4, E4, A4, D4, -, st4⟩ := newO X0 hx hZ hown (hw _ (List.mem_of_getElem? (i := 26) rfl)) (hw _ (List.mem_of_getElem? (i := 27) rfl)) (hw _ (List.mem_of_getElem? (i := 24) rfl)) e0 (g := (mkF mM 23 #[.val (.int p)] [])) rfl (hb hby d4_23) (by decide) (by decide)
    obtain ⟨b4, g4⟩ : ∃ z, z = (h0).size := ⟨_, rfl⟩
    rw [← g4] at A4 D4 st4
    have gn5 : n0 ≤ b4 := Nat.le_trans Z0 (Nat.le_of_eq g4.symm)
    have gs6 : h0.size ≤ b4 := Nat.le_trans (Keep.refl h0 []).1 (Nat.le_of_eq g4.symm)
    have F4_value : Fld Z h4 b4 "java/lang/Integer" "value" "I" (.int (0 : Int32)) := D4 (Or.inr (hw _ (List.mem_of_getElem? (i := 40) rfl))) (ty := .int) (by decide)
    have pr7 : ∀ tg, Steps pP.tables eE below (T4.setTop (mkF mM 26 #[.val (.int p)] [(.ref b4)])) tg → Steps pP.tables eE below (s₁.setTop (entryFrame mM #[(.int p)] 1)) tg := fun tg kg => pr3 _ (st4 _ kg)
    have pr8 : ∀ tg, Steps pP.tables eE below (T4.setTop (mkF mM 28 #[.val (.int p)] [(.int p), (.ref b4), (.ref b4)])) tg → Steps pP.tables eE below (s₁.setTop (entryFrame mM #[(.int p)] 1)) tg := fun tg kg => pr7 _ (by
      show Steps pP.tables eE below (T4.setTop (mkF mM 26 #[.val (.int p)] [(.ref b4)])) _
      refine XS.dup X4.here hx rfl (hb hby d4_26) rfl rfl ?_
      show Steps pP.tables eE below (T4.setTop (mkF mM 27 #[.val (.int p)] [(.ref b4), (.ref b4)])) _
      refine XS.iloadN X4.here hx rfl (hb hby d4_27) rfl ?_
      exact kg)
    have c9 := (Nat.le_trans Z0 E4.1)
    obtain ⟨_, _, ⟨T10, L10, kk10, nn10⟩, -, X10, ⟨Lc10, hQ10, l10, y10, z10⟩, st10⟩ := X4.specialBack hx (y := (⟨"java/lang/Integer", "<init>", "(I)V"⟩ : MethodName)) rfl hown (mvT hZ (hw _ (List.mem_of_getElem? (i := 28) rfl))) (mvT hZ (hw _ (List.mem_of_getElem? (i := 29) rfl))) (mvT hZ (hw _ (List.mem_of_getElem? (i := 31) rfl))) (by decide) (backOf (W := 1) (rm3 l Z a0 hw [] b4 p h4 n0 c9 A4 gn5 F4_value ) hZ (hw _ (List.mem_of_getElem? (i := 31) rfl)) (hw _ (List.mem_of_getElem? (i := 24) rfl)) (by decide) (by decide)) (g := (mkF mM 28 #[.val (.int p)] [(.int p), (.ref b4), (.ref b4)])) rfl (by rw [hml]; rfl) (Steps.refl _) (a := b4) (argsL := [(.int p)]) (rest := [(.ref b4)]) (lenOf pd_1 rfl) rfl (by show 2 * 0 + _ ≤ _; exact Nat.le_of_eq rfl) (hb hby d4_28) (fun _ _ => ⟨rfl, e4, (by decide : 1 + 0 ≤ _), (by decide : 1 + 0 ≤ _)⟩)
    dsimp only [Pt.U, Pt.locs, Pt.cells, Pt.slots] at X10 l10 y10 z10 st10 hQ10
    subst l10 y10 z10
    obtain ⟨rfl, Nq10, K10, E10, F10_0⟩ := hQ10
    have N10 := Fr.app N0 Nq10
    have pr11 : ∀ tg, Steps pP.tables eE below (T10.setTop (mkF mM 31 #[.val (.int p)] [(.ref b4)])) tg → Steps pP.tables eE below (s₁.setTop (entryFrame mM #[(.int p)] 1)) tg := fun tg kg => pr8 _ (st10.trans kg)
    have c12 := (Keep.trans (Keep.ext (Keep.refl h0 []) E4) K10 (allS (Or.inr gs6) all0))
    obtain ⟨fs, hr, hrun, hended, hW, hsame⟩ := X10.leave (v := some (.ref b4)) (fun h => by rw [Bd.returns] at h; cases h)
    refine ⟨_, _, pr11 _ (retOut X10 hx (t := (.object "java/lang/Integer")) Bd.returns rfl (Or.inr (Or.inr (Or.inr (Or.inr ⟨rfl, rfl, rfl⟩)))) (hb hby d4_31) hr), hrun, hended, _, _, rfl, ?_, ⟨_, rfl⟩, hW, hsame.mono (by decide) (by decide)⟩
    show Q4 Z p ca cc h0 n0 _ T10.heap _
    exact ⟨_, rfl, N10, c12, E10⟩
  ·
    have pr13 : ∀ tg, Steps pP.tables eE below (s₁.setTop (mkF mM 7 #[.val (.int p)] [(.int p)])) tg → Steps pP.tables eE below (s₁.setTop (entryFrame mM #[(.int p)] 1)) tg := fun tg kg => pr2 _ (by
      show Steps pP.tables eE below (s₁.setTop (mkF mM 3 #[.val (.int p)] [(.int (-128 : Int32)), (.int p)])) _
      refine XS.icmpNo X0.here hx rfl (hb hby d4_3) rfl (flt hc3_1).1 ?_
      show Steps pP.tables eE below (s₁.setTop (mkF mM 6 #[.val (.int p)] [])) _
      refine XS.iloadN X0.here hx rfl (hb hby d4_6) rfl ?_
      exact kg)
    obtain ⟨T14, X14, e14, st14⟩ := getS2 X0 hx hZ hown (host := "") (Or.inl (hw _ (List.mem_of_getElem? (i := 44) rfl))) Via.refl e0 (Sta.ext (O).2 S_high) (g := (mkF mM 7 #[.val (.int p)] [(.int p)])) rfl (hb hby d4_7)
    have pr15 : ∀ tg, Steps pP.tables eE below (T14.setTop (mkF mM 10 #[.val (.int p)] [(.int (127 : Int32)), (.int p)])) tg → Steps pP.tables eE below (s₁.setTop (entryFrame mM #[(.int p)] 1)) tg := fun tg kg => pr13 _ (st14 _ kg)
    by_cases hc10_16 : (127 : Int32) < p
    ·
      have pr17 : ∀ tg, Steps pP.tables eE below (T14.setTop (mkF mM 23 #[.val (.int p)] [])) tg → Steps pP.tables eE below (s₁.setTop (entryFrame mM #[(.int p)] 1)) tg := fun tg kg => pr15 _ (by
        show Steps pP.tables eE below (T14.setTop (mkF mM 10 #[.val (.int p)] [(.int (127 : Int32)), (.int p)])) _
        refine XS.icmpYes X14.here hx rfl (pc0 := 10) (pc' := 23) rfl (hb hby d4_10) rfl (tlt hc10_16).2.2.1 (by decide) (by decide) ?_
        exact kg)
      obtain ⟨T18, h18, X18, e18, E18, A18, D18, -, st18⟩ := newO X14 hx hZ hown (hw _ (List.mem_of_getElem? (i := 26) rfl)) (hw _ (List.mem_of_getElem? (i := 27) rfl)) (hw _ (List.mem_of_getElem? (i := 24) rfl)) e14 (g := (mkF mM 23 #[.val (.int p)] [])) rfl (hb hby d4_23) (by decide) (by decide)
      obtain ⟨b18, g18⟩ : ∃ z, z = (h0).size := ⟨_, rfl⟩
      rw [← g18] at A18 D18 st18
      have gn19 : n0 ≤ b18 := Nat.le_trans Z0 (Nat.le_of_eq g18.symm)
      have gs20 : h0.size ≤ b18 := Nat.le_trans (Keep.refl h0 []).1 (Nat.le_of_eq g18.symm)
      have F18_value : Fld Z h18 b18 "java/lang/Integer" "value" "I" (.int (0 : Int32)) := D18 (Or.inr (hw _ (List.mem_of_getElem? (i := 40) rfl))) (ty := .int) (by decide)
      have pr21 : ∀ tg, Steps pP.tables eE below (T18.setTop (mkF mM 26 #[.val (.int p)] [(.ref b18)])) tg → Steps pP.tables eE below (s₁.setTop (entryFrame mM #[(.int p)] 1)) tg := fun tg kg => pr17 _ (st18 _ kg)
      have pr22 : ∀ tg, Steps pP.tables eE below (T18.setTop (mkF mM 28 #[.val (.int p)] [(.int p), (.ref b18), (.ref b18)])) tg → Steps pP.tables eE below (s₁.setTop (entryFrame mM #[(.int p)] 1)) tg := fun tg kg => pr21 _ (by
        show Steps pP.tables eE below (T18.setTop (mkF mM 26 #[.val (.int p)] [(.ref b18)])) _
        refine XS.dup X18.here hx rfl (hb hby d4_26) rfl rfl ?_
        show Steps pP.tables eE below (T18.setTop (mkF mM 27 #[.val (.int p)] [(.ref b18), (.ref b18)])) _
        refine XS.iloadN X18.here hx rfl (hb hby d4_27) rfl ?_
        exact kg)
      have c23 := (Nat.le_trans Z0 E18.1)
      obtain ⟨_, _, ⟨T24, L24, kk24, nn24⟩, -, X24, ⟨Lc24, hQ24, l24, y24, z24⟩, st24⟩ := X18.specialBack hx (y := (⟨"java/lang/Integer", "<init>", "(I)V"⟩ : MethodName)) rfl hown (mvT hZ (hw _ (List.mem_of_getElem? (i := 28) rfl))) (mvT hZ (hw _ (List.mem_of_getElem? (i := 29) rfl))) (mvT hZ (hw _ (List.mem_of_getElem? (i := 31) rfl))) (by decide) (backOf (W := 1) (rm3 l Z a0 hw [] b18 p h18 n0 c23 A18 gn19 F18_value ) hZ (hw _ (List.mem_of_getElem? (i := 31) rfl)) (hw _ (List.mem_of_getElem? (i := 24) rfl)) (by decide) (by decide)) (g := (mkF mM 28 #[.val (.int p)] [(.int p), (.ref b18), (.ref b18)])) rfl (by rw [hml]; rfl) (Steps.refl _) (a := b18) (argsL := [(.int p)]) (rest := [(.ref b18)]) (lenOf pd_1 rfl) rfl (by show 2 * 0 + _ ≤ _; exact Nat.le_of_eq rfl) (hb hby d4_28) (fun _ _ => ⟨rfl, e18, (by decide : 1 + 0 ≤ _), (by decide : 1 + 0 ≤ _)⟩)
      dsimp only [Pt.U, Pt.locs, Pt.cells, Pt.slots] at X24 l24 y24 z24 st24 hQ24
      subst l24 y24 z24
      obtain ⟨rfl, Nq24, K24, E24, F24_0⟩ := hQ24
      have N24 := Fr.app N0 Nq24
      have pr25 : ∀ tg, Steps pP.tables eE below (T24.setTop (mkF mM 31 #[.val (.int p)] [(.ref b18)])) tg → Steps pP.tables eE below (s₁.setTop (entryFrame mM #[(.int p)] 1)) tg := fun tg kg => pr22 _ (st24.trans kg)
      have c26 := (Keep.trans (Keep.ext (Keep.refl h0 []) E18) K24 (allS (Or.inr gs20) all0))
      obtain ⟨fs, hr, hrun, hended, hW, hsame⟩ := X24.leave (v := some (.ref b18)) (fun h => by rw [Bd.returns] at h; cases h)
      refine ⟨_, _, pr25 _ (retOut X24 hx (t := (.object "java/lang/Integer")) Bd.returns rfl (Or.inr (Or.inr (Or.inr (Or.inr ⟨rfl, rfl, rfl⟩)))) (hb hby d4_31) hr), hrun, hended, _, _, rfl, ?_, ⟨_, rfl⟩, hW, hsame.mono (by decide) (by decide)⟩
      show Q4 Z p ca cc h0 n0 _ T24.heap _
      exact ⟨_, rfl, N24, c26, E24⟩
    ·
      have pr27 : ∀ tg, Steps pP.tables eE below (T14.setTop (mkF mM 13 #[.val (.int p)] [])) tg → Steps pP.tables eE below (s₁.setTop (entryFrame mM #[(.int p)] 1)) tg := fun tg kg => pr15 _ (by
        show Steps pP.tables eE below (T14.setTop (mkF mM 10 #[.val (.int p)] [(.int (127 : Int32)), (.int p)])) _
        refine XS.icmpNo X14.here hx rfl (hb hby d4_10) rfl (flt hc10_16).2.2.1 ?_
        exact kg)
      obtain ⟨T28, X28, e28, st28⟩ := getS2 X14 hx hZ hown (host := "") (Or.inl (hw _ (List.mem_of_getElem? (i := 46) rfl))) Via.refl e14 (Sta.ext (O).2 S_cache) (g := (mkF mM 13 #[.val (.int p)] [])) rfl (hb hby d4_13)
      have pr29 : ∀ tg, Steps pP.tables eE below (T28.setTop (mkF mM 16 #[.val (.int p)] [(.ref ca)])) tg → Steps pP.tables eE below (s₁.setTop (entryFrame mM #[(.int p)] 1)) tg := fun tg kg => pr27 _ (st28 _ kg)
      have pr30 : ∀ tg, Steps pP.tables eE below (T28.setTop (mkF mM 21 #[.val (.int p)] [(.int (p + (128 : Int32))), (.ref ca)])) tg → Steps pP.tables eE below (s₁.setTop (entryFrame mM #[(.int p)] 1)) tg := fun tg kg => pr29 _ (by
        show Steps pP.tables eE below (T28.setTop (mkF mM 16 #[.val (.int p)] [(.ref ca)])) _
        refine XS.iloadN X28.here hx rfl (hb hby d4_16) rfl ?_
        show Steps pP.tables eE below (T28.setTop (mkF mM 17 #[.val (.int p)] [(.int p), (.ref ca)])) _
        refine XS.sipush X28.here hx rfl (hb hby d4_17) ?_
        show Steps pP.tables eE below (T28.setTop (mkF mM 20 #[.val (.int p)] [(.int (128 : Int32)), (.int p), (.ref ca)])) _
        refine XS.iadd X28.here hx rfl (hb hby d4_20) rfl ?_
        exact kg)
      obtain ⟨bA31, bS31, bM31⟩ := Bxs.ext B (O).2
      have hj31 := own_box hc3_1 hc10_16
      have hin31 : ¬ ((p + (128 : Int32)) < 0 ∨ cc.slots.size ≤ ((p + (128 : Int32))).toNatClampNeg) := inb_of bS31 hj31
      obtain ⟨bx31, hat31, EX31, -⟩ := B.2.2.2 _ hin31
      have pr32 : ∀ tg, Steps pP.tables eE below (T28.setTop (mkF mM 22 #[.val (.int p)] [(.ref bx31)])) tg → Steps pP.tables eE below (s₁.setTop (entryFrame mM #[(.int p)] 1)) tg := fun tg kg => pr30 _ (by
        show Steps pP.tables eE below (T28.setTop (mkF mM 21 #[.val (.int p)] [(.int (p + (128 : Int32))), (.ref ca)])) _
        refine X28.aaload hx (j := (p + (128 : Int32))) (v := (.ref bx31)) (by rw [e28]; exact bA31.1) (State.isArrayOf_alike hZ.alike bA31.2.1) rfl bA31.2.2 hin31 hat31 (g := (mkF mM 21 #[.val (.int p)] [(.int (p + (128 : Int32))), (.ref ca)])) rfl rfl (hb hby d4_21) _ ?_
        exact kg)
      obtain ⟨fs, hr, hrun, hended, hW, hsame⟩ := X28.leave (v := some (.ref bx31)) (fun h => by rw [Bd.returns] at h; cases h)
      refine ⟨_, _, pr32 _ (retOut X28 hx (t := (.object "java/lang/Integer")) Bd.returns rfl (Or.inr (Or.inr (Or.inr (Or.inr ⟨rfl, rfl, rfl⟩)))) (hb hby d4_22) hr), hrun, hended, _, _, rfl, ?_, ⟨_, rfl⟩, hW, hsame.mono (by decide) (by decide)⟩
      show Q4 Z p ca cc h0 n0 _ T28.heap _
      rw [e28]
      exact ⟨_, rfl, N0, (Keep.refl h0 []), (Exa.ext (O).2 EX31)⟩
theorem d5_0 : decode prog_2_method_7_code 0 = .ok (.aload_n 1, 1) := by decide +kernel
theorem d5_1 : decode prog_2_method_7_code 1 = .ok (.instanceof 8, 3) := by decide +kernel
theorem d5_4 : decode prog_2_method_7_code 4 = .ok (.ifCond .eq 11, 3) := by decide +kernel
theorem d5_7 : decode prog_2_method_7_code 7 = .ok (.aload_n 1, 1) := by decide +kernel
theorem d5_8 : decode prog_2_method_7_code 8 = .ok (.checkcast 8, 3) := by decide +kernel
theorem d5_11 : decode prog_2_method_7_code 11 = .ok (.astore_n 2, 1) := by decide +kernel
theorem d5_12 : decode prog_2_method_7_code 12 = .ok (.goto 5, 3) := by decide +kernel
theorem d5_17 : decode prog_2_method_7_code 17 = .ok (.aload_n 0, 1) := by decide +kernel
theorem d5_18 : decode prog_2_method_7_code 18 = .ok (.getfield 7, 3) := by decide +kernel
theorem d5_21 : decode prog_2_method_7_code 21 = .ok (.aload_n 2, 1) := by decide +kernel
theorem d5_22 : decode prog_2_method_7_code 22 = .ok (.getfield 7, 3) := by decide +kernel
theorem d5_25 : decode prog_2_method_7_code 25 = .ok (.if_icmp .ne 29, 3) := by decide +kernel
theorem d5_28 : decode prog_2_method_7_code 28 = .ok (.aload_n 0, 1) := by decide +kernel
theorem d5_29 : decode prog_2_method_7_code 29 = .ok (.getfield 13, 3) := by decide +kernel
theorem d5_32 : decode prog_2_method_7_code 32 = .ok (.aload_n 2, 1) := by decide +kernel
theorem d5_33 : decode prog_2_method_7_code 33 = .ok (.getfield 13, 3) := by decide +kernel
theorem d5_36 : decode prog_2_method_7_code 36 = .ok (.if_icmp .ne 18, 3) := by decide +kernel
theorem d5_39 : decode prog_2_method_7_code 39 = .ok (.aload_n 0, 1) := by decide +kernel
theorem d5_40 : decode prog_2_method_7_code 40 = .ok (.getfield 16, 3) := by decide +kernel
theorem d5_43 : decode prog_2_method_7_code 43 = .ok (.aload_n 2, 1) := by decide +kernel
theorem d5_44 : decode prog_2_method_7_code 44 = .ok (.getfield 16, 3) := by decide +kernel
theorem d5_47 : decode prog_2_method_7_code 47 = .ok (.if_icmp .ne 7, 3) := by decide +kernel
theorem d5_50 : decode prog_2_method_7_code 50 = .ok (.iconst 1, 1) := by decide +kernel
theorem d5_51 : decode prog_2_method_7_code 51 = .ok (.goto 4, 3) := by decide +kernel
theorem d5_54 : decode prog_2_method_7_code 54 = .ok (.iconst 0, 1) := by decide +kernel
theorem d5_55 : decode prog_2_method_7_code 55 = .ok (.ireturn, 1) := by decide +kernel
theorem ef_5 (mM : MethodId) (x0 : Addr) (x1 : Addr) : entryFrame mM #[(.ref x0), (.ref x1)] 3 = mkF mM 0 #[.val (.ref x0), .val (.ref x1), .unset] [] := by first | (simp [entryFrame, mkF, argsToLocals, Value.category]; done) | rfl
def Q5 (Z : State) (a : Addr) (b : Addr) (x0 : Int32) (x1 : Int32) (x2 : Int32) (y0 : Int32) (y1 : Int32) (y2 : Int32) (h0 : Heap) (n0 : Nat) (v : Option Value) (h : Heap) (L : List Loc) : Prop := ∃ r : Int32, v = some (.int r) ∧ r = (if x0 = y0 then (if x1 = y1 then (if x2 = y2 then (1 : Int32) else (0 : Int32)) else (0 : Int32)) else (0 : Int32)) ∧ Fr n0 L ∧ h = h0
set_option maxRecDepth 65536 in
set_option maxHeartbeats 40000000 in
theorem rm5 (l : Launch) (Z : State) (a0 : Array Value) (hw : ∀ d ∈ tables_1, d.before a0 Z = true) (ws : List Jvm.Cond) (a : Addr) (b : Addr) (x0 : Int32) (x1 : Int32) (x2 : Int32) (y0 : Int32) (y1 : Int32) (y2 : Int32) (h0 : Heap) (n0 : Nat) (Z0 : n0 ≤ h0.size) (E_a : Exa Z h0 a "com/example/refine/refine/aut/AutHeader") (F_initialState_a : Fld Z h0 a "com/example/refine/refine/aut/AutHeader" "initialState" "I" (.int x0)) (F_transitionCount_a : Fld Z h0 a "com/example/refine/refine/aut/AutHeader" "transitionCount" "I" (.int x1)) (F_stateCount_a : Fld Z h0 a "com/example/refine/refine/aut/AutHeader" "stateCount" "I" (.int x2)) (E_b : Exa Z h0 b "com/example/refine/refine/aut/AutHeader") (F_initialState_b : Fld Z h0 b "com/example/refine/refine/aut/AutHeader" "initialState" "I" (.int y0)) (F_transitionCount_b : Fld Z h0 b "com/example/refine/refine/aut/AutHeader" "transitionCount" "I" (.int y1)) (F_stateCount_b : Fld Z h0 b "com/example/refine/refine/aut/AutHeader" "stateCount" "I" (.int y2)) :
    MetFree l (⟨"com/example/refine/refine/aut/AutHeader", "equals", "(Ljava/lang/Object;)Z"⟩ : MethodName) (head1 (Jvm.Cond.code (⟨"com/example/refine/refine/aut/AutHeader", "equals", "(Ljava/lang/Object;)Z"⟩ : MethodName) prog_2_method_7_code 3 (some .boolean) :: ws) ({ frames := 0, cells := 0, slots := 0, locals := 0 } : Room)) (fun aA uU => aA = #[(.ref a), (.ref b)] ∧ Z.Warmed39 uU.vm ∧ uU.heap = h0) (fun _ _ _ _ _ => True) (fun _ uU oO uU' => ∃ vV lL, oO = .returned vV ∧ Q5 Z a b x0 x1 x2 y0 y1 y2 h0 n0 vV uU'.heap lL ∧ FrameEnd uU oO uU' lL ({ frames := 0, cells := 0, slots := 0, locals := 0 } : Room).cells ({ frames := 0, cells := 0, slots := 0, locals := 0 } : Room).slots) := by
  refine MetFree.of_bodySF (plainFor_of_name pn_0) hisR ?_
  intro pP eE sS mM args below meth cC s₁ Bd hml0 hP hK
  obtain ⟨rfl, hZ, hh⟩ := hP
  have hx := Bd.exec
  have hby := Bd.bytes
  have hml : cC.maxLocals = 3 := hml0
  have hown : sS.vm.findClass "com/example/refine/refine/aut/AutHeader" = some mM.cls := findClass_of_methodNamed Bd.named
  have hnm := (name_of_methodNamed Bd.named Bd.method).1
  have X0 : Stand pP l eE ({ frames := 0, cells := 0, slots := 0, locals := 0 } : Room) sS mM #[(.ref a), (.ref b)] below meth cC s₁ [] 0 0 := Stand.of_body Bd
  have e0 : s₁.heap = h0 := by rw [← hh, Bd.state]; rfl
  have N0 := Fr.nil n0
  have pre0 : ∀ tg, Steps pP.tables eE below (s₁.setTop (mkF mM 0 #[.val (.ref a), .val (.ref b), .unset] [])) tg → Steps pP.tables eE below (s₁.setTop (entryFrame mM #[(.ref a), (.ref b)] 3)) tg := fun tg kg => castTop (ef_5 mM a b) kg
  have pr1 : ∀ tg, Steps pP.tables eE below (s₁.setTop (mkF mM 1 #[.val (.ref a), .val (.ref b), .unset] [(.ref b)])) tg → Steps pP.tables eE below (s₁.setTop (entryFrame mM #[(.ref a), (.ref b)] 3)) tg := fun tg kg => pre0 _ (by
    show Steps pP.tables eE below (s₁.setTop (mkF mM 0 #[.val (.ref a), .val (.ref b), .unset] [])) _
    refine XS.aloadN X0.here hx rfl (hb hby d5_0) rfl rfl ?_
    exact kg)
  obtain ⟨T2, X2, e2, st2⟩ := instY X0 hx hZ hown (hw _ (List.mem_of_getElem? (i := 20) rfl)) e0 (Ins.self E_b) (g := (mkF mM 1 #[.val (.ref a), .val (.ref b), .unset] [(.ref b)])) rfl rfl (hb hby d5_1)
  have pr3 : ∀ tg, Steps pP.tables eE below (T2.setTop (mkF mM 4 #[.val (.ref a), .val (.ref b), .unset] [(.int (1 : Int32))])) tg → Steps pP.tables eE below (s₁.setTop (entryFrame mM #[(.ref a), (.ref b)] 3)) tg := fun tg kg => pr1 _ (st2 _ kg)
  have pr4 : ∀ tg, Steps pP.tables eE below (T2.setTop (mkF mM 8 #[.val (.ref a), .val (.ref b), .unset] [(.ref b)])) tg → Steps pP.tables eE below (s₁.setTop (entryFrame mM #[(.ref a), (.ref b)] 3)) tg := fun tg kg => pr3 _ (by
    show Steps pP.tables eE below (T2.setTop (mkF mM 4 #[.val (.ref a), .val (.ref b), .unset] [(.int (1 : Int32))])) _
    refine XS.ifNo X2.here hx rfl (hb hby d5_4) rfl ((if0 _ _).trans (feq (by decide)).1) ?_
    show Steps pP.tables eE below (T2.setTop (mkF mM 7 #[.val (.ref a), .val (.ref b), .unset] [])) _
    refine XS.aloadN X2.here hx rfl (hb hby d5_7) rfl rfl ?_
    exact kg)
  obtain ⟨T5, X5, e5, st5⟩ := castY X2 hx hZ hown (hw _ (List.mem_of_getElem? (i := 20) rfl)) e2 (Ins.self E_b) (g := (mkF mM 8 #[.val (.ref a), .val (.ref b), .unset] [(.ref b)])) rfl rfl (hb hby d5_8)
  have pr6 : ∀ tg, Steps pP.tables eE below (T5.setTop (mkF mM 11 #[.val (.ref a), .val (.ref b), .unset] [(.ref b)])) tg → Steps pP.tables eE below (s₁.setTop (entryFrame mM #[(.ref a), (.ref b)] 3)) tg := fun tg kg => pr4 _ (st5 _ kg)
  have pr7 : ∀ tg, Steps pP.tables eE below (T5.setTop (mkF mM 18 #[.val (.ref a), .val (.ref b), .val (.ref b)] [(.ref a)])) tg → Steps pP.tables eE below (s₁.setTop (entryFrame mM #[(.ref a), (.ref b)] 3)) tg := fun tg kg => pr6 _ (by
    show Steps pP.tables eE below (T5.setTop (mkF mM 11 #[.val (.ref a), .val (.ref b), .unset] [(.ref b)])) _
    refine XS.astoreN X5.here hx rfl (hb hby d5_11) rfl rfl (l' := #[.val (.ref a), .val (.ref b), .val (.ref b)]) rfl ?_
    show Steps pP.tables eE below (T5.setTop (mkF mM 12 #[.val (.ref a), .val (.ref b), .val (.ref b)] [])) _
    refine XS.goto X5.here hx rfl (pc0 := 12) (pc' := 17) rfl (hb hby d5_12) (by decide) (by decide) ?_
    show Steps pP.tables eE below (T5.setTop (mkF mM 17 #[.val (.ref a), .val (.ref b), .val (.ref b)] [])) _
    refine XS.aloadN X5.here hx rfl (hb hby d5_17) rfl rfl ?_
    exact kg)
  obtain ⟨T8, X8, e8, st8⟩ := getF X5 hx hZ hown (host := "") (Or.inl (hw _ (List.mem_of_getElem? (i := 9) rfl))) Via.refl e5 F_initialState_a (g := (mkF mM 18 #[.val (.ref a), .val (.ref b), .val (.ref b)] [(.ref a)])) rfl rfl (hb hby d5_18)
  have pr9 : ∀ tg, Steps pP.tables eE below (T8.setTop (mkF mM 21 #[.val (.ref a), .val (.ref b), .val (.ref b)] [(.int x0)])) tg → Steps pP.tables eE below (s₁.setTop (entryFrame mM #[(.ref a), (.ref b)] 3)) tg := fun tg kg => pr7 _ (st8 _ kg)
  have pr10 : ∀ tg, Steps pP.tables eE below (T8.setTop (mkF mM 22 #[.val (.ref a), .val (.ref b), .val (.ref b)] [(.ref b), (.int x0)])) tg → Steps pP.tables eE below (s₁.setTop (entryFrame mM #[(.ref a), (.ref b)] 3)) tg := fun tg kg => pr9 _ (by
    show Steps pP.tables eE below (T8.setTop (mkF mM 21 #[.val (.ref a), .val (.ref b), .val (.ref b)] [(.int x0)])) _
    refine XS.aloadN X8.here hx rfl (hb hby d5_21) rfl rfl ?_
    exact kg)
  obtain ⟨T11, X11, e11, st11⟩ := getF X8 hx hZ hown (host := "") (Or.inl (hw _ (List.mem_of_getElem? (i := 9) rfl))) Via.refl e8 F_initialState_b (g := (mkF mM 22 #[.val (.ref a), .val (.ref b), .val (.ref b)] [(.ref b), (.int x0)])) rfl rfl (hb hby d5_22)
  have pr12 : ∀ tg, Steps pP.tables eE below (T11.setTop (mkF mM 25 #[.val (.ref a), .val (.ref b), .val (.ref b)] [(.int y0), (.int x0)])) tg → Steps pP.tables eE below (s₁.setTop (entryFrame mM #[(.ref a), (.ref b)] 3)) tg := fun tg kg => pr10 _ (st11 _ kg)
  by_cases hc25_13 : x0 = y0
  ·
    have pr14 : ∀ tg, Steps pP.tables eE below (T11.setTop (mkF mM 29 #[.val (.ref a), .val (.ref b), .val (.ref b)] [(.ref a)])) tg → Steps pP.tables eE below (s₁.setTop (entryFrame mM #[(.ref a), (.ref b)] 3)) tg := fun tg kg => pr12 _ (by
      show Steps pP.tables eE below (T11.setTop (mkF mM 25 #[.val (.ref a), .val (.ref b), .val (.ref b)] [(.int y0), (.int x0)])) _
      refine XS.icmpNo X11.here hx rfl (hb hby d5_25) rfl (teq hc25_13).2 ?_
      show Steps pP.tables eE below (T11.setTop (mkF mM 28 #[.val (.ref a), .val (.ref b), .val (.ref b)] [])) _
      refine XS.aloadN X11.here hx rfl (hb hby d5_28) rfl rfl ?_
      exact kg)
    obtain ⟨T15, X15, e15, st15⟩ := getF X11 hx hZ hown (host := "") (Or.inl (hw _ (List.mem_of_getElem? (i := 11) rfl))) Via.refl e11 F_transitionCount_a (g := (mkF mM 29 #[.val (.ref a), .val (.ref b), .val (.ref b)] [(.ref a)])) rfl rfl (hb hby d5_29)
    have pr16 : ∀ tg, Steps pP.tables eE below (T15.setTop (mkF mM 32 #[.val (.ref a), .val (.ref b), .val (.ref b)] [(.int x1)])) tg → Steps pP.tables eE below (s₁.setTop (entryFrame mM #[(.ref a), (.ref b)] 3)) tg := fun tg kg => pr14 _ (st15 _ kg)
    have pr17 : ∀ tg, Steps pP.tables eE below (T15.setTop (mkF mM 33 #[.val (.ref a), .val (.ref b), .val (.ref b)] [(.ref b), (.int x1)])) tg → Steps pP.tables eE below (s₁.setTop (entryFrame mM #[(.ref a), (.ref b)] 3)) tg := fun tg kg => pr16 _ (by
      show Steps pP.tables eE below (T15.setTop (mkF mM 32 #[.val (.ref a), .val (.ref b), .val (.ref b)] [(.int x1)])) _
      refine XS.aloadN X15.here hx rfl (hb hby d5_32) rfl rfl ?_
      exact kg)
    obtain ⟨T18, X18, e18, st18⟩ := getF X15 hx hZ hown (host := "") (Or.inl (hw _ (List.mem_of_getElem? (i := 11) rfl))) Via.refl e15 F_transitionCount_b (g := (mkF mM 33 #[.val (.ref a), .val (.ref b), .val (.ref b)] [(.ref b), (.int x1)])) rfl rfl (hb hby d5_33)
    have pr19 : ∀ tg, Steps pP.tables eE below (T18.setTop (mkF mM 36 #[.val (.ref a), .val (.ref b), .val (.ref b)] [(.int y1), (.int x1)])) tg → Steps pP.tables eE below (s₁.setTop (entryFrame mM #[(.ref a), (.ref b)] 3)) tg := fun tg kg => pr17 _ (st18 _ kg)
    by_cases hc36_20 : x1 = y1
    ·
      have pr21 : ∀ tg, Steps pP.tables eE below (T18.setTop (mkF mM 40 #[.val (.ref a), .val (.ref b), .val (.ref b)] [(.ref a)])) tg → Steps pP.tables eE below (s₁.setTop (entryFrame mM #[(.ref a), (.ref b)] 3)) tg := fun tg kg => pr19 _ (by
        show Steps pP.tables eE below (T18.setTop (mkF mM 36 #[.val (.ref a), .val (.ref b), .val (.ref b)] [(.int y1), (.int x1)])) _
        refine XS.icmpNo X18.here hx rfl (hb hby d5_36) rfl (teq hc36_20).2 ?_
        show Steps pP.tables eE below (T18.setTop (mkF mM 39 #[.val (.ref a), .val (.ref b), .val (.ref b)] [])) _
        refine XS.aloadN X18.here hx rfl (hb hby d5_39) rfl rfl ?_
        exact kg)
      obtain ⟨T22, X22, e22, st22⟩ := getF X18 hx hZ hown (host := "") (Or.inl (hw _ (List.mem_of_getElem? (i := 13) rfl))) Via.refl e18 F_stateCount_a (g := (mkF mM 40 #[.val (.ref a), .val (.ref b), .val (.ref b)] [(.ref a)])) rfl rfl (hb hby d5_40)
      have pr23 : ∀ tg, Steps pP.tables eE below (T22.setTop (mkF mM 43 #[.val (.ref a), .val (.ref b), .val (.ref b)] [(.int x2)])) tg → Steps pP.tables eE below (s₁.setTop (entryFrame mM #[(.ref a), (.ref b)] 3)) tg := fun tg kg => pr21 _ (st22 _ kg)
      have pr24 : ∀ tg, Steps pP.tables eE below (T22.setTop (mkF mM 44 #[.val (.ref a), .val (.ref b), .val (.ref b)] [(.ref b), (.int x2)])) tg → Steps pP.tables eE below (s₁.setTop (entryFrame mM #[(.ref a), (.ref b)] 3)) tg := fun tg kg => pr23 _ (by
        show Steps pP.tables eE below (T22.setTop (mkF mM 43 #[.val (.ref a), .val (.ref b), .val (.ref b)] [(.int x2)])) _
        refine XS.aloadN X22.here hx rfl (hb hby d5_43) rfl rfl ?_
        exact kg)
      obtain ⟨T25, X25, e25, st25⟩ := getF X22 hx hZ hown (host := "") (Or.inl (hw _ (List.mem_of_getElem? (i := 13) rfl))) Via.refl e22 F_stateCount_b (g := (mkF mM 44 #[.val (.ref a), .val (.ref b), .val (.ref b)] [(.ref b), (.int x2)])) rfl rfl (hb hby d5_44)
      have pr26 : ∀ tg, Steps pP.tables eE below (T25.setTop (mkF mM 47 #[.val (.ref a), .val (.ref b), .val (.ref b)] [(.int y2), (.int x2)])) tg → Steps pP.tables eE below (s₁.setTop (entryFrame mM #[(.ref a), (.ref b)] 3)) tg := fun tg kg => pr24 _ (st25 _ kg)
      by_cases hc47_27 : x2 = y2
      ·
        have pr28 : ∀ tg, Steps pP.tables eE below (T25.setTop (mkF mM 55 #[.val (.ref a), .val (.ref b), .val (.ref b)] [(.int (1 : Int32))])) tg → Steps pP.tables eE below (s₁.setTop (entryFrame mM #[(.ref a), (.ref b)] 3)) tg := fun tg kg => pr26 _ (by
          show Steps pP.tables eE below (T25.setTop (mkF mM 47 #[.val (.ref a), .val (.ref b), .val (.ref b)] [(.int y2), (.int x2)])) _
          refine XS.icmpNo X25.here hx rfl (hb hby d5_47) rfl (teq hc47_27).2 ?_
          show Steps pP.tables eE below (T25.setTop (mkF mM 50 #[.val (.ref a), .val (.ref b), .val (.ref b)] [])) _
          refine XS.iconst X25.here hx rfl (hb hby d5_50) ?_
          show Steps pP.tables eE below (T25.setTop (mkF mM 51 #[.val (.ref a), .val (.ref b), .val (.ref b)] [(.int (1 : Int32))])) _
          refine XS.goto X25.here hx rfl (pc0 := 51) (pc' := 55) rfl (hb hby d5_51) (by decide) (by decide) ?_
          exact kg)
        obtain ⟨fs, hr, hrun, hended, hW, hsame⟩ := X25.leave (v := some (.int (1 : Int32))) (fun h => by rw [Bd.returns] at h; cases h)
        refine ⟨_, _, pr28 _ (retOut X25 hx (t := .boolean) Bd.returns rfl (Or.inl ⟨rfl, Or.inr (Or.inl rfl), _, rfl⟩) (hb hby d5_55) hr), hrun, hended, _, _, rfl, ?_, ⟨_, rfl⟩, hW, hsame.mono (by decide) (by decide)⟩
        show Q5 Z a b x0 x1 x2 y0 y1 y2 h0 n0 _ T25.heap _
        rw [e25]
        exact ⟨_, rfl, by rw [if_pos hc25_13, if_pos hc36_20, if_pos hc47_27], N0, rfl⟩
      ·
        have pr29 : ∀ tg, Steps pP.tables eE below (T25.setTop (mkF mM 55 #[.val (.ref a), .val (.ref b), .val (.ref b)] [(.int (0 : Int32))])) tg → Steps pP.tables eE below (s₁.setTop (entryFrame mM #[(.ref a), (.ref b)] 3)) tg := fun tg kg => pr26 _ (by
          show Steps pP.tables eE below (T25.setTop (mkF mM 47 #[.val (.ref a), .val (.ref b), .val (.ref b)] [(.int y2), (.int x2)])) _
          refine XS.icmpYes X25.here hx rfl (pc0 := 47) (pc' := 54) rfl (hb hby d5_47) rfl (feq hc47_27).2 (by decide) (by decide) ?_
          show Steps pP.tables eE below (T25.setTop (mkF mM 54 #[.val (.ref a), .val (.ref b), .val (.ref b)] [])) _
          refine XS.iconst X25.here hx rfl (hb hby d5_54) ?_
          exact kg)
        obtain ⟨fs, hr, hrun, hended, hW, hsame⟩ := X25.leave (v := some (.int (0 : Int32))) (fun h => by rw [Bd.returns] at h; cases h)
        refine ⟨_, _, pr29 _ (retOut X25 hx (t := .boolean) Bd.returns rfl (Or.inl ⟨rfl, Or.inr (Or.inl rfl), _, rfl⟩) (hb hby d5_55) hr), hrun, hended, _, _, rfl, ?_, ⟨_, rfl⟩, hW, hsame.mono (by decide) (by decide)⟩
        show Q5 Z a b x0 x1 x2 y0 y1 y2 h0 n0 _ T25.heap _
        rw [e25]
        exact ⟨_, rfl, by rw [if_pos hc25_13, if_pos hc36_20, if_neg hc47_27], N0, rfl⟩
    ·
      have pr30 : ∀ tg, Steps pP.tables eE below (T18.setTop (mkF mM 55 #[.val (.ref a), .val (.ref b), .val (.ref b)] [(.int (0 : Int32))])) tg → Steps pP.tables eE below (s₁.setTop (entryFrame mM #[(.ref a), (.ref b)] 3)) tg := fun tg kg => pr19 _ (by
        show Steps pP.tables eE below (T18.setTop (mkF mM 36 #[.val (.ref a), .val (.ref b), .val (.ref b)] [(.int y1), (.int x1)])) _
        refine XS.icmpYes X18.here hx rfl (pc0 := 36) (pc' := 54) rfl (hb hby d5_36) rfl (feq hc36_20).2 (by decide) (by decide) ?_
        show Steps pP.tables eE below (T18.setTop (mkF mM 54 #[.val (.ref a), .val (.ref b), .val (.ref b)] [])) _
        refine XS.iconst X18.here hx rfl (hb hby d5_54) ?_
        exact kg)
      obtain ⟨fs, hr, hrun, hended, hW, hsame⟩ := X18.leave (v := some (.int (0 : Int32))) (fun h => by rw [Bd.returns] at h; cases h)
      refine ⟨_, _, pr30 _ (retOut X18 hx (t := .boolean) Bd.returns rfl (Or.inl ⟨rfl, Or.inr (Or.inl rfl), _, rfl⟩) (hb hby d5_55) hr), hrun, hended, _, _, rfl, ?_, ⟨_, rfl⟩, hW, hsame.mono (by decide) (by decide)⟩
      show Q5 Z a b x0 x1 x2 y0 y1 y2 h0 n0 _ T18.heap _
      rw [e18]
      exact ⟨_, rfl, by rw [if_pos hc25_13, if_neg hc36_20], N0, rfl⟩
  ·
    have pr31 : ∀ tg, Steps pP.tables eE below (T11.setTop (mkF mM 55 #[.val (.ref a), .val (.ref b), .val (.ref b)] [(.int (0 : Int32))])) tg → Steps pP.tables eE below (s₁.setTop (entryFrame mM #[(.ref a), (.ref b)] 3)) tg := fun tg kg => pr12 _ (by
      show Steps pP.tables eE below (T11.setTop (mkF mM 25 #[.val (.ref a), .val (.ref b), .val (.ref b)] [(.int y0), (.int x0)])) _
      refine XS.icmpYes X11.here hx rfl (pc0 := 25) (pc' := 54) rfl (hb hby d5_25) rfl (feq hc25_13).2 (by decide) (by decide) ?_
      show Steps pP.tables eE below (T11.setTop (mkF mM 54 #[.val (.ref a), .val (.ref b), .val (.ref b)] [])) _
      refine XS.iconst X11.here hx rfl (hb hby d5_54) ?_
      exact kg)
    obtain ⟨fs, hr, hrun, hended, hW, hsame⟩ := X11.leave (v := some (.int (0 : Int32))) (fun h => by rw [Bd.returns] at h; cases h)
    refine ⟨_, _, pr31 _ (retOut X11 hx (t := .boolean) Bd.returns rfl (Or.inl ⟨rfl, Or.inr (Or.inl rfl), _, rfl⟩) (hb hby d5_55) hr), hrun, hended, _, _, rfl, ?_, ⟨_, rfl⟩, hW, hsame.mono (by decide) (by decide)⟩
    show Q5 Z a b x0 x1 x2 y0 y1 y2 h0 n0 _ T11.heap _
    rw [e11]
    exact ⟨_, rfl, by rw [if_neg hc25_13], N0, rfl⟩
theorem d6_0 : decode prog_2_method_7_code 0 = .ok (.aload_n 1, 1) := by decide +kernel
theorem d6_1 : decode prog_2_method_7_code 1 = .ok (.instanceof 8, 3) := by decide +kernel
theorem d6_4 : decode prog_2_method_7_code 4 = .ok (.ifCond .eq 11, 3) := by decide +kernel
theorem d6_15 : decode prog_2_method_7_code 15 = .ok (.iconst 0, 1) := by decide +kernel
theorem d6_16 : decode prog_2_method_7_code 16 = .ok (.ireturn, 1) := by decide +kernel
theorem ef_6 (mM : MethodId) (x0 : Addr) : entryFrame mM #[(.ref x0), .null] 3 = mkF mM 0 #[.val (.ref x0), .val .null, .unset] [] := by first | (simp [entryFrame, mkF, argsToLocals, Value.category]; done) | rfl
def Q6 (Z : State) (a : Addr) (h0 : Heap) (n0 : Nat) (v : Option Value) (h : Heap) (L : List Loc) : Prop := v = some (.int (0 : Int32)) ∧ Fr n0 L ∧ h = h0
set_option maxRecDepth 65536 in
set_option maxHeartbeats 40000000 in
theorem rm6 (l : Launch) (Z : State) (a0 : Array Value) (hw : ∀ d ∈ tables_1, d.before a0 Z = true) (ws : List Jvm.Cond) (a : Addr) (h0 : Heap) (n0 : Nat) (Z0 : n0 ≤ h0.size) :
    MetFree l (⟨"com/example/refine/refine/aut/AutHeader", "equals", "(Ljava/lang/Object;)Z"⟩ : MethodName) (head1 (Jvm.Cond.code (⟨"com/example/refine/refine/aut/AutHeader", "equals", "(Ljava/lang/Object;)Z"⟩ : MethodName) prog_2_method_7_code 3 (some .boolean) :: ws) ({ frames := 0, cells := 0, slots := 0, locals := 0 } : Room)) (fun aA uU => aA = #[(.ref a), .null] ∧ Z.Warmed39 uU.vm ∧ uU.heap = h0) (fun _ _ _ _ _ => True) (fun _ uU oO uU' => ∃ vV lL, oO = .returned vV ∧ Q6 Z a h0 n0 vV uU'.heap lL ∧ FrameEnd uU oO uU' lL ({ frames := 0, cells := 0, slots := 0, locals := 0 } : Room).cells ({ frames := 0, cells := 0, slots := 0, locals := 0 } : Room).slots) := by
  refine MetFree.of_bodySF (plainFor_of_name pn_0) hisR ?_
  intro pP eE sS mM args below meth cC s₁ Bd hml0 hP hK
  obtain ⟨rfl, hZ, hh⟩ := hP
  have hx := Bd.exec
  have hby := Bd.bytes
  have hml : cC.maxLocals = 3 := hml0
  have hown : sS.vm.findClass "com/example/refine/refine/aut/AutHeader" = some mM.cls := findClass_of_methodNamed Bd.named
  have hnm := (name_of_methodNamed Bd.named Bd.method).1
  have X0 : Stand pP l eE ({ frames := 0, cells := 0, slots := 0, locals := 0 } : Room) sS mM #[(.ref a), .null] below meth cC s₁ [] 0 0 := Stand.of_body Bd
  have e0 : s₁.heap = h0 := by rw [← hh, Bd.state]; rfl
  have N0 := Fr.nil n0
  have pre0 : ∀ tg, Steps pP.tables eE below (s₁.setTop (mkF mM 0 #[.val (.ref a), .val .null, .unset] [])) tg → Steps pP.tables eE below (s₁.setTop (entryFrame mM #[(.ref a), .null] 3)) tg := fun tg kg => castTop (ef_6 mM a) kg
  have pr1 : ∀ tg, Steps pP.tables eE below (s₁.setTop (mkF mM 16 #[.val (.ref a), .val .null, .unset] [(.int (0 : Int32))])) tg → Steps pP.tables eE below (s₁.setTop (entryFrame mM #[(.ref a), .null] 3)) tg := fun tg kg => pre0 _ (by
    show Steps pP.tables eE below (s₁.setTop (mkF mM 0 #[.val (.ref a), .val .null, .unset] [])) _
    refine XS.aloadN X0.here hx rfl (hb hby d6_0) rfl rfl ?_
    show Steps pP.tables eE below (s₁.setTop (mkF mM 1 #[.val (.ref a), .val .null, .unset] [.null])) _
    refine X0.instanceofNull hx (g := (mkF mM 1 #[.val (.ref a), .val .null, .unset] [.null])) rfl rfl (hb hby d6_1) _ ?_
    show Steps pP.tables eE below (s₁.setTop (mkF mM 4 #[.val (.ref a), .val .null, .unset] [(.int (0 : Int32))])) _
    refine XS.ifYes X0.here hx rfl (pc0 := 4) (pc' := 15) rfl (hb hby d6_4) rfl ((if0 _ _).trans (teq (by decide)).1) (by decide) (by decide) ?_
    show Steps pP.tables eE below (s₁.setTop (mkF mM 15 #[.val (.ref a), .val .null, .unset] [])) _
    refine XS.iconst X0.here hx rfl (hb hby d6_15) ?_
    exact kg)
  obtain ⟨fs, hr, hrun, hended, hW, hsame⟩ := X0.leave (v := some (.int (0 : Int32))) (fun h => by rw [Bd.returns] at h; cases h)
  refine ⟨_, _, pr1 _ (retOut X0 hx (t := .boolean) Bd.returns rfl (Or.inl ⟨rfl, Or.inr (Or.inl rfl), _, rfl⟩) (hb hby d6_16) hr), hrun, hended, _, _, rfl, ?_, ⟨_, rfl⟩, hW, hsame.mono (by decide) (by decide)⟩
  show Q6 Z a h0 n0 _ s₁.heap _
  rw [e0]
  exact ⟨rfl, N0, rfl⟩
theorem d7_0 : decode prog_2_method_7_code 0 = .ok (.aload_n 1, 1) := by decide +kernel
theorem d7_1 : decode prog_2_method_7_code 1 = .ok (.instanceof 8, 3) := by decide +kernel
theorem d7_4 : decode prog_2_method_7_code 4 = .ok (.ifCond .eq 11, 3) := by decide +kernel
theorem d7_15 : decode prog_2_method_7_code 15 = .ok (.iconst 0, 1) := by decide +kernel
theorem d7_16 : decode prog_2_method_7_code 16 = .ok (.ireturn, 1) := by decide +kernel
theorem ef_7 (mM : MethodId) (x0 : Addr) (x1 : Addr) : entryFrame mM #[(.ref x0), (.ref x1)] 3 = mkF mM 0 #[.val (.ref x0), .val (.ref x1), .unset] [] := by first | (simp [entryFrame, mkF, argsToLocals, Value.category]; done) | rfl
def Q7 (Z : State) (a : Addr) (b : Addr) (h0 : Heap) (n0 : Nat) (v : Option Value) (h : Heap) (L : List Loc) : Prop := v = some (.int (0 : Int32)) ∧ Fr n0 L ∧ h = h0
set_option maxRecDepth 65536 in
set_option maxHeartbeats 40000000 in
theorem rm7 (l : Launch) (Z : State) (a0 : Array Value) (hw : ∀ d ∈ tables_1, d.before a0 Z = true) (ws : List Jvm.Cond) (a : Addr) (b : Addr) (h0 : Heap) (n0 : Nat) (Z0 : n0 ≤ h0.size) (E_b : Exa Z h0 b "java/lang/Integer") :
    MetFree l (⟨"com/example/refine/refine/aut/AutHeader", "equals", "(Ljava/lang/Object;)Z"⟩ : MethodName) (head1 (Jvm.Cond.code (⟨"com/example/refine/refine/aut/AutHeader", "equals", "(Ljava/lang/Object;)Z"⟩ : MethodName) prog_2_method_7_code 3 (some .boolean) :: ws) ({ frames := 0, cells := 0, slots := 0, locals := 0 } : Room)) (fun aA uU => aA = #[(.ref a), (.ref b)] ∧ Z.Warmed39 uU.vm ∧ uU.heap = h0) (fun _ _ _ _ _ => True) (fun _ uU oO uU' => ∃ vV lL, oO = .returned vV ∧ Q7 Z a b h0 n0 vV uU'.heap lL ∧ FrameEnd uU oO uU' lL ({ frames := 0, cells := 0, slots := 0, locals := 0 } : Room).cells ({ frames := 0, cells := 0, slots := 0, locals := 0 } : Room).slots) := by
  refine MetFree.of_bodySF (plainFor_of_name pn_0) hisR ?_
  intro pP eE sS mM args below meth cC s₁ Bd hml0 hP hK
  obtain ⟨rfl, hZ, hh⟩ := hP
  have hx := Bd.exec
  have hby := Bd.bytes
  have hml : cC.maxLocals = 3 := hml0
  have hown : sS.vm.findClass "com/example/refine/refine/aut/AutHeader" = some mM.cls := findClass_of_methodNamed Bd.named
  have hnm := (name_of_methodNamed Bd.named Bd.method).1
  have X0 : Stand pP l eE ({ frames := 0, cells := 0, slots := 0, locals := 0 } : Room) sS mM #[(.ref a), (.ref b)] below meth cC s₁ [] 0 0 := Stand.of_body Bd
  have e0 : s₁.heap = h0 := by rw [← hh, Bd.state]; rfl
  have N0 := Fr.nil n0
  have pre0 : ∀ tg, Steps pP.tables eE below (s₁.setTop (mkF mM 0 #[.val (.ref a), .val (.ref b), .unset] [])) tg → Steps pP.tables eE below (s₁.setTop (entryFrame mM #[(.ref a), (.ref b)] 3)) tg := fun tg kg => castTop (ef_7 mM a b) kg
  have pr1 : ∀ tg, Steps pP.tables eE below (s₁.setTop (mkF mM 1 #[.val (.ref a), .val (.ref b), .unset] [(.ref b)])) tg → Steps pP.tables eE below (s₁.setTop (entryFrame mM #[(.ref a), (.ref b)] 3)) tg := fun tg kg => pre0 _ (by
    show Steps pP.tables eE below (s₁.setTop (mkF mM 0 #[.val (.ref a), .val (.ref b), .unset] [])) _
    refine XS.aloadN X0.here hx rfl (hb hby d7_0) rfl rfl ?_
    exact kg)
  obtain ⟨T2, X2, e2, st2⟩ := instNo X0 hx hZ hown (hw _ (List.mem_of_getElem? (i := 20) rfl)) e0 E_b (own_noinst (hw _ (List.mem_of_getElem? (i := 41) rfl)) (hw _ (List.mem_of_getElem? (i := 1) rfl)) (NS.step (hw _ (List.mem_of_getElem? (i := 41) rfl)) (NS.step (hw _ (List.mem_of_getElem? (i := 42) rfl)) (own_ns (hw _ (List.mem_of_getElem? (i := 43) rfl)) (hw _ (List.mem_of_getElem? (i := 1) rfl)) (by decide)) (by decide)) (by decide)) (by decide)) (g := (mkF mM 1 #[.val (.ref a), .val (.ref b), .unset] [(.ref b)])) rfl rfl (hb hby d7_1)
  have pr3 : ∀ tg, Steps pP.tables eE below (T2.setTop (mkF mM 4 #[.val (.ref a), .val (.ref b), .unset] [(.int (0 : Int32))])) tg → Steps pP.tables eE below (s₁.setTop (entryFrame mM #[(.ref a), (.ref b)] 3)) tg := fun tg kg => pr1 _ (st2 _ kg)
  have pr4 : ∀ tg, Steps pP.tables eE below (T2.setTop (mkF mM 16 #[.val (.ref a), .val (.ref b), .unset] [(.int (0 : Int32))])) tg → Steps pP.tables eE below (s₁.setTop (entryFrame mM #[(.ref a), (.ref b)] 3)) tg := fun tg kg => pr3 _ (by
    show Steps pP.tables eE below (T2.setTop (mkF mM 4 #[.val (.ref a), .val (.ref b), .unset] [(.int (0 : Int32))])) _
    refine XS.ifYes X2.here hx rfl (pc0 := 4) (pc' := 15) rfl (hb hby d7_4) rfl ((if0 _ _).trans (teq (by decide)).1) (by decide) (by decide) ?_
    show Steps pP.tables eE below (T2.setTop (mkF mM 15 #[.val (.ref a), .val (.ref b), .unset] [])) _
    refine XS.iconst X2.here hx rfl (hb hby d7_15) ?_
    exact kg)
  obtain ⟨fs, hr, hrun, hended, hW, hsame⟩ := X2.leave (v := some (.int (0 : Int32))) (fun h => by rw [Bd.returns] at h; cases h)
  refine ⟨_, _, pr4 _ (retOut X2 hx (t := .boolean) Bd.returns rfl (Or.inl ⟨rfl, Or.inr (Or.inl rfl), _, rfl⟩) (hb hby d7_16) hr), hrun, hended, _, _, rfl, ?_, ⟨_, rfl⟩, hW, hsame.mono (by decide) (by decide)⟩
  show Q7 Z a b h0 n0 _ T2.heap _
  rw [e2]
  exact ⟨rfl, N0, rfl⟩
theorem pd_2 : parseMethodDescriptor "(III)V" = some ⟨[.int, .int, .int], none⟩ := by decide +kernel
theorem pd_3 : parseMethodDescriptor "(Ljava/lang/Object;)Z" = some ⟨[(.object "java/lang/Object")], some .boolean⟩ := by decide +kernel
theorem pd_4 : parseMethodDescriptor "(I)Ljava/lang/Integer;" = some ⟨[.int], some (.object "java/lang/Integer")⟩ := by decide +kernel
theorem pn_3 : plainName "com/example/refine/refine/aut/AutHeaderEqualsPinLaw" = true := by first | (simp [plainName, overriddenIn]; done) | decide +kernel
theorem ef_0 (mM : MethodId) (x0 : Int32) (x1 : Int32) (x2 : Int32) (x3 : Int32) (x4 : Int32) (x5 : Int32) : entryFrame mM #[(.int x0), (.int x1), (.int x2), (.int x3), (.int x4), (.int x5)] maxLocals = mkF mM 0 #[.val (.int x0), .val (.int x1), .val (.int x2), .val (.int x3), .val (.int x4), .val (.int x5), .unset, .unset, .unset, .unset, .unset, .unset, .unset, .unset, .unset] [] := by first | (simp [entryFrame, mkF, argsToLocals, Value.category, maxLocals]; done) | rfl
def Q0 (Z : State) (av : Int32) (bv : Int32) (cv : Int32) (xv : Int32) (yv : Int32) (sel : Int32) (ca : Addr) (cc : Cell) (h0 : Heap) (n0 : Nat) (v : Option Value) (h : Heap) (L : List Loc) : Prop := v = some (.int (1 : Int32)) ∧ Fr n0 L
set_option maxRecDepth 65536 in
set_option maxHeartbeats 40000000 in
theorem rm0 (l : Launch) (Z : State) (a0 : Array Value) (hw : ∀ d ∈ tables_1, d.before a0 Z = true) (ws : List Jvm.Cond) (av : Int32) (bv : Int32) (cv : Int32) (xv : Int32) (yv : Int32) (sel : Int32) (ca : Addr) (cc : Cell) (h0 : Heap) (n0 : Nat) (Z0 : n0 ≤ h0.size) (O : Old Z n0 h0) (S_cache : Sta Z Z.heap "java/lang/Integer$IntegerCache" "cache" "[Ljava/lang/Integer;" (.ref ca)) (B : Bxs Z ca cc "java/lang/Integer" "I" (256 : Int32) (fun j : Int32 => Value.int (j - 128))) (S_high : Sta Z Z.heap "java/lang/Integer$IntegerCache" "high" "I" (.int (127 : Int32))) :
    MetFree l x (head1 (Jvm.Cond.code x code maxLocals ret :: ws) room_1) (fun aA uU => aA = #[(.int av), (.int bv), (.int cv), (.int xv), (.int yv), (.int sel)] ∧ Z.Warmed39 uU.vm ∧ uU.heap = h0) (fun _ _ _ _ _ => True) (fun _ uU oO uU' => ∃ vV lL, oO = .returned vV ∧ Q0 Z av bv cv xv yv sel ca cc h0 n0 vV uU'.heap lL ∧ FrameEnd uU oO uU' lL room_1.cells room_1.slots) := by
  refine MetFree.of_bodySF (plainFor_of_name pn_3) hisR ?_
  intro pP eE sS mM args below meth cC s₁ Bd hml0 hP hK
  obtain ⟨rfl, hZ, hh⟩ := hP
  have hx := Bd.exec
  have hby := Bd.bytes
  have hml : cC.maxLocals = 15 := hml0
  have hown : sS.vm.findClass "com/example/refine/refine/aut/AutHeaderEqualsPinLaw" = some mM.cls := findClass_of_methodNamed Bd.named
  have hnm := (name_of_methodNamed Bd.named Bd.method).1
  have X0 : Stand pP l eE room_1 sS mM #[(.int av), (.int bv), (.int cv), (.int xv), (.int yv), (.int sel)] below meth cC s₁ [] 0 0 := Stand.of_body Bd
  have e0 : s₁.heap = h0 := by rw [← hh, Bd.state]; rfl
  have N0 := Fr.nil n0
  have pre0 : ∀ tg, Steps pP.tables eE below (s₁.setTop (mkF mM 0 #[.val (.int av), .val (.int bv), .val (.int cv), .val (.int xv), .val (.int yv), .val (.int sel), .unset, .unset, .unset, .unset, .unset, .unset, .unset, .unset, .unset] [])) tg → Steps pP.tables eE below (s₁.setTop (entryFrame mM #[(.int av), (.int bv), (.int cv), (.int xv), (.int yv), (.int sel)] maxLocals)) tg := fun tg kg => castTop (ef_0 mM av bv cv xv yv sel) kg
  have pr1 : ∀ tg, Steps pP.tables eE below (s₁.setTop (mkF mM 4 #[.val (.int av), .val (.int bv), .val (.int cv), .val (.int xv), .val (.int yv), .val (.int sel), .unset, .unset, .unset, .unset, .unset, .unset, .unset, .unset, .unset] [(.int (sel &&& (1 : Int32)))])) tg → Steps pP.tables eE below (s₁.setTop (entryFrame mM #[(.int av), (.int bv), (.int cv), (.int xv), (.int yv), (.int sel)] maxLocals)) tg := fun tg kg => pre0 _ (by
    show Steps pP.tables eE below (s₁.setTop (mkF mM 0 #[.val (.int av), .val (.int bv), .val (.int cv), .val (.int xv), .val (.int yv), .val (.int sel), .unset, .unset, .unset, .unset, .unset, .unset, .unset, .unset, .unset] [])) _
    refine XS.iload X0.here hx rfl (hb hby at_0) rfl ?_
    show Steps pP.tables eE below (s₁.setTop (mkF mM 2 #[.val (.int av), .val (.int bv), .val (.int cv), .val (.int xv), .val (.int yv), .val (.int sel), .unset, .unset, .unset, .unset, .unset, .unset, .unset, .unset, .unset] [(.int sel)])) _
    refine XS.iconst X0.here hx rfl (hb hby at_2) ?_
    show Steps pP.tables eE below (s₁.setTop (mkF mM 3 #[.val (.int av), .val (.int bv), .val (.int cv), .val (.int xv), .val (.int yv), .val (.int sel), .unset, .unset, .unset, .unset, .unset, .unset, .unset, .unset, .unset] [(.int (1 : Int32)), (.int sel)])) _
    refine XS.iand X0.here hx rfl (hb hby at_3) rfl ?_
    exact kg)
  obtain ⟨j3, hj3, st4⟩ : ∃ (j3 : Int32), j3 = (if (sel &&& (1 : Int32)) = (0 : Int32) then xv else av) ∧ ∀ tg, Steps pP.tables eE below (s₁.setTop (mkF mM 12 #[.val (.int av), .val (.int bv), .val (.int cv), .val (.int xv), .val (.int yv), .val (.int sel), .unset, .unset, .unset, .unset, .unset, .unset, .unset, .unset, .unset] [(.int j3)])) tg → Steps pP.tables eE below (s₁.setTop (mkF mM 4 #[.val (.int av), .val (.int bv), .val (.int cv), .val (.int xv), .val (.int yv), .val (.int sel), .unset, .unset, .unset, .unset, .unset, .unset, .unset, .unset, .unset] [(.int (sel &&& (1 : Int32)))])) tg := by
    by_cases hj4_2 : (sel &&& (1 : Int32)) = (0 : Int32)
    ·
      refine ⟨xv, (by rw [if_pos hj4_2]), fun tg kg => ?_⟩
      show Steps pP.tables eE below (s₁.setTop (mkF mM 4 #[.val (.int av), .val (.int bv), .val (.int cv), .val (.int xv), .val (.int yv), .val (.int sel), .unset, .unset, .unset, .unset, .unset, .unset, .unset, .unset, .unset] [(.int (sel &&& (1 : Int32)))])) _
      refine XS.ifYes X0.here hx rfl (pc0 := 4) (pc' := 11) rfl (hb hby at_4) rfl ((if0 _ _).trans (teq hj4_2).1) (by decide) (by decide) ?_
      show Steps pP.tables eE below (s₁.setTop (mkF mM 11 #[.val (.int av), .val (.int bv), .val (.int cv), .val (.int xv), .val (.int yv), .val (.int sel), .unset, .unset, .unset, .unset, .unset, .unset, .unset, .unset, .unset] [])) _
      refine XS.iloadN X0.here hx rfl (hb hby at_11) rfl ?_
      exact kg
    ·
      refine ⟨av, (by rw [if_neg hj4_2]), fun tg kg => ?_⟩
      show Steps pP.tables eE below (s₁.setTop (mkF mM 4 #[.val (.int av), .val (.int bv), .val (.int cv), .val (.int xv), .val (.int yv), .val (.int sel), .unset, .unset, .unset, .unset, .unset, .unset, .unset, .unset, .unset] [(.int (sel &&& (1 : Int32)))])) _
      refine XS.ifNo X0.here hx rfl (hb hby at_4) rfl ((if0 _ _).trans (feq hj4_2).1) ?_
      show Steps pP.tables eE below (s₁.setTop (mkF mM 7 #[.val (.int av), .val (.int bv), .val (.int cv), .val (.int xv), .val (.int yv), .val (.int sel), .unset, .unset, .unset, .unset, .unset, .unset, .unset, .unset, .unset] [])) _
      refine XS.iloadN X0.here hx rfl (hb hby at_7) rfl ?_
      show Steps pP.tables eE below (s₁.setTop (mkF mM 8 #[.val (.int av), .val (.int bv), .val (.int cv), .val (.int xv), .val (.int yv), .val (.int sel), .unset, .unset, .unset, .unset, .unset, .unset, .unset, .unset, .unset] [(.int av)])) _
      refine XS.goto X0.here hx rfl (pc0 := 8) (pc' := 12) rfl (hb hby at_8) (by decide) (by decide) ?_
      exact kg
  have pr5 : ∀ tg, Steps pP.tables eE below (s₁.setTop (mkF mM 12 #[.val (.int av), .val (.int bv), .val (.int cv), .val (.int xv), .val (.int yv), .val (.int sel), .unset, .unset, .unset, .unset, .unset, .unset, .unset, .unset, .unset] [(.int j3)])) tg → Steps pP.tables eE below (s₁.setTop (entryFrame mM #[(.int av), (.int bv), (.int cv), (.int xv), (.int yv), (.int sel)] maxLocals)) tg := fun tg kg => pr1 _ (st4 _ kg)
  have pr6 : ∀ tg, Steps pP.tables eE below (s₁.setTop (mkF mM 18 #[.val (.int av), .val (.int bv), .val (.int cv), .val (.int xv), .val (.int yv), .val (.int sel), .val (.int j3), .unset, .unset, .unset, .unset, .unset, .unset, .unset, .unset] [(.int (sel &&& (2 : Int32)))])) tg → Steps pP.tables eE below (s₁.setTop (entryFrame mM #[(.int av), (.int bv), (.int cv), (.int xv), (.int yv), (.int sel)] maxLocals)) tg := fun tg kg => pr5 _ (by
    show Steps pP.tables eE below (s₁.setTop (mkF mM 12 #[.val (.int av), .val (.int bv), .val (.int cv), .val (.int xv), .val (.int yv), .val (.int sel), .unset, .unset, .unset, .unset, .unset, .unset, .unset, .unset, .unset] [(.int j3)])) _
    refine XS.istore X0.here hx rfl (hb hby at_12) rfl (l' := #[.val (.int av), .val (.int bv), .val (.int cv), .val (.int xv), .val (.int yv), .val (.int sel), .val (.int j3), .unset, .unset, .unset, .unset, .unset, .unset, .unset, .unset]) rfl ?_
    show Steps pP.tables eE below (s₁.setTop (mkF mM 14 #[.val (.int av), .val (.int bv), .val (.int cv), .val (.int xv), .val (.int yv), .val (.int sel), .val (.int j3), .unset, .unset, .unset, .unset, .unset, .unset, .unset, .unset] [])) _
    refine XS.iload X0.here hx rfl (hb hby at_14) rfl ?_
    show Steps pP.tables eE below (s₁.setTop (mkF mM 16 #[.val (.int av), .val (.int bv), .val (.int cv), .val (.int xv), .val (.int yv), .val (.int sel), .val (.int j3), .unset, .unset, .unset, .unset, .unset, .unset, .unset, .unset] [(.int sel)])) _
    refine XS.iconst X0.here hx rfl (hb hby at_16) ?_
    show Steps pP.tables eE below (s₁.setTop (mkF mM 17 #[.val (.int av), .val (.int bv), .val (.int cv), .val (.int xv), .val (.int yv), .val (.int sel), .val (.int j3), .unset, .unset, .unset, .unset, .unset, .unset, .unset, .unset] [(.int (2 : Int32)), (.int sel)])) _
    refine XS.iand X0.here hx rfl (hb hby at_17) rfl ?_
    exact kg)
  obtain ⟨j8, hj8, st9⟩ : ∃ (j8 : Int32), j8 = (if (sel &&& (2 : Int32)) = (0 : Int32) then yv else bv) ∧ ∀ tg, Steps pP.tables eE below (s₁.setTop (mkF mM 27 #[.val (.int av), .val (.int bv), .val (.int cv), .val (.int xv), .val (.int yv), .val (.int sel), .val (.int j3), .unset, .unset, .unset, .unset, .unset, .unset, .unset, .unset] [(.int j8)])) tg → Steps pP.tables eE below (s₁.setTop (mkF mM 18 #[.val (.int av), .val (.int bv), .val (.int cv), .val (.int xv), .val (.int yv), .val (.int sel), .val (.int j3), .unset, .unset, .unset, .unset, .unset, .unset, .unset, .unset] [(.int (sel &&& (2 : Int32)))])) tg := by
    by_cases hj18_7 : (sel &&& (2 : Int32)) = (0 : Int32)
    ·
      refine ⟨yv, (by rw [if_pos hj18_7]), fun tg kg => ?_⟩
      show Steps pP.tables eE below (s₁.setTop (mkF mM 18 #[.val (.int av), .val (.int bv), .val (.int cv), .val (.int xv), .val (.int yv), .val (.int sel), .val (.int j3), .unset, .unset, .unset, .unset, .unset, .unset, .unset, .unset] [(.int (sel &&& (2 : Int32)))])) _
      refine XS.ifYes X0.here hx rfl (pc0 := 18) (pc' := 25) rfl (hb hby at_18) rfl ((if0 _ _).trans (teq hj18_7).1) (by decide) (by decide) ?_
      show Steps pP.tables eE below (s₁.setTop (mkF mM 25 #[.val (.int av), .val (.int bv), .val (.int cv), .val (.int xv), .val (.int yv), .val (.int sel), .val (.int j3), .unset, .unset, .unset, .unset, .unset, .unset, .unset, .unset] [])) _
      refine XS.iload X0.here hx rfl (hb hby at_25) rfl ?_
      exact kg
    ·
      refine ⟨bv, (by rw [if_neg hj18_7]), fun tg kg => ?_⟩
      show Steps pP.tables eE below (s₁.setTop (mkF mM 18 #[.val (.int av), .val (.int bv), .val (.int cv), .val (.int xv), .val (.int yv), .val (.int sel), .val (.int j3), .unset, .unset, .unset, .unset, .unset, .unset, .unset, .unset] [(.int (sel &&& (2 : Int32)))])) _
      refine XS.ifNo X0.here hx rfl (hb hby at_18) rfl ((if0 _ _).trans (feq hj18_7).1) ?_
      show Steps pP.tables eE below (s₁.setTop (mkF mM 21 #[.val (.int av), .val (.int bv), .val (.int cv), .val (.int xv), .val (.int yv), .val (.int sel), .val (.int j3), .unset, .unset, .unset, .unset, .unset, .unset, .unset, .unset] [])) _
      refine XS.iloadN X0.here hx rfl (hb hby at_21) rfl ?_
      show Steps pP.tables eE below (s₁.setTop (mkF mM 22 #[.val (.int av), .val (.int bv), .val (.int cv), .val (.int xv), .val (.int yv), .val (.int sel), .val (.int j3), .unset, .unset, .unset, .unset, .unset, .unset, .unset, .unset] [(.int bv)])) _
      refine XS.goto X0.here hx rfl (pc0 := 22) (pc' := 27) rfl (hb hby at_22) (by decide) (by decide) ?_
      exact kg
  have pr10 : ∀ tg, Steps pP.tables eE below (s₁.setTop (mkF mM 27 #[.val (.int av), .val (.int bv), .val (.int cv), .val (.int xv), .val (.int yv), .val (.int sel), .val (.int j3), .unset, .unset, .unset, .unset, .unset, .unset, .unset, .unset] [(.int j8)])) tg → Steps pP.tables eE below (s₁.setTop (entryFrame mM #[(.int av), (.int bv), (.int cv), (.int xv), (.int yv), (.int sel)] maxLocals)) tg := fun tg kg => pr6 _ (st9 _ kg)
  have pr11 : ∀ tg, Steps pP.tables eE below (s₁.setTop (mkF mM 33 #[.val (.int av), .val (.int bv), .val (.int cv), .val (.int xv), .val (.int yv), .val (.int sel), .val (.int j3), .val (.int j8), .unset, .unset, .unset, .unset, .unset, .unset, .unset] [(.int (sel &&& (4 : Int32)))])) tg → Steps pP.tables eE below (s₁.setTop (entryFrame mM #[(.int av), (.int bv), (.int cv), (.int xv), (.int yv), (.int sel)] maxLocals)) tg := fun tg kg => pr10 _ (by
    show Steps pP.tables eE below (s₁.setTop (mkF mM 27 #[.val (.int av), .val (.int bv), .val (.int cv), .val (.int xv), .val (.int yv), .val (.int sel), .val (.int j3), .unset, .unset, .unset, .unset, .unset, .unset, .unset, .unset] [(.int j8)])) _
    refine XS.istore X0.here hx rfl (hb hby at_27) rfl (l' := #[.val (.int av), .val (.int bv), .val (.int cv), .val (.int xv), .val (.int yv), .val (.int sel), .val (.int j3), .val (.int j8), .unset, .unset, .unset, .unset, .unset, .unset, .unset]) rfl ?_
    show Steps pP.tables eE below (s₁.setTop (mkF mM 29 #[.val (.int av), .val (.int bv), .val (.int cv), .val (.int xv), .val (.int yv), .val (.int sel), .val (.int j3), .val (.int j8), .unset, .unset, .unset, .unset, .unset, .unset, .unset] [])) _
    refine XS.iload X0.here hx rfl (hb hby at_29) rfl ?_
    show Steps pP.tables eE below (s₁.setTop (mkF mM 31 #[.val (.int av), .val (.int bv), .val (.int cv), .val (.int xv), .val (.int yv), .val (.int sel), .val (.int j3), .val (.int j8), .unset, .unset, .unset, .unset, .unset, .unset, .unset] [(.int sel)])) _
    refine XS.iconst X0.here hx rfl (hb hby at_31) ?_
    show Steps pP.tables eE below (s₁.setTop (mkF mM 32 #[.val (.int av), .val (.int bv), .val (.int cv), .val (.int xv), .val (.int yv), .val (.int sel), .val (.int j3), .val (.int j8), .unset, .unset, .unset, .unset, .unset, .unset, .unset] [(.int (4 : Int32)), (.int sel)])) _
    refine XS.iand X0.here hx rfl (hb hby at_32) rfl ?_
    exact kg)
  obtain ⟨j13, hj13, st14⟩ : ∃ (j13 : Int32), j13 = (if (sel &&& (4 : Int32)) = (0 : Int32) then (cv ^^^ (sel >>> ((5 : Int32) &&& 31))) else cv) ∧ ∀ tg, Steps pP.tables eE below (s₁.setTop (mkF mM 46 #[.val (.int av), .val (.int bv), .val (.int cv), .val (.int xv), .val (.int yv), .val (.int sel), .val (.int j3), .val (.int j8), .unset, .unset, .unset, .unset, .unset, .unset, .unset] [(.int j13)])) tg → Steps pP.tables eE below (s₁.setTop (mkF mM 33 #[.val (.int av), .val (.int bv), .val (.int cv), .val (.int xv), .val (.int yv), .val (.int sel), .val (.int j3), .val (.int j8), .unset, .unset, .unset, .unset, .unset, .unset, .unset] [(.int (sel &&& (4 : Int32)))])) tg := by
    by_cases hj33_12 : (sel &&& (4 : Int32)) = (0 : Int32)
    ·
      refine ⟨(cv ^^^ (sel >>> ((5 : Int32) &&& 31))), (by rw [if_pos hj33_12]), fun tg kg => ?_⟩
      show Steps pP.tables eE below (s₁.setTop (mkF mM 33 #[.val (.int av), .val (.int bv), .val (.int cv), .val (.int xv), .val (.int yv), .val (.int sel), .val (.int j3), .val (.int j8), .unset, .unset, .unset, .unset, .unset, .unset, .unset] [(.int (sel &&& (4 : Int32)))])) _
      refine XS.ifYes X0.here hx rfl (pc0 := 33) (pc' := 40) rfl (hb hby at_33) rfl ((if0 _ _).trans (teq hj33_12).1) (by decide) (by decide) ?_
      show Steps pP.tables eE below (s₁.setTop (mkF mM 40 #[.val (.int av), .val (.int bv), .val (.int cv), .val (.int xv), .val (.int yv), .val (.int sel), .val (.int j3), .val (.int j8), .unset, .unset, .unset, .unset, .unset, .unset, .unset] [])) _
      refine XS.iloadN X0.here hx rfl (hb hby at_40) rfl ?_
      show Steps pP.tables eE below (s₁.setTop (mkF mM 41 #[.val (.int av), .val (.int bv), .val (.int cv), .val (.int xv), .val (.int yv), .val (.int sel), .val (.int j3), .val (.int j8), .unset, .unset, .unset, .unset, .unset, .unset, .unset] [(.int cv)])) _
      refine XS.iload X0.here hx rfl (hb hby at_41) rfl ?_
      show Steps pP.tables eE below (s₁.setTop (mkF mM 43 #[.val (.int av), .val (.int bv), .val (.int cv), .val (.int xv), .val (.int yv), .val (.int sel), .val (.int j3), .val (.int j8), .unset, .unset, .unset, .unset, .unset, .unset, .unset] [(.int sel), (.int cv)])) _
      refine XS.iconst X0.here hx rfl (hb hby at_43) ?_
      show Steps pP.tables eE below (s₁.setTop (mkF mM 44 #[.val (.int av), .val (.int bv), .val (.int cv), .val (.int xv), .val (.int yv), .val (.int sel), .val (.int j3), .val (.int j8), .unset, .unset, .unset, .unset, .unset, .unset, .unset] [(.int (5 : Int32)), (.int sel), (.int cv)])) _
      refine XS.ishr X0.here hx rfl (hb hby at_44) rfl ?_
      show Steps pP.tables eE below (s₁.setTop (mkF mM 45 #[.val (.int av), .val (.int bv), .val (.int cv), .val (.int xv), .val (.int yv), .val (.int sel), .val (.int j3), .val (.int j8), .unset, .unset, .unset, .unset, .unset, .unset, .unset] [(.int (sel >>> ((5 : Int32) &&& 31))), (.int cv)])) _
      refine XS.ixor X0.here hx rfl (hb hby at_45) rfl ?_
      exact kg
    ·
      refine ⟨cv, (by rw [if_neg hj33_12]), fun tg kg => ?_⟩
      show Steps pP.tables eE below (s₁.setTop (mkF mM 33 #[.val (.int av), .val (.int bv), .val (.int cv), .val (.int xv), .val (.int yv), .val (.int sel), .val (.int j3), .val (.int j8), .unset, .unset, .unset, .unset, .unset, .unset, .unset] [(.int (sel &&& (4 : Int32)))])) _
      refine XS.ifNo X0.here hx rfl (hb hby at_33) rfl ((if0 _ _).trans (feq hj33_12).1) ?_
      show Steps pP.tables eE below (s₁.setTop (mkF mM 36 #[.val (.int av), .val (.int bv), .val (.int cv), .val (.int xv), .val (.int yv), .val (.int sel), .val (.int j3), .val (.int j8), .unset, .unset, .unset, .unset, .unset, .unset, .unset] [])) _
      refine XS.iloadN X0.here hx rfl (hb hby at_36) rfl ?_
      show Steps pP.tables eE below (s₁.setTop (mkF mM 37 #[.val (.int av), .val (.int bv), .val (.int cv), .val (.int xv), .val (.int yv), .val (.int sel), .val (.int j3), .val (.int j8), .unset, .unset, .unset, .unset, .unset, .unset, .unset] [(.int cv)])) _
      refine XS.goto X0.here hx rfl (pc0 := 37) (pc' := 46) rfl (hb hby at_37) (by decide) (by decide) ?_
      exact kg
  have pr15 : ∀ tg, Steps pP.tables eE below (s₁.setTop (mkF mM 46 #[.val (.int av), .val (.int bv), .val (.int cv), .val (.int xv), .val (.int yv), .val (.int sel), .val (.int j3), .val (.int j8), .unset, .unset, .unset, .unset, .unset, .unset, .unset] [(.int j13)])) tg → Steps pP.tables eE below (s₁.setTop (entryFrame mM #[(.int av), (.int bv), (.int cv), (.int xv), (.int yv), (.int sel)] maxLocals)) tg := fun tg kg => pr11 _ (st14 _ kg)
  have pr16 : ∀ tg, Steps pP.tables eE below (s₁.setTop (mkF mM 56 #[.val (.int av), .val (.int bv), .val (.int cv), .val (.int xv), .val (.int yv), .val (.int sel), .val (.int j3), .val (.int j8), .val (.int j13), .val (.int ((sel >>> ((3 : Int32) &&& 31)) &&& (3 : Int32))), .unset, .unset, .unset, .unset, .unset] [])) tg → Steps pP.tables eE below (s₁.setTop (entryFrame mM #[(.int av), (.int bv), (.int cv), (.int xv), (.int yv), (.int sel)] maxLocals)) tg := fun tg kg => pr15 _ (by
    show Steps pP.tables eE below (s₁.setTop (mkF mM 46 #[.val (.int av), .val (.int bv), .val (.int cv), .val (.int xv), .val (.int yv), .val (.int sel), .val (.int j3), .val (.int j8), .unset, .unset, .unset, .unset, .unset, .unset, .unset] [(.int j13)])) _
    refine XS.istore X0.here hx rfl (hb hby at_46) rfl (l' := #[.val (.int av), .val (.int bv), .val (.int cv), .val (.int xv), .val (.int yv), .val (.int sel), .val (.int j3), .val (.int j8), .val (.int j13), .unset, .unset, .unset, .unset, .unset, .unset]) rfl ?_
    show Steps pP.tables eE below (s₁.setTop (mkF mM 48 #[.val (.int av), .val (.int bv), .val (.int cv), .val (.int xv), .val (.int yv), .val (.int sel), .val (.int j3), .val (.int j8), .val (.int j13), .unset, .unset, .unset, .unset, .unset, .unset] [])) _
    refine XS.iload X0.here hx rfl (hb hby at_48) rfl ?_
    show Steps pP.tables eE below (s₁.setTop (mkF mM 50 #[.val (.int av), .val (.int bv), .val (.int cv), .val (.int xv), .val (.int yv), .val (.int sel), .val (.int j3), .val (.int j8), .val (.int j13), .unset, .unset, .unset, .unset, .unset, .unset] [(.int sel)])) _
    refine XS.iconst X0.here hx rfl (hb hby at_50) ?_
    show Steps pP.tables eE below (s₁.setTop (mkF mM 51 #[.val (.int av), .val (.int bv), .val (.int cv), .val (.int xv), .val (.int yv), .val (.int sel), .val (.int j3), .val (.int j8), .val (.int j13), .unset, .unset, .unset, .unset, .unset, .unset] [(.int (3 : Int32)), (.int sel)])) _
    refine XS.ishr X0.here hx rfl (hb hby at_51) rfl ?_
    show Steps pP.tables eE below (s₁.setTop (mkF mM 52 #[.val (.int av), .val (.int bv), .val (.int cv), .val (.int xv), .val (.int yv), .val (.int sel), .val (.int j3), .val (.int j8), .val (.int j13), .unset, .unset, .unset, .unset, .unset, .unset] [(.int (sel >>> ((3 : Int32) &&& 31)))])) _
    refine XS.iconst X0.here hx rfl (hb hby at_52) ?_
    show Steps pP.tables eE below (s₁.setTop (mkF mM 53 #[.val (.int av), .val (.int bv), .val (.int cv), .val (.int xv), .val (.int yv), .val (.int sel), .val (.int j3), .val (.int j8), .val (.int j13), .unset, .unset, .unset, .unset, .unset, .unset] [(.int (3 : Int32)), (.int (sel >>> ((3 : Int32) &&& 31)))])) _
    refine XS.iand X0.here hx rfl (hb hby at_53) rfl ?_
    show Steps pP.tables eE below (s₁.setTop (mkF mM 54 #[.val (.int av), .val (.int bv), .val (.int cv), .val (.int xv), .val (.int yv), .val (.int sel), .val (.int j3), .val (.int j8), .val (.int j13), .unset, .unset, .unset, .unset, .unset, .unset] [(.int ((sel >>> ((3 : Int32) &&& 31)) &&& (3 : Int32)))])) _
    refine XS.istore X0.here hx rfl (hb hby at_54) rfl (l' := #[.val (.int av), .val (.int bv), .val (.int cv), .val (.int xv), .val (.int yv), .val (.int sel), .val (.int j3), .val (.int j8), .val (.int j13), .val (.int ((sel >>> ((3 : Int32) &&& 31)) &&& (3 : Int32))), .unset, .unset, .unset, .unset, .unset]) rfl ?_
    exact kg)
  obtain ⟨z17, hz17⟩ : ∃ z, z = ((sel >>> ((3 : Int32) &&& 31)) &&& (3 : Int32)) := ⟨_, rfl⟩
  have pr18 : ∀ tg, Steps pP.tables eE below (s₁.setTop (mkF mM 56 #[.val (.int av), .val (.int bv), .val (.int cv), .val (.int xv), .val (.int yv), .val (.int sel), .val (.int j3), .val (.int j8), .val (.int j13), .val (.int z17), .unset, .unset, .unset, .unset, .unset] [])) tg → Steps pP.tables eE below (s₁.setTop (entryFrame mM #[(.int av), (.int bv), (.int cv), (.int xv), (.int yv), (.int sel)] maxLocals)) tg := by
    rw [hz17]; exact pr16
  obtain ⟨T19, h19, X19, e19, E19, A19, D19, -, st19⟩ := newO X0 hx hZ hown (hw _ (List.mem_of_getElem? (i := 0) rfl)) (hw _ (List.mem_of_getElem? (i := 1) rfl)) (hw _ (List.mem_of_getElem? (i := 2) rfl)) e0 (g := (mkF mM 56 #[.val (.int av), .val (.int bv), .val (.int cv), .val (.int xv), .val (.int yv), .val (.int sel), .val (.int j3), .val (.int j8), .val (.int j13), .val (.int z17), .unset, .unset, .unset, .unset, .unset] [])) rfl (hb hby at_56) (by decide) (by decide)
  obtain ⟨b19, g19⟩ : ∃ z, z = (h0).size := ⟨_, rfl⟩
  rw [← g19] at A19 D19 st19
  have gn20 : n0 ≤ b19 := Nat.le_trans Z0 (Nat.le_of_eq g19.symm)
  have gs21 : h0.size ≤ b19 := Nat.le_trans (Keep.refl h0 []).1 (Nat.le_of_eq g19.symm)
  have F19_initialState : Fld Z h19 b19 "com/example/refine/refine/aut/AutHeader" "initialState" "I" (.int (0 : Int32)) := D19 (Or.inr (hw _ (List.mem_of_getElem? (i := 10) rfl))) (ty := .int) (by decide)
  have F19_transitionCount : Fld Z h19 b19 "com/example/refine/refine/aut/AutHeader" "transitionCount" "I" (.int (0 : Int32)) := D19 (Or.inr (hw _ (List.mem_of_getElem? (i := 12) rfl))) (ty := .int) (by decide)
  have F19_stateCount : Fld Z h19 b19 "com/example/refine/refine/aut/AutHeader" "stateCount" "I" (.int (0 : Int32)) := D19 (Or.inr (hw _ (List.mem_of_getElem? (i := 14) rfl))) (ty := .int) (by decide)
  have pr22 : ∀ tg, Steps pP.tables eE below (T19.setTop (mkF mM 59 #[.val (.int av), .val (.int bv), .val (.int cv), .val (.int xv), .val (.int yv), .val (.int sel), .val (.int j3), .val (.int j8), .val (.int j13), .val (.int z17), .unset, .unset, .unset, .unset, .unset] [(.ref b19)])) tg → Steps pP.tables eE below (s₁.setTop (entryFrame mM #[(.int av), (.int bv), (.int cv), (.int xv), (.int yv), (.int sel)] maxLocals)) tg := fun tg kg => pr18 _ (st19 _ kg)
  have pr23 : ∀ tg, Steps pP.tables eE below (T19.setTop (mkF mM 63 #[.val (.int av), .val (.int bv), .val (.int cv), .val (.int xv), .val (.int yv), .val (.int sel), .val (.int j3), .val (.int j8), .val (.int j13), .val (.int z17), .unset, .unset, .unset, .unset, .unset] [(.int cv), (.int bv), (.int av), (.ref b19), (.ref b19)])) tg → Steps pP.tables eE below (s₁.setTop (entryFrame mM #[(.int av), (.int bv), (.int cv), (.int xv), (.int yv), (.int sel)] maxLocals)) tg := fun tg kg => pr22 _ (by
    show Steps pP.tables eE below (T19.setTop (mkF mM 59 #[.val (.int av), .val (.int bv), .val (.int cv), .val (.int xv), .val (.int yv), .val (.int sel), .val (.int j3), .val (.int j8), .val (.int j13), .val (.int z17), .unset, .unset, .unset, .unset, .unset] [(.ref b19)])) _
    refine XS.dup X19.here hx rfl (hb hby at_59) rfl rfl ?_
    show Steps pP.tables eE below (T19.setTop (mkF mM 60 #[.val (.int av), .val (.int bv), .val (.int cv), .val (.int xv), .val (.int yv), .val (.int sel), .val (.int j3), .val (.int j8), .val (.int j13), .val (.int z17), .unset, .unset, .unset, .unset, .unset] [(.ref b19), (.ref b19)])) _
    refine XS.iloadN X19.here hx rfl (hb hby at_60) rfl ?_
    show Steps pP.tables eE below (T19.setTop (mkF mM 61 #[.val (.int av), .val (.int bv), .val (.int cv), .val (.int xv), .val (.int yv), .val (.int sel), .val (.int j3), .val (.int j8), .val (.int j13), .val (.int z17), .unset, .unset, .unset, .unset, .unset] [(.int av), (.ref b19), (.ref b19)])) _
    refine XS.iloadN X19.here hx rfl (hb hby at_61) rfl ?_
    show Steps pP.tables eE below (T19.setTop (mkF mM 62 #[.val (.int av), .val (.int bv), .val (.int cv), .val (.int xv), .val (.int yv), .val (.int sel), .val (.int j3), .val (.int j8), .val (.int j13), .val (.int z17), .unset, .unset, .unset, .unset, .unset] [(.int bv), (.int av), (.ref b19), (.ref b19)])) _
    refine XS.iloadN X19.here hx rfl (hb hby at_62) rfl ?_
    exact kg)
  have c24 := (Nat.le_trans Z0 E19.1)
  obtain ⟨_, _, ⟨T25, L25, kk25, nn25⟩, -, X25, ⟨Lc25, hQ25, l25, y25, z25⟩, st25⟩ := X19.specialBack hx (y := (⟨"com/example/refine/refine/aut/AutHeader", "<init>", "(III)V"⟩ : MethodName)) rfl hown (mvT hZ (hw _ (List.mem_of_getElem? (i := 3) rfl))) (mvT hZ (hw _ (List.mem_of_getElem? (i := 4) rfl))) (mvT hZ (hw _ (List.mem_of_getElem? (i := 5) rfl))) (by decide) (backOf (W := 1) (rm1 l Z a0 hw [] b19 av bv cv h19 n0 c24 A19 gn20 F19_initialState F19_transitionCount F19_stateCount ) hZ (hw _ (List.mem_of_getElem? (i := 5) rfl)) (hw _ (List.mem_of_getElem? (i := 2) rfl)) (by decide) (by decide)) (g := (mkF mM 63 #[.val (.int av), .val (.int bv), .val (.int cv), .val (.int xv), .val (.int yv), .val (.int sel), .val (.int j3), .val (.int j8), .val (.int j13), .val (.int z17), .unset, .unset, .unset, .unset, .unset] [(.int cv), (.int bv), (.int av), (.ref b19), (.ref b19)])) rfl (by rw [hml]; rfl) (Steps.refl _) (a := b19) (argsL := [(.int av), (.int bv), (.int cv)]) (rest := [(.ref b19)]) (lenOf pd_2 rfl) rfl (by show 2 * 0 + _ ≤ _; exact Nat.le_of_eq rfl) (hb hby at_63) (fun _ _ => ⟨rfl, e19, (by decide : 1 + 0 ≤ _), (by decide : 3 + 0 ≤ _)⟩)
  dsimp only [Pt.U, Pt.locs, Pt.cells, Pt.slots] at X25 l25 y25 z25 st25 hQ25
  subst l25 y25 z25
  obtain ⟨rfl, Nq25, K25, E25, F25_0, F25_1, F25_2⟩ := hQ25
  have N25 := Fr.app N0 Nq25
  have pr26 : ∀ tg, Steps pP.tables eE below (T25.setTop (mkF mM 66 #[.val (.int av), .val (.int bv), .val (.int cv), .val (.int xv), .val (.int yv), .val (.int sel), .val (.int j3), .val (.int j8), .val (.int j13), .val (.int z17), .unset, .unset, .unset, .unset, .unset] [(.ref b19)])) tg → Steps pP.tables eE below (s₁.setTop (entryFrame mM #[(.int av), (.int bv), (.int cv), (.int xv), (.int yv), (.int sel)] maxLocals)) tg := fun tg kg => pr23 _ (st25.trans kg)
  have pr27 : ∀ tg, Steps pP.tables eE below (T25.setTop (mkF mM 68 #[.val (.int av), .val (.int bv), .val (.int cv), .val (.int xv), .val (.int yv), .val (.int sel), .val (.int j3), .val (.int j8), .val (.int j13), .val (.int z17), .val (.ref b19), .unset, .unset, .unset, .unset] [])) tg → Steps pP.tables eE below (s₁.setTop (entryFrame mM #[(.int av), (.int bv), (.int cv), (.int xv), (.int yv), (.int sel)] maxLocals)) tg := fun tg kg => pr26 _ (by
    show Steps pP.tables eE below (T25.setTop (mkF mM 66 #[.val (.int av), .val (.int bv), .val (.int cv), .val (.int xv), .val (.int yv), .val (.int sel), .val (.int j3), .val (.int j8), .val (.int j13), .val (.int z17), .unset, .unset, .unset, .unset, .unset] [(.ref b19)])) _
    refine XS.astore X25.here hx rfl (hb hby at_66) rfl rfl (l' := #[.val (.int av), .val (.int bv), .val (.int cv), .val (.int xv), .val (.int yv), .val (.int sel), .val (.int j3), .val (.int j8), .val (.int j13), .val (.int z17), .val (.ref b19), .unset, .unset, .unset, .unset]) rfl ?_
    exact kg)
  obtain ⟨T28, h28, X28, e28, E28, A28, D28, -, st28⟩ := newO X25 hx hZ hown (hw _ (List.mem_of_getElem? (i := 0) rfl)) (hw _ (List.mem_of_getElem? (i := 1) rfl)) (hw _ (List.mem_of_getElem? (i := 2) rfl)) rfl (g := (mkF mM 68 #[.val (.int av), .val (.int bv), .val (.int cv), .val (.int xv), .val (.int yv), .val (.int sel), .val (.int j3), .val (.int j8), .val (.int j13), .val (.int z17), .val (.ref b19), .unset, .unset, .unset, .unset] [])) rfl (hb hby at_68) (by decide) (by decide)
  obtain ⟨b28, g28⟩ : ∃ z, z = (T25.heap).size := ⟨_, rfl⟩
  rw [← g28] at A28 D28 st28
  have ne29 : b19 ≠ b28 := Nat.ne_of_lt (Nat.lt_of_lt_of_le (E25).lt (Nat.le_of_eq g28.symm))
  have c31 := (Nat.le_trans c24 K25.1)
  have gn30 : n0 ≤ b28 := Nat.le_trans c31 (Nat.le_of_eq g28.symm)
  have c33 := (Keep.trans (Keep.ext (Keep.refl h0 []) E19) K25 (allS (Or.inr gs21) all0))
  have gs32 : h0.size ≤ b28 := Nat.le_trans c33.1 (Nat.le_of_eq g28.symm)
  have F28_initialState : Fld Z h28 b28 "com/example/refine/refine/aut/AutHeader" "initialState" "I" (.int (0 : Int32)) := D28 (Or.inr (hw _ (List.mem_of_getElem? (i := 10) rfl))) (ty := .int) (by decide)
  have F28_transitionCount : Fld Z h28 b28 "com/example/refine/refine/aut/AutHeader" "transitionCount" "I" (.int (0 : Int32)) := D28 (Or.inr (hw _ (List.mem_of_getElem? (i := 12) rfl))) (ty := .int) (by decide)
  have F28_stateCount : Fld Z h28 b28 "com/example/refine/refine/aut/AutHeader" "stateCount" "I" (.int (0 : Int32)) := D28 (Or.inr (hw _ (List.mem_of_getElem? (i := 14) rfl))) (ty := .int) (by decide)
  have pr34 : ∀ tg, Steps pP.tables eE below (T28.setTop (mkF mM 71 #[.val (.int av), .val (.int bv), .val (.int cv), .val (.int xv), .val (.int yv), .val (.int sel), .val (.int j3), .val (.int j8), .val (.int j13), .val (.int z17), .val (.ref b19), .unset, .unset, .unset, .unset] [(.ref b28)])) tg → Steps pP.tables eE below (s₁.setTop (entryFrame mM #[(.int av), (.int bv), (.int cv), (.int xv), (.int yv), (.int sel)] maxLocals)) tg := fun tg kg => pr27 _ (st28 _ kg)
  have pr35 : ∀ tg, Steps pP.tables eE below (T28.setTop (mkF mM 78 #[.val (.int av), .val (.int bv), .val (.int cv), .val (.int xv), .val (.int yv), .val (.int sel), .val (.int j3), .val (.int j8), .val (.int j13), .val (.int z17), .val (.ref b19), .unset, .unset, .unset, .unset] [(.int j13), (.int j8), (.int j3), (.ref b28), (.ref b28)])) tg → Steps pP.tables eE below (s₁.setTop (entryFrame mM #[(.int av), (.int bv), (.int cv), (.int xv), (.int yv), (.int sel)] maxLocals)) tg := fun tg kg => pr34 _ (by
    show Steps pP.tables eE below (T28.setTop (mkF mM 71 #[.val (.int av), .val (.int bv), .val (.int cv), .val (.int xv), .val (.int yv), .val (.int sel), .val (.int j3), .val (.int j8), .val (.int j13), .val (.int z17), .val (.ref b19), .unset, .unset, .unset, .unset] [(.ref b28)])) _
    refine XS.dup X28.here hx rfl (hb hby at_71) rfl rfl ?_
    show Steps pP.tables eE below (T28.setTop (mkF mM 72 #[.val (.int av), .val (.int bv), .val (.int cv), .val (.int xv), .val (.int yv), .val (.int sel), .val (.int j3), .val (.int j8), .val (.int j13), .val (.int z17), .val (.ref b19), .unset, .unset, .unset, .unset] [(.ref b28), (.ref b28)])) _
    refine XS.iload X28.here hx rfl (hb hby at_72) rfl ?_
    show Steps pP.tables eE below (T28.setTop (mkF mM 74 #[.val (.int av), .val (.int bv), .val (.int cv), .val (.int xv), .val (.int yv), .val (.int sel), .val (.int j3), .val (.int j8), .val (.int j13), .val (.int z17), .val (.ref b19), .unset, .unset, .unset, .unset] [(.int j3), (.ref b28), (.ref b28)])) _
    refine XS.iload X28.here hx rfl (hb hby at_74) rfl ?_
    show Steps pP.tables eE below (T28.setTop (mkF mM 76 #[.val (.int av), .val (.int bv), .val (.int cv), .val (.int xv), .val (.int yv), .val (.int sel), .val (.int j3), .val (.int j8), .val (.int j13), .val (.int z17), .val (.ref b19), .unset, .unset, .unset, .unset] [(.int j8), (.int j3), (.ref b28), (.ref b28)])) _
    refine XS.iload X28.here hx rfl (hb hby at_76) rfl ?_
    exact kg)
  have c36 := (Nat.le_trans c31 E28.1)
  obtain ⟨_, _, ⟨T37, L37, kk37, nn37⟩, -, X37, ⟨Lc37, hQ37, l37, y37, z37⟩, st37⟩ := X28.specialBack hx (y := (⟨"com/example/refine/refine/aut/AutHeader", "<init>", "(III)V"⟩ : MethodName)) rfl hown (mvT hZ (hw _ (List.mem_of_getElem? (i := 3) rfl))) (mvT hZ (hw _ (List.mem_of_getElem? (i := 4) rfl))) (mvT hZ (hw _ (List.mem_of_getElem? (i := 5) rfl))) (by decide) (backOf (W := 1) (rm1 l Z a0 hw [] b28 j3 j8 j13 h28 n0 c36 A28 gn30 F28_initialState F28_transitionCount F28_stateCount ) hZ (hw _ (List.mem_of_getElem? (i := 5) rfl)) (hw _ (List.mem_of_getElem? (i := 2) rfl)) (by decide) (by decide)) (g := (mkF mM 78 #[.val (.int av), .val (.int bv), .val (.int cv), .val (.int xv), .val (.int yv), .val (.int sel), .val (.int j3), .val (.int j8), .val (.int j13), .val (.int z17), .val (.ref b19), .unset, .unset, .unset, .unset] [(.int j13), (.int j8), (.int j3), (.ref b28), (.ref b28)])) rfl (by rw [hml]; rfl) (Steps.refl _) (a := b28) (argsL := [(.int j3), (.int j8), (.int j13)]) (rest := [(.ref b28)]) (lenOf pd_2 rfl) rfl (by show 2 * 0 + _ ≤ _; exact Nat.le_of_eq rfl) (hb hby at_78) (fun _ _ => ⟨rfl, e28, (by decide : 2 + 0 ≤ _), (by decide : 6 + 0 ≤ _)⟩)
  dsimp only [Pt.U, Pt.locs, Pt.cells, Pt.slots] at X37 l37 y37 z37 st37 hQ37
  subst l37 y37 z37
  obtain ⟨rfl, Nq37, K37, E37, F37_0, F37_1, F37_2⟩ := hQ37
  have N37 := Fr.app N25 Nq37
  have pr38 : ∀ tg, Steps pP.tables eE below (T37.setTop (mkF mM 81 #[.val (.int av), .val (.int bv), .val (.int cv), .val (.int xv), .val (.int yv), .val (.int sel), .val (.int j3), .val (.int j8), .val (.int j13), .val (.int z17), .val (.ref b19), .unset, .unset, .unset, .unset] [(.ref b28)])) tg → Steps pP.tables eE below (s₁.setTop (entryFrame mM #[(.int av), (.int bv), (.int cv), (.int xv), (.int yv), (.int sel)] maxLocals)) tg := fun tg kg => pr35 _ (st37.trans kg)
  have pr40 : ∀ tg, Steps pP.tables eE below (T37.setTop (mkF mM 85 #[.val (.int av), .val (.int bv), .val (.int cv), .val (.int xv), .val (.int yv), .val (.int sel), .val (.int j3), .val (.int j8), .val (.int j13), .val (.int z17), .val (.ref b19), .val (.ref b28), .unset, .unset, .unset] [(.int z17)])) tg → Steps pP.tables eE below (s₁.setTop (entryFrame mM #[(.int av), (.int bv), (.int cv), (.int xv), (.int yv), (.int sel)] maxLocals)) tg := fun tg kg => pr38 _ (by
    show Steps pP.tables eE below (T37.setTop (mkF mM 81 #[.val (.int av), .val (.int bv), .val (.int cv), .val (.int xv), .val (.int yv), .val (.int sel), .val (.int j3), .val (.int j8), .val (.int j13), .val (.int z17), .val (.ref b19), .unset, .unset, .unset, .unset] [(.ref b28)])) _
    refine XS.astore X37.here hx rfl (hb hby at_81) rfl rfl (l' := #[.val (.int av), .val (.int bv), .val (.int cv), .val (.int xv), .val (.int yv), .val (.int sel), .val (.int j3), .val (.int j8), .val (.int j13), .val (.int z17), .val (.ref b19), .val (.ref b28), .unset, .unset, .unset]) rfl ?_
    show Steps pP.tables eE below (T37.setTop (mkF mM 83 #[.val (.int av), .val (.int bv), .val (.int cv), .val (.int xv), .val (.int yv), .val (.int sel), .val (.int j3), .val (.int j8), .val (.int j13), .val (.int z17), .val (.ref b19), .val (.ref b28), .unset, .unset, .unset] [])) _
    refine XS.iload X37.here hx rfl (hb hby at_83) rfl ?_
    exact kg)
  by_cases hc85_39 : z17 = (0 : Int32)
  ·
    have pr41 : ∀ tg, Steps pP.tables eE below (T37.setTop (mkF mM 95 #[.val (.int av), .val (.int bv), .val (.int cv), .val (.int xv), .val (.int yv), .val (.int sel), .val (.int j3), .val (.int j8), .val (.int j13), .val (.int z17), .val (.ref b19), .val (.ref b28), .val (.ref b28), .unset, .unset] [(.int j3), (.int av)])) tg → Steps pP.tables eE below (s₁.setTop (entryFrame mM #[(.int av), (.int bv), (.int cv), (.int xv), (.int yv), (.int sel)] maxLocals)) tg := fun tg kg => pr40 _ (by
      show Steps pP.tables eE below (T37.setTop (mkF mM 85 #[.val (.int av), .val (.int bv), .val (.int cv), .val (.int xv), .val (.int yv), .val (.int sel), .val (.int j3), .val (.int j8), .val (.int j13), .val (.int z17), .val (.ref b19), .val (.ref b28), .unset, .unset, .unset] [(.int z17)])) _
      refine XS.ifNo X37.here hx rfl (hb hby at_85) rfl ((if0 _ _).trans (teq hc85_39).2) ?_
      show Steps pP.tables eE below (T37.setTop (mkF mM 88 #[.val (.int av), .val (.int bv), .val (.int cv), .val (.int xv), .val (.int yv), .val (.int sel), .val (.int j3), .val (.int j8), .val (.int j13), .val (.int z17), .val (.ref b19), .val (.ref b28), .unset, .unset, .unset] [])) _
      refine XS.aload X37.here hx rfl (hb hby at_88) rfl rfl ?_
      show Steps pP.tables eE below (T37.setTop (mkF mM 90 #[.val (.int av), .val (.int bv), .val (.int cv), .val (.int xv), .val (.int yv), .val (.int sel), .val (.int j3), .val (.int j8), .val (.int j13), .val (.int z17), .val (.ref b19), .val (.ref b28), .unset, .unset, .unset] [(.ref b28)])) _
      refine XS.astore X37.here hx rfl (hb hby at_90) rfl rfl (l' := #[.val (.int av), .val (.int bv), .val (.int cv), .val (.int xv), .val (.int yv), .val (.int sel), .val (.int j3), .val (.int j8), .val (.int j13), .val (.int z17), .val (.ref b19), .val (.ref b28), .val (.ref b28), .unset, .unset]) rfl ?_
      show Steps pP.tables eE below (T37.setTop (mkF mM 92 #[.val (.int av), .val (.int bv), .val (.int cv), .val (.int xv), .val (.int yv), .val (.int sel), .val (.int j3), .val (.int j8), .val (.int j13), .val (.int z17), .val (.ref b19), .val (.ref b28), .val (.ref b28), .unset, .unset] [])) _
      refine XS.iloadN X37.here hx rfl (hb hby at_92) rfl ?_
      show Steps pP.tables eE below (T37.setTop (mkF mM 93 #[.val (.int av), .val (.int bv), .val (.int cv), .val (.int xv), .val (.int yv), .val (.int sel), .val (.int j3), .val (.int j8), .val (.int j13), .val (.int z17), .val (.ref b19), .val (.ref b28), .val (.ref b28), .unset, .unset] [(.int av)])) _
      refine XS.iload X37.here hx rfl (hb hby at_93) rfl ?_
      exact kg)
    obtain ⟨j45, hj45, st46⟩ : ∃ (j45 : Int32), j45 = (if av = j3 then (if bv = j8 then (if cv = j13 then (1 : Int32) else (0 : Int32)) else (0 : Int32)) else (0 : Int32)) ∧ ∀ tg, Steps pP.tables eE below (T37.setTop (mkF mM 115 #[.val (.int av), .val (.int bv), .val (.int cv), .val (.int xv), .val (.int yv), .val (.int sel), .val (.int j3), .val (.int j8), .val (.int j13), .val (.int z17), .val (.ref b19), .val (.ref b28), .val (.ref b28), .unset, .unset] [(.int j45)])) tg → Steps pP.tables eE below (T37.setTop (mkF mM 95 #[.val (.int av), .val (.int bv), .val (.int cv), .val (.int xv), .val (.int yv), .val (.int sel), .val (.int j3), .val (.int j8), .val (.int j13), .val (.int z17), .val (.ref b19), .val (.ref b28), .val (.ref b28), .unset, .unset] [(.int j3), (.int av)])) tg := by
      by_cases hj95_42 : av = j3
      ·
        by_cases hj101_43 : bv = j8
        ·
          by_cases hj107_44 : cv = j13
          ·
            refine ⟨(1 : Int32), (by rw [if_pos hj95_42, if_pos hj101_43, if_pos hj107_44]), fun tg kg => ?_⟩
            show Steps pP.tables eE below (T37.setTop (mkF mM 95 #[.val (.int av), .val (.int bv), .val (.int cv), .val (.int xv), .val (.int yv), .val (.int sel), .val (.int j3), .val (.int j8), .val (.int j13), .val (.int z17), .val (.ref b19), .val (.ref b28), .val (.ref b28), .unset, .unset] [(.int j3), (.int av)])) _
            refine XS.icmpNo X37.here hx rfl (hb hby at_95) rfl (teq hj95_42).2 ?_
            show Steps pP.tables eE below (T37.setTop (mkF mM 98 #[.val (.int av), .val (.int bv), .val (.int cv), .val (.int xv), .val (.int yv), .val (.int sel), .val (.int j3), .val (.int j8), .val (.int j13), .val (.int z17), .val (.ref b19), .val (.ref b28), .val (.ref b28), .unset, .unset] [])) _
            refine XS.iloadN X37.here hx rfl (hb hby at_98) rfl ?_
            show Steps pP.tables eE below (T37.setTop (mkF mM 99 #[.val (.int av), .val (.int bv), .val (.int cv), .val (.int xv), .val (.int yv), .val (.int sel), .val (.int j3), .val (.int j8), .val (.int j13), .val (.int z17), .val (.ref b19), .val (.ref b28), .val (.ref b28), .unset, .unset] [(.int bv)])) _
            refine XS.iload X37.here hx rfl (hb hby at_99) rfl ?_
            show Steps pP.tables eE below (T37.setTop (mkF mM 101 #[.val (.int av), .val (.int bv), .val (.int cv), .val (.int xv), .val (.int yv), .val (.int sel), .val (.int j3), .val (.int j8), .val (.int j13), .val (.int z17), .val (.ref b19), .val (.ref b28), .val (.ref b28), .unset, .unset] [(.int j8), (.int bv)])) _
            refine XS.icmpNo X37.here hx rfl (hb hby at_101) rfl (teq hj101_43).2 ?_
            show Steps pP.tables eE below (T37.setTop (mkF mM 104 #[.val (.int av), .val (.int bv), .val (.int cv), .val (.int xv), .val (.int yv), .val (.int sel), .val (.int j3), .val (.int j8), .val (.int j13), .val (.int z17), .val (.ref b19), .val (.ref b28), .val (.ref b28), .unset, .unset] [])) _
            refine XS.iloadN X37.here hx rfl (hb hby at_104) rfl ?_
            show Steps pP.tables eE below (T37.setTop (mkF mM 105 #[.val (.int av), .val (.int bv), .val (.int cv), .val (.int xv), .val (.int yv), .val (.int sel), .val (.int j3), .val (.int j8), .val (.int j13), .val (.int z17), .val (.ref b19), .val (.ref b28), .val (.ref b28), .unset, .unset] [(.int cv)])) _
            refine XS.iload X37.here hx rfl (hb hby at_105) rfl ?_
            show Steps pP.tables eE below (T37.setTop (mkF mM 107 #[.val (.int av), .val (.int bv), .val (.int cv), .val (.int xv), .val (.int yv), .val (.int sel), .val (.int j3), .val (.int j8), .val (.int j13), .val (.int z17), .val (.ref b19), .val (.ref b28), .val (.ref b28), .unset, .unset] [(.int j13), (.int cv)])) _
            refine XS.icmpNo X37.here hx rfl (hb hby at_107) rfl (teq hj107_44).2 ?_
            show Steps pP.tables eE below (T37.setTop (mkF mM 110 #[.val (.int av), .val (.int bv), .val (.int cv), .val (.int xv), .val (.int yv), .val (.int sel), .val (.int j3), .val (.int j8), .val (.int j13), .val (.int z17), .val (.ref b19), .val (.ref b28), .val (.ref b28), .unset, .unset] [])) _
            refine XS.iconst X37.here hx rfl (hb hby at_110) ?_
            show Steps pP.tables eE below (T37.setTop (mkF mM 111 #[.val (.int av), .val (.int bv), .val (.int cv), .val (.int xv), .val (.int yv), .val (.int sel), .val (.int j3), .val (.int j8), .val (.int j13), .val (.int z17), .val (.ref b19), .val (.ref b28), .val (.ref b28), .unset, .unset] [(.int (1 : Int32))])) _
            refine XS.goto X37.here hx rfl (pc0 := 111) (pc' := 115) rfl (hb hby at_111) (by decide) (by decide) ?_
            exact kg
          ·
            refine ⟨(0 : Int32), (by rw [if_pos hj95_42, if_pos hj101_43, if_neg hj107_44]), fun tg kg => ?_⟩
            show Steps pP.tables eE below (T37.setTop (mkF mM 95 #[.val (.int av), .val (.int bv), .val (.int cv), .val (.int xv), .val (.int yv), .val (.int sel), .val (.int j3), .val (.int j8), .val (.int j13), .val (.int z17), .val (.ref b19), .val (.ref b28), .val (.ref b28), .unset, .unset] [(.int j3), (.int av)])) _
            refine XS.icmpNo X37.here hx rfl (hb hby at_95) rfl (teq hj95_42).2 ?_
            show Steps pP.tables eE below (T37.setTop (mkF mM 98 #[.val (.int av), .val (.int bv), .val (.int cv), .val (.int xv), .val (.int yv), .val (.int sel), .val (.int j3), .val (.int j8), .val (.int j13), .val (.int z17), .val (.ref b19), .val (.ref b28), .val (.ref b28), .unset, .unset] [])) _
            refine XS.iloadN X37.here hx rfl (hb hby at_98) rfl ?_
            show Steps pP.tables eE below (T37.setTop (mkF mM 99 #[.val (.int av), .val (.int bv), .val (.int cv), .val (.int xv), .val (.int yv), .val (.int sel), .val (.int j3), .val (.int j8), .val (.int j13), .val (.int z17), .val (.ref b19), .val (.ref b28), .val (.ref b28), .unset, .unset] [(.int bv)])) _
            refine XS.iload X37.here hx rfl (hb hby at_99) rfl ?_
            show Steps pP.tables eE below (T37.setTop (mkF mM 101 #[.val (.int av), .val (.int bv), .val (.int cv), .val (.int xv), .val (.int yv), .val (.int sel), .val (.int j3), .val (.int j8), .val (.int j13), .val (.int z17), .val (.ref b19), .val (.ref b28), .val (.ref b28), .unset, .unset] [(.int j8), (.int bv)])) _
            refine XS.icmpNo X37.here hx rfl (hb hby at_101) rfl (teq hj101_43).2 ?_
            show Steps pP.tables eE below (T37.setTop (mkF mM 104 #[.val (.int av), .val (.int bv), .val (.int cv), .val (.int xv), .val (.int yv), .val (.int sel), .val (.int j3), .val (.int j8), .val (.int j13), .val (.int z17), .val (.ref b19), .val (.ref b28), .val (.ref b28), .unset, .unset] [])) _
            refine XS.iloadN X37.here hx rfl (hb hby at_104) rfl ?_
            show Steps pP.tables eE below (T37.setTop (mkF mM 105 #[.val (.int av), .val (.int bv), .val (.int cv), .val (.int xv), .val (.int yv), .val (.int sel), .val (.int j3), .val (.int j8), .val (.int j13), .val (.int z17), .val (.ref b19), .val (.ref b28), .val (.ref b28), .unset, .unset] [(.int cv)])) _
            refine XS.iload X37.here hx rfl (hb hby at_105) rfl ?_
            show Steps pP.tables eE below (T37.setTop (mkF mM 107 #[.val (.int av), .val (.int bv), .val (.int cv), .val (.int xv), .val (.int yv), .val (.int sel), .val (.int j3), .val (.int j8), .val (.int j13), .val (.int z17), .val (.ref b19), .val (.ref b28), .val (.ref b28), .unset, .unset] [(.int j13), (.int cv)])) _
            refine XS.icmpYes X37.here hx rfl (pc0 := 107) (pc' := 114) rfl (hb hby at_107) rfl (feq hj107_44).2 (by decide) (by decide) ?_
            show Steps pP.tables eE below (T37.setTop (mkF mM 114 #[.val (.int av), .val (.int bv), .val (.int cv), .val (.int xv), .val (.int yv), .val (.int sel), .val (.int j3), .val (.int j8), .val (.int j13), .val (.int z17), .val (.ref b19), .val (.ref b28), .val (.ref b28), .unset, .unset] [])) _
            refine XS.iconst X37.here hx rfl (hb hby at_114) ?_
            exact kg
        ·
          refine ⟨(0 : Int32), (by rw [if_pos hj95_42, if_neg hj101_43]), fun tg kg => ?_⟩
          show Steps pP.tables eE below (T37.setTop (mkF mM 95 #[.val (.int av), .val (.int bv), .val (.int cv), .val (.int xv), .val (.int yv), .val (.int sel), .val (.int j3), .val (.int j8), .val (.int j13), .val (.int z17), .val (.ref b19), .val (.ref b28), .val (.ref b28), .unset, .unset] [(.int j3), (.int av)])) _
          refine XS.icmpNo X37.here hx rfl (hb hby at_95) rfl (teq hj95_42).2 ?_
          show Steps pP.tables eE below (T37.setTop (mkF mM 98 #[.val (.int av), .val (.int bv), .val (.int cv), .val (.int xv), .val (.int yv), .val (.int sel), .val (.int j3), .val (.int j8), .val (.int j13), .val (.int z17), .val (.ref b19), .val (.ref b28), .val (.ref b28), .unset, .unset] [])) _
          refine XS.iloadN X37.here hx rfl (hb hby at_98) rfl ?_
          show Steps pP.tables eE below (T37.setTop (mkF mM 99 #[.val (.int av), .val (.int bv), .val (.int cv), .val (.int xv), .val (.int yv), .val (.int sel), .val (.int j3), .val (.int j8), .val (.int j13), .val (.int z17), .val (.ref b19), .val (.ref b28), .val (.ref b28), .unset, .unset] [(.int bv)])) _
          refine XS.iload X37.here hx rfl (hb hby at_99) rfl ?_
          show Steps pP.tables eE below (T37.setTop (mkF mM 101 #[.val (.int av), .val (.int bv), .val (.int cv), .val (.int xv), .val (.int yv), .val (.int sel), .val (.int j3), .val (.int j8), .val (.int j13), .val (.int z17), .val (.ref b19), .val (.ref b28), .val (.ref b28), .unset, .unset] [(.int j8), (.int bv)])) _
          refine XS.icmpYes X37.here hx rfl (pc0 := 101) (pc' := 114) rfl (hb hby at_101) rfl (feq hj101_43).2 (by decide) (by decide) ?_
          show Steps pP.tables eE below (T37.setTop (mkF mM 114 #[.val (.int av), .val (.int bv), .val (.int cv), .val (.int xv), .val (.int yv), .val (.int sel), .val (.int j3), .val (.int j8), .val (.int j13), .val (.int z17), .val (.ref b19), .val (.ref b28), .val (.ref b28), .unset, .unset] [])) _
          refine XS.iconst X37.here hx rfl (hb hby at_114) ?_
          exact kg
      ·
        refine ⟨(0 : Int32), (by rw [if_neg hj95_42]), fun tg kg => ?_⟩
        show Steps pP.tables eE below (T37.setTop (mkF mM 95 #[.val (.int av), .val (.int bv), .val (.int cv), .val (.int xv), .val (.int yv), .val (.int sel), .val (.int j3), .val (.int j8), .val (.int j13), .val (.int z17), .val (.ref b19), .val (.ref b28), .val (.ref b28), .unset, .unset] [(.int j3), (.int av)])) _
        refine XS.icmpYes X37.here hx rfl (pc0 := 95) (pc' := 114) rfl (hb hby at_95) rfl (feq hj95_42).2 (by decide) (by decide) ?_
        show Steps pP.tables eE below (T37.setTop (mkF mM 114 #[.val (.int av), .val (.int bv), .val (.int cv), .val (.int xv), .val (.int yv), .val (.int sel), .val (.int j3), .val (.int j8), .val (.int j13), .val (.int z17), .val (.ref b19), .val (.ref b28), .val (.ref b28), .unset, .unset] [])) _
        refine XS.iconst X37.here hx rfl (hb hby at_114) ?_
        exact kg
    have pr47 : ∀ tg, Steps pP.tables eE below (T37.setTop (mkF mM 115 #[.val (.int av), .val (.int bv), .val (.int cv), .val (.int xv), .val (.int yv), .val (.int sel), .val (.int j3), .val (.int j8), .val (.int j13), .val (.int z17), .val (.ref b19), .val (.ref b28), .val (.ref b28), .unset, .unset] [(.int j45)])) tg → Steps pP.tables eE below (s₁.setTop (entryFrame mM #[(.int av), (.int bv), (.int cv), (.int xv), (.int yv), (.int sel)] maxLocals)) tg := fun tg kg => pr41 _ (st46 _ kg)
    have c48 := (Exa.keep (Exa.ext E28 E25) K37)
    have c49 := (Fld.keep (Fld.ext E28 F25_0) K37 (ninS ne29 nin0))
    have c50 := (Fld.keep (Fld.ext E28 F25_1) K37 (ninS ne29 nin0))
    have c51 := (Fld.keep (Fld.ext E28 F25_2) K37 (ninS ne29 nin0))
    have pr52 : ∀ tg, Steps pP.tables eE below (T37.setTop (mkF mM 164 #[.val (.int av), .val (.int bv), .val (.int cv), .val (.int xv), .val (.int yv), .val (.int sel), .val (.int j3), .val (.int j8), .val (.int j13), .val (.int z17), .val (.ref b19), .val (.ref b28), .val (.ref b28), .val (.int j45), .unset] [(.ref b28), (.ref b19)])) tg → Steps pP.tables eE below (s₁.setTop (entryFrame mM #[(.int av), (.int bv), (.int cv), (.int xv), (.int yv), (.int sel)] maxLocals)) tg := fun tg kg => pr47 _ (by
      show Steps pP.tables eE below (T37.setTop (mkF mM 115 #[.val (.int av), .val (.int bv), .val (.int cv), .val (.int xv), .val (.int yv), .val (.int sel), .val (.int j3), .val (.int j8), .val (.int j13), .val (.int z17), .val (.ref b19), .val (.ref b28), .val (.ref b28), .unset, .unset] [(.int j45)])) _
      refine XS.istore X37.here hx rfl (hb hby at_115) rfl (l' := #[.val (.int av), .val (.int bv), .val (.int cv), .val (.int xv), .val (.int yv), .val (.int sel), .val (.int j3), .val (.int j8), .val (.int j13), .val (.int z17), .val (.ref b19), .val (.ref b28), .val (.ref b28), .val (.int j45), .unset]) rfl ?_
      show Steps pP.tables eE below (T37.setTop (mkF mM 117 #[.val (.int av), .val (.int bv), .val (.int cv), .val (.int xv), .val (.int yv), .val (.int sel), .val (.int j3), .val (.int j8), .val (.int j13), .val (.int z17), .val (.ref b19), .val (.ref b28), .val (.ref b28), .val (.int j45), .unset] [])) _
      refine XS.goto X37.here hx rfl (pc0 := 117) (pc' := 160) rfl (hb hby at_117) (by decide) (by decide) ?_
      show Steps pP.tables eE below (T37.setTop (mkF mM 160 #[.val (.int av), .val (.int bv), .val (.int cv), .val (.int xv), .val (.int yv), .val (.int sel), .val (.int j3), .val (.int j8), .val (.int j13), .val (.int z17), .val (.ref b19), .val (.ref b28), .val (.ref b28), .val (.int j45), .unset] [])) _
      refine XS.aload X37.here hx rfl (hb hby at_160) rfl rfl ?_
      show Steps pP.tables eE below (T37.setTop (mkF mM 162 #[.val (.int av), .val (.int bv), .val (.int cv), .val (.int xv), .val (.int yv), .val (.int sel), .val (.int j3), .val (.int j8), .val (.int j13), .val (.int z17), .val (.ref b19), .val (.ref b28), .val (.ref b28), .val (.int j45), .unset] [(.ref b19)])) _
      refine XS.aload X37.here hx rfl (hb hby at_162) rfl rfl ?_
      exact kg)
    have c53 := (Nat.le_trans c36 K37.1)
    obtain ⟨cq54, kq54, qa54, qb54, qc54⟩ := isOf hZ rfl c48
    obtain ⟨_, _, ⟨T54, L54, kk54, nn54⟩, -, X54, ⟨Lc54, hQ54, l54, y54, z54⟩, st54⟩ := X37.virtualBack hx (y := (⟨"com/example/refine/refine/aut/AutHeader", "equals", "(Ljava/lang/Object;)Z"⟩ : MethodName)) (z := (⟨"com/example/refine/refine/aut/AutHeader", "equals", "(Ljava/lang/Object;)Z"⟩ : MethodName)) hown (mvT hZ (hw _ (List.mem_of_getElem? (i := 15) rfl))) (mvT hZ (hw _ (List.mem_of_getElem? (i := 16) rfl))) (notFace_of_selects (args := #[]) (mvT hZ (hw _ (List.mem_of_getElem? (i := 18) rfl)))) (mvT hZ (hw _ (List.mem_of_getElem? (i := 18) rfl))) (mvT hZ (hw _ (List.mem_of_getElem? (i := 17) rfl))) (by decide) (backOf (W := 0) (rm5 l Z a0 hw [] b19 b28 av bv cv j3 j8 j13 T37.heap n0 c53 c48 c49 c50 c51 E37 F37_0 F37_1 F37_2) hZ (hw _ (List.mem_of_getElem? (i := 19) rfl)) (hw _ (List.mem_of_getElem? (i := 2) rfl)) (by decide) (by decide)) qa54 qc54 (g := (mkF mM 164 #[.val (.int av), .val (.int bv), .val (.int cv), .val (.int xv), .val (.int yv), .val (.int sel), .val (.int j3), .val (.int j8), .val (.int j13), .val (.int z17), .val (.ref b19), .val (.ref b28), .val (.ref b28), .val (.int j45), .unset] [(.ref b28), (.ref b19)])) rfl (by rw [hml]; rfl) (Steps.refl _) (argsL := [(.ref b28)]) (rest := []) (lenOf pd_3 rfl) rfl (by show 2 * 0 + _ ≤ _; exact Nat.le_of_eq rfl) (hb hby at_164) (fun _ _ => ⟨rfl, rfl, (by decide : 2 + 0 ≤ _), (by decide : 6 + 0 ≤ _)⟩)
    dsimp only [Pt.U, Pt.locs, Pt.cells, Pt.slots] at X54 l54 y54 z54 st54 hQ54
    subst l54 y54 z54
    obtain ⟨r54, rfl, hr54, Nq54, e54⟩ := hQ54
    have N54 := Fr.app N37 Nq54
    have pr55 : ∀ tg, Steps pP.tables eE below (T54.setTop (mkF mM 167 #[.val (.int av), .val (.int bv), .val (.int cv), .val (.int xv), .val (.int yv), .val (.int sel), .val (.int j3), .val (.int j8), .val (.int j13), .val (.int z17), .val (.ref b19), .val (.ref b28), .val (.ref b28), .val (.int j45), .unset] [(.int r54)])) tg → Steps pP.tables eE below (s₁.setTop (entryFrame mM #[(.int av), (.int bv), (.int cv), (.int xv), (.int yv), (.int sel)] maxLocals)) tg := fun tg kg => pr52 _ (st54.trans kg)
    have pr56 : ∀ tg, Steps pP.tables eE below (T54.setTop (mkF mM 173 #[.val (.int av), .val (.int bv), .val (.int cv), .val (.int xv), .val (.int yv), .val (.int sel), .val (.int j3), .val (.int j8), .val (.int j13), .val (.int z17), .val (.ref b19), .val (.ref b28), .val (.ref b28), .val (.int j45), .val (.int r54)] [(.int j45), (.int r54)])) tg → Steps pP.tables eE below (s₁.setTop (entryFrame mM #[(.int av), (.int bv), (.int cv), (.int xv), (.int yv), (.int sel)] maxLocals)) tg := fun tg kg => pr55 _ (by
      show Steps pP.tables eE below (T54.setTop (mkF mM 167 #[.val (.int av), .val (.int bv), .val (.int cv), .val (.int xv), .val (.int yv), .val (.int sel), .val (.int j3), .val (.int j8), .val (.int j13), .val (.int z17), .val (.ref b19), .val (.ref b28), .val (.ref b28), .val (.int j45), .unset] [(.int r54)])) _
      refine XS.istore X54.here hx rfl (hb hby at_167) rfl (l' := #[.val (.int av), .val (.int bv), .val (.int cv), .val (.int xv), .val (.int yv), .val (.int sel), .val (.int j3), .val (.int j8), .val (.int j13), .val (.int z17), .val (.ref b19), .val (.ref b28), .val (.ref b28), .val (.int j45), .val (.int r54)]) rfl ?_
      show Steps pP.tables eE below (T54.setTop (mkF mM 169 #[.val (.int av), .val (.int bv), .val (.int cv), .val (.int xv), .val (.int yv), .val (.int sel), .val (.int j3), .val (.int j8), .val (.int j13), .val (.int z17), .val (.ref b19), .val (.ref b28), .val (.ref b28), .val (.int j45), .val (.int r54)] [])) _
      refine XS.iload X54.here hx rfl (hb hby at_169) rfl ?_
      show Steps pP.tables eE below (T54.setTop (mkF mM 171 #[.val (.int av), .val (.int bv), .val (.int cv), .val (.int xv), .val (.int yv), .val (.int sel), .val (.int j3), .val (.int j8), .val (.int j13), .val (.int z17), .val (.ref b19), .val (.ref b28), .val (.ref b28), .val (.int j45), .val (.int r54)] [(.int r54)])) _
      refine XS.iload X54.here hx rfl (hb hby at_171) rfl ?_
      exact kg)
    by_cases hd57 : av = j3
    ·
      rw [if_pos hd57] at hj45
      by_cases hd58 : bv = j8
      ·
        rw [if_pos hd58] at hj45
        by_cases hd59 : cv = j13
        ·
          rw [if_pos hd59] at hj45
          subst hj45
          rw [if_pos hd57] at hr54
          rw [if_pos hd58] at hr54
          rw [if_pos hd59] at hr54
          subst hr54
          have pr60 : ∀ tg, Steps pP.tables eE below (T54.setTop (mkF mM 187 #[.val (.int av), .val (.int bv), .val (.int cv), .val (.int xv), .val (.int yv), .val (.int sel), .val (.int j3), .val (.int j8), .val (.int j13), .val (.int z17), .val (.ref b19), .val (.ref b28), .val (.ref b28), .val (.int (1 : Int32)), .val (.int (1 : Int32))] [(.ref b19), (.ref b28)])) tg → Steps pP.tables eE below (s₁.setTop (entryFrame mM #[(.int av), (.int bv), (.int cv), (.int xv), (.int yv), (.int sel)] maxLocals)) tg := fun tg kg => pr56 _ (by
            show Steps pP.tables eE below (T54.setTop (mkF mM 173 #[.val (.int av), .val (.int bv), .val (.int cv), .val (.int xv), .val (.int yv), .val (.int sel), .val (.int j3), .val (.int j8), .val (.int j13), .val (.int z17), .val (.ref b19), .val (.ref b28), .val (.ref b28), .val (.int (1 : Int32)), .val (.int (1 : Int32))] [(.int (1 : Int32)), (.int (1 : Int32))])) _
            refine XS.icmpYes X54.here hx rfl (pc0 := 173) (pc' := 178) rfl (hb hby at_173) rfl (teq (by decide)).1 (by decide) (by decide) ?_
            show Steps pP.tables eE below (T54.setTop (mkF mM 178 #[.val (.int av), .val (.int bv), .val (.int cv), .val (.int xv), .val (.int yv), .val (.int sel), .val (.int j3), .val (.int j8), .val (.int j13), .val (.int z17), .val (.ref b19), .val (.ref b28), .val (.ref b28), .val (.int (1 : Int32)), .val (.int (1 : Int32))] [])) _
            refine XS.iload X54.here hx rfl (hb hby at_178) rfl ?_
            show Steps pP.tables eE below (T54.setTop (mkF mM 180 #[.val (.int av), .val (.int bv), .val (.int cv), .val (.int xv), .val (.int yv), .val (.int sel), .val (.int j3), .val (.int j8), .val (.int j13), .val (.int z17), .val (.ref b19), .val (.ref b28), .val (.ref b28), .val (.int (1 : Int32)), .val (.int (1 : Int32))] [(.int z17)])) _
            refine XS.ifNo X54.here hx rfl (hb hby at_180) rfl ((if0 _ _).trans (teq hc85_39).2) ?_
            show Steps pP.tables eE below (T54.setTop (mkF mM 183 #[.val (.int av), .val (.int bv), .val (.int cv), .val (.int xv), .val (.int yv), .val (.int sel), .val (.int j3), .val (.int j8), .val (.int j13), .val (.int z17), .val (.ref b19), .val (.ref b28), .val (.ref b28), .val (.int (1 : Int32)), .val (.int (1 : Int32))] [])) _
            refine XS.aload X54.here hx rfl (hb hby at_183) rfl rfl ?_
            show Steps pP.tables eE below (T54.setTop (mkF mM 185 #[.val (.int av), .val (.int bv), .val (.int cv), .val (.int xv), .val (.int yv), .val (.int sel), .val (.int j3), .val (.int j8), .val (.int j13), .val (.int z17), .val (.ref b19), .val (.ref b28), .val (.ref b28), .val (.int (1 : Int32)), .val (.int (1 : Int32))] [(.ref b28)])) _
            refine XS.aload X54.here hx rfl (hb hby at_185) rfl rfl ?_
            exact kg)
          obtain ⟨cq61, kq61, qa61, qb61, qc61⟩ := isOf hZ e54 E37
          obtain ⟨_, _, ⟨T61, L61, kk61, nn61⟩, -, X61, ⟨Lc61, hQ61, l61, y61, z61⟩, st61⟩ := X54.virtualBack hx (y := (⟨"com/example/refine/refine/aut/AutHeader", "equals", "(Ljava/lang/Object;)Z"⟩ : MethodName)) (z := (⟨"com/example/refine/refine/aut/AutHeader", "equals", "(Ljava/lang/Object;)Z"⟩ : MethodName)) hown (mvT hZ (hw _ (List.mem_of_getElem? (i := 15) rfl))) (mvT hZ (hw _ (List.mem_of_getElem? (i := 16) rfl))) (notFace_of_selects (args := #[]) (mvT hZ (hw _ (List.mem_of_getElem? (i := 18) rfl)))) (mvT hZ (hw _ (List.mem_of_getElem? (i := 18) rfl))) (mvT hZ (hw _ (List.mem_of_getElem? (i := 17) rfl))) (by decide) (backOf (W := 0) (rm5 l Z a0 hw [] b28 b19 j3 j8 j13 av bv cv T37.heap n0 c53 E37 F37_0 F37_1 F37_2 c48 c49 c50 c51) hZ (hw _ (List.mem_of_getElem? (i := 19) rfl)) (hw _ (List.mem_of_getElem? (i := 2) rfl)) (by decide) (by decide)) qa61 qc61 (g := (mkF mM 187 #[.val (.int av), .val (.int bv), .val (.int cv), .val (.int xv), .val (.int yv), .val (.int sel), .val (.int j3), .val (.int j8), .val (.int j13), .val (.int z17), .val (.ref b19), .val (.ref b28), .val (.ref b28), .val (.int (1 : Int32)), .val (.int (1 : Int32))] [(.ref b19), (.ref b28)])) rfl (by rw [hml]; rfl) (Steps.refl _) (argsL := [(.ref b19)]) (rest := []) (lenOf pd_3 rfl) rfl (by show 2 * 0 + _ ≤ _; exact Nat.le_of_eq rfl) (hb hby at_187) (fun _ _ => ⟨rfl, e54, (by decide : 2 + 0 ≤ _), (by decide : 6 + 0 ≤ _)⟩)
          dsimp only [Pt.U, Pt.locs, Pt.cells, Pt.slots] at X61 l61 y61 z61 st61 hQ61
          subst l61 y61 z61
          obtain ⟨r61, rfl, hr61, Nq61, e61⟩ := hQ61
          have N61 := Fr.app N54 Nq61
          have pr62 : ∀ tg, Steps pP.tables eE below (T61.setTop (mkF mM 190 #[.val (.int av), .val (.int bv), .val (.int cv), .val (.int xv), .val (.int yv), .val (.int sel), .val (.int j3), .val (.int j8), .val (.int j13), .val (.int z17), .val (.ref b19), .val (.ref b28), .val (.ref b28), .val (.int (1 : Int32)), .val (.int (1 : Int32))] [(.int r61)])) tg → Steps pP.tables eE below (s₁.setTop (entryFrame mM #[(.int av), (.int bv), (.int cv), (.int xv), (.int yv), (.int sel)] maxLocals)) tg := fun tg kg => pr60 _ (st61.trans kg)
          have pr63 : ∀ tg, Steps pP.tables eE below (T61.setTop (mkF mM 192 #[.val (.int av), .val (.int bv), .val (.int cv), .val (.int xv), .val (.int yv), .val (.int sel), .val (.int j3), .val (.int j8), .val (.int j13), .val (.int z17), .val (.ref b19), .val (.ref b28), .val (.ref b28), .val (.int (1 : Int32)), .val (.int (1 : Int32))] [(.int (1 : Int32)), (.int r61)])) tg → Steps pP.tables eE below (s₁.setTop (entryFrame mM #[(.int av), (.int bv), (.int cv), (.int xv), (.int yv), (.int sel)] maxLocals)) tg := fun tg kg => pr62 _ (by
            show Steps pP.tables eE below (T61.setTop (mkF mM 190 #[.val (.int av), .val (.int bv), .val (.int cv), .val (.int xv), .val (.int yv), .val (.int sel), .val (.int j3), .val (.int j8), .val (.int j13), .val (.int z17), .val (.ref b19), .val (.ref b28), .val (.ref b28), .val (.int (1 : Int32)), .val (.int (1 : Int32))] [(.int r61)])) _
            refine XS.iload X61.here hx rfl (hb hby at_190) rfl ?_
            exact kg)
          rw [if_pos (Eq.symm hd57)] at hr61
          rw [if_pos (Eq.symm hd58)] at hr61
          rw [if_pos (Eq.symm hd59)] at hr61
          subst hr61
          have pr64 : ∀ tg, Steps pP.tables eE below (T61.setTop (mkF mM 200 #[.val (.int av), .val (.int bv), .val (.int cv), .val (.int xv), .val (.int yv), .val (.int sel), .val (.int j3), .val (.int j8), .val (.int j13), .val (.int z17), .val (.ref b19), .val (.ref b28), .val (.ref b28), .val (.int (1 : Int32)), .val (.int (1 : Int32))] [(.int (1 : Int32))])) tg → Steps pP.tables eE below (s₁.setTop (entryFrame mM #[(.int av), (.int bv), (.int cv), (.int xv), (.int yv), (.int sel)] maxLocals)) tg := fun tg kg => pr63 _ (by
            show Steps pP.tables eE below (T61.setTop (mkF mM 192 #[.val (.int av), .val (.int bv), .val (.int cv), .val (.int xv), .val (.int yv), .val (.int sel), .val (.int j3), .val (.int j8), .val (.int j13), .val (.int z17), .val (.ref b19), .val (.ref b28), .val (.ref b28), .val (.int (1 : Int32)), .val (.int (1 : Int32))] [(.int (1 : Int32)), (.int (1 : Int32))])) _
            refine XS.icmpNo X61.here hx rfl (hb hby at_192) rfl (teq (by decide)).2 ?_
            show Steps pP.tables eE below (T61.setTop (mkF mM 195 #[.val (.int av), .val (.int bv), .val (.int cv), .val (.int xv), .val (.int yv), .val (.int sel), .val (.int j3), .val (.int j8), .val (.int j13), .val (.int z17), .val (.ref b19), .val (.ref b28), .val (.ref b28), .val (.int (1 : Int32)), .val (.int (1 : Int32))] [])) _
            refine XS.iconst X61.here hx rfl (hb hby at_195) ?_
            show Steps pP.tables eE below (T61.setTop (mkF mM 196 #[.val (.int av), .val (.int bv), .val (.int cv), .val (.int xv), .val (.int yv), .val (.int sel), .val (.int j3), .val (.int j8), .val (.int j13), .val (.int z17), .val (.ref b19), .val (.ref b28), .val (.ref b28), .val (.int (1 : Int32)), .val (.int (1 : Int32))] [(.int (1 : Int32))])) _
            refine XS.goto X61.here hx rfl (pc0 := 196) (pc' := 200) rfl (hb hby at_196) (by decide) (by decide) ?_
            exact kg)
          obtain ⟨fs, hr, hrun, hended, hW, hsame⟩ := X61.leave (v := some (.int (1 : Int32))) (fun h => by rw [Bd.returns] at h; cases h)
          refine ⟨_, _, pr64 _ (retOut X61 hx (t := .boolean) Bd.returns rfl (Or.inl ⟨rfl, Or.inr (Or.inl rfl), _, rfl⟩) (hb hby at_200) hr), hrun, hended, _, _, rfl, ?_, ⟨_, rfl⟩, hW, hsame.mono (by decide) (by decide)⟩
          show Q0 Z av bv cv xv yv sel ca cc h0 n0 _ T61.heap _
          rw [e61]
          exact ⟨rfl, N61⟩
        ·
          rw [if_neg hd59] at hj45
          subst hj45
          rw [if_pos hd57] at hr54
          rw [if_pos hd58] at hr54
          rw [if_neg hd59] at hr54
          subst hr54
          have pr65 : ∀ tg, Steps pP.tables eE below (T54.setTop (mkF mM 187 #[.val (.int av), .val (.int bv), .val (.int cv), .val (.int xv), .val (.int yv), .val (.int sel), .val (.int j3), .val (.int j8), .val (.int j13), .val (.int z17), .val (.ref b19), .val (.ref b28), .val (.ref b28), .val (.int (0 : Int32)), .val (.int (0 : Int32))] [(.ref b19), (.ref b28)])) tg → Steps pP.tables eE below (s₁.setTop (entryFrame mM #[(.int av), (.int bv), (.int cv), (.int xv), (.int yv), (.int sel)] maxLocals)) tg := fun tg kg => pr56 _ (by
            show Steps pP.tables eE below (T54.setTop (mkF mM 173 #[.val (.int av), .val (.int bv), .val (.int cv), .val (.int xv), .val (.int yv), .val (.int sel), .val (.int j3), .val (.int j8), .val (.int j13), .val (.int z17), .val (.ref b19), .val (.ref b28), .val (.ref b28), .val (.int (0 : Int32)), .val (.int (0 : Int32))] [(.int (0 : Int32)), (.int (0 : Int32))])) _
            refine XS.icmpYes X54.here hx rfl (pc0 := 173) (pc' := 178) rfl (hb hby at_173) rfl (teq (by decide)).1 (by decide) (by decide) ?_
            show Steps pP.tables eE below (T54.setTop (mkF mM 178 #[.val (.int av), .val (.int bv), .val (.int cv), .val (.int xv), .val (.int yv), .val (.int sel), .val (.int j3), .val (.int j8), .val (.int j13), .val (.int z17), .val (.ref b19), .val (.ref b28), .val (.ref b28), .val (.int (0 : Int32)), .val (.int (0 : Int32))] [])) _
            refine XS.iload X54.here hx rfl (hb hby at_178) rfl ?_
            show Steps pP.tables eE below (T54.setTop (mkF mM 180 #[.val (.int av), .val (.int bv), .val (.int cv), .val (.int xv), .val (.int yv), .val (.int sel), .val (.int j3), .val (.int j8), .val (.int j13), .val (.int z17), .val (.ref b19), .val (.ref b28), .val (.ref b28), .val (.int (0 : Int32)), .val (.int (0 : Int32))] [(.int z17)])) _
            refine XS.ifNo X54.here hx rfl (hb hby at_180) rfl ((if0 _ _).trans (teq hc85_39).2) ?_
            show Steps pP.tables eE below (T54.setTop (mkF mM 183 #[.val (.int av), .val (.int bv), .val (.int cv), .val (.int xv), .val (.int yv), .val (.int sel), .val (.int j3), .val (.int j8), .val (.int j13), .val (.int z17), .val (.ref b19), .val (.ref b28), .val (.ref b28), .val (.int (0 : Int32)), .val (.int (0 : Int32))] [])) _
            refine XS.aload X54.here hx rfl (hb hby at_183) rfl rfl ?_
            show Steps pP.tables eE below (T54.setTop (mkF mM 185 #[.val (.int av), .val (.int bv), .val (.int cv), .val (.int xv), .val (.int yv), .val (.int sel), .val (.int j3), .val (.int j8), .val (.int j13), .val (.int z17), .val (.ref b19), .val (.ref b28), .val (.ref b28), .val (.int (0 : Int32)), .val (.int (0 : Int32))] [(.ref b28)])) _
            refine XS.aload X54.here hx rfl (hb hby at_185) rfl rfl ?_
            exact kg)
          obtain ⟨cq66, kq66, qa66, qb66, qc66⟩ := isOf hZ e54 E37
          obtain ⟨_, _, ⟨T66, L66, kk66, nn66⟩, -, X66, ⟨Lc66, hQ66, l66, y66, z66⟩, st66⟩ := X54.virtualBack hx (y := (⟨"com/example/refine/refine/aut/AutHeader", "equals", "(Ljava/lang/Object;)Z"⟩ : MethodName)) (z := (⟨"com/example/refine/refine/aut/AutHeader", "equals", "(Ljava/lang/Object;)Z"⟩ : MethodName)) hown (mvT hZ (hw _ (List.mem_of_getElem? (i := 15) rfl))) (mvT hZ (hw _ (List.mem_of_getElem? (i := 16) rfl))) (notFace_of_selects (args := #[]) (mvT hZ (hw _ (List.mem_of_getElem? (i := 18) rfl)))) (mvT hZ (hw _ (List.mem_of_getElem? (i := 18) rfl))) (mvT hZ (hw _ (List.mem_of_getElem? (i := 17) rfl))) (by decide) (backOf (W := 0) (rm5 l Z a0 hw [] b28 b19 j3 j8 j13 av bv cv T37.heap n0 c53 E37 F37_0 F37_1 F37_2 c48 c49 c50 c51) hZ (hw _ (List.mem_of_getElem? (i := 19) rfl)) (hw _ (List.mem_of_getElem? (i := 2) rfl)) (by decide) (by decide)) qa66 qc66 (g := (mkF mM 187 #[.val (.int av), .val (.int bv), .val (.int cv), .val (.int xv), .val (.int yv), .val (.int sel), .val (.int j3), .val (.int j8), .val (.int j13), .val (.int z17), .val (.ref b19), .val (.ref b28), .val (.ref b28), .val (.int (0 : Int32)), .val (.int (0 : Int32))] [(.ref b19), (.ref b28)])) rfl (by rw [hml]; rfl) (Steps.refl _) (argsL := [(.ref b19)]) (rest := []) (lenOf pd_3 rfl) rfl (by show 2 * 0 + _ ≤ _; exact Nat.le_of_eq rfl) (hb hby at_187) (fun _ _ => ⟨rfl, e54, (by decide : 2 + 0 ≤ _), (by decide : 6 + 0 ≤ _)⟩)
          dsimp only [Pt.U, Pt.locs, Pt.cells, Pt.slots] at X66 l66 y66 z66 st66 hQ66
          subst l66 y66 z66
          obtain ⟨r66, rfl, hr66, Nq66, e66⟩ := hQ66
          have N66 := Fr.app N54 Nq66
          have pr67 : ∀ tg, Steps pP.tables eE below (T66.setTop (mkF mM 190 #[.val (.int av), .val (.int bv), .val (.int cv), .val (.int xv), .val (.int yv), .val (.int sel), .val (.int j3), .val (.int j8), .val (.int j13), .val (.int z17), .val (.ref b19), .val (.ref b28), .val (.ref b28), .val (.int (0 : Int32)), .val (.int (0 : Int32))] [(.int r66)])) tg → Steps pP.tables eE below (s₁.setTop (entryFrame mM #[(.int av), (.int bv), (.int cv), (.int xv), (.int yv), (.int sel)] maxLocals)) tg := fun tg kg => pr65 _ (st66.trans kg)
          have pr68 : ∀ tg, Steps pP.tables eE below (T66.setTop (mkF mM 192 #[.val (.int av), .val (.int bv), .val (.int cv), .val (.int xv), .val (.int yv), .val (.int sel), .val (.int j3), .val (.int j8), .val (.int j13), .val (.int z17), .val (.ref b19), .val (.ref b28), .val (.ref b28), .val (.int (0 : Int32)), .val (.int (0 : Int32))] [(.int (0 : Int32)), (.int r66)])) tg → Steps pP.tables eE below (s₁.setTop (entryFrame mM #[(.int av), (.int bv), (.int cv), (.int xv), (.int yv), (.int sel)] maxLocals)) tg := fun tg kg => pr67 _ (by
            show Steps pP.tables eE below (T66.setTop (mkF mM 190 #[.val (.int av), .val (.int bv), .val (.int cv), .val (.int xv), .val (.int yv), .val (.int sel), .val (.int j3), .val (.int j8), .val (.int j13), .val (.int z17), .val (.ref b19), .val (.ref b28), .val (.ref b28), .val (.int (0 : Int32)), .val (.int (0 : Int32))] [(.int r66)])) _
            refine XS.iload X66.here hx rfl (hb hby at_190) rfl ?_
            exact kg)
          rw [if_pos (Eq.symm hd57)] at hr66
          rw [if_pos (Eq.symm hd58)] at hr66
          rw [if_neg (fun q => hd59 q.symm)] at hr66
          subst hr66
          have pr69 : ∀ tg, Steps pP.tables eE below (T66.setTop (mkF mM 200 #[.val (.int av), .val (.int bv), .val (.int cv), .val (.int xv), .val (.int yv), .val (.int sel), .val (.int j3), .val (.int j8), .val (.int j13), .val (.int z17), .val (.ref b19), .val (.ref b28), .val (.ref b28), .val (.int (0 : Int32)), .val (.int (0 : Int32))] [(.int (1 : Int32))])) tg → Steps pP.tables eE below (s₁.setTop (entryFrame mM #[(.int av), (.int bv), (.int cv), (.int xv), (.int yv), (.int sel)] maxLocals)) tg := fun tg kg => pr68 _ (by
            show Steps pP.tables eE below (T66.setTop (mkF mM 192 #[.val (.int av), .val (.int bv), .val (.int cv), .val (.int xv), .val (.int yv), .val (.int sel), .val (.int j3), .val (.int j8), .val (.int j13), .val (.int z17), .val (.ref b19), .val (.ref b28), .val (.ref b28), .val (.int (0 : Int32)), .val (.int (0 : Int32))] [(.int (0 : Int32)), (.int (0 : Int32))])) _
            refine XS.icmpNo X66.here hx rfl (hb hby at_192) rfl (teq (by decide)).2 ?_
            show Steps pP.tables eE below (T66.setTop (mkF mM 195 #[.val (.int av), .val (.int bv), .val (.int cv), .val (.int xv), .val (.int yv), .val (.int sel), .val (.int j3), .val (.int j8), .val (.int j13), .val (.int z17), .val (.ref b19), .val (.ref b28), .val (.ref b28), .val (.int (0 : Int32)), .val (.int (0 : Int32))] [])) _
            refine XS.iconst X66.here hx rfl (hb hby at_195) ?_
            show Steps pP.tables eE below (T66.setTop (mkF mM 196 #[.val (.int av), .val (.int bv), .val (.int cv), .val (.int xv), .val (.int yv), .val (.int sel), .val (.int j3), .val (.int j8), .val (.int j13), .val (.int z17), .val (.ref b19), .val (.ref b28), .val (.ref b28), .val (.int (0 : Int32)), .val (.int (0 : Int32))] [(.int (1 : Int32))])) _
            refine XS.goto X66.here hx rfl (pc0 := 196) (pc' := 200) rfl (hb hby at_196) (by decide) (by decide) ?_
            exact kg)
          obtain ⟨fs, hr, hrun, hended, hW, hsame⟩ := X66.leave (v := some (.int (1 : Int32))) (fun h => by rw [Bd.returns] at h; cases h)
          refine ⟨_, _, pr69 _ (retOut X66 hx (t := .boolean) Bd.returns rfl (Or.inl ⟨rfl, Or.inr (Or.inl rfl), _, rfl⟩) (hb hby at_200) hr), hrun, hended, _, _, rfl, ?_, ⟨_, rfl⟩, hW, hsame.mono (by decide) (by decide)⟩
          show Q0 Z av bv cv xv yv sel ca cc h0 n0 _ T66.heap _
          rw [e66]
          exact ⟨rfl, N66⟩
      ·
        rw [if_neg hd58] at hj45
        subst hj45
        rw [if_pos hd57] at hr54
        rw [if_neg hd58] at hr54
        subst hr54
        have pr70 : ∀ tg, Steps pP.tables eE below (T54.setTop (mkF mM 187 #[.val (.int av), .val (.int bv), .val (.int cv), .val (.int xv), .val (.int yv), .val (.int sel), .val (.int j3), .val (.int j8), .val (.int j13), .val (.int z17), .val (.ref b19), .val (.ref b28), .val (.ref b28), .val (.int (0 : Int32)), .val (.int (0 : Int32))] [(.ref b19), (.ref b28)])) tg → Steps pP.tables eE below (s₁.setTop (entryFrame mM #[(.int av), (.int bv), (.int cv), (.int xv), (.int yv), (.int sel)] maxLocals)) tg := fun tg kg => pr56 _ (by
          show Steps pP.tables eE below (T54.setTop (mkF mM 173 #[.val (.int av), .val (.int bv), .val (.int cv), .val (.int xv), .val (.int yv), .val (.int sel), .val (.int j3), .val (.int j8), .val (.int j13), .val (.int z17), .val (.ref b19), .val (.ref b28), .val (.ref b28), .val (.int (0 : Int32)), .val (.int (0 : Int32))] [(.int (0 : Int32)), (.int (0 : Int32))])) _
          refine XS.icmpYes X54.here hx rfl (pc0 := 173) (pc' := 178) rfl (hb hby at_173) rfl (teq (by decide)).1 (by decide) (by decide) ?_
          show Steps pP.tables eE below (T54.setTop (mkF mM 178 #[.val (.int av), .val (.int bv), .val (.int cv), .val (.int xv), .val (.int yv), .val (.int sel), .val (.int j3), .val (.int j8), .val (.int j13), .val (.int z17), .val (.ref b19), .val (.ref b28), .val (.ref b28), .val (.int (0 : Int32)), .val (.int (0 : Int32))] [])) _
          refine XS.iload X54.here hx rfl (hb hby at_178) rfl ?_
          show Steps pP.tables eE below (T54.setTop (mkF mM 180 #[.val (.int av), .val (.int bv), .val (.int cv), .val (.int xv), .val (.int yv), .val (.int sel), .val (.int j3), .val (.int j8), .val (.int j13), .val (.int z17), .val (.ref b19), .val (.ref b28), .val (.ref b28), .val (.int (0 : Int32)), .val (.int (0 : Int32))] [(.int z17)])) _
          refine XS.ifNo X54.here hx rfl (hb hby at_180) rfl ((if0 _ _).trans (teq hc85_39).2) ?_
          show Steps pP.tables eE below (T54.setTop (mkF mM 183 #[.val (.int av), .val (.int bv), .val (.int cv), .val (.int xv), .val (.int yv), .val (.int sel), .val (.int j3), .val (.int j8), .val (.int j13), .val (.int z17), .val (.ref b19), .val (.ref b28), .val (.ref b28), .val (.int (0 : Int32)), .val (.int (0 : Int32))] [])) _
          refine XS.aload X54.here hx rfl (hb hby at_183) rfl rfl ?_
          show Steps pP.tables eE below (T54.setTop (mkF mM 185 #[.val (.int av), .val (.int bv), .val (.int cv), .val (.int xv), .val (.int yv), .val (.int sel), .val (.int j3), .val (.int j8), .val (.int j13), .val (.int z17), .val (.ref b19), .val (.ref b28), .val (.ref b28), .val (.int (0 : Int32)), .val (.int (0 : Int32))] [(.ref b28)])) _
          refine XS.aload X54.here hx rfl (hb hby at_185) rfl rfl ?_
          exact kg)
        obtain ⟨cq71, kq71, qa71, qb71, qc71⟩ := isOf hZ e54 E37
        obtain ⟨_, _, ⟨T71, L71, kk71, nn71⟩, -, X71, ⟨Lc71, hQ71, l71, y71, z71⟩, st71⟩ := X54.virtualBack hx (y := (⟨"com/example/refine/refine/aut/AutHeader", "equals", "(Ljava/lang/Object;)Z"⟩ : MethodName)) (z := (⟨"com/example/refine/refine/aut/AutHeader", "equals", "(Ljava/lang/Object;)Z"⟩ : MethodName)) hown (mvT hZ (hw _ (List.mem_of_getElem? (i := 15) rfl))) (mvT hZ (hw _ (List.mem_of_getElem? (i := 16) rfl))) (notFace_of_selects (args := #[]) (mvT hZ (hw _ (List.mem_of_getElem? (i := 18) rfl)))) (mvT hZ (hw _ (List.mem_of_getElem? (i := 18) rfl))) (mvT hZ (hw _ (List.mem_of_getElem? (i := 17) rfl))) (by decide) (backOf (W := 0) (rm5 l Z a0 hw [] b28 b19 j3 j8 j13 av bv cv T37.heap n0 c53 E37 F37_0 F37_1 F37_2 c48 c49 c50 c51) hZ (hw _ (List.mem_of_getElem? (i := 19) rfl)) (hw _ (List.mem_of_getElem? (i := 2) rfl)) (by decide) (by decide)) qa71 qc71 (g := (mkF mM 187 #[.val (.int av), .val (.int bv), .val (.int cv), .val (.int xv), .val (.int yv), .val (.int sel), .val (.int j3), .val (.int j8), .val (.int j13), .val (.int z17), .val (.ref b19), .val (.ref b28), .val (.ref b28), .val (.int (0 : Int32)), .val (.int (0 : Int32))] [(.ref b19), (.ref b28)])) rfl (by rw [hml]; rfl) (Steps.refl _) (argsL := [(.ref b19)]) (rest := []) (lenOf pd_3 rfl) rfl (by show 2 * 0 + _ ≤ _; exact Nat.le_of_eq rfl) (hb hby at_187) (fun _ _ => ⟨rfl, e54, (by decide : 2 + 0 ≤ _), (by decide : 6 + 0 ≤ _)⟩)
        dsimp only [Pt.U, Pt.locs, Pt.cells, Pt.slots] at X71 l71 y71 z71 st71 hQ71
        subst l71 y71 z71
        obtain ⟨r71, rfl, hr71, Nq71, e71⟩ := hQ71
        have N71 := Fr.app N54 Nq71
        have pr72 : ∀ tg, Steps pP.tables eE below (T71.setTop (mkF mM 190 #[.val (.int av), .val (.int bv), .val (.int cv), .val (.int xv), .val (.int yv), .val (.int sel), .val (.int j3), .val (.int j8), .val (.int j13), .val (.int z17), .val (.ref b19), .val (.ref b28), .val (.ref b28), .val (.int (0 : Int32)), .val (.int (0 : Int32))] [(.int r71)])) tg → Steps pP.tables eE below (s₁.setTop (entryFrame mM #[(.int av), (.int bv), (.int cv), (.int xv), (.int yv), (.int sel)] maxLocals)) tg := fun tg kg => pr70 _ (st71.trans kg)
        have pr73 : ∀ tg, Steps pP.tables eE below (T71.setTop (mkF mM 192 #[.val (.int av), .val (.int bv), .val (.int cv), .val (.int xv), .val (.int yv), .val (.int sel), .val (.int j3), .val (.int j8), .val (.int j13), .val (.int z17), .val (.ref b19), .val (.ref b28), .val (.ref b28), .val (.int (0 : Int32)), .val (.int (0 : Int32))] [(.int (0 : Int32)), (.int r71)])) tg → Steps pP.tables eE below (s₁.setTop (entryFrame mM #[(.int av), (.int bv), (.int cv), (.int xv), (.int yv), (.int sel)] maxLocals)) tg := fun tg kg => pr72 _ (by
          show Steps pP.tables eE below (T71.setTop (mkF mM 190 #[.val (.int av), .val (.int bv), .val (.int cv), .val (.int xv), .val (.int yv), .val (.int sel), .val (.int j3), .val (.int j8), .val (.int j13), .val (.int z17), .val (.ref b19), .val (.ref b28), .val (.ref b28), .val (.int (0 : Int32)), .val (.int (0 : Int32))] [(.int r71)])) _
          refine XS.iload X71.here hx rfl (hb hby at_190) rfl ?_
          exact kg)
        rw [if_pos (Eq.symm hd57)] at hr71
        rw [if_neg (fun q => hd58 q.symm)] at hr71
        subst hr71
        have pr74 : ∀ tg, Steps pP.tables eE below (T71.setTop (mkF mM 200 #[.val (.int av), .val (.int bv), .val (.int cv), .val (.int xv), .val (.int yv), .val (.int sel), .val (.int j3), .val (.int j8), .val (.int j13), .val (.int z17), .val (.ref b19), .val (.ref b28), .val (.ref b28), .val (.int (0 : Int32)), .val (.int (0 : Int32))] [(.int (1 : Int32))])) tg → Steps pP.tables eE below (s₁.setTop (entryFrame mM #[(.int av), (.int bv), (.int cv), (.int xv), (.int yv), (.int sel)] maxLocals)) tg := fun tg kg => pr73 _ (by
          show Steps pP.tables eE below (T71.setTop (mkF mM 192 #[.val (.int av), .val (.int bv), .val (.int cv), .val (.int xv), .val (.int yv), .val (.int sel), .val (.int j3), .val (.int j8), .val (.int j13), .val (.int z17), .val (.ref b19), .val (.ref b28), .val (.ref b28), .val (.int (0 : Int32)), .val (.int (0 : Int32))] [(.int (0 : Int32)), (.int (0 : Int32))])) _
          refine XS.icmpNo X71.here hx rfl (hb hby at_192) rfl (teq (by decide)).2 ?_
          show Steps pP.tables eE below (T71.setTop (mkF mM 195 #[.val (.int av), .val (.int bv), .val (.int cv), .val (.int xv), .val (.int yv), .val (.int sel), .val (.int j3), .val (.int j8), .val (.int j13), .val (.int z17), .val (.ref b19), .val (.ref b28), .val (.ref b28), .val (.int (0 : Int32)), .val (.int (0 : Int32))] [])) _
          refine XS.iconst X71.here hx rfl (hb hby at_195) ?_
          show Steps pP.tables eE below (T71.setTop (mkF mM 196 #[.val (.int av), .val (.int bv), .val (.int cv), .val (.int xv), .val (.int yv), .val (.int sel), .val (.int j3), .val (.int j8), .val (.int j13), .val (.int z17), .val (.ref b19), .val (.ref b28), .val (.ref b28), .val (.int (0 : Int32)), .val (.int (0 : Int32))] [(.int (1 : Int32))])) _
          refine XS.goto X71.here hx rfl (pc0 := 196) (pc' := 200) rfl (hb hby at_196) (by decide) (by decide) ?_
          exact kg)
        obtain ⟨fs, hr, hrun, hended, hW, hsame⟩ := X71.leave (v := some (.int (1 : Int32))) (fun h => by rw [Bd.returns] at h; cases h)
        refine ⟨_, _, pr74 _ (retOut X71 hx (t := .boolean) Bd.returns rfl (Or.inl ⟨rfl, Or.inr (Or.inl rfl), _, rfl⟩) (hb hby at_200) hr), hrun, hended, _, _, rfl, ?_, ⟨_, rfl⟩, hW, hsame.mono (by decide) (by decide)⟩
        show Q0 Z av bv cv xv yv sel ca cc h0 n0 _ T71.heap _
        rw [e71]
        exact ⟨rfl, N71⟩
    ·
      rw [if_neg hd57] at hj45
      subst hj45
      rw [if_neg hd57] at hr54
      subst hr54
      have pr75 : ∀ tg, Steps pP.tables eE below (T54.setTop (mkF mM 187 #[.val (.int av), .val (.int bv), .val (.int cv), .val (.int xv), .val (.int yv), .val (.int sel), .val (.int j3), .val (.int j8), .val (.int j13), .val (.int z17), .val (.ref b19), .val (.ref b28), .val (.ref b28), .val (.int (0 : Int32)), .val (.int (0 : Int32))] [(.ref b19), (.ref b28)])) tg → Steps pP.tables eE below (s₁.setTop (entryFrame mM #[(.int av), (.int bv), (.int cv), (.int xv), (.int yv), (.int sel)] maxLocals)) tg := fun tg kg => pr56 _ (by
        show Steps pP.tables eE below (T54.setTop (mkF mM 173 #[.val (.int av), .val (.int bv), .val (.int cv), .val (.int xv), .val (.int yv), .val (.int sel), .val (.int j3), .val (.int j8), .val (.int j13), .val (.int z17), .val (.ref b19), .val (.ref b28), .val (.ref b28), .val (.int (0 : Int32)), .val (.int (0 : Int32))] [(.int (0 : Int32)), (.int (0 : Int32))])) _
        refine XS.icmpYes X54.here hx rfl (pc0 := 173) (pc' := 178) rfl (hb hby at_173) rfl (teq (by decide)).1 (by decide) (by decide) ?_
        show Steps pP.tables eE below (T54.setTop (mkF mM 178 #[.val (.int av), .val (.int bv), .val (.int cv), .val (.int xv), .val (.int yv), .val (.int sel), .val (.int j3), .val (.int j8), .val (.int j13), .val (.int z17), .val (.ref b19), .val (.ref b28), .val (.ref b28), .val (.int (0 : Int32)), .val (.int (0 : Int32))] [])) _
        refine XS.iload X54.here hx rfl (hb hby at_178) rfl ?_
        show Steps pP.tables eE below (T54.setTop (mkF mM 180 #[.val (.int av), .val (.int bv), .val (.int cv), .val (.int xv), .val (.int yv), .val (.int sel), .val (.int j3), .val (.int j8), .val (.int j13), .val (.int z17), .val (.ref b19), .val (.ref b28), .val (.ref b28), .val (.int (0 : Int32)), .val (.int (0 : Int32))] [(.int z17)])) _
        refine XS.ifNo X54.here hx rfl (hb hby at_180) rfl ((if0 _ _).trans (teq hc85_39).2) ?_
        show Steps pP.tables eE below (T54.setTop (mkF mM 183 #[.val (.int av), .val (.int bv), .val (.int cv), .val (.int xv), .val (.int yv), .val (.int sel), .val (.int j3), .val (.int j8), .val (.int j13), .val (.int z17), .val (.ref b19), .val (.ref b28), .val (.ref b28), .val (.int (0 : Int32)), .val (.int (0 : Int32))] [])) _
        refine XS.aload X54.here hx rfl (hb hby at_183) rfl rfl ?_
        show Steps pP.tables eE below (T54.setTop (mkF mM 185 #[.val (.int av), .val (.int bv), .val (.int cv), .val (.int xv), .val (.int yv), .val (.int sel), .val (.int j3), .val (.int j8), .val (.int j13), .val (.int z17), .val (.ref b19), .val (.ref b28), .val (.ref b28), .val (.int (0 : Int32)), .val (.int (0 : Int32))] [(.ref b28)])) _
        refine XS.aload X54.here hx rfl (hb hby at_185) rfl rfl ?_
        exact kg)
      obtain ⟨cq76, kq76, qa76, qb76, qc76⟩ := isOf hZ e54 E37
      obtain ⟨_, _, ⟨T76, L76, kk76, nn76⟩, -, X76, ⟨Lc76, hQ76, l76, y76, z76⟩, st76⟩ := X54.virtualBack hx (y := (⟨"com/example/refine/refine/aut/AutHeader", "equals", "(Ljava/lang/Object;)Z"⟩ : MethodName)) (z := (⟨"com/example/refine/refine/aut/AutHeader", "equals", "(Ljava/lang/Object;)Z"⟩ : MethodName)) hown (mvT hZ (hw _ (List.mem_of_getElem? (i := 15) rfl))) (mvT hZ (hw _ (List.mem_of_getElem? (i := 16) rfl))) (notFace_of_selects (args := #[]) (mvT hZ (hw _ (List.mem_of_getElem? (i := 18) rfl)))) (mvT hZ (hw _ (List.mem_of_getElem? (i := 18) rfl))) (mvT hZ (hw _ (List.mem_of_getElem? (i := 17) rfl))) (by decide) (backOf (W := 0) (rm5 l Z a0 hw [] b28 b19 j3 j8 j13 av bv cv T37.heap n0 c53 E37 F37_0 F37_1 F37_2 c48 c49 c50 c51) hZ (hw _ (List.mem_of_getElem? (i := 19) rfl)) (hw _ (List.mem_of_getElem? (i := 2) rfl)) (by decide) (by decide)) qa76 qc76 (g := (mkF mM 187 #[.val (.int av), .val (.int bv), .val (.int cv), .val (.int xv), .val (.int yv), .val (.int sel), .val (.int j3), .val (.int j8), .val (.int j13), .val (.int z17), .val (.ref b19), .val (.ref b28), .val (.ref b28), .val (.int (0 : Int32)), .val (.int (0 : Int32))] [(.ref b19), (.ref b28)])) rfl (by rw [hml]; rfl) (Steps.refl _) (argsL := [(.ref b19)]) (rest := []) (lenOf pd_3 rfl) rfl (by show 2 * 0 + _ ≤ _; exact Nat.le_of_eq rfl) (hb hby at_187) (fun _ _ => ⟨rfl, e54, (by decide : 2 + 0 ≤ _), (by decide : 6 + 0 ≤ _)⟩)
      dsimp only [Pt.U, Pt.locs, Pt.cells, Pt.slots] at X76 l76 y76 z76 st76 hQ76
      subst l76 y76 z76
      obtain ⟨r76, rfl, hr76, Nq76, e76⟩ := hQ76
      have N76 := Fr.app N54 Nq76
      have pr77 : ∀ tg, Steps pP.tables eE below (T76.setTop (mkF mM 190 #[.val (.int av), .val (.int bv), .val (.int cv), .val (.int xv), .val (.int yv), .val (.int sel), .val (.int j3), .val (.int j8), .val (.int j13), .val (.int z17), .val (.ref b19), .val (.ref b28), .val (.ref b28), .val (.int (0 : Int32)), .val (.int (0 : Int32))] [(.int r76)])) tg → Steps pP.tables eE below (s₁.setTop (entryFrame mM #[(.int av), (.int bv), (.int cv), (.int xv), (.int yv), (.int sel)] maxLocals)) tg := fun tg kg => pr75 _ (st76.trans kg)
      have pr78 : ∀ tg, Steps pP.tables eE below (T76.setTop (mkF mM 192 #[.val (.int av), .val (.int bv), .val (.int cv), .val (.int xv), .val (.int yv), .val (.int sel), .val (.int j3), .val (.int j8), .val (.int j13), .val (.int z17), .val (.ref b19), .val (.ref b28), .val (.ref b28), .val (.int (0 : Int32)), .val (.int (0 : Int32))] [(.int (0 : Int32)), (.int r76)])) tg → Steps pP.tables eE below (s₁.setTop (entryFrame mM #[(.int av), (.int bv), (.int cv), (.int xv), (.int yv), (.int sel)] maxLocals)) tg := fun tg kg => pr77 _ (by
        show Steps pP.tables eE below (T76.setTop (mkF mM 190 #[.val (.int av), .val (.int bv), .val (.int cv), .val (.int xv), .val (.int yv), .val (.int sel), .val (.int j3), .val (.int j8), .val (.int j13), .val (.int z17), .val (.ref b19), .val (.ref b28), .val (.ref b28), .val (.int (0 : Int32)), .val (.int (0 : Int32))] [(.int r76)])) _
        refine XS.iload X76.here hx rfl (hb hby at_190) rfl ?_
        exact kg)
      rw [if_neg (fun q => hd57 q.symm)] at hr76
      subst hr76
      have pr79 : ∀ tg, Steps pP.tables eE below (T76.setTop (mkF mM 200 #[.val (.int av), .val (.int bv), .val (.int cv), .val (.int xv), .val (.int yv), .val (.int sel), .val (.int j3), .val (.int j8), .val (.int j13), .val (.int z17), .val (.ref b19), .val (.ref b28), .val (.ref b28), .val (.int (0 : Int32)), .val (.int (0 : Int32))] [(.int (1 : Int32))])) tg → Steps pP.tables eE below (s₁.setTop (entryFrame mM #[(.int av), (.int bv), (.int cv), (.int xv), (.int yv), (.int sel)] maxLocals)) tg := fun tg kg => pr78 _ (by
        show Steps pP.tables eE below (T76.setTop (mkF mM 192 #[.val (.int av), .val (.int bv), .val (.int cv), .val (.int xv), .val (.int yv), .val (.int sel), .val (.int j3), .val (.int j8), .val (.int j13), .val (.int z17), .val (.ref b19), .val (.ref b28), .val (.ref b28), .val (.int (0 : Int32)), .val (.int (0 : Int32))] [(.int (0 : Int32)), (.int (0 : Int32))])) _
        refine XS.icmpNo X76.here hx rfl (hb hby at_192) rfl (teq (by decide)).2 ?_
        show Steps pP.tables eE below (T76.setTop (mkF mM 195 #[.val (.int av), .val (.int bv), .val (.int cv), .val (.int xv), .val (.int yv), .val (.int sel), .val (.int j3), .val (.int j8), .val (.int j13), .val (.int z17), .val (.ref b19), .val (.ref b28), .val (.ref b28), .val (.int (0 : Int32)), .val (.int (0 : Int32))] [])) _
        refine XS.iconst X76.here hx rfl (hb hby at_195) ?_
        show Steps pP.tables eE below (T76.setTop (mkF mM 196 #[.val (.int av), .val (.int bv), .val (.int cv), .val (.int xv), .val (.int yv), .val (.int sel), .val (.int j3), .val (.int j8), .val (.int j13), .val (.int z17), .val (.ref b19), .val (.ref b28), .val (.ref b28), .val (.int (0 : Int32)), .val (.int (0 : Int32))] [(.int (1 : Int32))])) _
        refine XS.goto X76.here hx rfl (pc0 := 196) (pc' := 200) rfl (hb hby at_196) (by decide) (by decide) ?_
        exact kg)
      obtain ⟨fs, hr, hrun, hended, hW, hsame⟩ := X76.leave (v := some (.int (1 : Int32))) (fun h => by rw [Bd.returns] at h; cases h)
      refine ⟨_, _, pr79 _ (retOut X76 hx (t := .boolean) Bd.returns rfl (Or.inl ⟨rfl, Or.inr (Or.inl rfl), _, rfl⟩) (hb hby at_200) hr), hrun, hended, _, _, rfl, ?_, ⟨_, rfl⟩, hW, hsame.mono (by decide) (by decide)⟩
      show Q0 Z av bv cv xv yv sel ca cc h0 n0 _ T76.heap _
      rw [e76]
      exact ⟨rfl, N76⟩
  ·
    have pr81 : ∀ tg, Steps pP.tables eE below (T37.setTop (mkF mM 123 #[.val (.int av), .val (.int bv), .val (.int cv), .val (.int xv), .val (.int yv), .val (.int sel), .val (.int j3), .val (.int j8), .val (.int j13), .val (.int z17), .val (.ref b19), .val (.ref b28), .unset, .unset, .unset] [(.int (1 : Int32)), (.int z17)])) tg → Steps pP.tables eE below (s₁.setTop (entryFrame mM #[(.int av), (.int bv), (.int cv), (.int xv), (.int yv), (.int sel)] maxLocals)) tg := fun tg kg => pr40 _ (by
      show Steps pP.tables eE below (T37.setTop (mkF mM 85 #[.val (.int av), .val (.int bv), .val (.int cv), .val (.int xv), .val (.int yv), .val (.int sel), .val (.int j3), .val (.int j8), .val (.int j13), .val (.int z17), .val (.ref b19), .val (.ref b28), .unset, .unset, .unset] [(.int z17)])) _
      refine XS.ifYes X37.here hx rfl (pc0 := 85) (pc' := 120) rfl (hb hby at_85) rfl ((if0 _ _).trans (feq hc85_39).2) (by decide) (by decide) ?_
      show Steps pP.tables eE below (T37.setTop (mkF mM 120 #[.val (.int av), .val (.int bv), .val (.int cv), .val (.int xv), .val (.int yv), .val (.int sel), .val (.int j3), .val (.int j8), .val (.int j13), .val (.int z17), .val (.ref b19), .val (.ref b28), .unset, .unset, .unset] [])) _
      refine XS.iload X37.here hx rfl (hb hby at_120) rfl ?_
      show Steps pP.tables eE below (T37.setTop (mkF mM 122 #[.val (.int av), .val (.int bv), .val (.int cv), .val (.int xv), .val (.int yv), .val (.int sel), .val (.int j3), .val (.int j8), .val (.int j13), .val (.int z17), .val (.ref b19), .val (.ref b28), .unset, .unset, .unset] [(.int z17)])) _
      refine XS.iconst X37.here hx rfl (hb hby at_122) ?_
      exact kg)
    by_cases hc123_80 : z17 = (1 : Int32)
    ·
      have pr82 : ∀ tg, Steps pP.tables eE below (T37.setTop (mkF mM 164 #[.val (.int av), .val (.int bv), .val (.int cv), .val (.int xv), .val (.int yv), .val (.int sel), .val (.int j3), .val (.int j8), .val (.int j13), .val (.int z17), .val (.ref b19), .val (.ref b28), .val .null, .val (.int (0 : Int32)), .unset] [.null, (.ref b19)])) tg → Steps pP.tables eE below (s₁.setTop (entryFrame mM #[(.int av), (.int bv), (.int cv), (.int xv), (.int yv), (.int sel)] maxLocals)) tg := fun tg kg => pr81 _ (by
        show Steps pP.tables eE below (T37.setTop (mkF mM 123 #[.val (.int av), .val (.int bv), .val (.int cv), .val (.int xv), .val (.int yv), .val (.int sel), .val (.int j3), .val (.int j8), .val (.int j13), .val (.int z17), .val (.ref b19), .val (.ref b28), .unset, .unset, .unset] [(.int (1 : Int32)), (.int z17)])) _
        refine XS.icmpNo X37.here hx rfl (hb hby at_123) rfl (teq hc123_80).2 ?_
        show Steps pP.tables eE below (T37.setTop (mkF mM 126 #[.val (.int av), .val (.int bv), .val (.int cv), .val (.int xv), .val (.int yv), .val (.int sel), .val (.int j3), .val (.int j8), .val (.int j13), .val (.int z17), .val (.ref b19), .val (.ref b28), .unset, .unset, .unset] [])) _
        refine XS.aconstNull X37.here hx rfl (hb hby at_126) ?_
        show Steps pP.tables eE below (T37.setTop (mkF mM 127 #[.val (.int av), .val (.int bv), .val (.int cv), .val (.int xv), .val (.int yv), .val (.int sel), .val (.int j3), .val (.int j8), .val (.int j13), .val (.int z17), .val (.ref b19), .val (.ref b28), .unset, .unset, .unset] [.null])) _
        refine XS.astore X37.here hx rfl (hb hby at_127) rfl rfl (l' := #[.val (.int av), .val (.int bv), .val (.int cv), .val (.int xv), .val (.int yv), .val (.int sel), .val (.int j3), .val (.int j8), .val (.int j13), .val (.int z17), .val (.ref b19), .val (.ref b28), .val .null, .unset, .unset]) rfl ?_
        show Steps pP.tables eE below (T37.setTop (mkF mM 129 #[.val (.int av), .val (.int bv), .val (.int cv), .val (.int xv), .val (.int yv), .val (.int sel), .val (.int j3), .val (.int j8), .val (.int j13), .val (.int z17), .val (.ref b19), .val (.ref b28), .val .null, .unset, .unset] [])) _
        refine XS.iconst X37.here hx rfl (hb hby at_129) ?_
        show Steps pP.tables eE below (T37.setTop (mkF mM 130 #[.val (.int av), .val (.int bv), .val (.int cv), .val (.int xv), .val (.int yv), .val (.int sel), .val (.int j3), .val (.int j8), .val (.int j13), .val (.int z17), .val (.ref b19), .val (.ref b28), .val .null, .unset, .unset] [(.int (0 : Int32))])) _
        refine XS.istore X37.here hx rfl (hb hby at_130) rfl (l' := #[.val (.int av), .val (.int bv), .val (.int cv), .val (.int xv), .val (.int yv), .val (.int sel), .val (.int j3), .val (.int j8), .val (.int j13), .val (.int z17), .val (.ref b19), .val (.ref b28), .val .null, .val (.int (0 : Int32)), .unset]) rfl ?_
        show Steps pP.tables eE below (T37.setTop (mkF mM 132 #[.val (.int av), .val (.int bv), .val (.int cv), .val (.int xv), .val (.int yv), .val (.int sel), .val (.int j3), .val (.int j8), .val (.int j13), .val (.int z17), .val (.ref b19), .val (.ref b28), .val .null, .val (.int (0 : Int32)), .unset] [])) _
        refine XS.goto X37.here hx rfl (pc0 := 132) (pc' := 160) rfl (hb hby at_132) (by decide) (by decide) ?_
        show Steps pP.tables eE below (T37.setTop (mkF mM 160 #[.val (.int av), .val (.int bv), .val (.int cv), .val (.int xv), .val (.int yv), .val (.int sel), .val (.int j3), .val (.int j8), .val (.int j13), .val (.int z17), .val (.ref b19), .val (.ref b28), .val .null, .val (.int (0 : Int32)), .unset] [])) _
        refine XS.aload X37.here hx rfl (hb hby at_160) rfl rfl ?_
        show Steps pP.tables eE below (T37.setTop (mkF mM 162 #[.val (.int av), .val (.int bv), .val (.int cv), .val (.int xv), .val (.int yv), .val (.int sel), .val (.int j3), .val (.int j8), .val (.int j13), .val (.int z17), .val (.ref b19), .val (.ref b28), .val .null, .val (.int (0 : Int32)), .unset] [(.ref b19)])) _
        refine XS.aload X37.here hx rfl (hb hby at_162) rfl rfl ?_
        exact kg)
      have c83 := (Nat.le_trans c36 K37.1)
      have c85 := (Exa.keep (Exa.ext E28 E25) K37)
      obtain ⟨cq84, kq84, qa84, qb84, qc84⟩ := isOf hZ rfl c85
      obtain ⟨_, _, ⟨T84, L84, kk84, nn84⟩, -, X84, ⟨Lc84, hQ84, l84, y84, z84⟩, st84⟩ := X37.virtualBack hx (y := (⟨"com/example/refine/refine/aut/AutHeader", "equals", "(Ljava/lang/Object;)Z"⟩ : MethodName)) (z := (⟨"com/example/refine/refine/aut/AutHeader", "equals", "(Ljava/lang/Object;)Z"⟩ : MethodName)) hown (mvT hZ (hw _ (List.mem_of_getElem? (i := 15) rfl))) (mvT hZ (hw _ (List.mem_of_getElem? (i := 16) rfl))) (notFace_of_selects (args := #[]) (mvT hZ (hw _ (List.mem_of_getElem? (i := 18) rfl)))) (mvT hZ (hw _ (List.mem_of_getElem? (i := 18) rfl))) (mvT hZ (hw _ (List.mem_of_getElem? (i := 17) rfl))) (by decide) (backOf (W := 0) (rm6 l Z a0 hw [] b19 T37.heap n0 c83) hZ (hw _ (List.mem_of_getElem? (i := 19) rfl)) (hw _ (List.mem_of_getElem? (i := 2) rfl)) (by decide) (by decide)) qa84 qc84 (g := (mkF mM 164 #[.val (.int av), .val (.int bv), .val (.int cv), .val (.int xv), .val (.int yv), .val (.int sel), .val (.int j3), .val (.int j8), .val (.int j13), .val (.int z17), .val (.ref b19), .val (.ref b28), .val .null, .val (.int (0 : Int32)), .unset] [.null, (.ref b19)])) rfl (by rw [hml]; rfl) (Steps.refl _) (argsL := [.null]) (rest := []) (lenOf pd_3 rfl) rfl (by show 2 * 0 + _ ≤ _; exact Nat.le_of_eq rfl) (hb hby at_164) (fun _ _ => ⟨rfl, rfl, (by decide : 2 + 0 ≤ _), (by decide : 6 + 0 ≤ _)⟩)
      dsimp only [Pt.U, Pt.locs, Pt.cells, Pt.slots] at X84 l84 y84 z84 st84 hQ84
      subst l84 y84 z84
      obtain ⟨rfl, Nq84, e84⟩ := hQ84
      have N84 := Fr.app N37 Nq84
      have pr86 : ∀ tg, Steps pP.tables eE below (T84.setTop (mkF mM 167 #[.val (.int av), .val (.int bv), .val (.int cv), .val (.int xv), .val (.int yv), .val (.int sel), .val (.int j3), .val (.int j8), .val (.int j13), .val (.int z17), .val (.ref b19), .val (.ref b28), .val .null, .val (.int (0 : Int32)), .unset] [(.int (0 : Int32))])) tg → Steps pP.tables eE below (s₁.setTop (entryFrame mM #[(.int av), (.int bv), (.int cv), (.int xv), (.int yv), (.int sel)] maxLocals)) tg := fun tg kg => pr82 _ (st84.trans kg)
      have pr87 : ∀ tg, Steps pP.tables eE below (T84.setTop (mkF mM 202 #[.val (.int av), .val (.int bv), .val (.int cv), .val (.int xv), .val (.int yv), .val (.int sel), .val (.int j3), .val (.int j8), .val (.int j13), .val (.int z17), .val (.ref b19), .val (.ref b28), .val .null, .val (.int (0 : Int32)), .val (.int (0 : Int32))] [(.int (1 : Int32))])) tg → Steps pP.tables eE below (s₁.setTop (entryFrame mM #[(.int av), (.int bv), (.int cv), (.int xv), (.int yv), (.int sel)] maxLocals)) tg := fun tg kg => pr86 _ (by
        show Steps pP.tables eE below (T84.setTop (mkF mM 167 #[.val (.int av), .val (.int bv), .val (.int cv), .val (.int xv), .val (.int yv), .val (.int sel), .val (.int j3), .val (.int j8), .val (.int j13), .val (.int z17), .val (.ref b19), .val (.ref b28), .val .null, .val (.int (0 : Int32)), .unset] [(.int (0 : Int32))])) _
        refine XS.istore X84.here hx rfl (hb hby at_167) rfl (l' := #[.val (.int av), .val (.int bv), .val (.int cv), .val (.int xv), .val (.int yv), .val (.int sel), .val (.int j3), .val (.int j8), .val (.int j13), .val (.int z17), .val (.ref b19), .val (.ref b28), .val .null, .val (.int (0 : Int32)), .val (.int (0 : Int32))]) rfl ?_
        show Steps pP.tables eE below (T84.setTop (mkF mM 169 #[.val (.int av), .val (.int bv), .val (.int cv), .val (.int xv), .val (.int yv), .val (.int sel), .val (.int j3), .val (.int j8), .val (.int j13), .val (.int z17), .val (.ref b19), .val (.ref b28), .val .null, .val (.int (0 : Int32)), .val (.int (0 : Int32))] [])) _
        refine XS.iload X84.here hx rfl (hb hby at_169) rfl ?_
        show Steps pP.tables eE below (T84.setTop (mkF mM 171 #[.val (.int av), .val (.int bv), .val (.int cv), .val (.int xv), .val (.int yv), .val (.int sel), .val (.int j3), .val (.int j8), .val (.int j13), .val (.int z17), .val (.ref b19), .val (.ref b28), .val .null, .val (.int (0 : Int32)), .val (.int (0 : Int32))] [(.int (0 : Int32))])) _
        refine XS.iload X84.here hx rfl (hb hby at_171) rfl ?_
        show Steps pP.tables eE below (T84.setTop (mkF mM 173 #[.val (.int av), .val (.int bv), .val (.int cv), .val (.int xv), .val (.int yv), .val (.int sel), .val (.int j3), .val (.int j8), .val (.int j13), .val (.int z17), .val (.ref b19), .val (.ref b28), .val .null, .val (.int (0 : Int32)), .val (.int (0 : Int32))] [(.int (0 : Int32)), (.int (0 : Int32))])) _
        refine XS.icmpYes X84.here hx rfl (pc0 := 173) (pc' := 178) rfl (hb hby at_173) rfl (teq (by decide)).1 (by decide) (by decide) ?_
        show Steps pP.tables eE below (T84.setTop (mkF mM 178 #[.val (.int av), .val (.int bv), .val (.int cv), .val (.int xv), .val (.int yv), .val (.int sel), .val (.int j3), .val (.int j8), .val (.int j13), .val (.int z17), .val (.ref b19), .val (.ref b28), .val .null, .val (.int (0 : Int32)), .val (.int (0 : Int32))] [])) _
        refine XS.iload X84.here hx rfl (hb hby at_178) rfl ?_
        show Steps pP.tables eE below (T84.setTop (mkF mM 180 #[.val (.int av), .val (.int bv), .val (.int cv), .val (.int xv), .val (.int yv), .val (.int sel), .val (.int j3), .val (.int j8), .val (.int j13), .val (.int z17), .val (.ref b19), .val (.ref b28), .val .null, .val (.int (0 : Int32)), .val (.int (0 : Int32))] [(.int z17)])) _
        refine XS.ifYes X84.here hx rfl (pc0 := 180) (pc' := 201) rfl (hb hby at_180) rfl ((if0 _ _).trans (feq hc85_39).2) (by decide) (by decide) ?_
        show Steps pP.tables eE below (T84.setTop (mkF mM 201 #[.val (.int av), .val (.int bv), .val (.int cv), .val (.int xv), .val (.int yv), .val (.int sel), .val (.int j3), .val (.int j8), .val (.int j13), .val (.int z17), .val (.ref b19), .val (.ref b28), .val .null, .val (.int (0 : Int32)), .val (.int (0 : Int32))] [])) _
        refine XS.iconst X84.here hx rfl (hb hby at_201) ?_
        exact kg)
      obtain ⟨fs, hr, hrun, hended, hW, hsame⟩ := X84.leave (v := some (.int (1 : Int32))) (fun h => by rw [Bd.returns] at h; cases h)
      refine ⟨_, _, pr87 _ (retOut X84 hx (t := .boolean) Bd.returns rfl (Or.inl ⟨rfl, Or.inr (Or.inl rfl), _, rfl⟩) (hb hby at_202) hr), hrun, hended, _, _, rfl, ?_, ⟨_, rfl⟩, hW, hsame.mono (by decide) (by decide)⟩
      show Q0 Z av bv cv xv yv sel ca cc h0 n0 _ T84.heap _
      rw [e84]
      exact ⟨rfl, N84⟩
    ·
      have pr89 : ∀ tg, Steps pP.tables eE below (T37.setTop (mkF mM 138 #[.val (.int av), .val (.int bv), .val (.int cv), .val (.int xv), .val (.int yv), .val (.int sel), .val (.int j3), .val (.int j8), .val (.int j13), .val (.int z17), .val (.ref b19), .val (.ref b28), .unset, .unset, .unset] [(.int (2 : Int32)), (.int z17)])) tg → Steps pP.tables eE below (s₁.setTop (entryFrame mM #[(.int av), (.int bv), (.int cv), (.int xv), (.int yv), (.int sel)] maxLocals)) tg := fun tg kg => pr81 _ (by
        show Steps pP.tables eE below (T37.setTop (mkF mM 123 #[.val (.int av), .val (.int bv), .val (.int cv), .val (.int xv), .val (.int yv), .val (.int sel), .val (.int j3), .val (.int j8), .val (.int j13), .val (.int z17), .val (.ref b19), .val (.ref b28), .unset, .unset, .unset] [(.int (1 : Int32)), (.int z17)])) _
        refine XS.icmpYes X37.here hx rfl (pc0 := 123) (pc' := 135) rfl (hb hby at_123) rfl (feq hc123_80).2 (by decide) (by decide) ?_
        show Steps pP.tables eE below (T37.setTop (mkF mM 135 #[.val (.int av), .val (.int bv), .val (.int cv), .val (.int xv), .val (.int yv), .val (.int sel), .val (.int j3), .val (.int j8), .val (.int j13), .val (.int z17), .val (.ref b19), .val (.ref b28), .unset, .unset, .unset] [])) _
        refine XS.iload X37.here hx rfl (hb hby at_135) rfl ?_
        show Steps pP.tables eE below (T37.setTop (mkF mM 137 #[.val (.int av), .val (.int bv), .val (.int cv), .val (.int xv), .val (.int yv), .val (.int sel), .val (.int j3), .val (.int j8), .val (.int j13), .val (.int z17), .val (.ref b19), .val (.ref b28), .unset, .unset, .unset] [(.int z17)])) _
        refine XS.iconst X37.here hx rfl (hb hby at_137) ?_
        exact kg)
      by_cases hc138_88 : z17 = (2 : Int32)
      ·
        have c90 := (Old.keep (Old.ext (Old.keep (Old.ext O E19) K25 (allS gn20 all0)) E28) K37 (allS gn30 all0))
        have pr91 : ∀ tg, Steps pP.tables eE below (T37.setTop (mkF mM 142 #[.val (.int av), .val (.int bv), .val (.int cv), .val (.int xv), .val (.int yv), .val (.int sel), .val (.int j3), .val (.int j8), .val (.int j13), .val (.int z17), .val (.ref b19), .val (.ref b28), .unset, .unset, .unset] [(.int av)])) tg → Steps pP.tables eE below (s₁.setTop (entryFrame mM #[(.int av), (.int bv), (.int cv), (.int xv), (.int yv), (.int sel)] maxLocals)) tg := fun tg kg => pr89 _ (by
          show Steps pP.tables eE below (T37.setTop (mkF mM 138 #[.val (.int av), .val (.int bv), .val (.int cv), .val (.int xv), .val (.int yv), .val (.int sel), .val (.int j3), .val (.int j8), .val (.int j13), .val (.int z17), .val (.ref b19), .val (.ref b28), .unset, .unset, .unset] [(.int (2 : Int32)), (.int z17)])) _
          refine XS.icmpNo X37.here hx rfl (hb hby at_138) rfl (teq hc138_88).2 ?_
          show Steps pP.tables eE below (T37.setTop (mkF mM 141 #[.val (.int av), .val (.int bv), .val (.int cv), .val (.int xv), .val (.int yv), .val (.int sel), .val (.int j3), .val (.int j8), .val (.int j13), .val (.int z17), .val (.ref b19), .val (.ref b28), .unset, .unset, .unset] [])) _
          refine XS.iloadN X37.here hx rfl (hb hby at_141) rfl ?_
          exact kg)
        have c92 := (Nat.le_trans c36 K37.1)
        obtain ⟨_, _, ⟨T93, L93, kk93, nn93⟩, -, X93, ⟨Lc93, hQ93, l93, y93, z93⟩, st93⟩ := Jvm.LawKit.callS X37 hx (y := (⟨"java/lang/Integer", "valueOf", "(I)Ljava/lang/Integer;"⟩ : MethodName)) hown (mvT hZ (hw _ (List.mem_of_getElem? (i := 22) rfl))) (mvT hZ (hw _ (List.mem_of_getElem? (i := 23) rfl))) (mvT hZ (hw _ (List.mem_of_getElem? (i := 24) rfl))) (mvT hZ (hw _ (List.mem_of_getElem? (i := 25) rfl))) (by decide) (backOf (W := 0) (rm4 l Z a0 hw [] av ca cc T37.heap n0 c92 c90 S_cache B S_high) hZ (hw _ (List.mem_of_getElem? (i := 25) rfl)) (hw _ (List.mem_of_getElem? (i := 24) rfl)) (by decide) (by decide)) (g := (mkF mM 142 #[.val (.int av), .val (.int bv), .val (.int cv), .val (.int xv), .val (.int yv), .val (.int sel), .val (.int j3), .val (.int j8), .val (.int j13), .val (.int z17), .val (.ref b19), .val (.ref b28), .unset, .unset, .unset] [(.int av)])) rfl (by rw [hml]; rfl) (argsL := [(.int av)]) (rest := []) (lenOf pd_4 rfl) rfl (by show 2 * 0 + _ ≤ _; exact Nat.le_of_eq rfl) (hb hby at_142) (fun _ _ => ⟨rfl, rfl, (by decide : 2 + 1 ≤ _), (by decide : 6 + 1 ≤ _)⟩)
        dsimp only [Pt.U, Pt.locs, Pt.cells, Pt.slots] at X93 l93 y93 z93 st93 hQ93
        subst l93 y93 z93
        obtain ⟨bo93, rfl, Nq93, K93, Eb93⟩ := hQ93
        have N93 := Fr.app N37 Nq93
        have pr94 : ∀ tg, Steps pP.tables eE below (T93.setTop (mkF mM 145 #[.val (.int av), .val (.int bv), .val (.int cv), .val (.int xv), .val (.int yv), .val (.int sel), .val (.int j3), .val (.int j8), .val (.int j13), .val (.int z17), .val (.ref b19), .val (.ref b28), .unset, .unset, .unset] [(.ref bo93)])) tg → Steps pP.tables eE below (s₁.setTop (entryFrame mM #[(.int av), (.int bv), (.int cv), (.int xv), (.int yv), (.int sel)] maxLocals)) tg := fun tg kg => pr91 _ (st93 _ kg)
        have pr95 : ∀ tg, Steps pP.tables eE below (T93.setTop (mkF mM 164 #[.val (.int av), .val (.int bv), .val (.int cv), .val (.int xv), .val (.int yv), .val (.int sel), .val (.int j3), .val (.int j8), .val (.int j13), .val (.int z17), .val (.ref b19), .val (.ref b28), .val (.ref bo93), .val (.int (0 : Int32)), .unset] [(.ref bo93), (.ref b19)])) tg → Steps pP.tables eE below (s₁.setTop (entryFrame mM #[(.int av), (.int bv), (.int cv), (.int xv), (.int yv), (.int sel)] maxLocals)) tg := fun tg kg => pr94 _ (by
          show Steps pP.tables eE below (T93.setTop (mkF mM 145 #[.val (.int av), .val (.int bv), .val (.int cv), .val (.int xv), .val (.int yv), .val (.int sel), .val (.int j3), .val (.int j8), .val (.int j13), .val (.int z17), .val (.ref b19), .val (.ref b28), .unset, .unset, .unset] [(.ref bo93)])) _
          refine XS.astore X93.here hx rfl (hb hby at_145) rfl rfl (l' := #[.val (.int av), .val (.int bv), .val (.int cv), .val (.int xv), .val (.int yv), .val (.int sel), .val (.int j3), .val (.int j8), .val (.int j13), .val (.int z17), .val (.ref b19), .val (.ref b28), .val (.ref bo93), .unset, .unset]) rfl ?_
          show Steps pP.tables eE below (T93.setTop (mkF mM 147 #[.val (.int av), .val (.int bv), .val (.int cv), .val (.int xv), .val (.int yv), .val (.int sel), .val (.int j3), .val (.int j8), .val (.int j13), .val (.int z17), .val (.ref b19), .val (.ref b28), .val (.ref bo93), .unset, .unset] [])) _
          refine XS.iconst X93.here hx rfl (hb hby at_147) ?_
          show Steps pP.tables eE below (T93.setTop (mkF mM 148 #[.val (.int av), .val (.int bv), .val (.int cv), .val (.int xv), .val (.int yv), .val (.int sel), .val (.int j3), .val (.int j8), .val (.int j13), .val (.int z17), .val (.ref b19), .val (.ref b28), .val (.ref bo93), .unset, .unset] [(.int (0 : Int32))])) _
          refine XS.istore X93.here hx rfl (hb hby at_148) rfl (l' := #[.val (.int av), .val (.int bv), .val (.int cv), .val (.int xv), .val (.int yv), .val (.int sel), .val (.int j3), .val (.int j8), .val (.int j13), .val (.int z17), .val (.ref b19), .val (.ref b28), .val (.ref bo93), .val (.int (0 : Int32)), .unset]) rfl ?_
          show Steps pP.tables eE below (T93.setTop (mkF mM 150 #[.val (.int av), .val (.int bv), .val (.int cv), .val (.int xv), .val (.int yv), .val (.int sel), .val (.int j3), .val (.int j8), .val (.int j13), .val (.int z17), .val (.ref b19), .val (.ref b28), .val (.ref bo93), .val (.int (0 : Int32)), .unset] [])) _
          refine XS.goto X93.here hx rfl (pc0 := 150) (pc' := 160) rfl (hb hby at_150) (by decide) (by decide) ?_
          show Steps pP.tables eE below (T93.setTop (mkF mM 160 #[.val (.int av), .val (.int bv), .val (.int cv), .val (.int xv), .val (.int yv), .val (.int sel), .val (.int j3), .val (.int j8), .val (.int j13), .val (.int z17), .val (.ref b19), .val (.ref b28), .val (.ref bo93), .val (.int (0 : Int32)), .unset] [])) _
          refine XS.aload X93.here hx rfl (hb hby at_160) rfl rfl ?_
          show Steps pP.tables eE below (T93.setTop (mkF mM 162 #[.val (.int av), .val (.int bv), .val (.int cv), .val (.int xv), .val (.int yv), .val (.int sel), .val (.int j3), .val (.int j8), .val (.int j13), .val (.int z17), .val (.ref b19), .val (.ref b28), .val (.ref bo93), .val (.int (0 : Int32)), .unset] [(.ref b19)])) _
          refine XS.aload X93.here hx rfl (hb hby at_162) rfl rfl ?_
          exact kg)
        have c96 := (Nat.le_trans c92 K93.1)
        have c98 := (Exa.keep (Exa.keep (Exa.ext E28 E25) K37) K93)
        obtain ⟨cq97, kq97, qa97, qb97, qc97⟩ := isOf hZ rfl c98
        obtain ⟨_, _, ⟨T97, L97, kk97, nn97⟩, -, X97, ⟨Lc97, hQ97, l97, y97, z97⟩, st97⟩ := X93.virtualBack hx (y := (⟨"com/example/refine/refine/aut/AutHeader", "equals", "(Ljava/lang/Object;)Z"⟩ : MethodName)) (z := (⟨"com/example/refine/refine/aut/AutHeader", "equals", "(Ljava/lang/Object;)Z"⟩ : MethodName)) hown (mvT hZ (hw _ (List.mem_of_getElem? (i := 15) rfl))) (mvT hZ (hw _ (List.mem_of_getElem? (i := 16) rfl))) (notFace_of_selects (args := #[]) (mvT hZ (hw _ (List.mem_of_getElem? (i := 18) rfl)))) (mvT hZ (hw _ (List.mem_of_getElem? (i := 18) rfl))) (mvT hZ (hw _ (List.mem_of_getElem? (i := 17) rfl))) (by decide) (backOf (W := 0) (rm7 l Z a0 hw [] b19 bo93 T93.heap n0 c96 Eb93) hZ (hw _ (List.mem_of_getElem? (i := 19) rfl)) (hw _ (List.mem_of_getElem? (i := 2) rfl)) (by decide) (by decide)) qa97 qc97 (g := (mkF mM 164 #[.val (.int av), .val (.int bv), .val (.int cv), .val (.int xv), .val (.int yv), .val (.int sel), .val (.int j3), .val (.int j8), .val (.int j13), .val (.int z17), .val (.ref b19), .val (.ref b28), .val (.ref bo93), .val (.int (0 : Int32)), .unset] [(.ref bo93), (.ref b19)])) rfl (by rw [hml]; rfl) (Steps.refl _) (argsL := [(.ref bo93)]) (rest := []) (lenOf pd_3 rfl) rfl (by show 2 * 0 + _ ≤ _; exact Nat.le_of_eq rfl) (hb hby at_164) (fun _ _ => ⟨rfl, rfl, (by decide : 3 + 0 ≤ _), (by decide : 7 + 0 ≤ _)⟩)
        dsimp only [Pt.U, Pt.locs, Pt.cells, Pt.slots] at X97 l97 y97 z97 st97 hQ97
        subst l97 y97 z97
        obtain ⟨rfl, Nq97, e97⟩ := hQ97
        have N97 := Fr.app N93 Nq97
        have pr99 : ∀ tg, Steps pP.tables eE below (T97.setTop (mkF mM 167 #[.val (.int av), .val (.int bv), .val (.int cv), .val (.int xv), .val (.int yv), .val (.int sel), .val (.int j3), .val (.int j8), .val (.int j13), .val (.int z17), .val (.ref b19), .val (.ref b28), .val (.ref bo93), .val (.int (0 : Int32)), .unset] [(.int (0 : Int32))])) tg → Steps pP.tables eE below (s₁.setTop (entryFrame mM #[(.int av), (.int bv), (.int cv), (.int xv), (.int yv), (.int sel)] maxLocals)) tg := fun tg kg => pr95 _ (st97.trans kg)
        have pr100 : ∀ tg, Steps pP.tables eE below (T97.setTop (mkF mM 202 #[.val (.int av), .val (.int bv), .val (.int cv), .val (.int xv), .val (.int yv), .val (.int sel), .val (.int j3), .val (.int j8), .val (.int j13), .val (.int z17), .val (.ref b19), .val (.ref b28), .val (.ref bo93), .val (.int (0 : Int32)), .val (.int (0 : Int32))] [(.int (1 : Int32))])) tg → Steps pP.tables eE below (s₁.setTop (entryFrame mM #[(.int av), (.int bv), (.int cv), (.int xv), (.int yv), (.int sel)] maxLocals)) tg := fun tg kg => pr99 _ (by
          show Steps pP.tables eE below (T97.setTop (mkF mM 167 #[.val (.int av), .val (.int bv), .val (.int cv), .val (.int xv), .val (.int yv), .val (.int sel), .val (.int j3), .val (.int j8), .val (.int j13), .val (.int z17), .val (.ref b19), .val (.ref b28), .val (.ref bo93), .val (.int (0 : Int32)), .unset] [(.int (0 : Int32))])) _
          refine XS.istore X97.here hx rfl (hb hby at_167) rfl (l' := #[.val (.int av), .val (.int bv), .val (.int cv), .val (.int xv), .val (.int yv), .val (.int sel), .val (.int j3), .val (.int j8), .val (.int j13), .val (.int z17), .val (.ref b19), .val (.ref b28), .val (.ref bo93), .val (.int (0 : Int32)), .val (.int (0 : Int32))]) rfl ?_
          show Steps pP.tables eE below (T97.setTop (mkF mM 169 #[.val (.int av), .val (.int bv), .val (.int cv), .val (.int xv), .val (.int yv), .val (.int sel), .val (.int j3), .val (.int j8), .val (.int j13), .val (.int z17), .val (.ref b19), .val (.ref b28), .val (.ref bo93), .val (.int (0 : Int32)), .val (.int (0 : Int32))] [])) _
          refine XS.iload X97.here hx rfl (hb hby at_169) rfl ?_
          show Steps pP.tables eE below (T97.setTop (mkF mM 171 #[.val (.int av), .val (.int bv), .val (.int cv), .val (.int xv), .val (.int yv), .val (.int sel), .val (.int j3), .val (.int j8), .val (.int j13), .val (.int z17), .val (.ref b19), .val (.ref b28), .val (.ref bo93), .val (.int (0 : Int32)), .val (.int (0 : Int32))] [(.int (0 : Int32))])) _
          refine XS.iload X97.here hx rfl (hb hby at_171) rfl ?_
          show Steps pP.tables eE below (T97.setTop (mkF mM 173 #[.val (.int av), .val (.int bv), .val (.int cv), .val (.int xv), .val (.int yv), .val (.int sel), .val (.int j3), .val (.int j8), .val (.int j13), .val (.int z17), .val (.ref b19), .val (.ref b28), .val (.ref bo93), .val (.int (0 : Int32)), .val (.int (0 : Int32))] [(.int (0 : Int32)), (.int (0 : Int32))])) _
          refine XS.icmpYes X97.here hx rfl (pc0 := 173) (pc' := 178) rfl (hb hby at_173) rfl (teq (by decide)).1 (by decide) (by decide) ?_
          show Steps pP.tables eE below (T97.setTop (mkF mM 178 #[.val (.int av), .val (.int bv), .val (.int cv), .val (.int xv), .val (.int yv), .val (.int sel), .val (.int j3), .val (.int j8), .val (.int j13), .val (.int z17), .val (.ref b19), .val (.ref b28), .val (.ref bo93), .val (.int (0 : Int32)), .val (.int (0 : Int32))] [])) _
          refine XS.iload X97.here hx rfl (hb hby at_178) rfl ?_
          show Steps pP.tables eE below (T97.setTop (mkF mM 180 #[.val (.int av), .val (.int bv), .val (.int cv), .val (.int xv), .val (.int yv), .val (.int sel), .val (.int j3), .val (.int j8), .val (.int j13), .val (.int z17), .val (.ref b19), .val (.ref b28), .val (.ref bo93), .val (.int (0 : Int32)), .val (.int (0 : Int32))] [(.int z17)])) _
          refine XS.ifYes X97.here hx rfl (pc0 := 180) (pc' := 201) rfl (hb hby at_180) rfl ((if0 _ _).trans (feq hc85_39).2) (by decide) (by decide) ?_
          show Steps pP.tables eE below (T97.setTop (mkF mM 201 #[.val (.int av), .val (.int bv), .val (.int cv), .val (.int xv), .val (.int yv), .val (.int sel), .val (.int j3), .val (.int j8), .val (.int j13), .val (.int z17), .val (.ref b19), .val (.ref b28), .val (.ref bo93), .val (.int (0 : Int32)), .val (.int (0 : Int32))] [])) _
          refine XS.iconst X97.here hx rfl (hb hby at_201) ?_
          exact kg)
        obtain ⟨fs, hr, hrun, hended, hW, hsame⟩ := X97.leave (v := some (.int (1 : Int32))) (fun h => by rw [Bd.returns] at h; cases h)
        refine ⟨_, _, pr100 _ (retOut X97 hx (t := .boolean) Bd.returns rfl (Or.inl ⟨rfl, Or.inr (Or.inl rfl), _, rfl⟩) (hb hby at_202) hr), hrun, hended, _, _, rfl, ?_, ⟨_, rfl⟩, hW, hsame.mono (by decide) (by decide)⟩
        show Q0 Z av bv cv xv yv sel ca cc h0 n0 _ T97.heap _
        rw [e97]
        exact ⟨rfl, N97⟩
      ·
        have c101 := (Exa.keep (Exa.ext E28 E25) K37)
        have c102 := (Fld.keep (Fld.ext E28 F25_0) K37 (ninS ne29 nin0))
        have c103 := (Fld.keep (Fld.ext E28 F25_1) K37 (ninS ne29 nin0))
        have c104 := (Fld.keep (Fld.ext E28 F25_2) K37 (ninS ne29 nin0))
        have pr105 : ∀ tg, Steps pP.tables eE below (T37.setTop (mkF mM 164 #[.val (.int av), .val (.int bv), .val (.int cv), .val (.int xv), .val (.int yv), .val (.int sel), .val (.int j3), .val (.int j8), .val (.int j13), .val (.int z17), .val (.ref b19), .val (.ref b28), .val (.ref b19), .val (.int (1 : Int32)), .unset] [(.ref b19), (.ref b19)])) tg → Steps pP.tables eE below (s₁.setTop (entryFrame mM #[(.int av), (.int bv), (.int cv), (.int xv), (.int yv), (.int sel)] maxLocals)) tg := fun tg kg => pr89 _ (by
          show Steps pP.tables eE below (T37.setTop (mkF mM 138 #[.val (.int av), .val (.int bv), .val (.int cv), .val (.int xv), .val (.int yv), .val (.int sel), .val (.int j3), .val (.int j8), .val (.int j13), .val (.int z17), .val (.ref b19), .val (.ref b28), .unset, .unset, .unset] [(.int (2 : Int32)), (.int z17)])) _
          refine XS.icmpYes X37.here hx rfl (pc0 := 138) (pc' := 153) rfl (hb hby at_138) rfl (feq hc138_88).2 (by decide) (by decide) ?_
          show Steps pP.tables eE below (T37.setTop (mkF mM 153 #[.val (.int av), .val (.int bv), .val (.int cv), .val (.int xv), .val (.int yv), .val (.int sel), .val (.int j3), .val (.int j8), .val (.int j13), .val (.int z17), .val (.ref b19), .val (.ref b28), .unset, .unset, .unset] [])) _
          refine XS.aload X37.here hx rfl (hb hby at_153) rfl rfl ?_
          show Steps pP.tables eE below (T37.setTop (mkF mM 155 #[.val (.int av), .val (.int bv), .val (.int cv), .val (.int xv), .val (.int yv), .val (.int sel), .val (.int j3), .val (.int j8), .val (.int j13), .val (.int z17), .val (.ref b19), .val (.ref b28), .unset, .unset, .unset] [(.ref b19)])) _
          refine XS.astore X37.here hx rfl (hb hby at_155) rfl rfl (l' := #[.val (.int av), .val (.int bv), .val (.int cv), .val (.int xv), .val (.int yv), .val (.int sel), .val (.int j3), .val (.int j8), .val (.int j13), .val (.int z17), .val (.ref b19), .val (.ref b28), .val (.ref b19), .unset, .unset]) rfl ?_
          show Steps pP.tables eE below (T37.setTop (mkF mM 157 #[.val (.int av), .val (.int bv), .val (.int cv), .val (.int xv), .val (.int yv), .val (.int sel), .val (.int j3), .val (.int j8), .val (.int j13), .val (.int z17), .val (.ref b19), .val (.ref b28), .val (.ref b19), .unset, .unset] [])) _
          refine XS.iconst X37.here hx rfl (hb hby at_157) ?_
          show Steps pP.tables eE below (T37.setTop (mkF mM 158 #[.val (.int av), .val (.int bv), .val (.int cv), .val (.int xv), .val (.int yv), .val (.int sel), .val (.int j3), .val (.int j8), .val (.int j13), .val (.int z17), .val (.ref b19), .val (.ref b28), .val (.ref b19), .unset, .unset] [(.int (1 : Int32))])) _
          refine XS.istore X37.here hx rfl (hb hby at_158) rfl (l' := #[.val (.int av), .val (.int bv), .val (.int cv), .val (.int xv), .val (.int yv), .val (.int sel), .val (.int j3), .val (.int j8), .val (.int j13), .val (.int z17), .val (.ref b19), .val (.ref b28), .val (.ref b19), .val (.int (1 : Int32)), .unset]) rfl ?_
          show Steps pP.tables eE below (T37.setTop (mkF mM 160 #[.val (.int av), .val (.int bv), .val (.int cv), .val (.int xv), .val (.int yv), .val (.int sel), .val (.int j3), .val (.int j8), .val (.int j13), .val (.int z17), .val (.ref b19), .val (.ref b28), .val (.ref b19), .val (.int (1 : Int32)), .unset] [])) _
          refine XS.aload X37.here hx rfl (hb hby at_160) rfl rfl ?_
          show Steps pP.tables eE below (T37.setTop (mkF mM 162 #[.val (.int av), .val (.int bv), .val (.int cv), .val (.int xv), .val (.int yv), .val (.int sel), .val (.int j3), .val (.int j8), .val (.int j13), .val (.int z17), .val (.ref b19), .val (.ref b28), .val (.ref b19), .val (.int (1 : Int32)), .unset] [(.ref b19)])) _
          refine XS.aload X37.here hx rfl (hb hby at_162) rfl rfl ?_
          exact kg)
        have c106 := (Nat.le_trans c36 K37.1)
        obtain ⟨cq107, kq107, qa107, qb107, qc107⟩ := isOf hZ rfl c101
        obtain ⟨_, _, ⟨T107, L107, kk107, nn107⟩, -, X107, ⟨Lc107, hQ107, l107, y107, z107⟩, st107⟩ := X37.virtualBack hx (y := (⟨"com/example/refine/refine/aut/AutHeader", "equals", "(Ljava/lang/Object;)Z"⟩ : MethodName)) (z := (⟨"com/example/refine/refine/aut/AutHeader", "equals", "(Ljava/lang/Object;)Z"⟩ : MethodName)) hown (mvT hZ (hw _ (List.mem_of_getElem? (i := 15) rfl))) (mvT hZ (hw _ (List.mem_of_getElem? (i := 16) rfl))) (notFace_of_selects (args := #[]) (mvT hZ (hw _ (List.mem_of_getElem? (i := 18) rfl)))) (mvT hZ (hw _ (List.mem_of_getElem? (i := 18) rfl))) (mvT hZ (hw _ (List.mem_of_getElem? (i := 17) rfl))) (by decide) (backOf (W := 0) (rm5 l Z a0 hw [] b19 b19 av bv cv av bv cv T37.heap n0 c106 c101 c102 c103 c104 c101 c102 c103 c104) hZ (hw _ (List.mem_of_getElem? (i := 19) rfl)) (hw _ (List.mem_of_getElem? (i := 2) rfl)) (by decide) (by decide)) qa107 qc107 (g := (mkF mM 164 #[.val (.int av), .val (.int bv), .val (.int cv), .val (.int xv), .val (.int yv), .val (.int sel), .val (.int j3), .val (.int j8), .val (.int j13), .val (.int z17), .val (.ref b19), .val (.ref b28), .val (.ref b19), .val (.int (1 : Int32)), .unset] [(.ref b19), (.ref b19)])) rfl (by rw [hml]; rfl) (Steps.refl _) (argsL := [(.ref b19)]) (rest := []) (lenOf pd_3 rfl) rfl (by show 2 * 0 + _ ≤ _; exact Nat.le_of_eq rfl) (hb hby at_164) (fun _ _ => ⟨rfl, rfl, (by decide : 2 + 0 ≤ _), (by decide : 6 + 0 ≤ _)⟩)
        dsimp only [Pt.U, Pt.locs, Pt.cells, Pt.slots] at X107 l107 y107 z107 st107 hQ107
        subst l107 y107 z107
        obtain ⟨r107, rfl, hr107, Nq107, e107⟩ := hQ107
        have N107 := Fr.app N37 Nq107
        have pr108 : ∀ tg, Steps pP.tables eE below (T107.setTop (mkF mM 167 #[.val (.int av), .val (.int bv), .val (.int cv), .val (.int xv), .val (.int yv), .val (.int sel), .val (.int j3), .val (.int j8), .val (.int j13), .val (.int z17), .val (.ref b19), .val (.ref b28), .val (.ref b19), .val (.int (1 : Int32)), .unset] [(.int r107)])) tg → Steps pP.tables eE below (s₁.setTop (entryFrame mM #[(.int av), (.int bv), (.int cv), (.int xv), (.int yv), (.int sel)] maxLocals)) tg := fun tg kg => pr105 _ (st107.trans kg)
        have pr109 : ∀ tg, Steps pP.tables eE below (T107.setTop (mkF mM 173 #[.val (.int av), .val (.int bv), .val (.int cv), .val (.int xv), .val (.int yv), .val (.int sel), .val (.int j3), .val (.int j8), .val (.int j13), .val (.int z17), .val (.ref b19), .val (.ref b28), .val (.ref b19), .val (.int (1 : Int32)), .val (.int r107)] [(.int (1 : Int32)), (.int r107)])) tg → Steps pP.tables eE below (s₁.setTop (entryFrame mM #[(.int av), (.int bv), (.int cv), (.int xv), (.int yv), (.int sel)] maxLocals)) tg := fun tg kg => pr108 _ (by
          show Steps pP.tables eE below (T107.setTop (mkF mM 167 #[.val (.int av), .val (.int bv), .val (.int cv), .val (.int xv), .val (.int yv), .val (.int sel), .val (.int j3), .val (.int j8), .val (.int j13), .val (.int z17), .val (.ref b19), .val (.ref b28), .val (.ref b19), .val (.int (1 : Int32)), .unset] [(.int r107)])) _
          refine XS.istore X107.here hx rfl (hb hby at_167) rfl (l' := #[.val (.int av), .val (.int bv), .val (.int cv), .val (.int xv), .val (.int yv), .val (.int sel), .val (.int j3), .val (.int j8), .val (.int j13), .val (.int z17), .val (.ref b19), .val (.ref b28), .val (.ref b19), .val (.int (1 : Int32)), .val (.int r107)]) rfl ?_
          show Steps pP.tables eE below (T107.setTop (mkF mM 169 #[.val (.int av), .val (.int bv), .val (.int cv), .val (.int xv), .val (.int yv), .val (.int sel), .val (.int j3), .val (.int j8), .val (.int j13), .val (.int z17), .val (.ref b19), .val (.ref b28), .val (.ref b19), .val (.int (1 : Int32)), .val (.int r107)] [])) _
          refine XS.iload X107.here hx rfl (hb hby at_169) rfl ?_
          show Steps pP.tables eE below (T107.setTop (mkF mM 171 #[.val (.int av), .val (.int bv), .val (.int cv), .val (.int xv), .val (.int yv), .val (.int sel), .val (.int j3), .val (.int j8), .val (.int j13), .val (.int z17), .val (.ref b19), .val (.ref b28), .val (.ref b19), .val (.int (1 : Int32)), .val (.int r107)] [(.int r107)])) _
          refine XS.iload X107.here hx rfl (hb hby at_171) rfl ?_
          exact kg)
        rw [if_pos (rfl : av = av)] at hr107
        rw [if_pos (rfl : bv = bv)] at hr107
        rw [if_pos (rfl : cv = cv)] at hr107
        subst hr107
        have pr110 : ∀ tg, Steps pP.tables eE below (T107.setTop (mkF mM 202 #[.val (.int av), .val (.int bv), .val (.int cv), .val (.int xv), .val (.int yv), .val (.int sel), .val (.int j3), .val (.int j8), .val (.int j13), .val (.int z17), .val (.ref b19), .val (.ref b28), .val (.ref b19), .val (.int (1 : Int32)), .val (.int (1 : Int32))] [(.int (1 : Int32))])) tg → Steps pP.tables eE below (s₁.setTop (entryFrame mM #[(.int av), (.int bv), (.int cv), (.int xv), (.int yv), (.int sel)] maxLocals)) tg := fun tg kg => pr109 _ (by
          show Steps pP.tables eE below (T107.setTop (mkF mM 173 #[.val (.int av), .val (.int bv), .val (.int cv), .val (.int xv), .val (.int yv), .val (.int sel), .val (.int j3), .val (.int j8), .val (.int j13), .val (.int z17), .val (.ref b19), .val (.ref b28), .val (.ref b19), .val (.int (1 : Int32)), .val (.int (1 : Int32))] [(.int (1 : Int32)), (.int (1 : Int32))])) _
          refine XS.icmpYes X107.here hx rfl (pc0 := 173) (pc' := 178) rfl (hb hby at_173) rfl (teq (by decide)).1 (by decide) (by decide) ?_
          show Steps pP.tables eE below (T107.setTop (mkF mM 178 #[.val (.int av), .val (.int bv), .val (.int cv), .val (.int xv), .val (.int yv), .val (.int sel), .val (.int j3), .val (.int j8), .val (.int j13), .val (.int z17), .val (.ref b19), .val (.ref b28), .val (.ref b19), .val (.int (1 : Int32)), .val (.int (1 : Int32))] [])) _
          refine XS.iload X107.here hx rfl (hb hby at_178) rfl ?_
          show Steps pP.tables eE below (T107.setTop (mkF mM 180 #[.val (.int av), .val (.int bv), .val (.int cv), .val (.int xv), .val (.int yv), .val (.int sel), .val (.int j3), .val (.int j8), .val (.int j13), .val (.int z17), .val (.ref b19), .val (.ref b28), .val (.ref b19), .val (.int (1 : Int32)), .val (.int (1 : Int32))] [(.int z17)])) _
          refine XS.ifYes X107.here hx rfl (pc0 := 180) (pc' := 201) rfl (hb hby at_180) rfl ((if0 _ _).trans (feq hc85_39).2) (by decide) (by decide) ?_
          show Steps pP.tables eE below (T107.setTop (mkF mM 201 #[.val (.int av), .val (.int bv), .val (.int cv), .val (.int xv), .val (.int yv), .val (.int sel), .val (.int j3), .val (.int j8), .val (.int j13), .val (.int z17), .val (.ref b19), .val (.ref b28), .val (.ref b19), .val (.int (1 : Int32)), .val (.int (1 : Int32))] [])) _
          refine XS.iconst X107.here hx rfl (hb hby at_201) ?_
          exact kg)
        obtain ⟨fs, hr, hrun, hended, hW, hsame⟩ := X107.leave (v := some (.int (1 : Int32))) (fun h => by rw [Bd.returns] at h; cases h)
        refine ⟨_, _, pr110 _ (retOut X107 hx (t := .boolean) Bd.returns rfl (Or.inl ⟨rfl, Or.inr (Or.inl rfl), _, rfl⟩) (hb hby at_202) hr), hrun, hended, _, _, rfl, ?_, ⟨_, rfl⟩, hW, hsame.mono (by decide) (by decide)⟩
        show Q0 Z av bv cv xv yv sel ca cc h0 n0 _ T107.heap _
        rw [e107]
        exact ⟨rfl, N107⟩
set_option maxRecDepth 65536 in
set_option maxHeartbeats 40000000 in
theorem comes_1 {Post : Tables → Env → Array Value → State → Outcome → State → Prop} (hpost : ∀ tb e args s v u, (limb_1_1.after args s (.returned v) u = true ∧ limb_1_2.after args s (.returned v) u = true ∧ True) → FrameEnd s (.returned v) u (Jvm.fieldLocs frame_1_writes args s ++ Jvm.arrayLocs frame_1_arrays args s ++ Jvm.staticLocs frame_1_statics s) 16 128 → Post tb e args s (.returned v) u) :
    ArmFor flags0 classFile x code maxLocals ret World_1 tables_1 room_1 Calls_1 rest_1 Pre_1 Post := by
  intro l hfl _ _ p e ha hc hk s m args below hf hA hF happ hP
  obtain ⟨hcalls, hrest, hpre⟩ := hP
  obtain ⟨-, -, -, hnamed, -, -, -, hat⟩ := (Spec.applies_iff hf).mp happ
  obtain ⟨hg, hn⟩ := and_e (Cond.before_iff.mp (show (Jvm.Cond.and given_1 narrow_1).before args s = true from hpre))
  obtain ⟨n1, n2⟩ := and_e hg
  obtain ⟨n3, n4⟩ := and_e n2
  obtain ⟨n5, n6⟩ := and_e n4
  obtain ⟨n7, n8⟩ := and_e n6
  obtain ⟨n9, n10⟩ := and_e n8
  obtain ⟨n11, n12⟩ := and_e n10
  obtain ⟨w0, w1, w2, w3, w4, w5, rfl⟩ : ∃ w0 w1 w2 w3 w4 w5 : Value, args = #[w0, w1, w2, w3, w4, w5] := by
    have hs : args.size = 6 := by simpa [Cond.value, given_1] using n1
    obtain ⟨L⟩ := args
    match L, hs with
    | [w0, w1, w2, w3, w4, w5], _ => exact ⟨w0, w1, w2, w3, w4, w5, rfl⟩
  have hw := fun d (hd : d ∈ tables_1) => atoms_spec (ws := Jvm.Cond.code x code maxLocals ret :: tables_1) hat d (List.mem_cons_of_mem _ hd)
  have hfit : Fit s := fun {y c} hc i hi => by
    obtain ⟨ha, rfl⟩ := Array.getElem?_eq_some_iff.mp hc
    have q := List.all_eq_true.mp ((Array.all_eq_true_iff_forall_mem.mp hF) _ (Array.getElem_mem ha)) i (List.mem_range.mpr hi)
    simpa [Array.getElem?_eq_getElem hi] using q
  obtain ⟨hsets, hown0⟩ := atoms_of _ (rest_1_c_eq ▸ (show rest_1_c.before _ s = true from hrest))
  have hr0 := Cond.before_iff.mp hown0
  obtain ⟨i0, ei0⟩ := is_v n3
  obtain rfl : w0 = (.int i0) := Option.some.inj ei0
  obtain ⟨i1, ei1⟩ := is_v n5
  obtain rfl : w1 = (.int i1) := Option.some.inj ei1
  obtain ⟨i2, ei2⟩ := is_v n7
  obtain rfl : w2 = (.int i2) := Option.some.inj ei2
  obtain ⟨i3, ei3⟩ := is_v n9
  obtain rfl : w3 = (.int i3) := Option.some.inj ei3
  obtain ⟨i4, ei4⟩ := is_v n11
  obtain rfl : w4 = (.int i4) := Option.some.inj ei4
  obtain ⟨i5, ei5⟩ := is_v n12
  obtain rfl : w5 = (.int i5) := Option.some.inj ei5
  obtain ⟨ca, eca⟩ := arr_v (Cond.before_iff.mp (hsets _ (List.mem_of_getElem? (i := 4) rfl)))
  have S_cache : Sta s s.heap "java/lang/Integer$IntegerCache" "cache" "[Ljava/lang/Integer;" (.ref ca) := Sta.start eca (Or.inr ⟨(hw _ (List.mem_of_getElem? (i := 45) rfl)), (hsets _ (List.mem_of_getElem? (i := 2) rfl))⟩)
  obtain ⟨cc, Acc⟩ := Arr.start eca (Cond.before_iff.mp (hsets _ (List.mem_of_getElem? (i := 4) rfl)))
  obtain ⟨hl1, hl2⟩ := own_len eca Acc (eqv_i (Term.int_eval (256)) (Cond.before_iff.mp (hsets _ (List.mem_of_getElem? (i := 6) rfl))))
  have Bx : Bxs s ca cc "java/lang/Integer" "I" (256 : Int32) (fun j : Int32 => Value.int (j - 128)) := Bxs.start (fun idx => eca) Acc hl1 hl2 (by decide) (Cond.before_iff.mp (hsets _ (List.mem_of_getElem? (i := 7) rfl))) (fun X j hj hq => (eqv_i (Term.sub_int (idx_at hj) (Term.int_eval (128))) hq))
  have S_high : Sta s s.heap "java/lang/Integer$IntegerCache" "high" "I" (.int (127 : Int32)) := Sta.start (eqv_i (Term.int_eval (127)) (Cond.before_iff.mp (hsets _ (List.mem_of_getElem? (i := 3) rfl)))) (Or.inl (hsets _ (List.mem_of_getElem? (i := 1) rfl)))
  obtain ⟨n, o, h1, h2, h3, _, L, rfl, ⟨rfl, N⟩, hq⟩ := rm0 l s _ hw tables_1 i0 i1 i2 i3 i4 i5 ca cc s.heap s.heap.size (Nat.le_refl _) (Old.start s) S_cache Bx S_high p e ha hc hk s m _ below hf ((Spec.applies_iff_loose hf).mp happ).1 ⟨rfl, State.Warmed39.refl s, rfl⟩ trivial
  refine ⟨n, _, h1, h2, h3, hpost _ _ _ _ _ _ ⟨Cond.after_iff.mpr rfl, Cond.after_iff.mpr (eq_i res_at (Term.int_eval (1)) rfl), trivial⟩ ⟨hq.1, hq.2.1, (hq.2.2.sift fun y hy => Or.inr (N y hy)).mono (by decide) (by decide)⟩⟩
theorem main_1_1 : Claimed_1_1 := comes_1 fun _ _ _ _ _ _ h hF => ⟨h.1, hF⟩
theorem main_1_2 : Claimed_1_2 := comes_1 fun _ _ _ _ _ _ h hF => ⟨h.2.1, hF⟩
end Jvm.Pilot.@@N@@
namespace Jvm.Pilot.@@N@@
open Jvm Jvm.ClassFile Sem Op Lib Jvm.Free Jvm.Stand Jvm.Pilot.@@N@@.Jvm.D
/-! MADE BY PROGRAM (witnessworld.py) out of the Statement's table words and the real class files: 16 classes; the members and pool entries that the words name. The judged class is class 1, her method 1. -/
namespace start1
open Jvm.ClassFile
def u (s : String) : CpInfo := .utf8 (stringToUtf16 s)
/-- a pool by its gaps: so many unusable entries, then the entry; so many at the end -/
def gap : Nat → List CpInfo → List CpInfo
  | 0, r => r
  | n + 1, r => .unusable :: gap n r
def poolList (es : List (Nat × CpInfo)) (last : Nat) : List CpInfo := es.foldr (fun e r => gap e.1 (e.2 :: r)) (gap last [])
def pool (es : List (Nat × CpInfo)) (last : Nat) : Array CpInfo := ⟨poolList es last⟩
def fileOf (pool : Array CpInfo) (this : Nat) (attrs : Array Attribute := #[]) (ms : Array MethodInfo := #[]) (fl : Nat := 33) (sup : Nat := 0) (ifs : Array Nat := #[]) (fds : Array FieldInfo := #[]) : ClassFile where
  minorVersion := 0
  majorVersion := 65
  constantPool := pool
  accessFlags := fl
  thisClass := this
  superClass := sup
  interfaces := ifs
  fields := fds
  methods := ms
  attributes := attrs
def plain (name : String) (sup : Option ClassId) : Class where
  name := name
  kind := .ordinary
  loader := none
  accessFlags := 33
  super := sup
  interfaces := #[]
  cf := none
  fields := #[]
  methods := #[]
  instanceTypes := #[]
  staticTypes := #[]
  resolved := #[]
  callSites := []
  init := .initialized
  statics := none
  mirror := none

def pool0 : Array CpInfo := pool [(5, u "<init>"), (0, u "()V"), (1, .class_ 10), (1, u "java/lang/Object")] 113

def k0c0 : Code := { maxStack := 0, maxLocals := 1, code := object_method_1_code, exceptionTable := #[], attributes := #[] }
def k0m0 : Method := { name := "<init>", desc := "()V", sig := { parameters := [], returnType := none }, accessFlags := 1, code := some k0c0 }
/-- java/lang/Object -/
def k0 : Class := { plain "java/lang/Object" none with
  accessFlags := 33
  interfaces := #[]
  cf := some (fileOf pool0 8 #[] #[{ accessFlags := 1, nameIndex := 5, descriptorIndex := 6, attributes := #[] }] 33 0 #[] #[])
  fields := #[]
  methods := #[k0m0]
  instanceTypes := #[]
  staticTypes := #[]
  resolved := Array.replicate 124 none
  statics := none }

def pool1 : Array CpInfo := pool [(2, .class_ 4), (1, u "java/lang/Object"), (0, u "<init>"), (0, u "()V"), (0, .class_ 8), (0, u "com/example/refine/refine/aut/AutHeader"), (0, .methodref 7 10), (0, .nameAndType 5 11), (0, u "(III)V"), (0, .methodref 13 14), (0, .class_ 15), (0, .nameAndType 16 17), (0, u "java/lang/Integer"), (0, u "valueOf"), (0, u "(I)Ljava/lang/Integer;"), (0, .methodref 7 19), (0, .nameAndType 20 21), (0, u "equals"), (0, u "(Ljava/lang/Object;)Z"), (0, .class_ 23), (0, u "com/example/refine/refine/aut/AutHeaderEqualsPinLaw"), (2, u "law"), (0, u "(IIIIII)Z")] 3

def k1m0 : Method := { name := "<init>", desc := "()V", sig := { parameters := [], returnType := none }, accessFlags := 1, code := none }
def k1c1 : Code := { maxStack := 5, maxLocals := 15, code := code, exceptionTable := #[], attributes := #[] }
def k1m1 : Method := { name := "law", desc := "(IIIIII)Z", sig := { parameters := [.int, .int, .int, .int, .int, .int], returnType := some .boolean }, accessFlags := 9, code := some k1c1 }
/-- com/example/refine/refine/aut/AutHeaderEqualsPinLaw -/
def k1 : Class := { plain "com/example/refine/refine/aut/AutHeaderEqualsPinLaw" (some 0) with
  accessFlags := 49
  interfaces := #[]
  cf := some (fileOf pool1 22 #[] #[{ accessFlags := 1, nameIndex := 5, descriptorIndex := 6, attributes := #[] }, { accessFlags := 9, nameIndex := 26, descriptorIndex := 27, attributes := #[] }] 49 2 #[] #[])
  fields := #[]
  methods := #[k1m0, k1m1]
  instanceTypes := #[]
  staticTypes := #[]
  resolved := Array.replicate 31 none
  statics := none }

def pool2 : Array CpInfo := pool [(1, .methodref 2 3), (0, .class_ 4), (0, .nameAndType 5 6), (0, u "java/lang/Object"), (0, u "<init>"), (0, u "()V"), (0, .fieldref 8 9), (0, .class_ 10), (0, .nameAndType 11 12), (0, u "com/example/refine/refine/aut/AutHeader"), (0, u "initialState"), (0, u "I"), (0, .fieldref 8 14), (0, .nameAndType 15 12), (0, u "transitionCount"), (0, .fieldref 8 17), (0, .nameAndType 18 12), (0, u "stateCount"), (47, u "(III)V"), (6, u "LINE"), (2, u "INITIAL_STATE"), (0, u "Ljava/lang/String;"), (13, u "equals"), (0, u "(Ljava/lang/Object;)Z")] 22

def k2c0 : Code := { maxStack := 2, maxLocals := 4, code := prog_2_method_1_code, exceptionTable := #[], attributes := #[] }
def k2m0 : Method := { name := "<init>", desc := "(III)V", sig := { parameters := [.int, .int, .int], returnType := none }, accessFlags := 0, code := some k2c0 }
def k2c1 : Code := { maxStack := 2, maxLocals := 3, code := prog_2_method_7_code, exceptionTable := #[], attributes := #[] }
def k2m1 : Method := { name := "equals", desc := "(Ljava/lang/Object;)Z", sig := { parameters := [(.object "java/lang/Object")], returnType := some .boolean }, accessFlags := 1, code := some k2c1 }
/-- com/example/refine/refine/aut/AutHeader -/
def k2 : Class := { plain "com/example/refine/refine/aut/AutHeader" (some 0) with
  accessFlags := 49
  interfaces := #[]
  cf := some (fileOf pool2 8 #[] #[{ accessFlags := 0, nameIndex := 5, descriptorIndex := 66, attributes := #[] }, { accessFlags := 1, nameIndex := 91, descriptorIndex := 92, attributes := #[] }] 49 2 #[] #[{ accessFlags := 26, nameIndex := 73, descriptorIndex := 12, attributes := #[] }, { accessFlags := 26, nameIndex := 76, descriptorIndex := 77, attributes := #[] }, { accessFlags := 18, nameIndex := 11, descriptorIndex := 12, attributes := #[] }, { accessFlags := 18, nameIndex := 15, descriptorIndex := 12, attributes := #[] }, { accessFlags := 18, nameIndex := 18, descriptorIndex := 12, attributes := #[] }])
  fields := #[{ name := "LINE", type := .int, accessFlags := 26, slot := 0, constantValue := 0 }, { name := "INITIAL_STATE", type := (.object "java/lang/String"), accessFlags := 26, slot := 1, constantValue := 0 }, { name := "initialState", type := .int, accessFlags := 18, slot := 0, constantValue := 0 }, { name := "transitionCount", type := .int, accessFlags := 18, slot := 1, constantValue := 0 }, { name := "stateCount", type := .int, accessFlags := 18, slot := 2, constantValue := 0 }]
  methods := #[k2m0, k2m1]
  instanceTypes := #[.int, .int, .int]
  staticTypes := #[.int, (.object "java/lang/String")]
  resolved := Array.replicate 115 none
  statics := none }

def pool3 : Array CpInfo := pool [(1, .class_ 2), (0, u "java/io/Serializable"), (0, .class_ 4), (0, u "java/lang/Object")] 2

/-- java/io/Serializable -/
def k3 : Class := { plain "java/io/Serializable" (some 0) with
  accessFlags := 1537
  interfaces := #[]
  cf := some (fileOf pool3 1 #[] #[] 1537 3 #[] #[])
  fields := #[]
  methods := #[]
  instanceTypes := #[]
  staticTypes := #[]
  resolved := Array.replicate 7 none
  statics := none }

def pool4 : Array CpInfo := pool [(1, .methodref 2 3), (0, .class_ 4), (0, .nameAndType 5 6), (0, u "java/lang/Object"), (0, u "<init>"), (0, u "()V"), (1, .class_ 10), (1, u "java/lang/Number"), (2, .class_ 14), (0, u "java/io/Serializable"), (0, u "serialVersionUID"), (0, u "J")] 20

def k4c0 : Code := { maxStack := 1, maxLocals := 1, code := jdk_18_method_1_code, exceptionTable := #[], attributes := #[] }
def k4m0 : Method := { name := "<init>", desc := "()V", sig := { parameters := [], returnType := none }, accessFlags := 1, code := some k4c0 }
/-- java/lang/Number -/
def k4 : Class := { plain "java/lang/Number" (some 0) with
  accessFlags := 1057
  interfaces := #[3]
  cf := some (fileOf pool4 8 #[] #[{ accessFlags := 1, nameIndex := 5, descriptorIndex := 6, attributes := #[] }] 1057 2 #[13] #[{ accessFlags := 26, nameIndex := 15, descriptorIndex := 16, attributes := #[] }])
  fields := #[{ name := "serialVersionUID", type := .long, accessFlags := 26, slot := 0, constantValue := 0 }]
  methods := #[k4m0]
  instanceTypes := #[]
  staticTypes := #[.long]
  resolved := Array.replicate 37 none
  statics := none }

def pool5 : Array CpInfo := pool [(1, .class_ 2), (0, u "java/lang/Comparable"), (0, .class_ 4), (0, u "java/lang/Object")] 7

/-- java/lang/Comparable -/
def k5 : Class := { plain "java/lang/Comparable" (some 0) with
  accessFlags := 1537
  interfaces := #[]
  cf := some (fileOf pool5 1 #[] #[] 1537 3 #[] #[])
  fields := #[]
  methods := #[]
  instanceTypes := #[]
  staticTypes := #[]
  resolved := Array.replicate 12 none
  statics := none }

def pool6 : Array CpInfo := pool [(1, .class_ 2), (0, u "java/lang/constant/Constable"), (0, .class_ 4), (0, u "java/lang/Object")] 6

/-- java/lang/constant/Constable -/
def k6 : Class := { plain "java/lang/constant/Constable" (some 0) with
  accessFlags := 1537
  interfaces := #[]
  cf := some (fileOf pool6 1 #[] #[] 1537 3 #[] #[])
  fields := #[]
  methods := #[]
  instanceTypes := #[]
  staticTypes := #[]
  resolved := Array.replicate 11 none
  statics := none }

def pool7 : Array CpInfo := pool [(1, .class_ 2), (0, u "java/lang/constant/ConstantDesc"), (0, .class_ 4), (0, u "java/lang/Object")] 32

/-- java/lang/constant/ConstantDesc -/
def k7 : Class := { plain "java/lang/constant/ConstantDesc" (some 0) with
  accessFlags := 1537
  interfaces := #[]
  cf := some (fileOf pool7 1 #[] #[] 1537 3 #[] #[])
  fields := #[]
  methods := #[]
  instanceTypes := #[]
  staticTypes := #[]
  resolved := Array.replicate 37 none
  statics := none }

def pool8 : Array CpInfo := pool [(1, .class_ 2), (0, u "java/lang/Integer"), (16, u "digits"), (0, u "[C"), (46, u "<init>"), (17, u "DigitOnes"), (0, u "[B"), (2, u "DigitTens"), (10, .nameAndType 67 101), (0, u "()V"), (85, u "valueOf"), (0, u "(I)Ljava/lang/Integer;"), (0, .class_ 190), (0, u "java/lang/Integer$IntegerCache"), (0, .fieldref 189 192), (0, .nameAndType 193 194), (0, u "high"), (0, u "I"), (0, .fieldref 189 196), (0, .nameAndType 197 198), (0, u "cache"), (0, u "[Ljava/lang/Integer;"), (0, .methodref 1 200), (0, .nameAndType 67 201), (0, u "(I)V"), (0, .methodref 203 100), (0, .class_ 204), (0, u "java/lang/Number"), (0, .fieldref 1 206), (0, .nameAndType 207 194), (0, u "value"), (94, u "TYPE"), (0, u "Ljava/lang/Class;"), (0, .class_ 305), (0, u "java/lang/Comparable"), (0, .class_ 307), (0, u "java/lang/constant/Constable"), (0, .class_ 309), (0, u "java/lang/constant/ConstantDesc"), (0, u "MIN_VALUE"), (1, u "MAX_VALUE"), (3, u "SIZE"), (1, u "BYTES"), (1, u "serialVersionUID"), (0, u "J")] 131

def k8c0 : Code := { maxStack := 3, maxLocals := 1, code := jdk_33_method_22_code, exceptionTable := #[], attributes := #[] }
def k8m0 : Method := { name := "valueOf", desc := "(I)Ljava/lang/Integer;", sig := { parameters := [.int], returnType := some (.object "java/lang/Integer") }, accessFlags := 9, code := some k8c0 }
def k8c1 : Code := { maxStack := 2, maxLocals := 2, code := jdk_33_method_23_code, exceptionTable := #[], attributes := #[] }
def k8m1 : Method := { name := "<init>", desc := "(I)V", sig := { parameters := [.int], returnType := none }, accessFlags := 1, code := some k8c1 }
/-- java/lang/Integer -/
def k8 : Class := { plain "java/lang/Integer" (some 4) with
  accessFlags := 49
  interfaces := #[5, 6, 7]
  cf := some (fileOf pool8 1 #[.nestMembers #[189]] #[{ accessFlags := 9, nameIndex := 187, descriptorIndex := 188, attributes := #[] }, { accessFlags := 1, nameIndex := 67, descriptorIndex := 201, attributes := #[] }] 49 203 #[304, 306, 308] #[{ accessFlags := 25, nameIndex := 310, descriptorIndex := 194, attributes := #[] }, { accessFlags := 25, nameIndex := 312, descriptorIndex := 194, attributes := #[] }, { accessFlags := 25, nameIndex := 302, descriptorIndex := 303, attributes := #[] }, { accessFlags := 24, nameIndex := 19, descriptorIndex := 20, attributes := #[] }, { accessFlags := 24, nameIndex := 89, descriptorIndex := 86, attributes := #[] }, { accessFlags := 24, nameIndex := 85, descriptorIndex := 86, attributes := #[] }, { accessFlags := 18, nameIndex := 207, descriptorIndex := 194, attributes := #[] }, { accessFlags := 25, nameIndex := 316, descriptorIndex := 194, attributes := #[] }, { accessFlags := 25, nameIndex := 318, descriptorIndex := 194, attributes := #[] }, { accessFlags := 26, nameIndex := 320, descriptorIndex := 321, attributes := #[] }])
  fields := #[{ name := "MIN_VALUE", type := .int, accessFlags := 25, slot := 0, constantValue := 0 }, { name := "MAX_VALUE", type := .int, accessFlags := 25, slot := 1, constantValue := 0 }, { name := "TYPE", type := (.object "java/lang/Class"), accessFlags := 25, slot := 2, constantValue := 0 }, { name := "digits", type := (.array .char), accessFlags := 24, slot := 3, constantValue := 0 }, { name := "DigitTens", type := (.array .byte), accessFlags := 24, slot := 4, constantValue := 0 }, { name := "DigitOnes", type := (.array .byte), accessFlags := 24, slot := 5, constantValue := 0 }, { name := "value", type := .int, accessFlags := 18, slot := 0, constantValue := 0 }, { name := "SIZE", type := .int, accessFlags := 25, slot := 6, constantValue := 0 }, { name := "BYTES", type := .int, accessFlags := 25, slot := 7, constantValue := 0 }, { name := "serialVersionUID", type := .long, accessFlags := 26, slot := 8, constantValue := 0 }]
  methods := #[k8m0, k8m1]
  instanceTypes := #[.int]
  staticTypes := #[.int, .int, (.object "java/lang/Class"), (.array .char), (.array .byte), (.array .byte), .int, .int, .long]
  resolved := Array.replicate 453 none
  statics := none }

def pool9 : Array CpInfo := pool [(2, .class_ 4), (1, u "java/lang/Object"), (0, u "<init>"), (0, u "()V"), (0, .class_ 8), (0, u "java/lang/Integer"), (7, .class_ 18), (1, u "java/lang/Integer$IntegerCache"), (0, u "$assertionsDisabled"), (0, u "Z"), (26, u "high"), (0, u "I"), (8, u "archivedCache"), (0, u "[Ljava/lang/Integer;"), (12, u "cache"), (0, u "low")] 27

def k9m0 : Method := { name := "<init>", desc := "()V", sig := { parameters := [], returnType := none }, accessFlags := 2, code := none }
/-- java/lang/Integer$IntegerCache -/
def k9 : Class := { plain "java/lang/Integer$IntegerCache" (some 0) with
  accessFlags := 48
  interfaces := #[]
  cf := some (fileOf pool9 16 #[.nestHost 7] #[{ accessFlags := 2, nameIndex := 5, descriptorIndex := 6, attributes := #[] }] 48 2 #[] #[{ accessFlags := 24, nameIndex := 72, descriptorIndex := 48, attributes := #[] }, { accessFlags := 24, nameIndex := 47, descriptorIndex := 48, attributes := #[] }, { accessFlags := 24, nameIndex := 71, descriptorIndex := 58, attributes := #[] }, { accessFlags := 8, nameIndex := 57, descriptorIndex := 58, attributes := #[] }, { accessFlags := 4120, nameIndex := 19, descriptorIndex := 20, attributes := #[] }])
  fields := #[{ name := "low", type := .int, accessFlags := 24, slot := 0, constantValue := 0 }, { name := "high", type := .int, accessFlags := 24, slot := 1, constantValue := 0 }, { name := "cache", type := (.array (.object "java/lang/Integer")), accessFlags := 24, slot := 2, constantValue := 0 }, { name := "archivedCache", type := (.array (.object "java/lang/Integer")), accessFlags := 8, slot := 3, constantValue := 0 }, { name := "$assertionsDisabled", type := .boolean, accessFlags := 4120, slot := 4, constantValue := 0 }]
  methods := #[k9m0]
  instanceTypes := #[]
  staticTypes := #[.int, .int, (.array (.object "java/lang/Integer")), (.array (.object "java/lang/Integer")), .boolean]
  resolved := Array.replicate 100 none
  statics := some 0 }

def pool10 : Array CpInfo := pool [(1, u "java/lang/Cloneable"), (0, .class_ 1), (0, u "java/lang/Object"), (0, .class_ 3)] 3

/-- java/lang/Cloneable -/
def k10 : Class := { plain "java/lang/Cloneable" (some 0) with
  accessFlags := 1537
  interfaces := #[]
  cf := some (fileOf pool10 2 #[] #[] 1537 4 #[] #[])
  fields := #[]
  methods := #[]
  instanceTypes := #[]
  staticTypes := #[]
  resolved := Array.replicate 8 none
  statics := none }

/-- the primitive byte -/
def k11 : Class := { plain "byte" none with kind := .primitive 'B', accessFlags := 0x411 }
/-- [B -/
def k12 : Class := { plain "[B" (some 0) with kind := .array 11 .byte, interfaces := #[10, 3], accessFlags := 1041 }

/-- the primitive int -/
def k13 : Class := { plain "int" none with kind := .primitive 'I', accessFlags := 0x411 }
/-- [I -/
def k14 : Class := { plain "[I" (some 0) with kind := .array 13 .int, interfaces := #[10, 3], accessFlags := 1041 }

/-- [Ljava/lang/Integer; -/
def k15 : Class := { plain "[Ljava/lang/Integer;" (some 0) with kind := .array 8 (.object "java/lang/Integer"), interfaces := #[10, 3], accessFlags := 1041 }

def heap : Heap := #[{ cls := 9, slots := #[.int 0, .int 127, .ref 1, .null, .int 0], vm := .statics 9 },
  { cls := 15, slots := #[.ref 2, .ref 3, .ref 4, .ref 5, .ref 6, .ref 7, .ref 8, .ref 9, .ref 10, .ref 11, .ref 12, .ref 13, .ref 14, .ref 15, .ref 16, .ref 17, .ref 18, .ref 19, .ref 20, .ref 21, .ref 22, .ref 23, .ref 24, .ref 25, .ref 26, .ref 27, .ref 28, .ref 29, .ref 30, .ref 31, .ref 32, .ref 33, .ref 34, .ref 35, .ref 36, .ref 37, .ref 38, .ref 39, .ref 40, .ref 41, .ref 42, .ref 43, .ref 44, .ref 45, .ref 46, .ref 47, .ref 48, .ref 49, .ref 50, .ref 51, .ref 52, .ref 53, .ref 54, .ref 55, .ref 56, .ref 57, .ref 58, .ref 59, .ref 60, .ref 61, .ref 62, .ref 63, .ref 64, .ref 65, .ref 66, .ref 67, .ref 68, .ref 69, .ref 70, .ref 71, .ref 72, .ref 73, .ref 74, .ref 75, .ref 76, .ref 77, .ref 78, .ref 79, .ref 80, .ref 81, .ref 82, .ref 83, .ref 84, .ref 85, .ref 86, .ref 87, .ref 88, .ref 89, .ref 90, .ref 91, .ref 92, .ref 93, .ref 94, .ref 95, .ref 96, .ref 97, .ref 98, .ref 99, .ref 100, .ref 101, .ref 102, .ref 103, .ref 104, .ref 105, .ref 106, .ref 107, .ref 108, .ref 109, .ref 110, .ref 111, .ref 112, .ref 113, .ref 114, .ref 115, .ref 116, .ref 117, .ref 118, .ref 119, .ref 120, .ref 121, .ref 122, .ref 123, .ref 124, .ref 125, .ref 126, .ref 127, .ref 128, .ref 129, .ref 130, .ref 131, .ref 132, .ref 133, .ref 134, .ref 135, .ref 136, .ref 137, .ref 138, .ref 139, .ref 140, .ref 141, .ref 142, .ref 143, .ref 144, .ref 145, .ref 146, .ref 147, .ref 148, .ref 149, .ref 150, .ref 151, .ref 152, .ref 153, .ref 154, .ref 155, .ref 156, .ref 157, .ref 158, .ref 159, .ref 160, .ref 161, .ref 162, .ref 163, .ref 164, .ref 165, .ref 166, .ref 167, .ref 168, .ref 169, .ref 170, .ref 171, .ref 172, .ref 173, .ref 174, .ref 175, .ref 176, .ref 177, .ref 178, .ref 179, .ref 180, .ref 181, .ref 182, .ref 183, .ref 184, .ref 185, .ref 186, .ref 187, .ref 188, .ref 189, .ref 190, .ref 191, .ref 192, .ref 193, .ref 194, .ref 195, .ref 196, .ref 197, .ref 198, .ref 199, .ref 200, .ref 201, .ref 202, .ref 203, .ref 204, .ref 205, .ref 206, .ref 207, .ref 208, .ref 209, .ref 210, .ref 211, .ref 212, .ref 213, .ref 214, .ref 215, .ref 216, .ref 217, .ref 218, .ref 219, .ref 220, .ref 221, .ref 222, .ref 223, .ref 224, .ref 225, .ref 226, .ref 227, .ref 228, .ref 229, .ref 230, .ref 231, .ref 232, .ref 233, .ref 234, .ref 235, .ref 236, .ref 237, .ref 238, .ref 239, .ref 240, .ref 241, .ref 242, .ref 243, .ref 244, .ref 245, .ref 246, .ref 247, .ref 248, .ref 249, .ref 250, .ref 251, .ref 252, .ref 253, .ref 254, .ref 255, .ref 256, .ref 257], vm := .none },
  { cls := 8, slots := #[.int (-128)], vm := .none },
  { cls := 8, slots := #[.int (-127)], vm := .none },
  { cls := 8, slots := #[.int (-126)], vm := .none },
  { cls := 8, slots := #[.int (-125)], vm := .none },
  { cls := 8, slots := #[.int (-124)], vm := .none },
  { cls := 8, slots := #[.int (-123)], vm := .none },
  { cls := 8, slots := #[.int (-122)], vm := .none },
  { cls := 8, slots := #[.int (-121)], vm := .none },
  { cls := 8, slots := #[.int (-120)], vm := .none },
  { cls := 8, slots := #[.int (-119)], vm := .none },
  { cls := 8, slots := #[.int (-118)], vm := .none },
  { cls := 8, slots := #[.int (-117)], vm := .none },
  { cls := 8, slots := #[.int (-116)], vm := .none },
  { cls := 8, slots := #[.int (-115)], vm := .none },
  { cls := 8, slots := #[.int (-114)], vm := .none },
  { cls := 8, slots := #[.int (-113)], vm := .none },
  { cls := 8, slots := #[.int (-112)], vm := .none },
  { cls := 8, slots := #[.int (-111)], vm := .none },
  { cls := 8, slots := #[.int (-110)], vm := .none },
  { cls := 8, slots := #[.int (-109)], vm := .none },
  { cls := 8, slots := #[.int (-108)], vm := .none },
  { cls := 8, slots := #[.int (-107)], vm := .none },
  { cls := 8, slots := #[.int (-106)], vm := .none },
  { cls := 8, slots := #[.int (-105)], vm := .none },
  { cls := 8, slots := #[.int (-104)], vm := .none },
  { cls := 8, slots := #[.int (-103)], vm := .none },
  { cls := 8, slots := #[.int (-102)], vm := .none },
  { cls := 8, slots := #[.int (-101)], vm := .none },
  { cls := 8, slots := #[.int (-100)], vm := .none },
  { cls := 8, slots := #[.int (-99)], vm := .none },
  { cls := 8, slots := #[.int (-98)], vm := .none },
  { cls := 8, slots := #[.int (-97)], vm := .none },
  { cls := 8, slots := #[.int (-96)], vm := .none },
  { cls := 8, slots := #[.int (-95)], vm := .none },
  { cls := 8, slots := #[.int (-94)], vm := .none },
  { cls := 8, slots := #[.int (-93)], vm := .none },
  { cls := 8, slots := #[.int (-92)], vm := .none },
  { cls := 8, slots := #[.int (-91)], vm := .none },
  { cls := 8, slots := #[.int (-90)], vm := .none },
  { cls := 8, slots := #[.int (-89)], vm := .none },
  { cls := 8, slots := #[.int (-88)], vm := .none },
  { cls := 8, slots := #[.int (-87)], vm := .none },
  { cls := 8, slots := #[.int (-86)], vm := .none },
  { cls := 8, slots := #[.int (-85)], vm := .none },
  { cls := 8, slots := #[.int (-84)], vm := .none },
  { cls := 8, slots := #[.int (-83)], vm := .none },
  { cls := 8, slots := #[.int (-82)], vm := .none },
  { cls := 8, slots := #[.int (-81)], vm := .none },
  { cls := 8, slots := #[.int (-80)], vm := .none },
  { cls := 8, slots := #[.int (-79)], vm := .none },
  { cls := 8, slots := #[.int (-78)], vm := .none },
  { cls := 8, slots := #[.int (-77)], vm := .none },
  { cls := 8, slots := #[.int (-76)], vm := .none },
  { cls := 8, slots := #[.int (-75)], vm := .none },
  { cls := 8, slots := #[.int (-74)], vm := .none },
  { cls := 8, slots := #[.int (-73)], vm := .none },
  { cls := 8, slots := #[.int (-72)], vm := .none },
  { cls := 8, slots := #[.int (-71)], vm := .none },
  { cls := 8, slots := #[.int (-70)], vm := .none },
  { cls := 8, slots := #[.int (-69)], vm := .none },
  { cls := 8, slots := #[.int (-68)], vm := .none },
  { cls := 8, slots := #[.int (-67)], vm := .none },
  { cls := 8, slots := #[.int (-66)], vm := .none },
  { cls := 8, slots := #[.int (-65)], vm := .none },
  { cls := 8, slots := #[.int (-64)], vm := .none },
  { cls := 8, slots := #[.int (-63)], vm := .none },
  { cls := 8, slots := #[.int (-62)], vm := .none },
  { cls := 8, slots := #[.int (-61)], vm := .none },
  { cls := 8, slots := #[.int (-60)], vm := .none },
  { cls := 8, slots := #[.int (-59)], vm := .none },
  { cls := 8, slots := #[.int (-58)], vm := .none },
  { cls := 8, slots := #[.int (-57)], vm := .none },
  { cls := 8, slots := #[.int (-56)], vm := .none },
  { cls := 8, slots := #[.int (-55)], vm := .none },
  { cls := 8, slots := #[.int (-54)], vm := .none },
  { cls := 8, slots := #[.int (-53)], vm := .none },
  { cls := 8, slots := #[.int (-52)], vm := .none },
  { cls := 8, slots := #[.int (-51)], vm := .none },
  { cls := 8, slots := #[.int (-50)], vm := .none },
  { cls := 8, slots := #[.int (-49)], vm := .none },
  { cls := 8, slots := #[.int (-48)], vm := .none },
  { cls := 8, slots := #[.int (-47)], vm := .none },
  { cls := 8, slots := #[.int (-46)], vm := .none },
  { cls := 8, slots := #[.int (-45)], vm := .none },
  { cls := 8, slots := #[.int (-44)], vm := .none },
  { cls := 8, slots := #[.int (-43)], vm := .none },
  { cls := 8, slots := #[.int (-42)], vm := .none },
  { cls := 8, slots := #[.int (-41)], vm := .none },
  { cls := 8, slots := #[.int (-40)], vm := .none },
  { cls := 8, slots := #[.int (-39)], vm := .none },
  { cls := 8, slots := #[.int (-38)], vm := .none },
  { cls := 8, slots := #[.int (-37)], vm := .none },
  { cls := 8, slots := #[.int (-36)], vm := .none },
  { cls := 8, slots := #[.int (-35)], vm := .none },
  { cls := 8, slots := #[.int (-34)], vm := .none },
  { cls := 8, slots := #[.int (-33)], vm := .none },
  { cls := 8, slots := #[.int (-32)], vm := .none },
  { cls := 8, slots := #[.int (-31)], vm := .none },
  { cls := 8, slots := #[.int (-30)], vm := .none },
  { cls := 8, slots := #[.int (-29)], vm := .none },
  { cls := 8, slots := #[.int (-28)], vm := .none },
  { cls := 8, slots := #[.int (-27)], vm := .none },
  { cls := 8, slots := #[.int (-26)], vm := .none },
  { cls := 8, slots := #[.int (-25)], vm := .none },
  { cls := 8, slots := #[.int (-24)], vm := .none },
  { cls := 8, slots := #[.int (-23)], vm := .none },
  { cls := 8, slots := #[.int (-22)], vm := .none },
  { cls := 8, slots := #[.int (-21)], vm := .none },
  { cls := 8, slots := #[.int (-20)], vm := .none },
  { cls := 8, slots := #[.int (-19)], vm := .none },
  { cls := 8, slots := #[.int (-18)], vm := .none },
  { cls := 8, slots := #[.int (-17)], vm := .none },
  { cls := 8, slots := #[.int (-16)], vm := .none },
  { cls := 8, slots := #[.int (-15)], vm := .none },
  { cls := 8, slots := #[.int (-14)], vm := .none },
  { cls := 8, slots := #[.int (-13)], vm := .none },
  { cls := 8, slots := #[.int (-12)], vm := .none },
  { cls := 8, slots := #[.int (-11)], vm := .none },
  { cls := 8, slots := #[.int (-10)], vm := .none },
  { cls := 8, slots := #[.int (-9)], vm := .none },
  { cls := 8, slots := #[.int (-8)], vm := .none },
  { cls := 8, slots := #[.int (-7)], vm := .none },
  { cls := 8, slots := #[.int (-6)], vm := .none },
  { cls := 8, slots := #[.int (-5)], vm := .none },
  { cls := 8, slots := #[.int (-4)], vm := .none },
  { cls := 8, slots := #[.int (-3)], vm := .none },
  { cls := 8, slots := #[.int (-2)], vm := .none },
  { cls := 8, slots := #[.int (-1)], vm := .none },
  { cls := 8, slots := #[.int 0], vm := .none },
  { cls := 8, slots := #[.int 1], vm := .none },
  { cls := 8, slots := #[.int 2], vm := .none },
  { cls := 8, slots := #[.int 3], vm := .none },
  { cls := 8, slots := #[.int 4], vm := .none },
  { cls := 8, slots := #[.int 5], vm := .none },
  { cls := 8, slots := #[.int 6], vm := .none },
  { cls := 8, slots := #[.int 7], vm := .none },
  { cls := 8, slots := #[.int 8], vm := .none },
  { cls := 8, slots := #[.int 9], vm := .none },
  { cls := 8, slots := #[.int 10], vm := .none },
  { cls := 8, slots := #[.int 11], vm := .none },
  { cls := 8, slots := #[.int 12], vm := .none },
  { cls := 8, slots := #[.int 13], vm := .none },
  { cls := 8, slots := #[.int 14], vm := .none },
  { cls := 8, slots := #[.int 15], vm := .none },
  { cls := 8, slots := #[.int 16], vm := .none },
  { cls := 8, slots := #[.int 17], vm := .none },
  { cls := 8, slots := #[.int 18], vm := .none },
  { cls := 8, slots := #[.int 19], vm := .none },
  { cls := 8, slots := #[.int 20], vm := .none },
  { cls := 8, slots := #[.int 21], vm := .none },
  { cls := 8, slots := #[.int 22], vm := .none },
  { cls := 8, slots := #[.int 23], vm := .none },
  { cls := 8, slots := #[.int 24], vm := .none },
  { cls := 8, slots := #[.int 25], vm := .none },
  { cls := 8, slots := #[.int 26], vm := .none },
  { cls := 8, slots := #[.int 27], vm := .none },
  { cls := 8, slots := #[.int 28], vm := .none },
  { cls := 8, slots := #[.int 29], vm := .none },
  { cls := 8, slots := #[.int 30], vm := .none },
  { cls := 8, slots := #[.int 31], vm := .none },
  { cls := 8, slots := #[.int 32], vm := .none },
  { cls := 8, slots := #[.int 33], vm := .none },
  { cls := 8, slots := #[.int 34], vm := .none },
  { cls := 8, slots := #[.int 35], vm := .none },
  { cls := 8, slots := #[.int 36], vm := .none },
  { cls := 8, slots := #[.int 37], vm := .none },
  { cls := 8, slots := #[.int 38], vm := .none },
  { cls := 8, slots := #[.int 39], vm := .none },
  { cls := 8, slots := #[.int 40], vm := .none },
  { cls := 8, slots := #[.int 41], vm := .none },
  { cls := 8, slots := #[.int 42], vm := .none },
  { cls := 8, slots := #[.int 43], vm := .none },
  { cls := 8, slots := #[.int 44], vm := .none },
  { cls := 8, slots := #[.int 45], vm := .none },
  { cls := 8, slots := #[.int 46], vm := .none },
  { cls := 8, slots := #[.int 47], vm := .none },
  { cls := 8, slots := #[.int 48], vm := .none },
  { cls := 8, slots := #[.int 49], vm := .none },
  { cls := 8, slots := #[.int 50], vm := .none },
  { cls := 8, slots := #[.int 51], vm := .none },
  { cls := 8, slots := #[.int 52], vm := .none },
  { cls := 8, slots := #[.int 53], vm := .none },
  { cls := 8, slots := #[.int 54], vm := .none },
  { cls := 8, slots := #[.int 55], vm := .none },
  { cls := 8, slots := #[.int 56], vm := .none },
  { cls := 8, slots := #[.int 57], vm := .none },
  { cls := 8, slots := #[.int 58], vm := .none },
  { cls := 8, slots := #[.int 59], vm := .none },
  { cls := 8, slots := #[.int 60], vm := .none },
  { cls := 8, slots := #[.int 61], vm := .none },
  { cls := 8, slots := #[.int 62], vm := .none },
  { cls := 8, slots := #[.int 63], vm := .none },
  { cls := 8, slots := #[.int 64], vm := .none },
  { cls := 8, slots := #[.int 65], vm := .none },
  { cls := 8, slots := #[.int 66], vm := .none },
  { cls := 8, slots := #[.int 67], vm := .none },
  { cls := 8, slots := #[.int 68], vm := .none },
  { cls := 8, slots := #[.int 69], vm := .none },
  { cls := 8, slots := #[.int 70], vm := .none },
  { cls := 8, slots := #[.int 71], vm := .none },
  { cls := 8, slots := #[.int 72], vm := .none },
  { cls := 8, slots := #[.int 73], vm := .none },
  { cls := 8, slots := #[.int 74], vm := .none },
  { cls := 8, slots := #[.int 75], vm := .none },
  { cls := 8, slots := #[.int 76], vm := .none },
  { cls := 8, slots := #[.int 77], vm := .none },
  { cls := 8, slots := #[.int 78], vm := .none },
  { cls := 8, slots := #[.int 79], vm := .none },
  { cls := 8, slots := #[.int 80], vm := .none },
  { cls := 8, slots := #[.int 81], vm := .none },
  { cls := 8, slots := #[.int 82], vm := .none },
  { cls := 8, slots := #[.int 83], vm := .none },
  { cls := 8, slots := #[.int 84], vm := .none },
  { cls := 8, slots := #[.int 85], vm := .none },
  { cls := 8, slots := #[.int 86], vm := .none },
  { cls := 8, slots := #[.int 87], vm := .none },
  { cls := 8, slots := #[.int 88], vm := .none },
  { cls := 8, slots := #[.int 89], vm := .none },
  { cls := 8, slots := #[.int 90], vm := .none },
  { cls := 8, slots := #[.int 91], vm := .none },
  { cls := 8, slots := #[.int 92], vm := .none },
  { cls := 8, slots := #[.int 93], vm := .none },
  { cls := 8, slots := #[.int 94], vm := .none },
  { cls := 8, slots := #[.int 95], vm := .none },
  { cls := 8, slots := #[.int 96], vm := .none },
  { cls := 8, slots := #[.int 97], vm := .none },
  { cls := 8, slots := #[.int 98], vm := .none },
  { cls := 8, slots := #[.int 99], vm := .none },
  { cls := 8, slots := #[.int 100], vm := .none },
  { cls := 8, slots := #[.int 101], vm := .none },
  { cls := 8, slots := #[.int 102], vm := .none },
  { cls := 8, slots := #[.int 103], vm := .none },
  { cls := 8, slots := #[.int 104], vm := .none },
  { cls := 8, slots := #[.int 105], vm := .none },
  { cls := 8, slots := #[.int 106], vm := .none },
  { cls := 8, slots := #[.int 107], vm := .none },
  { cls := 8, slots := #[.int 108], vm := .none },
  { cls := 8, slots := #[.int 109], vm := .none },
  { cls := 8, slots := #[.int 110], vm := .none },
  { cls := 8, slots := #[.int 111], vm := .none },
  { cls := 8, slots := #[.int 112], vm := .none },
  { cls := 8, slots := #[.int 113], vm := .none },
  { cls := 8, slots := #[.int 114], vm := .none },
  { cls := 8, slots := #[.int 115], vm := .none },
  { cls := 8, slots := #[.int 116], vm := .none },
  { cls := 8, slots := #[.int 117], vm := .none },
  { cls := 8, slots := #[.int 118], vm := .none },
  { cls := 8, slots := #[.int 119], vm := .none },
  { cls := 8, slots := #[.int 120], vm := .none },
  { cls := 8, slots := #[.int 121], vm := .none },
  { cls := 8, slots := #[.int 122], vm := .none },
  { cls := 8, slots := #[.int 123], vm := .none },
  { cls := 8, slots := #[.int 124], vm := .none },
  { cls := 8, slots := #[.int 125], vm := .none },
  { cls := 8, slots := #[.int 126], vm := .none },
  { cls := 8, slots := #[.int 127], vm := .none }]
def classes : Array Class := #[k0, k1, k2, k3, k4, k5, k6, k7, k8, k9, k10, k11, k12, k13, k14, k15]
def interned : List (Array UInt16 × Addr) := []
def slotsUsed : Nat := 517
def theMethod : MethodId := ⟨1, 1⟩
def args0 : Array Value := #[.int 5, .int 9, .int 3, .int 4, .int 7, .int 0]
def aboutOver (below : List Frame) : State where
  vm := { classes := classes, interned := interned.toArray }
  heap := heap
  slotsUsed := slotsUsed
  threads := #[{ frames := .invoking theMethod args0 :: below }]
def below0 : List Frame := [.native { method := ⟨0, 0⟩, args := #[] }]
def about1 : State := aboutOver below0
def p0 : Program := .bare "" "" ""
def e0 : Env := launch0.env 0 0 0
theorem w_frames : about1.frames = Frame.invoking theMethod args0 :: below0 := rfl
set_option maxRecDepth 65536 in
theorem w_args : argsFit about1.vm theMethod args0 = true := by decide +kernel
set_option maxRecDepth 65536 in
theorem w_heap : heapFits about1 = true := by decide +kernel
set_option maxRecDepth 65536 in
theorem w_runnable : about1.curStatus? = some .runnable := by decide +kernel
set_option maxRecDepth 65536 in
theorem w_alone : about1.alone = true := by decide +kernel
set_option maxRecDepth 65536 in
theorem w_named : about1.methodNamed? x = some theMethod := by decide +kernel
set_option maxRecDepth 65536 in
theorem w_hears : about1.hears theMethod below0 = true := by decide +kernel
set_option maxRecDepth 65536 in
theorem w_ripe : about1.ripe theMethod args0 below0 = true := by decide +kernel
theorem w_running : about1.status = .running := rfl
set_option maxRecDepth 65536 in
theorem w_room : about1.hasRoom e0.platform room_1 = true :=
  launch0.hasRoom_least _ room_1 (by decide +kernel) (by decide +kernel) (by decide +kernel) (by decide +kernel) (by decide +kernel) (by decide +kernel)
theorem allAtoms_all (ts : List Jvm.Cond) (a : Array Jvm.Value) (st : Jvm.State) : (allAtoms ts).before a st = ts.all (fun c => c.before a st) := by
  induction ts with
  | nil => rfl
  | cons c t ih =>
    show (Jvm.Cond.and c (allAtoms t)).before a st = _
    rw [Jvm.Cond.before_and, ih, List.all_cons]
def words1 : List Jvm.Cond := Jvm.Cond.code x code maxLocals ret :: tables_1
/-- a 'code' word, met by the world's own term for the bytes: nothing is compared byte by byte -/
theorem code_word {y : MethodName} {bytes : ByteArray} {mx : Nat} {rt : Option FieldType} {a : Array Value} {s : State} {m : MethodId} {meth : Method} {c : Code} (h1 : s.methodNamed? y = some m) (h2 : s.vm.method? m = some meth) (h3 : meth.code = some c) (h4 : c.code = bytes)
    (h5 : (c.maxLocals == mx && c.exceptionTable.isEmpty && decide (c.maxStack ≤ mostOperands) && decide (meth.sig.returnType = rt) && !meth.locks && decide (parseMethodDescriptor y.desc = some meth.sig)) = true) : (Jvm.Cond.code y bytes mx rt).before a s = true := by
  simp only [Bool.and_eq_true, beq_iff_eq, Bool.not_eq_true', decide_eq_true_eq] at h5
  obtain ⟨⟨⟨⟨⟨g1, g2⟩, g3⟩, g4⟩, g5⟩, g6⟩ := h5
  simp [Cond.before, Cond.holds, Cond.value, h1, h2, h3, h4, g1, g2, g3, g4, g5, g6]
def isCode : Jvm.Cond → Bool
  | .code _ _ _ _ => true
  | _ => false
theorem all_split {L : List Jvm.Cond} {P : Jvm.Cond → Bool} (h1 : L.all (fun c => isCode c || P c) = true) (h2 : ∀ c ∈ L.filter isCode, P c = true) : L.all P = true := by
  refine List.all_eq_true.mpr fun c hc => ?_
  have h := List.all_eq_true.mp h1 c hc
  rcases Bool.eq_false_or_eq_true (isCode c) with hi | hi
  · exact h2 c (List.mem_filter.mpr ⟨hc, hi⟩)
  · simpa [hi] using h
set_option maxRecDepth 65536 in
theorem w_c0 : (Jvm.Cond.code x code maxLocals ret).before args0 about1 = true := code_word (m := ⟨1, 1⟩) (meth := k1m1) (c := k1c1) (by decide +kernel) rfl rfl rfl (by decide +kernel)
set_option maxRecDepth 65536 in
theorem w_c1 : (Jvm.Cond.code ({ cls := "com/example/refine/refine/aut/AutHeader", name := "<init>", desc := "(III)V" } : Jvm.MethodName) prog_2_method_1_code (4 : Nat) (Option.none : Option Jvm.ClassFile.FieldType)).before args0 about1 = true := code_word (m := ⟨2, 0⟩) (meth := k2m0) (c := k2c0) (by decide +kernel) rfl rfl rfl (by decide +kernel)
set_option maxRecDepth 65536 in
theorem w_c2 : (Jvm.Cond.code ({ cls := "java/lang/Object", name := "<init>", desc := "()V" } : Jvm.MethodName) object_method_1_code (1 : Nat) (Option.none : Option Jvm.ClassFile.FieldType)).before args0 about1 = true := code_word (m := ⟨0, 0⟩) (meth := k0m0) (c := k0c0) (by decide +kernel) rfl rfl rfl (by decide +kernel)
set_option maxRecDepth 65536 in
theorem w_c3 : (Jvm.Cond.code ({ cls := "com/example/refine/refine/aut/AutHeader", name := "equals", desc := "(Ljava/lang/Object;)Z" } : Jvm.MethodName) prog_2_method_7_code (3 : Nat) (Option.some Jvm.ClassFile.FieldType.boolean)).before args0 about1 = true := code_word (m := ⟨2, 1⟩) (meth := k2m1) (c := k2c1) (by decide +kernel) rfl rfl rfl (by decide +kernel)
set_option maxRecDepth 65536 in
theorem w_c4 : (Jvm.Cond.code ({ cls := "java/lang/Integer", name := "valueOf", desc := "(I)Ljava/lang/Integer;" } : Jvm.MethodName) jdk_33_method_22_code (1 : Nat) (Option.some (Jvm.ClassFile.FieldType.object "java/lang/Integer"))).before args0 about1 = true := code_word (m := ⟨8, 0⟩) (meth := k8m0) (c := k8c0) (by decide +kernel) rfl rfl rfl (by decide +kernel)
set_option maxRecDepth 65536 in
theorem w_c5 : (Jvm.Cond.code ({ cls := "java/lang/Integer", name := "<init>", desc := "(I)V" } : Jvm.MethodName) jdk_33_method_23_code (2 : Nat) (Option.none : Option Jvm.ClassFile.FieldType)).before args0 about1 = true := code_word (m := ⟨8, 1⟩) (meth := k8m1) (c := k8c1) (by decide +kernel) rfl rfl rfl (by decide +kernel)
set_option maxRecDepth 65536 in
theorem w_c6 : (Jvm.Cond.code ({ cls := "java/lang/Number", name := "<init>", desc := "()V" } : Jvm.MethodName) jdk_18_method_1_code (1 : Nat) (Option.none : Option Jvm.ClassFile.FieldType)).before args0 about1 = true := code_word (m := ⟨4, 0⟩) (meth := k4m0) (c := k4c0) (by decide +kernel) rfl rfl rfl (by decide +kernel)
def codes1 : List Jvm.Cond := [Jvm.Cond.code x code maxLocals ret, Jvm.Cond.code ({ cls := "com/example/refine/refine/aut/AutHeader", name := "<init>", desc := "(III)V" } : Jvm.MethodName) prog_2_method_1_code (4 : Nat) (Option.none : Option Jvm.ClassFile.FieldType), Jvm.Cond.code ({ cls := "java/lang/Object", name := "<init>", desc := "()V" } : Jvm.MethodName) object_method_1_code (1 : Nat) (Option.none : Option Jvm.ClassFile.FieldType), Jvm.Cond.code ({ cls := "com/example/refine/refine/aut/AutHeader", name := "equals", desc := "(Ljava/lang/Object;)Z" } : Jvm.MethodName) prog_2_method_7_code (3 : Nat) (Option.some Jvm.ClassFile.FieldType.boolean), Jvm.Cond.code ({ cls := "java/lang/Integer", name := "valueOf", desc := "(I)Ljava/lang/Integer;" } : Jvm.MethodName) jdk_33_method_22_code (1 : Nat) (Option.some (Jvm.ClassFile.FieldType.object "java/lang/Integer")), Jvm.Cond.code ({ cls := "java/lang/Integer", name := "<init>", desc := "(I)V" } : Jvm.MethodName) jdk_33_method_23_code (2 : Nat) (Option.none : Option Jvm.ClassFile.FieldType), Jvm.Cond.code ({ cls := "java/lang/Number", name := "<init>", desc := "()V" } : Jvm.MethodName) jdk_18_method_1_code (1 : Nat) (Option.none : Option Jvm.ClassFile.FieldType)]
set_option maxRecDepth 65536 in
theorem codes_eq : words1.filter isCode = codes1 := rfl
theorem w_codes : ∀ c ∈ words1.filter isCode, c.before args0 about1 = true := by
  rw [codes_eq]
  intro c hc
  simp only [codes1, List.mem_cons, List.not_mem_nil, or_false] at hc
  rcases hc with rfl | rfl | rfl | rfl | rfl | rfl | rfl
  · exact w_c0
  · exact w_c1
  · exact w_c2
  · exact w_c3
  · exact w_c4
  · exact w_c5
  · exact w_c6
set_option maxRecDepth 65536 in
theorem w_t1 : (words1.take 24).all (fun c => isCode c || c.before args0 about1) = true := by decide +kernel
set_option maxRecDepth 65536 in
theorem w_t2 : (words1.drop 24).all (fun c => isCode c || c.before args0 about1) = true := by decide +kernel
theorem w_tables : (allAtoms (Jvm.Cond.code x code maxLocals ret :: tables_1)).before args0 about1 = true := by
  rw [allAtoms_all]
  show words1.all (fun c => c.before args0 about1) = true
  refine all_split ?_ w_codes
  rw [← List.take_append_drop 24 words1, List.all_append, w_t1, w_t2]
  rfl
set_option maxRecDepth 65536 in
theorem w_rest : rest_1_c.before args0 about1 = true := by decide +kernel
set_option maxRecDepth 65536 in
theorem w_case : (Jvm.Cond.and given_1 narrow_1).before args0 about1 = true := by decide +kernel
theorem w_applies : (headSpec (Jvm.Cond.code x code maxLocals ret :: tables_1) room_1).applies x e0.platform about1 = true :=
  (Spec.applies_iff w_frames).mpr ⟨w_running, w_runnable, w_alone, w_named, w_hears, w_ripe, w_room, w_tables⟩
theorem atStart : AtStart classFile x code maxLocals ret World_1 tables_1 room_1 Calls_1 rest_1 Pre_1 launch0 p0 e0 about1 theMethod args0 below0 :=
  ⟨lists_1, trivial, launch0.admits_env _ _ _, launch0.least_env, fairChoices_fair.cas, fairChoices_fair.clock, w_frames, w_args, w_heap, w_applies, trivial, w_rest, w_case⟩
end start1
theorem witness_1 : WitnessClaimed_1 := ⟨start1.p0, start1.e0, start1.about1, start1.theMethod, start1.args0, start1.below0, start1.atStart⟩
end Jvm.Pilot.@@N@@
