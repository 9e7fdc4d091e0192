import JvmDerived
import JvmDerived.Pilot.@@N@@Statement
import JvmDerived.Pilot.@@N@@Code
set_option linter.unusedVariables false
set_option linter.unusedSimpArgs false
@@BLOCK:NumsL.lean.txt@@
namespace Jvm.Pilot.@@N@@
open Jvm Jvm.ClassFile Sem Op Lib Jvm.Free Jvm.Stand Jvm.LawKit Jvm.RoadKit Bundle Jvm.Pilot.@@N@@.Jvm.D
theorem own_ns {Z : State} {a0 : Array Value} {O K : String} {n : Nat} (w : (Cond.noSuperclass O).before a0 Z = true) (wk : (Cond.instantiable K n).before a0 Z = true) (hn : O ≠ K) : NS Z O K := by
  obtain ⟨c, k, f1, f2, f3, -, -⟩ := Cond.noSuperclass_spec w
  obtain ⟨t, kt, g1, -⟩ := Cond.instantiable_spec wk
  exact ⟨c, t, f1, g1, fun fuel => by
    cases fuel with
    | zero => rfl
    | succ f => simp [Vm.isSubclassAux, ids_ne f1 g1 hn, f2, f3]⟩
theorem own_noinst {Z : State} {a0 : Array Value} {C S K : String} {n : Nat} (w : (Cond.superclass C S).before a0 Z = true) (wk : (Cond.instantiable K n).before a0 Z = true) (q : NS Z C K) (hn : C ≠ K) : ∃ c t, Z.vm.findClass C = some c ∧ Z.vm.findClass K = some t ∧ Z.vm.assignable c t = false := by
  obtain ⟨c, t, f1, g1, r⟩ := q
  obtain ⟨p, k, kp, -, f2, -, -, f5, -, -⟩ := Cond.superclass_spec f1 w
  obtain ⟨t', kt, g1', g2, g3, g4, -, -⟩ := Cond.instantiable_spec wk
  cases g1.symm.trans g1'
  have g5 : kt.isInterface = false := by simp only [Bool.or_eq_false_iff] at g4; exact g4.1
  refine ⟨c, t, f1, g1, ?_⟩
  show Z.vm.assignableAux (255 + 1) c t = false
  simp [Vm.assignableAux, ids_ne f1 g1 hn, f2, g2, f5, g3, g5, Vm.isSubclass, r]
theorem own_len {args : Array Value} {s : State} {t : Term} {a : Addr} {c : Cell} {ty : FieldType} {n : Int32} (et : t.eval args s none [] s = some (.ref a)) (A : Arr s s.heap a c ty) (h : (Term.length t).eval args s none [] s = some (.int n)) : c.slots.size < 2 ^ 31 ∧ c.slots.size.toInt32 = n := by
  have hA := A.fin (Vm.Alike.refl s.vm)
  have h31 := Jvm.Free.SBG.length_lt et hA h
  exact ⟨h31, by simpa using (len_f et hA h31).symm.trans h⟩
theorem d1_0 : decode prog_46_method_1_code 0 = .ok (.aload_n 0, 1) := by decide +kernel
theorem d1_1 : decode prog_46_method_1_code 1 = .ok (.invokespecial 1, 3) := by decide +kernel
theorem d1_4 : decode prog_46_method_1_code 4 = .ok (.aload_n 0, 1) := by decide +kernel
theorem d1_5 : decode prog_46_method_1_code 5 = .ok (.lload_n 1, 1) := by decide +kernel
theorem d1_6 : decode prog_46_method_1_code 6 = .ok (.putfield 7, 3) := by decide +kernel
theorem d1_9 : decode prog_46_method_1_code 9 = .ok (.aload_n 0, 1) := by decide +kernel
theorem d1_10 : decode prog_46_method_1_code 10 = .ok (.iload_n 3, 1) := by decide +kernel
theorem d1_11 : decode prog_46_method_1_code 11 = .ok (.putfield 13, 3) := by decide +kernel
theorem d1_14 : decode prog_46_method_1_code 14 = .ok (.return_, 1) := by decide +kernel
theorem pn_0 : plainName "com/example/settle/settle/service/FileSum" = true := by first | (simp [plainName, overriddenIn]; done) | decide +kernel
theorem ef_1 (mM : MethodId) (x0 : Addr) (x1 : Int64) (x2 : Int32) : entryFrame mM #[(.ref x0), (.long x1), (.int x2)] 4 = mkF mM 0 #[.val (.ref x0), .val (.long x1), .second, .val (.int x2)] [] := by first | (simp [entryFrame, mkF, argsToLocals, Value.category]; done) | rfl
def Q1 (Z : State) (a : Addr) (q : Int64) (p : Int32) (h0 : Heap) (n0 : Nat) (v : Option Value) (h : Heap) (L : List Loc) : Prop := v = none ∧ Fr n0 L ∧ Keep h0 h [a] ∧ Exa Z h a "com/example/settle/settle/service/FileSum" ∧ Fld Z h a "com/example/settle/settle/service/FileSum" "length" "J" (.long q) ∧ Fld Z h a "com/example/settle/settle/service/FileSum" "crc" "I" (.int p)
set_option maxRecDepth 65536 in
set_option maxHeartbeats 40000000 in
theorem rm1 (l : Launch) (Z : State) (a0 : Array Value) (hw : ∀ d ∈ tables_1, d.before a0 Z = true) (ws : List Jvm.Cond) (a : Addr) (q : Int64) (p : Int32) (h0 : Heap) (n0 : Nat) (Z0 : n0 ≤ h0.size) (E_a : Exa Z h0 a "com/example/settle/settle/service/FileSum") (g_a : n0 ≤ a) (F_length : Fld Z h0 a "com/example/settle/settle/service/FileSum" "length" "J" (.long (0 : Int64))) (F_crc : Fld Z h0 a "com/example/settle/settle/service/FileSum" "crc" "I" (.int (0 : Int32))) :
    MetFree l (⟨"com/example/settle/settle/service/FileSum", "<init>", "(JI)V"⟩ : MethodName) (head1 (Jvm.Cond.code (⟨"com/example/settle/settle/service/FileSum", "<init>", "(JI)V"⟩ : MethodName) prog_46_method_1_code 4 none :: ws) ({ frames := 1, cells := 0, slots := 0, locals := 12 } : Room)) (fun aA uU => aA = #[(.ref a), (.long q), (.int p)] ∧ Z.Warmed39 uU.vm ∧ uU.heap = h0) (fun _ _ _ _ _ => True) (fun _ uU oO uU' => ∃ vV lL, oO = .returned vV ∧ Q1 Z a q p h0 n0 vV uU'.heap lL ∧ FrameEnd uU oO uU' lL ({ frames := 1, cells := 0, slots := 0, locals := 12 } : Room).cells ({ frames := 1, cells := 0, slots := 0, locals := 12 } : Room).slots) := by
  refine MetFree.of_bodySF (plainFor_of_name pn_0) hisR ?_
  intro pP eE sS mM args below meth cC s₁ Bd hml0 hP hK
  obtain ⟨rfl, hZ, hh⟩ := hP
  have hx := Bd.exec
  have hby := Bd.bytes
  have hml : cC.maxLocals = 4 := hml0
  have hown : sS.vm.findClass "com/example/settle/settle/service/FileSum" = some mM.cls := findClass_of_methodNamed Bd.named
  have hnm := (name_of_methodNamed Bd.named Bd.method).1
  have X0 : Stand pP l eE ({ frames := 1, cells := 0, slots := 0, locals := 12 } : Room) sS mM #[(.ref a), (.long q), (.int p)] below meth cC s₁ [] 0 0 := Stand.of_body Bd
  have e0 : s₁.heap = h0 := by rw [← hh, Bd.state]; rfl
  have N0 := Fr.nil n0
  have pre0 : ∀ tg, Steps pP.tables eE below (s₁.setTop (mkF mM 0 #[.val (.ref a), .val (.long q), .second, .val (.int p)] [])) tg → Steps pP.tables eE below (s₁.setTop (entryFrame mM #[(.ref a), (.long q), (.int p)] 4)) tg := fun tg kg => castTop (ef_1 mM a q p) kg
  have pr1 : ∀ tg, Steps pP.tables eE below (s₁.setTop (mkF mM 1 #[.val (.ref a), .val (.long q), .second, .val (.int p)] [(.ref a)])) tg → Steps pP.tables eE below (s₁.setTop (entryFrame mM #[(.ref a), (.long q), (.int p)] 4)) tg := fun tg kg => pre0 _ (by
    show Steps pP.tables eE below (s₁.setTop (mkF mM 0 #[.val (.ref a), .val (.long q), .second, .val (.int p)] [])) _
    refine XS.aloadN X0.here hx rfl (hb hby d1_0) rfl rfl ?_
    exact kg)
  obtain ⟨T2, X2, e2, st2⟩ := initO X0 hx hZ hown (hw _ (List.mem_of_getElem? (i := 7) rfl)) (hw _ (List.mem_of_getElem? (i := 8) rfl)) (hw _ (List.mem_of_getElem? (i := 9) rfl)) e0 (g := (mkF mM 1 #[.val (.ref a), .val (.long q), .second, .val (.int p)] [(.ref a)])) rfl (by rw [hml]; rfl) rfl (hb hby d1_1) (by decide) (W := 0) (by show 2 * 0 + _ ≤ _; exact Nat.le_of_eq rfl) (by decide)
  have pr3 : ∀ tg, Steps pP.tables eE below (T2.setTop (mkF mM 4 #[.val (.ref a), .val (.long q), .second, .val (.int p)] [])) tg → Steps pP.tables eE below (s₁.setTop (entryFrame mM #[(.ref a), (.long q), (.int p)] 4)) tg := fun tg kg => pr1 _ (st2 _ kg)
  have pr4 : ∀ tg, Steps pP.tables eE below (T2.setTop (mkF mM 6 #[.val (.ref a), .val (.long q), .second, .val (.int p)] [(.long q), (.ref a)])) tg → Steps pP.tables eE below (s₁.setTop (entryFrame mM #[(.ref a), (.long q), (.int p)] 4)) tg := fun tg kg => pr3 _ (by
    show Steps pP.tables eE below (T2.setTop (mkF mM 4 #[.val (.ref a), .val (.long q), .second, .val (.int p)] [])) _
    refine XS.aloadN X2.here hx rfl (hb hby d1_4) rfl rfl ?_
    show Steps pP.tables eE below (T2.setTop (mkF mM 5 #[.val (.ref a), .val (.long q), .second, .val (.int p)] [(.ref a)])) _
    refine XS.lloadN X2.here hx rfl (hb hby d1_5) rfl ?_
    exact kg)
  obtain ⟨T5, h5, X5, e5, W5, st5⟩ := putF X2 hx hZ hown (host := "") (Or.inl (hw _ (List.mem_of_getElem? (i := 10) rfl))) Via.refl e2 F_length E_a (Or.inr ⟨(hw _ (List.mem_of_getElem? (i := 11) rfl)), rfl, hnm⟩) (hw _ (List.mem_of_getElem? (i := 2) rfl)) (ty := .long) (by decide) rfl rfl (g := (mkF mM 6 #[.val (.ref a), .val (.long q), .second, .val (.int p)] [(.long q), (.ref a)])) rfl rfl (hb hby d1_6)
  have Fw5 := Fld.same W5 F_length
  have N5 := Fr.snoc X5 N0 g_a
  have pr6 : ∀ tg, Steps pP.tables eE below (T5.setTop (mkF mM 9 #[.val (.ref a), .val (.long q), .second, .val (.int p)] [])) tg → Steps pP.tables eE below (s₁.setTop (entryFrame mM #[(.ref a), (.long q), (.int p)] 4)) tg := fun tg kg => pr4 _ (st5 _ kg)
  have c7 := (Fld.other W5 F_crc (Or.inr (slot_ne (C := "com/example/settle/settle/service/FileSum") (Or.inr (hw _ (List.mem_of_getElem? (i := 13) rfl))) (Or.inr (hw _ (List.mem_of_getElem? (i := 11) rfl))) (by decide) (t := .int) (t' := .long) (by decide) (by decide))))
  have c8 := (Exa.wr W5 E_a)
  have pr9 : ∀ tg, Steps pP.tables eE below (T5.setTop (mkF mM 11 #[.val (.ref a), .val (.long q), .second, .val (.int p)] [(.int p), (.ref a)])) tg → Steps pP.tables eE below (s₁.setTop (entryFrame mM #[(.ref a), (.long q), (.int p)] 4)) tg := fun tg kg => pr6 _ (by
    show Steps pP.tables eE below (T5.setTop (mkF mM 9 #[.val (.ref a), .val (.long q), .second, .val (.int p)] [])) _
    refine XS.aloadN X5.here hx rfl (hb hby d1_9) rfl rfl ?_
    show Steps pP.tables eE below (T5.setTop (mkF mM 10 #[.val (.ref a), .val (.long q), .second, .val (.int p)] [(.ref a)])) _
    refine XS.iloadN X5.here hx rfl (hb hby d1_10) rfl ?_
    exact kg)
  obtain ⟨T10, h10, X10, e10, W10, st10⟩ := putF X5 hx hZ hown (host := "") (Or.inl (hw _ (List.mem_of_getElem? (i := 12) rfl))) Via.refl e5 c7 c8 (Or.inr ⟨(hw _ (List.mem_of_getElem? (i := 13) rfl)), rfl, hnm⟩) (hw _ (List.mem_of_getElem? (i := 2) rfl)) (ty := .int) (by decide) rfl rfl (g := (mkF mM 11 #[.val (.ref a), .val (.long q), .second, .val (.int p)] [(.int p), (.ref a)])) rfl rfl (hb hby d1_11)
  have Fw10 := Fld.same W10 c7
  have N10 := Fr.snoc X10 N5 g_a
  have pr11 : ∀ tg, Steps pP.tables eE below (T10.setTop (mkF mM 14 #[.val (.ref a), .val (.long q), .second, .val (.int p)] [])) tg → Steps pP.tables eE below (s₁.setTop (entryFrame mM #[(.ref a), (.long q), (.int p)] 4)) tg := fun tg kg => pr9 _ (st10 _ kg)
  have c12 := (Keep.wr (Keep.wr (Keep.refl h0 [a]) W5 (Or.inl (List.mem_of_getElem? (i := 0) rfl))) W10 (Or.inl (List.mem_of_getElem? (i := 0) rfl)))
  have c13 := (Exa.wr W10 c8)
  have c14 := (Fld.other W10 Fw5 (Or.inr (slot_ne (C := "com/example/settle/settle/service/FileSum") (Or.inr (hw _ (List.mem_of_getElem? (i := 11) rfl))) (Or.inr (hw _ (List.mem_of_getElem? (i := 13) rfl))) (by decide) (t := .long) (t' := .int) (by decide) (by decide))))
  obtain ⟨fs, hr, hrun, hended, hW, hsame⟩ := X10.leave (v := none) (fun _ => rfl)
  refine ⟨_, _, pr11 _ (X10.returnOut hx Bd.returns (hb hby d1_14) hr), hrun, hended, _, _, rfl, ?_, ⟨_, rfl⟩, hW, hsame.mono (by decide) (by decide)⟩
  show Q1 Z a q p h0 n0 _ T10.heap _
  rw [e10]
  exact ⟨rfl, N10, c12, c13, c14, Fw10⟩
theorem d2_0 : decode jdk_18_method_1_code 0 = .ok (.aload_n 0, 1) := by decide +kernel
theorem d2_1 : decode jdk_18_method_1_code 1 = .ok (.invokespecial 1, 3) := by decide +kernel
theorem d2_4 : decode jdk_18_method_1_code 4 = .ok (.return_, 1) := by decide +kernel
theorem pn_1 : plainName "java/lang/Number" = true := by first | (simp [plainName, overriddenIn]; done) | decide +kernel
theorem ef_2 (mM : MethodId) (x0 : Addr) : entryFrame mM #[(.ref x0)] 1 = mkF mM 0 #[.val (.ref x0)] [] := by first | (simp [entryFrame, mkF, argsToLocals, Value.category]; done) | rfl
def Q2 (Z : State) (a : Addr) (h0 : Heap) (n0 : Nat) (v : Option Value) (h : Heap) (L : List Loc) : Prop := v = none ∧ Fr n0 L ∧ h = h0
set_option maxRecDepth 65536 in
set_option maxHeartbeats 40000000 in
theorem rm2 (l : Launch) (Z : State) (a0 : Array Value) (hw : ∀ d ∈ tables_1, d.before a0 Z = true) (ws : List Jvm.Cond) (a : Addr) (h0 : Heap) (n0 : Nat) (Z0 : n0 ≤ h0.size) :
    MetFree l (⟨"java/lang/Number", "<init>", "()V"⟩ : MethodName) (head1 (Jvm.Cond.code (⟨"java/lang/Number", "<init>", "()V"⟩ : MethodName) jdk_18_method_1_code 1 none :: ws) ({ frames := 1, cells := 0, slots := 0, locals := 12 } : Room)) (fun aA uU => aA = #[(.ref a)] ∧ Z.Warmed39 uU.vm ∧ uU.heap = h0) (fun _ _ _ _ _ => True) (fun _ uU oO uU' => ∃ vV lL, oO = .returned vV ∧ Q2 Z a h0 n0 vV uU'.heap lL ∧ FrameEnd uU oO uU' lL ({ frames := 1, cells := 0, slots := 0, locals := 12 } : Room).cells ({ frames := 1, cells := 0, slots := 0, locals := 12 } : Room).slots) := by
  refine MetFree.of_bodySF (plainFor_of_name pn_1) hisR ?_
  intro pP eE sS mM args below meth cC s₁ Bd hml0 hP hK
  obtain ⟨rfl, hZ, hh⟩ := hP
  have hx := Bd.exec
  have hby := Bd.bytes
  have hml : cC.maxLocals = 1 := hml0
  have hown : sS.vm.findClass "java/lang/Number" = some mM.cls := findClass_of_methodNamed Bd.named
  have hnm := (name_of_methodNamed Bd.named Bd.method).1
  have X0 : Stand pP l eE ({ frames := 1, cells := 0, slots := 0, locals := 12 } : Room) sS mM #[(.ref a)] below meth cC s₁ [] 0 0 := Stand.of_body Bd
  have e0 : s₁.heap = h0 := by rw [← hh, Bd.state]; rfl
  have N0 := Fr.nil n0
  have pre0 : ∀ tg, Steps pP.tables eE below (s₁.setTop (mkF mM 0 #[.val (.ref a)] [])) tg → Steps pP.tables eE below (s₁.setTop (entryFrame mM #[(.ref a)] 1)) tg := fun tg kg => castTop (ef_2 mM a) kg
  have pr1 : ∀ tg, Steps pP.tables eE below (s₁.setTop (mkF mM 1 #[.val (.ref a)] [(.ref a)])) tg → Steps pP.tables eE below (s₁.setTop (entryFrame mM #[(.ref a)] 1)) tg := fun tg kg => pre0 _ (by
    show Steps pP.tables eE below (s₁.setTop (mkF mM 0 #[.val (.ref a)] [])) _
    refine XS.aloadN X0.here hx rfl (hb hby d2_0) rfl rfl ?_
    exact kg)
  obtain ⟨T2, X2, e2, st2⟩ := initO X0 hx hZ hown (hw _ (List.mem_of_getElem? (i := 44) rfl)) (hw _ (List.mem_of_getElem? (i := 8) rfl)) (hw _ (List.mem_of_getElem? (i := 9) rfl)) e0 (g := (mkF mM 1 #[.val (.ref a)] [(.ref a)])) rfl (by rw [hml]; rfl) rfl (hb hby d2_1) (by decide) (W := 0) (by show 2 * 0 + _ ≤ _; exact Nat.le_of_eq rfl) (by decide)
  have pr3 : ∀ tg, Steps pP.tables eE below (T2.setTop (mkF mM 4 #[.val (.ref a)] [])) tg → Steps pP.tables eE below (s₁.setTop (entryFrame mM #[(.ref a)] 1)) tg := fun tg kg => pr1 _ (st2 _ kg)
  obtain ⟨fs, hr, hrun, hended, hW, hsame⟩ := X2.leave (v := none) (fun _ => rfl)
  refine ⟨_, _, pr3 _ (X2.returnOut hx Bd.returns (hb hby d2_4) hr), hrun, hended, _, _, rfl, ?_, ⟨_, rfl⟩, hW, hsame.mono (by decide) (by decide)⟩
  show Q2 Z a h0 n0 _ T2.heap _
  rw [e2]
  exact ⟨rfl, N0, rfl⟩
theorem pd_0 : parseMethodDescriptor "()V" = some ⟨[], none⟩ := by decide +kernel
theorem d3_0 : decode jdk_35_method_26_code 0 = .ok (.aload_n 0, 1) := by decide +kernel
theorem d3_1 : decode jdk_35_method_26_code 1 = .ok (.invokespecial 270, 3) := by decide +kernel
theorem d3_4 : decode jdk_35_method_26_code 4 = .ok (.aload_n 0, 1) := by decide +kernel
theorem d3_5 : decode jdk_35_method_26_code 5 = .ok (.lload_n 1, 1) := by decide +kernel
theorem d3_6 : decode jdk_35_method_26_code 6 = .ok (.putfield 273, 3) := by decide +kernel
theorem d3_9 : decode jdk_35_method_26_code 9 = .ok (.return_, 1) := by decide +kernel
theorem pn_2 : plainName "java/lang/Long" = true := by first | (simp [plainName, overriddenIn]; done) | decide +kernel
theorem ef_3 (mM : MethodId) (x0 : Addr) (x1 : Int64) : entryFrame mM #[(.ref x0), (.long x1)] 3 = mkF mM 0 #[.val (.ref x0), .val (.long x1), .second] [] := by first | (simp [entryFrame, mkF, argsToLocals, Value.category]; done) | rfl
def Q3 (Z : State) (a : Addr) (p : Int64) (h0 : Heap) (n0 : Nat) (v : Option Value) (h : Heap) (L : List Loc) : Prop := v = none ∧ Fr n0 L ∧ Keep h0 h [a] ∧ Exa Z h a "java/lang/Long" ∧ Fld Z h a "java/lang/Long" "value" "J" (.long p)
set_option maxRecDepth 65536 in
set_option maxHeartbeats 40000000 in
theorem rm3 (l : Launch) (Z : State) (a0 : Array Value) (hw : ∀ d ∈ tables_1, d.before a0 Z = true) (ws : List Jvm.Cond) (a : Addr) (p : Int64) (h0 : Heap) (n0 : Nat) (Z0 : n0 ≤ h0.size) (E_a : Exa Z h0 a "java/lang/Long") (g_a : n0 ≤ a) (F_value : Fld Z h0 a "java/lang/Long" "value" "J" (.long (0 : Int64))) :
    MetFree l (⟨"java/lang/Long", "<init>", "(J)V"⟩ : MethodName) (head1 (Jvm.Cond.code (⟨"java/lang/Long", "<init>", "(J)V"⟩ : MethodName) jdk_35_method_26_code 3 none :: ws) ({ frames := 2, cells := 0, slots := 0, locals := 24 } : Room)) (fun aA uU => aA = #[(.ref a), (.long p)] ∧ Z.Warmed39 uU.vm ∧ uU.heap = h0) (fun _ _ _ _ _ => True) (fun _ uU oO uU' => ∃ vV lL, oO = .returned vV ∧ Q3 Z a p h0 n0 vV uU'.heap lL ∧ FrameEnd uU oO uU' lL ({ frames := 2, cells := 0, slots := 0, locals := 24 } : Room).cells ({ frames := 2, cells := 0, slots := 0, locals := 24 } : Room).slots) := by
  refine MetFree.of_bodySF (plainFor_of_name pn_2) hisR ?_
  intro pP eE sS mM args below meth cC s₁ Bd hml0 hP hK
  obtain ⟨rfl, hZ, hh⟩ := hP
  have hx := Bd.exec
  have hby := Bd.bytes
  have hml : cC.maxLocals = 3 := hml0
  have hown : sS.vm.findClass "java/lang/Long" = some mM.cls := findClass_of_methodNamed Bd.named
  have hnm := (name_of_methodNamed Bd.named Bd.method).1
  have X0 : Stand pP l eE ({ frames := 2, cells := 0, slots := 0, locals := 24 } : Room) sS mM #[(.ref a), (.long p)] below meth cC s₁ [] 0 0 := Stand.of_body Bd
  have e0 : s₁.heap = h0 := by rw [← hh, Bd.state]; rfl
  have N0 := Fr.nil n0
  have pre0 : ∀ tg, Steps pP.tables eE below (s₁.setTop (mkF mM 0 #[.val (.ref a), .val (.long p), .second] [])) tg → Steps pP.tables eE below (s₁.setTop (entryFrame mM #[(.ref a), (.long p)] 3)) tg := fun tg kg => castTop (ef_3 mM a p) kg
  have pr1 : ∀ tg, Steps pP.tables eE below (s₁.setTop (mkF mM 1 #[.val (.ref a), .val (.long p), .second] [(.ref a)])) tg → Steps pP.tables eE below (s₁.setTop (entryFrame mM #[(.ref a), (.long p)] 3)) tg := fun tg kg => pre0 _ (by
    show Steps pP.tables eE below (s₁.setTop (mkF mM 0 #[.val (.ref a), .val (.long p), .second] [])) _
    refine XS.aloadN X0.here hx rfl (hb hby d3_0) rfl rfl ?_
    exact kg)
  obtain ⟨_, _, ⟨T2, L2, kk2, nn2⟩, -, X2, ⟨Lc2, hQ2, l2, y2, z2⟩, st2⟩ := X0.specialBack hx (y := (⟨"java/lang/Number", "<init>", "()V"⟩ : MethodName)) rfl hown (mvT hZ (hw _ (List.mem_of_getElem? (i := 38) rfl))) (mvT hZ (hw _ (List.mem_of_getElem? (i := 39) rfl))) (mvT hZ (hw _ (List.mem_of_getElem? (i := 43) rfl))) (by decide) (backOf (W := 0) (rm2 l Z a0 hw [] a h0 n0 Z0) hZ (hw _ (List.mem_of_getElem? (i := 43) rfl)) (hw _ (List.mem_of_getElem? (i := 42) rfl)) (by decide) (by decide)) (g := (mkF mM 1 #[.val (.ref a), .val (.long p), .second] [(.ref a)])) rfl (by rw [hml]; rfl) (Steps.refl _) (a := a) (argsL := []) (rest := []) (lenOf pd_0 rfl) rfl (by show 2 * 0 + _ ≤ _; exact Nat.le_of_eq rfl) (hb hby d3_1) (fun _ _ => ⟨rfl, e0, (by decide : 0 + 0 ≤ _), (by decide : 0 + 0 ≤ _)⟩)
  dsimp only [Pt.U, Pt.locs, Pt.cells, Pt.slots] at X2 l2 y2 z2 st2 hQ2
  subst l2 y2 z2
  obtain ⟨rfl, Nq2, e2⟩ := hQ2
  have N2 := Fr.app N0 Nq2
  have pr3 : ∀ tg, Steps pP.tables eE below (T2.setTop (mkF mM 4 #[.val (.ref a), .val (.long p), .second] [])) tg → Steps pP.tables eE below (s₁.setTop (entryFrame mM #[(.ref a), (.long p)] 3)) tg := fun tg kg => pr1 _ (st2.trans kg)
  have pr4 : ∀ tg, Steps pP.tables eE below (T2.setTop (mkF mM 6 #[.val (.ref a), .val (.long p), .second] [(.long p), (.ref a)])) tg → Steps pP.tables eE below (s₁.setTop (entryFrame mM #[(.ref a), (.long p)] 3)) tg := fun tg kg => pr3 _ (by
    show Steps pP.tables eE below (T2.setTop (mkF mM 4 #[.val (.ref a), .val (.long p), .second] [])) _
    refine XS.aloadN X2.here hx rfl (hb hby d3_4) rfl rfl ?_
    show Steps pP.tables eE below (T2.setTop (mkF mM 5 #[.val (.ref a), .val (.long p), .second] [(.ref a)])) _
    refine XS.lloadN X2.here hx rfl (hb hby d3_5) rfl ?_
    exact kg)
  obtain ⟨T5, h5, X5, e5, W5, st5⟩ := putF X2 hx hZ hown (host := "") (Or.inl (hw _ (List.mem_of_getElem? (i := 45) rfl))) Via.refl e2 F_value E_a (Or.inr ⟨(hw _ (List.mem_of_getElem? (i := 46) rfl)), rfl, hnm⟩) (hw _ (List.mem_of_getElem? (i := 33) rfl)) (ty := .long) (by decide) rfl rfl (g := (mkF mM 6 #[.val (.ref a), .val (.long p), .second] [(.long p), (.ref a)])) rfl rfl (hb hby d3_6)
  have Fw5 := Fld.same W5 F_value
  have N5 := Fr.snoc X5 N2 g_a
  have pr6 : ∀ tg, Steps pP.tables eE below (T5.setTop (mkF mM 9 #[.val (.ref a), .val (.long p), .second] [])) tg → Steps pP.tables eE below (s₁.setTop (entryFrame mM #[(.ref a), (.long p)] 3)) tg := fun tg kg => pr4 _ (st5 _ kg)
  have c7 := (Keep.wr (Keep.refl h0 [a]) W5 (Or.inl (List.mem_of_getElem? (i := 0) rfl)))
  have c8 := (Exa.wr W5 E_a)
  obtain ⟨fs, hr, hrun, hended, hW, hsame⟩ := X5.leave (v := none) (fun _ => rfl)
  refine ⟨_, _, pr6 _ (X5.returnOut hx Bd.returns (hb hby d3_9) hr), hrun, hended, _, _, rfl, ?_, ⟨_, rfl⟩, hW, hsame.mono (by decide) (by decide)⟩
  show Q3 Z a p h0 n0 _ T5.heap _
  rw [e5]
  exact ⟨rfl, N5, c7, c8, Fw5⟩
theorem own_box {p : Int64} (h1 : ¬ p < (-128 : Int64)) (h2 : ¬ (127 : Int64) < p) : ¬ (p.toInt32 + (128 : Int32)) < 0 ∧ (p.toInt32 + (128 : Int32)) < (256 : Int32) := by
  rw [Int64.lt_iff_toInt_lt] at h1 h2
  have a1 : (-128 : Int64).toInt = -128 := rfl
  have a2 : (127 : Int64).toInt = 127 := rfl
  have a3 : (128 : Int32).toInt = 128 := rfl
  have a4 : (256 : Int32).toInt = 256 := rfl
  have a5 : (0 : Int32).toInt = 0 := rfl
  have e1 := Jvm.Kit.i32_of_i64 (x := p) (by omega) (by omega)
  have e2 := Jvm.Kit.i32_add (p := p.toInt32) (q := 128) (by omega) (by omega)
  rw [Int32.lt_iff_toInt_lt, Int32.lt_iff_toInt_lt]; omega
theorem pd_1 : parseMethodDescriptor "(J)V" = some ⟨[.long], none⟩ := by decide +kernel
theorem d4_0 : decode jdk_35_method_24_code 0 = .ok (.sipush 128, 3) := by decide +kernel
theorem d4_3 : decode jdk_35_method_24_code 3 = .ok (.istore_n 2, 1) := by decide +kernel
theorem d4_4 : decode jdk_35_method_24_code 4 = .ok (.lload_n 0, 1) := by decide +kernel
theorem d4_5 : decode jdk_35_method_24_code 5 = .ok (.ldc2_w 230, 3) := by decide +kernel
theorem d4_8 : decode jdk_35_method_24_code 8 = .ok (.lcmp, 1) := by decide +kernel
theorem d4_9 : decode jdk_35_method_24_code 9 = .ok (.ifCond .lt 22, 3) := by decide +kernel
theorem d4_12 : decode jdk_35_method_24_code 12 = .ok (.lload_n 0, 1) := by decide +kernel
theorem d4_13 : decode jdk_35_method_24_code 13 = .ok (.ldc2_w 232, 3) := by decide +kernel
theorem d4_16 : decode jdk_35_method_24_code 16 = .ok (.lcmp, 1) := by decide +kernel
theorem d4_17 : decode jdk_35_method_24_code 17 = .ok (.ifCond .gt 14, 3) := by decide +kernel
theorem d4_20 : decode jdk_35_method_24_code 20 = .ok (.getstatic 234, 3) := by decide +kernel
theorem d4_23 : decode jdk_35_method_24_code 23 = .ok (.lload_n 0, 1) := by decide +kernel
theorem d4_24 : decode jdk_35_method_24_code 24 = .ok (.l2i, 1) := by decide +kernel
theorem d4_25 : decode jdk_35_method_24_code 25 = .ok (.sipush 128, 3) := by decide +kernel
theorem d4_28 : decode jdk_35_method_24_code 28 = .ok (.iadd, 1) := by decide +kernel
theorem d4_29 : decode jdk_35_method_24_code 29 = .ok (.aaload, 1) := by decide +kernel
theorem d4_30 : decode jdk_35_method_24_code 30 = .ok (.areturn, 1) := by decide +kernel
theorem d4_31 : decode jdk_35_method_24_code 31 = .ok (.new 1, 3) := by decide +kernel
theorem d4_34 : decode jdk_35_method_24_code 34 = .ok (.dup, 1) := by decide +kernel
theorem d4_35 : decode jdk_35_method_24_code 35 = .ok (.lload_n 0, 1) := by decide +kernel
theorem d4_36 : decode jdk_35_method_24_code 36 = .ok (.invokespecial 240, 3) := by decide +kernel
theorem d4_39 : decode jdk_35_method_24_code 39 = .ok (.areturn, 1) := by decide +kernel
theorem ef_4 (mM : MethodId) (x0 : Int64) : entryFrame mM #[(.long x0)] 3 = mkF mM 0 #[.val (.long x0), .second, .unset] [] := by first | (simp [entryFrame, mkF, argsToLocals, Value.category]; done) | rfl
def Q4 (Z : State) (p : Int64) (ca : Addr) (cc : Cell) (h0 : Heap) (n0 : Nat) (v : Option Value) (h : Heap) (L : List Loc) : Prop := ∃ b : Addr, v = some (.ref b) ∧ Fr n0 L ∧ Keep h0 h [] ∧ Exa Z h b "java/lang/Long"
set_option maxRecDepth 65536 in
set_option maxHeartbeats 40000000 in
theorem rm4 (l : Launch) (Z : State) (a0 : Array Value) (hw : ∀ d ∈ tables_1, d.before a0 Z = true) (ws : List Jvm.Cond) (p : Int64) (ca : Addr) (cc : Cell) (h0 : Heap) (n0 : Nat) (Z0 : n0 ≤ h0.size) (O : Old Z n0 h0) (S_cache : Sta Z Z.heap "java/lang/Long$LongCache" "cache" "[Ljava/lang/Long;" (.ref ca)) (B : Bxs Z ca cc "java/lang/Long" "J" (256 : Int32) (fun j : Int32 => Value.long (j - 128).toInt64)) :
    MetFree l (⟨"java/lang/Long", "valueOf", "(J)Ljava/lang/Long;"⟩ : MethodName) (head1 (Jvm.Cond.code (⟨"java/lang/Long", "valueOf", "(J)Ljava/lang/Long;"⟩ : MethodName) jdk_35_method_24_code 3 (some (.object "java/lang/Long")) :: ws) ({ frames := 3, cells := 1, slots := 1, locals := 39 } : Room)) (fun aA uU => aA = #[(.long p)] ∧ Z.Warmed39 uU.vm ∧ uU.heap = h0) (fun _ _ _ _ _ => True) (fun _ uU oO uU' => ∃ vV lL, oO = .returned vV ∧ Q4 Z p ca cc h0 n0 vV uU'.heap lL ∧ FrameEnd uU oO uU' lL ({ frames := 3, cells := 1, slots := 1, locals := 39 } : Room).cells ({ frames := 3, cells := 1, slots := 1, locals := 39 } : Room).slots) := by
  refine MetFree.of_bodySF (plainFor_of_name pn_2) hisR ?_
  intro pP eE sS mM args below meth cC s₁ Bd hml0 hP hK
  obtain ⟨rfl, hZ, hh⟩ := hP
  have hx := Bd.exec
  have hby := Bd.bytes
  have hml : cC.maxLocals = 3 := hml0
  have hown : sS.vm.findClass "java/lang/Long" = some mM.cls := findClass_of_methodNamed Bd.named
  have hnm := (name_of_methodNamed Bd.named Bd.method).1
  have X0 : Stand pP l eE ({ frames := 3, cells := 1, slots := 1, locals := 39 } : Room) sS mM #[(.long p)] below meth cC s₁ [] 0 0 := Stand.of_body Bd
  have e0 : s₁.heap = h0 := by rw [← hh, Bd.state]; rfl
  have N0 := Fr.nil n0
  have pre0 : ∀ tg, Steps pP.tables eE below (s₁.setTop (mkF mM 0 #[.val (.long p), .second, .unset] [])) tg → Steps pP.tables eE below (s₁.setTop (entryFrame mM #[(.long p)] 3)) tg := fun tg kg => castTop (ef_4 mM p) kg
  have pr2 : ∀ tg, Steps pP.tables eE below (s₁.setTop (mkF mM 9 #[.val (.long p), .second, .val (.int (128 : Int32))] [(.int (lcmpW p (-128 : Int64)))])) tg → Steps pP.tables eE below (s₁.setTop (entryFrame mM #[(.long p)] 3)) tg := fun tg kg => pre0 _ (by
    show Steps pP.tables eE below (s₁.setTop (mkF mM 0 #[.val (.long p), .second, .unset] [])) _
    refine XS.sipush X0.here hx rfl (hb hby d4_0) ?_
    show Steps pP.tables eE below (s₁.setTop (mkF mM 3 #[.val (.long p), .second, .unset] [(.int (128 : Int32))])) _
    refine XS.istoreN X0.here hx rfl (hb hby d4_3) rfl (l' := #[.val (.long p), .second, .val (.int (128 : Int32))]) rfl ?_
    show Steps pP.tables eE below (s₁.setTop (mkF mM 4 #[.val (.long p), .second, .val (.int (128 : Int32))] [])) _
    refine XS.lloadN X0.here hx rfl (hb hby d4_4) rfl ?_
    show Steps pP.tables eE below (s₁.setTop (mkF mM 5 #[.val (.long p), .second, .val (.int (128 : Int32))] [(.long p)])) _
    refine Jvm.Stand.ldc2J X0 hx hown (v := (-128 : Int64)) (mvT hZ (hw _ (List.mem_of_getElem? (i := 25) rfl))) rfl (hb hby d4_5) ?_
    show Steps pP.tables eE below (s₁.setTop (mkF mM 8 #[.val (.long p), .second, .val (.int (128 : Int32))] [(.long (-128 : Int64)), (.long p)])) _
    refine XS.lcmp X0.here hx rfl (hb hby d4_8) rfl ?_
    exact kg)
  by_cases hc9_1 : p < (-128 : Int64)
  ·
    have pr3 : ∀ tg, Steps pP.tables eE below (s₁.setTop (mkF mM 31 #[.val (.long p), .second, .val (.int (128 : Int32))] [])) tg → Steps pP.tables eE below (s₁.setTop (entryFrame mM #[(.long p)] 3)) tg := fun tg kg => pr2 _ (by
      show Steps pP.tables eE below (s₁.setTop (mkF mM 9 #[.val (.long p), .second, .val (.int (128 : Int32))] [(.int (lcmpW p (-128 : Int64)))])) _
      refine XS.ifYes X0.here hx rfl (pc0 := 9) (pc' := 31) rfl (hb hby d4_9) rfl ((if0 _ _).trans (tlt ((lw_lt _ _).mpr hc9_1)).1) (by decide) (by decide) ?_
      exact kg)
    obtain ⟨T4, h4, X4, e4, E4, A4, D4, -, st4⟩ := newO X0 hx hZ hown (hw _ (List.mem_of_getElem? (i := 32) rfl)) (hw _ (List.mem_of_getElem? (i := 33) rfl)) (hw _ (List.mem_of_getElem? (i := 23) rfl)) e0 (g := (mkF mM 31 #[.val (.long p), .second, .val (.int (128 : Int32))] [])) rfl (hb hby d4_31) (by decide) (by decide)
    obtain ⟨b4, g4⟩ : ∃ z, z = (h0).size := ⟨_, rfl⟩
    rw [← g4] at A4 D4 st4
    have gn5 : n0 ≤ b4 := Nat.le_trans Z0 (Nat.le_of_eq g4.symm)
    have gs6 : h0.size ≤ b4 := Nat.le_trans (Keep.refl h0 []).1 (Nat.le_of_eq g4.symm)
    have F4_value : Fld Z h4 b4 "java/lang/Long" "value" "J" (.long (0 : Int64)) := D4 (Or.inr (hw _ (List.mem_of_getElem? (i := 46) rfl))) (ty := .long) (by decide)
    have pr7 : ∀ tg, Steps pP.tables eE below (T4.setTop (mkF mM 34 #[.val (.long p), .second, .val (.int (128 : Int32))] [(.ref b4)])) tg → Steps pP.tables eE below (s₁.setTop (entryFrame mM #[(.long p)] 3)) tg := fun tg kg => pr3 _ (st4 _ kg)
    have pr8 : ∀ tg, Steps pP.tables eE below (T4.setTop (mkF mM 36 #[.val (.long p), .second, .val (.int (128 : Int32))] [(.long p), (.ref b4), (.ref b4)])) tg → Steps pP.tables eE below (s₁.setTop (entryFrame mM #[(.long p)] 3)) tg := fun tg kg => pr7 _ (by
      show Steps pP.tables eE below (T4.setTop (mkF mM 34 #[.val (.long p), .second, .val (.int (128 : Int32))] [(.ref b4)])) _
      refine XS.dup X4.here hx rfl (hb hby d4_34) rfl rfl ?_
      show Steps pP.tables eE below (T4.setTop (mkF mM 35 #[.val (.long p), .second, .val (.int (128 : Int32))] [(.ref b4), (.ref b4)])) _
      refine XS.lloadN X4.here hx rfl (hb hby d4_35) rfl ?_
      exact kg)
    have c9 := (Nat.le_trans Z0 E4.1)
    obtain ⟨_, _, ⟨T10, L10, kk10, nn10⟩, -, X10, ⟨Lc10, hQ10, l10, y10, z10⟩, st10⟩ := X4.specialBack hx (y := (⟨"java/lang/Long", "<init>", "(J)V"⟩ : MethodName)) rfl hown (mvT hZ (hw _ (List.mem_of_getElem? (i := 34) rfl))) (mvT hZ (hw _ (List.mem_of_getElem? (i := 35) rfl))) (mvT hZ (hw _ (List.mem_of_getElem? (i := 37) rfl))) (by decide) (backOf (W := 1) (rm3 l Z a0 hw [] b4 p h4 n0 c9 A4 gn5 F4_value ) hZ (hw _ (List.mem_of_getElem? (i := 37) rfl)) (hw _ (List.mem_of_getElem? (i := 23) rfl)) (by decide) (by decide)) (g := (mkF mM 36 #[.val (.long p), .second, .val (.int (128 : Int32))] [(.long p), (.ref b4), (.ref b4)])) rfl (by rw [hml]; rfl) (Steps.refl _) (a := b4) (argsL := [(.long p)]) (rest := [(.ref b4)]) (lenOf pd_1 rfl) rfl (by show 2 * 0 + _ ≤ _; exact Nat.le_of_eq rfl) (hb hby d4_36) (fun _ _ => ⟨rfl, e4, (by decide : 1 + 0 ≤ _), (by decide : 1 + 0 ≤ _)⟩)
    dsimp only [Pt.U, Pt.locs, Pt.cells, Pt.slots] at X10 l10 y10 z10 st10 hQ10
    subst l10 y10 z10
    obtain ⟨rfl, Nq10, K10, E10, F10_0⟩ := hQ10
    have N10 := Fr.app N0 Nq10
    have pr11 : ∀ tg, Steps pP.tables eE below (T10.setTop (mkF mM 39 #[.val (.long p), .second, .val (.int (128 : Int32))] [(.ref b4)])) tg → Steps pP.tables eE below (s₁.setTop (entryFrame mM #[(.long p)] 3)) tg := fun tg kg => pr8 _ (st10.trans kg)
    have c12 := (Keep.trans (Keep.ext (Keep.refl h0 []) E4) K10 (allS (Or.inr gs6) all0))
    obtain ⟨fs, hr, hrun, hended, hW, hsame⟩ := X10.leave (v := some (.ref b4)) (fun h => by rw [Bd.returns] at h; cases h)
    refine ⟨_, _, pr11 _ (retOut X10 hx (t := (.object "java/lang/Long")) Bd.returns rfl (Or.inr (Or.inr (Or.inr (Or.inr ⟨rfl, rfl, rfl⟩)))) (hb hby d4_39) hr), hrun, hended, _, _, rfl, ?_, ⟨_, rfl⟩, hW, hsame.mono (by decide) (by decide)⟩
    show Q4 Z p ca cc h0 n0 _ T10.heap _
    exact ⟨_, rfl, N10, c12, E10⟩
  ·
    have pr14 : ∀ tg, Steps pP.tables eE below (s₁.setTop (mkF mM 17 #[.val (.long p), .second, .val (.int (128 : Int32))] [(.int (lcmpW p (127 : Int64)))])) tg → Steps pP.tables eE below (s₁.setTop (entryFrame mM #[(.long p)] 3)) tg := fun tg kg => pr2 _ (by
      show Steps pP.tables eE below (s₁.setTop (mkF mM 9 #[.val (.long p), .second, .val (.int (128 : Int32))] [(.int (lcmpW p (-128 : Int64)))])) _
      refine XS.ifNo X0.here hx rfl (hb hby d4_9) rfl ((if0 _ _).trans (flt (fun q => hc9_1 ((lw_lt _ _).mp q))).1) ?_
      show Steps pP.tables eE below (s₁.setTop (mkF mM 12 #[.val (.long p), .second, .val (.int (128 : Int32))] [])) _
      refine XS.lloadN X0.here hx rfl (hb hby d4_12) rfl ?_
      show Steps pP.tables eE below (s₁.setTop (mkF mM 13 #[.val (.long p), .second, .val (.int (128 : Int32))] [(.long p)])) _
      refine Jvm.Stand.ldc2J X0 hx hown (v := (127 : Int64)) (mvT hZ (hw _ (List.mem_of_getElem? (i := 26) rfl))) rfl (hb hby d4_13) ?_
      show Steps pP.tables eE below (s₁.setTop (mkF mM 16 #[.val (.long p), .second, .val (.int (128 : Int32))] [(.long (127 : Int64)), (.long p)])) _
      refine XS.lcmp X0.here hx rfl (hb hby d4_16) rfl ?_
      exact kg)
    by_cases hc17_13 : (127 : Int64) < p
    ·
      have pr15 : ∀ tg, Steps pP.tables eE below (s₁.setTop (mkF mM 31 #[.val (.long p), .second, .val (.int (128 : Int32))] [])) tg → Steps pP.tables eE below (s₁.setTop (entryFrame mM #[(.long p)] 3)) tg := fun tg kg => pr14 _ (by
        show Steps pP.tables eE below (s₁.setTop (mkF mM 17 #[.val (.long p), .second, .val (.int (128 : Int32))] [(.int (lcmpW p (127 : Int64)))])) _
        refine XS.ifYes X0.here hx rfl (pc0 := 17) (pc' := 31) rfl (hb hby d4_17) rfl ((if0 _ _).trans (tlt ((lw_gt _ _).mpr hc17_13)).2.2.1) (by decide) (by decide) ?_
        exact kg)
      obtain ⟨T16, h16, X16, e16, E16, A16, D16, -, st16⟩ := newO X0 hx hZ hown (hw _ (List.mem_of_getElem? (i := 32) rfl)) (hw _ (List.mem_of_getElem? (i := 33) rfl)) (hw _ (List.mem_of_getElem? (i := 23) rfl)) e0 (g := (mkF mM 31 #[.val (.long p), .second, .val (.int (128 : Int32))] [])) rfl (hb hby d4_31) (by decide) (by decide)
      obtain ⟨b16, g16⟩ : ∃ z, z = (h0).size := ⟨_, rfl⟩
      rw [← g16] at A16 D16 st16
      have gn17 : n0 ≤ b16 := Nat.le_trans Z0 (Nat.le_of_eq g16.symm)
      have gs18 : h0.size ≤ b16 := Nat.le_trans (Keep.refl h0 []).1 (Nat.le_of_eq g16.symm)
      have F16_value : Fld Z h16 b16 "java/lang/Long" "value" "J" (.long (0 : Int64)) := D16 (Or.inr (hw _ (List.mem_of_getElem? (i := 46) rfl))) (ty := .long) (by decide)
      have pr19 : ∀ tg, Steps pP.tables eE below (T16.setTop (mkF mM 34 #[.val (.long p), .second, .val (.int (128 : Int32))] [(.ref b16)])) tg → Steps pP.tables eE below (s₁.setTop (entryFrame mM #[(.long p)] 3)) tg := fun tg kg => pr15 _ (st16 _ kg)
      have pr20 : ∀ tg, Steps pP.tables eE below (T16.setTop (mkF mM 36 #[.val (.long p), .second, .val (.int (128 : Int32))] [(.long p), (.ref b16), (.ref b16)])) tg → Steps pP.tables eE below (s₁.setTop (entryFrame mM #[(.long p)] 3)) tg := fun tg kg => pr19 _ (by
        show Steps pP.tables eE below (T16.setTop (mkF mM 34 #[.val (.long p), .second, .val (.int (128 : Int32))] [(.ref b16)])) _
        refine XS.dup X16.here hx rfl (hb hby d4_34) rfl rfl ?_
        show Steps pP.tables eE below (T16.setTop (mkF mM 35 #[.val (.long p), .second, .val (.int (128 : Int32))] [(.ref b16), (.ref b16)])) _
        refine XS.lloadN X16.here hx rfl (hb hby d4_35) rfl ?_
        exact kg)
      have c21 := (Nat.le_trans Z0 E16.1)
      obtain ⟨_, _, ⟨T22, L22, kk22, nn22⟩, -, X22, ⟨Lc22, hQ22, l22, y22, z22⟩, st22⟩ := X16.specialBack hx (y := (⟨"java/lang/Long", "<init>", "(J)V"⟩ : MethodName)) rfl hown (mvT hZ (hw _ (List.mem_of_getElem? (i := 34) rfl))) (mvT hZ (hw _ (List.mem_of_getElem? (i := 35) rfl))) (mvT hZ (hw _ (List.mem_of_getElem? (i := 37) rfl))) (by decide) (backOf (W := 1) (rm3 l Z a0 hw [] b16 p h16 n0 c21 A16 gn17 F16_value ) hZ (hw _ (List.mem_of_getElem? (i := 37) rfl)) (hw _ (List.mem_of_getElem? (i := 23) rfl)) (by decide) (by decide)) (g := (mkF mM 36 #[.val (.long p), .second, .val (.int (128 : Int32))] [(.long p), (.ref b16), (.ref b16)])) rfl (by rw [hml]; rfl) (Steps.refl _) (a := b16) (argsL := [(.long p)]) (rest := [(.ref b16)]) (lenOf pd_1 rfl) rfl (by show 2 * 0 + _ ≤ _; exact Nat.le_of_eq rfl) (hb hby d4_36) (fun _ _ => ⟨rfl, e16, (by decide : 1 + 0 ≤ _), (by decide : 1 + 0 ≤ _)⟩)
      dsimp only [Pt.U, Pt.locs, Pt.cells, Pt.slots] at X22 l22 y22 z22 st22 hQ22
      subst l22 y22 z22
      obtain ⟨rfl, Nq22, K22, E22, F22_0⟩ := hQ22
      have N22 := Fr.app N0 Nq22
      have pr23 : ∀ tg, Steps pP.tables eE below (T22.setTop (mkF mM 39 #[.val (.long p), .second, .val (.int (128 : Int32))] [(.ref b16)])) tg → Steps pP.tables eE below (s₁.setTop (entryFrame mM #[(.long p)] 3)) tg := fun tg kg => pr20 _ (st22.trans kg)
      have c24 := (Keep.trans (Keep.ext (Keep.refl h0 []) E16) K22 (allS (Or.inr gs18) all0))
      obtain ⟨fs, hr, hrun, hended, hW, hsame⟩ := X22.leave (v := some (.ref b16)) (fun h => by rw [Bd.returns] at h; cases h)
      refine ⟨_, _, pr23 _ (retOut X22 hx (t := (.object "java/lang/Long")) Bd.returns rfl (Or.inr (Or.inr (Or.inr (Or.inr ⟨rfl, rfl, rfl⟩)))) (hb hby d4_39) hr), hrun, hended, _, _, rfl, ?_, ⟨_, rfl⟩, hW, hsame.mono (by decide) (by decide)⟩
      show Q4 Z p ca cc h0 n0 _ T22.heap _
      exact ⟨_, rfl, N22, c24, E22⟩
    ·
      have pr25 : ∀ tg, Steps pP.tables eE below (s₁.setTop (mkF mM 20 #[.val (.long p), .second, .val (.int (128 : Int32))] [])) tg → Steps pP.tables eE below (s₁.setTop (entryFrame mM #[(.long p)] 3)) tg := fun tg kg => pr14 _ (by
        show Steps pP.tables eE below (s₁.setTop (mkF mM 17 #[.val (.long p), .second, .val (.int (128 : Int32))] [(.int (lcmpW p (127 : Int64)))])) _
        refine XS.ifNo X0.here hx rfl (hb hby d4_17) rfl ((if0 _ _).trans (flt (fun q => hc17_13 ((lw_gt _ _).mp q))).2.2.1) ?_
        exact kg)
      obtain ⟨T26, X26, e26, st26⟩ := getS2 X0 hx hZ hown (host := "") (Or.inl (hw _ (List.mem_of_getElem? (i := 27) rfl))) Via.refl e0 (Sta.ext (O).2 S_cache) (g := (mkF mM 20 #[.val (.long p), .second, .val (.int (128 : Int32))] [])) rfl (hb hby d4_20)
      have pr27 : ∀ tg, Steps pP.tables eE below (T26.setTop (mkF mM 23 #[.val (.long p), .second, .val (.int (128 : Int32))] [(.ref ca)])) tg → Steps pP.tables eE below (s₁.setTop (entryFrame mM #[(.long p)] 3)) tg := fun tg kg => pr25 _ (st26 _ kg)
      have pr28 : ∀ tg, Steps pP.tables eE below (T26.setTop (mkF mM 29 #[.val (.long p), .second, .val (.int (128 : Int32))] [(.int (p.toInt32 + (128 : Int32))), (.ref ca)])) tg → Steps pP.tables eE below (s₁.setTop (entryFrame mM #[(.long p)] 3)) tg := fun tg kg => pr27 _ (by
        show Steps pP.tables eE below (T26.setTop (mkF mM 23 #[.val (.long p), .second, .val (.int (128 : Int32))] [(.ref ca)])) _
        refine XS.lloadN X26.here hx rfl (hb hby d4_23) rfl ?_
        show Steps pP.tables eE below (T26.setTop (mkF mM 24 #[.val (.long p), .second, .val (.int (128 : Int32))] [(.long p), (.ref ca)])) _
        refine XS.l2i X26.here hx rfl (hb hby d4_24) rfl ?_
        show Steps pP.tables eE below (T26.setTop (mkF mM 25 #[.val (.long p), .second, .val (.int (128 : Int32))] [(.int p.toInt32), (.ref ca)])) _
        refine XS.sipush X26.here hx rfl (hb hby d4_25) ?_
        show Steps pP.tables eE below (T26.setTop (mkF mM 28 #[.val (.long p), .second, .val (.int (128 : Int32))] [(.int (128 : Int32)), (.int p.toInt32), (.ref ca)])) _
        refine XS.iadd X26.here hx rfl (hb hby d4_28) rfl ?_
        exact kg)
      obtain ⟨bA29, bS29, bM29⟩ := Bxs.ext B (O).2
      have hj29 := own_box hc9_1 hc17_13
      have hin29 : ¬ ((p.toInt32 + (128 : Int32)) < 0 ∨ cc.slots.size ≤ ((p.toInt32 + (128 : Int32))).toNatClampNeg) := inb_of bS29 hj29
      obtain ⟨bx29, hat29, EX29, -⟩ := B.2.2.2 _ hin29
      have pr30 : ∀ tg, Steps pP.tables eE below (T26.setTop (mkF mM 30 #[.val (.long p), .second, .val (.int (128 : Int32))] [(.ref bx29)])) tg → Steps pP.tables eE below (s₁.setTop (entryFrame mM #[(.long p)] 3)) tg := fun tg kg => pr28 _ (by
        show Steps pP.tables eE below (T26.setTop (mkF mM 29 #[.val (.long p), .second, .val (.int (128 : Int32))] [(.int (p.toInt32 + (128 : Int32))), (.ref ca)])) _
        refine X26.aaload hx (j := (p.toInt32 + (128 : Int32))) (v := (.ref bx29)) (by rw [e26]; exact bA29.1) (State.isArrayOf_alike hZ.alike bA29.2.1) rfl bA29.2.2 hin29 hat29 (g := (mkF mM 29 #[.val (.long p), .second, .val (.int (128 : Int32))] [(.int (p.toInt32 + (128 : Int32))), (.ref ca)])) rfl rfl (hb hby d4_29) _ ?_
        exact kg)
      obtain ⟨fs, hr, hrun, hended, hW, hsame⟩ := X26.leave (v := some (.ref bx29)) (fun h => by rw [Bd.returns] at h; cases h)
      refine ⟨_, _, pr30 _ (retOut X26 hx (t := (.object "java/lang/Long")) Bd.returns rfl (Or.inr (Or.inr (Or.inr (Or.inr ⟨rfl, rfl, rfl⟩)))) (hb hby d4_30) hr), hrun, hended, _, _, rfl, ?_, ⟨_, rfl⟩, hW, hsame.mono (by decide) (by decide)⟩
      show Q4 Z p ca cc h0 n0 _ T26.heap _
      rw [e26]
      exact ⟨_, rfl, N0, (Keep.refl h0 []), (Exa.ext (O).2 EX29)⟩
theorem d5_0 : decode prog_46_method_6_code 0 = .ok (.aload_n 1, 1) := by decide +kernel
theorem d5_1 : decode prog_46_method_6_code 1 = .ok (.instanceof 8, 3) := by decide +kernel
theorem d5_4 : decode prog_46_method_6_code 4 = .ok (.ifCond .eq 35, 3) := by decide +kernel
theorem d5_7 : decode prog_46_method_6_code 7 = .ok (.aload_n 1, 1) := by decide +kernel
theorem d5_8 : decode prog_46_method_6_code 8 = .ok (.checkcast 8, 3) := by decide +kernel
theorem d5_11 : decode prog_46_method_6_code 11 = .ok (.astore_n 2, 1) := by decide +kernel
theorem d5_12 : decode prog_46_method_6_code 12 = .ok (.aload_n 2, 1) := by decide +kernel
theorem d5_13 : decode prog_46_method_6_code 13 = .ok (.getfield 7, 3) := by decide +kernel
theorem d5_16 : decode prog_46_method_6_code 16 = .ok (.aload_n 0, 1) := by decide +kernel
theorem d5_17 : decode prog_46_method_6_code 17 = .ok (.getfield 7, 3) := by decide +kernel
theorem d5_20 : decode prog_46_method_6_code 20 = .ok (.lcmp, 1) := by decide +kernel
theorem d5_21 : decode prog_46_method_6_code 21 = .ok (.ifCond .ne 18, 3) := by decide +kernel
theorem d5_24 : decode prog_46_method_6_code 24 = .ok (.aload_n 2, 1) := by decide +kernel
theorem d5_25 : decode prog_46_method_6_code 25 = .ok (.getfield 13, 3) := by decide +kernel
theorem d5_28 : decode prog_46_method_6_code 28 = .ok (.aload_n 0, 1) := by decide +kernel
theorem d5_29 : decode prog_46_method_6_code 29 = .ok (.getfield 13, 3) := by decide +kernel
theorem d5_32 : decode prog_46_method_6_code 32 = .ok (.if_icmp .ne 7, 3) := by decide +kernel
theorem d5_35 : decode prog_46_method_6_code 35 = .ok (.iconst 1, 1) := by decide +kernel
theorem d5_36 : decode prog_46_method_6_code 36 = .ok (.goto 4, 3) := by decide +kernel
theorem d5_39 : decode prog_46_method_6_code 39 = .ok (.iconst 0, 1) := by decide +kernel
theorem d5_40 : decode prog_46_method_6_code 40 = .ok (.ireturn, 1) := by decide +kernel
theorem ef_5 (mM : MethodId) (x0 : Addr) (x1 : Addr) : entryFrame mM #[(.ref x0), (.ref x1)] 3 = mkF mM 0 #[.val (.ref x0), .val (.ref x1), .unset] [] := by first | (simp [entryFrame, mkF, argsToLocals, Value.category]; done) | rfl
def Q5 (Z : State) (a : Addr) (b : Addr) (q1 : Int64) (p1 : Int32) (q2 : Int64) (p2 : Int32) (h0 : Heap) (n0 : Nat) (v : Option Value) (h : Heap) (L : List Loc) : Prop := ∃ r : Int32, v = some (.int r) ∧ r = (if q2 = q1 then (if p2 = p1 then (1 : Int32) else (0 : Int32)) else (0 : Int32)) ∧ Fr n0 L ∧ h = h0
set_option maxRecDepth 65536 in
set_option maxHeartbeats 40000000 in
theorem rm5 (l : Launch) (Z : State) (a0 : Array Value) (hw : ∀ d ∈ tables_1, d.before a0 Z = true) (ws : List Jvm.Cond) (a : Addr) (b : Addr) (q1 : Int64) (p1 : Int32) (q2 : Int64) (p2 : Int32) (h0 : Heap) (n0 : Nat) (Z0 : n0 ≤ h0.size) (E_a : Exa Z h0 a "com/example/settle/settle/service/FileSum") (F_length_a : Fld Z h0 a "com/example/settle/settle/service/FileSum" "length" "J" (.long q1)) (F_crc_a : Fld Z h0 a "com/example/settle/settle/service/FileSum" "crc" "I" (.int p1)) (E_b : Exa Z h0 b "com/example/settle/settle/service/FileSum") (F_length_b : Fld Z h0 b "com/example/settle/settle/service/FileSum" "length" "J" (.long q2)) (F_crc_b : Fld Z h0 b "com/example/settle/settle/service/FileSum" "crc" "I" (.int p2)) :
    MetFree l (⟨"com/example/settle/settle/service/FileSum", "equals", "(Ljava/lang/Object;)Z"⟩ : MethodName) (head1 (Jvm.Cond.code (⟨"com/example/settle/settle/service/FileSum", "equals", "(Ljava/lang/Object;)Z"⟩ : MethodName) prog_46_method_6_code 3 (some .boolean) :: ws) ({ frames := 0, cells := 0, slots := 0, locals := 0 } : Room)) (fun aA uU => aA = #[(.ref a), (.ref b)] ∧ Z.Warmed39 uU.vm ∧ uU.heap = h0) (fun _ _ _ _ _ => True) (fun _ uU oO uU' => ∃ vV lL, oO = .returned vV ∧ Q5 Z a b q1 p1 q2 p2 h0 n0 vV uU'.heap lL ∧ FrameEnd uU oO uU' lL ({ frames := 0, cells := 0, slots := 0, locals := 0 } : Room).cells ({ frames := 0, cells := 0, slots := 0, locals := 0 } : Room).slots) := by
  refine MetFree.of_bodySF (plainFor_of_name pn_0) hisR ?_
  intro pP eE sS mM args below meth cC s₁ Bd hml0 hP hK
  obtain ⟨rfl, hZ, hh⟩ := hP
  have hx := Bd.exec
  have hby := Bd.bytes
  have hml : cC.maxLocals = 3 := hml0
  have hown : sS.vm.findClass "com/example/settle/settle/service/FileSum" = some mM.cls := findClass_of_methodNamed Bd.named
  have hnm := (name_of_methodNamed Bd.named Bd.method).1
  have X0 : Stand pP l eE ({ frames := 0, cells := 0, slots := 0, locals := 0 } : Room) sS mM #[(.ref a), (.ref b)] below meth cC s₁ [] 0 0 := Stand.of_body Bd
  have e0 : s₁.heap = h0 := by rw [← hh, Bd.state]; rfl
  have N0 := Fr.nil n0
  have pre0 : ∀ tg, Steps pP.tables eE below (s₁.setTop (mkF mM 0 #[.val (.ref a), .val (.ref b), .unset] [])) tg → Steps pP.tables eE below (s₁.setTop (entryFrame mM #[(.ref a), (.ref b)] 3)) tg := fun tg kg => castTop (ef_5 mM a b) kg
  have pr1 : ∀ tg, Steps pP.tables eE below (s₁.setTop (mkF mM 1 #[.val (.ref a), .val (.ref b), .unset] [(.ref b)])) tg → Steps pP.tables eE below (s₁.setTop (entryFrame mM #[(.ref a), (.ref b)] 3)) tg := fun tg kg => pre0 _ (by
    show Steps pP.tables eE below (s₁.setTop (mkF mM 0 #[.val (.ref a), .val (.ref b), .unset] [])) _
    refine XS.aloadN X0.here hx rfl (hb hby d5_0) rfl rfl ?_
    exact kg)
  obtain ⟨T2, X2, e2, st2⟩ := instY X0 hx hZ hown (hw _ (List.mem_of_getElem? (i := 19) rfl)) e0 (Ins.self E_b) (g := (mkF mM 1 #[.val (.ref a), .val (.ref b), .unset] [(.ref b)])) rfl rfl (hb hby d5_1)
  have pr3 : ∀ tg, Steps pP.tables eE below (T2.setTop (mkF mM 4 #[.val (.ref a), .val (.ref b), .unset] [(.int (1 : Int32))])) tg → Steps pP.tables eE below (s₁.setTop (entryFrame mM #[(.ref a), (.ref b)] 3)) tg := fun tg kg => pr1 _ (st2 _ kg)
  have pr4 : ∀ tg, Steps pP.tables eE below (T2.setTop (mkF mM 8 #[.val (.ref a), .val (.ref b), .unset] [(.ref b)])) tg → Steps pP.tables eE below (s₁.setTop (entryFrame mM #[(.ref a), (.ref b)] 3)) tg := fun tg kg => pr3 _ (by
    show Steps pP.tables eE below (T2.setTop (mkF mM 4 #[.val (.ref a), .val (.ref b), .unset] [(.int (1 : Int32))])) _
    refine XS.ifNo X2.here hx rfl (hb hby d5_4) rfl ((if0 _ _).trans (feq (by decide)).1) ?_
    show Steps pP.tables eE below (T2.setTop (mkF mM 7 #[.val (.ref a), .val (.ref b), .unset] [])) _
    refine XS.aloadN X2.here hx rfl (hb hby d5_7) rfl rfl ?_
    exact kg)
  obtain ⟨T5, X5, e5, st5⟩ := castY X2 hx hZ hown (hw _ (List.mem_of_getElem? (i := 19) rfl)) e2 (Ins.self E_b) (g := (mkF mM 8 #[.val (.ref a), .val (.ref b), .unset] [(.ref b)])) rfl rfl (hb hby d5_8)
  have pr6 : ∀ tg, Steps pP.tables eE below (T5.setTop (mkF mM 11 #[.val (.ref a), .val (.ref b), .unset] [(.ref b)])) tg → Steps pP.tables eE below (s₁.setTop (entryFrame mM #[(.ref a), (.ref b)] 3)) tg := fun tg kg => pr4 _ (st5 _ kg)
  have pr7 : ∀ tg, Steps pP.tables eE below (T5.setTop (mkF mM 13 #[.val (.ref a), .val (.ref b), .val (.ref b)] [(.ref b)])) tg → Steps pP.tables eE below (s₁.setTop (entryFrame mM #[(.ref a), (.ref b)] 3)) tg := fun tg kg => pr6 _ (by
    show Steps pP.tables eE below (T5.setTop (mkF mM 11 #[.val (.ref a), .val (.ref b), .unset] [(.ref b)])) _
    refine XS.astoreN X5.here hx rfl (hb hby d5_11) rfl rfl (l' := #[.val (.ref a), .val (.ref b), .val (.ref b)]) rfl ?_
    show Steps pP.tables eE below (T5.setTop (mkF mM 12 #[.val (.ref a), .val (.ref b), .val (.ref b)] [])) _
    refine XS.aloadN X5.here hx rfl (hb hby d5_12) rfl rfl ?_
    exact kg)
  obtain ⟨T8, X8, e8, st8⟩ := getF X5 hx hZ hown (host := "") (Or.inl (hw _ (List.mem_of_getElem? (i := 10) rfl))) Via.refl e5 F_length_b (g := (mkF mM 13 #[.val (.ref a), .val (.ref b), .val (.ref b)] [(.ref b)])) rfl rfl (hb hby d5_13)
  have pr9 : ∀ tg, Steps pP.tables eE below (T8.setTop (mkF mM 16 #[.val (.ref a), .val (.ref b), .val (.ref b)] [(.long q2)])) tg → Steps pP.tables eE below (s₁.setTop (entryFrame mM #[(.ref a), (.ref b)] 3)) tg := fun tg kg => pr7 _ (st8 _ kg)
  have pr10 : ∀ tg, Steps pP.tables eE below (T8.setTop (mkF mM 17 #[.val (.ref a), .val (.ref b), .val (.ref b)] [(.ref a), (.long q2)])) tg → Steps pP.tables eE below (s₁.setTop (entryFrame mM #[(.ref a), (.ref b)] 3)) tg := fun tg kg => pr9 _ (by
    show Steps pP.tables eE below (T8.setTop (mkF mM 16 #[.val (.ref a), .val (.ref b), .val (.ref b)] [(.long q2)])) _
    refine XS.aloadN X8.here hx rfl (hb hby d5_16) rfl rfl ?_
    exact kg)
  obtain ⟨T11, X11, e11, st11⟩ := getF X8 hx hZ hown (host := "") (Or.inl (hw _ (List.mem_of_getElem? (i := 10) rfl))) Via.refl e8 F_length_a (g := (mkF mM 17 #[.val (.ref a), .val (.ref b), .val (.ref b)] [(.ref a), (.long q2)])) rfl rfl (hb hby d5_17)
  have pr12 : ∀ tg, Steps pP.tables eE below (T11.setTop (mkF mM 20 #[.val (.ref a), .val (.ref b), .val (.ref b)] [(.long q1), (.long q2)])) tg → Steps pP.tables eE below (s₁.setTop (entryFrame mM #[(.ref a), (.ref b)] 3)) tg := fun tg kg => pr10 _ (st11 _ kg)
  have pr14 : ∀ tg, Steps pP.tables eE below (T11.setTop (mkF mM 21 #[.val (.ref a), .val (.ref b), .val (.ref b)] [(.int (lcmpW q2 q1))])) tg → Steps pP.tables eE below (s₁.setTop (entryFrame mM #[(.ref a), (.ref b)] 3)) tg := fun tg kg => pr12 _ (by
    show Steps pP.tables eE below (T11.setTop (mkF mM 20 #[.val (.ref a), .val (.ref b), .val (.ref b)] [(.long q1), (.long q2)])) _
    refine XS.lcmp X11.here hx rfl (hb hby d5_20) rfl ?_
    exact kg)
  by_cases hc21_13 : q2 = q1
  ·
    have pr15 : ∀ tg, Steps pP.tables eE below (T11.setTop (mkF mM 25 #[.val (.ref a), .val (.ref b), .val (.ref b)] [(.ref b)])) tg → Steps pP.tables eE below (s₁.setTop (entryFrame mM #[(.ref a), (.ref b)] 3)) tg := fun tg kg => pr14 _ (by
      show Steps pP.tables eE below (T11.setTop (mkF mM 21 #[.val (.ref a), .val (.ref b), .val (.ref b)] [(.int (lcmpW q2 q1))])) _
      refine XS.ifNo X11.here hx rfl (hb hby d5_21) rfl ((if0 _ _).trans (teq ((lw_eq _ _).mpr hc21_13)).2) ?_
      show Steps pP.tables eE below (T11.setTop (mkF mM 24 #[.val (.ref a), .val (.ref b), .val (.ref b)] [])) _
      refine XS.aloadN X11.here hx rfl (hb hby d5_24) rfl rfl ?_
      exact kg)
    obtain ⟨T16, X16, e16, st16⟩ := getF X11 hx hZ hown (host := "") (Or.inl (hw _ (List.mem_of_getElem? (i := 12) rfl))) Via.refl e11 F_crc_b (g := (mkF mM 25 #[.val (.ref a), .val (.ref b), .val (.ref b)] [(.ref b)])) rfl rfl (hb hby d5_25)
    have pr17 : ∀ tg, Steps pP.tables eE below (T16.setTop (mkF mM 28 #[.val (.ref a), .val (.ref b), .val (.ref b)] [(.int p2)])) tg → Steps pP.tables eE below (s₁.setTop (entryFrame mM #[(.ref a), (.ref b)] 3)) tg := fun tg kg => pr15 _ (st16 _ kg)
    have pr18 : ∀ tg, Steps pP.tables eE below (T16.setTop (mkF mM 29 #[.val (.ref a), .val (.ref b), .val (.ref b)] [(.ref a), (.int p2)])) tg → Steps pP.tables eE below (s₁.setTop (entryFrame mM #[(.ref a), (.ref b)] 3)) tg := fun tg kg => pr17 _ (by
      show Steps pP.tables eE below (T16.setTop (mkF mM 28 #[.val (.ref a), .val (.ref b), .val (.ref b)] [(.int p2)])) _
      refine XS.aloadN X16.here hx rfl (hb hby d5_28) rfl rfl ?_
      exact kg)
    obtain ⟨T19, X19, e19, st19⟩ := getF X16 hx hZ hown (host := "") (Or.inl (hw _ (List.mem_of_getElem? (i := 12) rfl))) Via.refl e16 F_crc_a (g := (mkF mM 29 #[.val (.ref a), .val (.ref b), .val (.ref b)] [(.ref a), (.int p2)])) rfl rfl (hb hby d5_29)
    have pr20 : ∀ tg, Steps pP.tables eE below (T19.setTop (mkF mM 32 #[.val (.ref a), .val (.ref b), .val (.ref b)] [(.int p1), (.int p2)])) tg → Steps pP.tables eE below (s₁.setTop (entryFrame mM #[(.ref a), (.ref b)] 3)) tg := fun tg kg => pr18 _ (st19 _ kg)
    by_cases hc32_21 : p2 = p1
    ·
      have pr22 : ∀ tg, Steps pP.tables eE below (T19.setTop (mkF mM 40 #[.val (.ref a), .val (.ref b), .val (.ref b)] [(.int (1 : Int32))])) tg → Steps pP.tables eE below (s₁.setTop (entryFrame mM #[(.ref a), (.ref b)] 3)) tg := fun tg kg => pr20 _ (by
        show Steps pP.tables eE below (T19.setTop (mkF mM 32 #[.val (.ref a), .val (.ref b), .val (.ref b)] [(.int p1), (.int p2)])) _
        refine XS.icmpNo X19.here hx rfl (hb hby d5_32) rfl (teq hc32_21).2 ?_
        show Steps pP.tables eE below (T19.setTop (mkF mM 35 #[.val (.ref a), .val (.ref b), .val (.ref b)] [])) _
        refine XS.iconst X19.here hx rfl (hb hby d5_35) ?_
        show Steps pP.tables eE below (T19.setTop (mkF mM 36 #[.val (.ref a), .val (.ref b), .val (.ref b)] [(.int (1 : Int32))])) _
        refine XS.goto X19.here hx rfl (pc0 := 36) (pc' := 40) rfl (hb hby d5_36) (by decide) (by decide) ?_
        exact kg)
      obtain ⟨fs, hr, hrun, hended, hW, hsame⟩ := X19.leave (v := some (.int (1 : Int32))) (fun h => by rw [Bd.returns] at h; cases h)
      refine ⟨_, _, pr22 _ (retOut X19 hx (t := .boolean) Bd.returns rfl (Or.inl ⟨rfl, Or.inr (Or.inl rfl), _, rfl⟩) (hb hby d5_40) hr), hrun, hended, _, _, rfl, ?_, ⟨_, rfl⟩, hW, hsame.mono (by decide) (by decide)⟩
      show Q5 Z a b q1 p1 q2 p2 h0 n0 _ T19.heap _
      rw [e19]
      exact ⟨_, rfl, by rw [if_pos hc21_13, if_pos hc32_21], N0, rfl⟩
    ·
      have pr23 : ∀ tg, Steps pP.tables eE below (T19.setTop (mkF mM 40 #[.val (.ref a), .val (.ref b), .val (.ref b)] [(.int (0 : Int32))])) tg → Steps pP.tables eE below (s₁.setTop (entryFrame mM #[(.ref a), (.ref b)] 3)) tg := fun tg kg => pr20 _ (by
        show Steps pP.tables eE below (T19.setTop (mkF mM 32 #[.val (.ref a), .val (.ref b), .val (.ref b)] [(.int p1), (.int p2)])) _
        refine XS.icmpYes X19.here hx rfl (pc0 := 32) (pc' := 39) rfl (hb hby d5_32) rfl (feq hc32_21).2 (by decide) (by decide) ?_
        show Steps pP.tables eE below (T19.setTop (mkF mM 39 #[.val (.ref a), .val (.ref b), .val (.ref b)] [])) _
        refine XS.iconst X19.here hx rfl (hb hby d5_39) ?_
        exact kg)
      obtain ⟨fs, hr, hrun, hended, hW, hsame⟩ := X19.leave (v := some (.int (0 : Int32))) (fun h => by rw [Bd.returns] at h; cases h)
      refine ⟨_, _, pr23 _ (retOut X19 hx (t := .boolean) Bd.returns rfl (Or.inl ⟨rfl, Or.inr (Or.inl rfl), _, rfl⟩) (hb hby d5_40) hr), hrun, hended, _, _, rfl, ?_, ⟨_, rfl⟩, hW, hsame.mono (by decide) (by decide)⟩
      show Q5 Z a b q1 p1 q2 p2 h0 n0 _ T19.heap _
      rw [e19]
      exact ⟨_, rfl, by rw [if_pos hc21_13, if_neg hc32_21], N0, rfl⟩
  ·
    have pr24 : ∀ tg, Steps pP.tables eE below (T11.setTop (mkF mM 40 #[.val (.ref a), .val (.ref b), .val (.ref b)] [(.int (0 : Int32))])) tg → Steps pP.tables eE below (s₁.setTop (entryFrame mM #[(.ref a), (.ref b)] 3)) tg := fun tg kg => pr14 _ (by
      show Steps pP.tables eE below (T11.setTop (mkF mM 21 #[.val (.ref a), .val (.ref b), .val (.ref b)] [(.int (lcmpW q2 q1))])) _
      refine XS.ifYes X11.here hx rfl (pc0 := 21) (pc' := 39) rfl (hb hby d5_21) rfl ((if0 _ _).trans (feq (fun q => hc21_13 ((lw_eq _ _).mp q))).2) (by decide) (by decide) ?_
      show Steps pP.tables eE below (T11.setTop (mkF mM 39 #[.val (.ref a), .val (.ref b), .val (.ref b)] [])) _
      refine XS.iconst X11.here hx rfl (hb hby d5_39) ?_
      exact kg)
    obtain ⟨fs, hr, hrun, hended, hW, hsame⟩ := X11.leave (v := some (.int (0 : Int32))) (fun h => by rw [Bd.returns] at h; cases h)
    refine ⟨_, _, pr24 _ (retOut X11 hx (t := .boolean) Bd.returns rfl (Or.inl ⟨rfl, Or.inr (Or.inl rfl), _, rfl⟩) (hb hby d5_40) hr), hrun, hended, _, _, rfl, ?_, ⟨_, rfl⟩, hW, hsame.mono (by decide) (by decide)⟩
    show Q5 Z a b q1 p1 q2 p2 h0 n0 _ T11.heap _
    rw [e11]
    exact ⟨_, rfl, by rw [if_neg hc21_13], N0, rfl⟩
theorem d6_0 : decode prog_46_method_6_code 0 = .ok (.aload_n 1, 1) := by decide +kernel
theorem d6_1 : decode prog_46_method_6_code 1 = .ok (.instanceof 8, 3) := by decide +kernel
theorem d6_4 : decode prog_46_method_6_code 4 = .ok (.ifCond .eq 35, 3) := by decide +kernel
theorem d6_39 : decode prog_46_method_6_code 39 = .ok (.iconst 0, 1) := by decide +kernel
theorem d6_40 : decode prog_46_method_6_code 40 = .ok (.ireturn, 1) := by decide +kernel
theorem ef_6 (mM : MethodId) (x0 : Addr) : entryFrame mM #[(.ref x0), .null] 3 = mkF mM 0 #[.val (.ref x0), .val .null, .unset] [] := by first | (simp [entryFrame, mkF, argsToLocals, Value.category]; done) | rfl
def Q6 (Z : State) (a : Addr) (h0 : Heap) (n0 : Nat) (v : Option Value) (h : Heap) (L : List Loc) : Prop := v = some (.int (0 : Int32)) ∧ Fr n0 L ∧ h = h0
set_option maxRecDepth 65536 in
set_option maxHeartbeats 40000000 in
theorem rm6 (l : Launch) (Z : State) (a0 : Array Value) (hw : ∀ d ∈ tables_1, d.before a0 Z = true) (ws : List Jvm.Cond) (a : Addr) (h0 : Heap) (n0 : Nat) (Z0 : n0 ≤ h0.size) :
    MetFree l (⟨"com/example/settle/settle/service/FileSum", "equals", "(Ljava/lang/Object;)Z"⟩ : MethodName) (head1 (Jvm.Cond.code (⟨"com/example/settle/settle/service/FileSum", "equals", "(Ljava/lang/Object;)Z"⟩ : MethodName) prog_46_method_6_code 3 (some .boolean) :: ws) ({ frames := 0, cells := 0, slots := 0, locals := 0 } : Room)) (fun aA uU => aA = #[(.ref a), .null] ∧ Z.Warmed39 uU.vm ∧ uU.heap = h0) (fun _ _ _ _ _ => True) (fun _ uU oO uU' => ∃ vV lL, oO = .returned vV ∧ Q6 Z a h0 n0 vV uU'.heap lL ∧ FrameEnd uU oO uU' lL ({ frames := 0, cells := 0, slots := 0, locals := 0 } : Room).cells ({ frames := 0, cells := 0, slots := 0, locals := 0 } : Room).slots) := by
  refine MetFree.of_bodySF (plainFor_of_name pn_0) hisR ?_
  intro pP eE sS mM args below meth cC s₁ Bd hml0 hP hK
  obtain ⟨rfl, hZ, hh⟩ := hP
  have hx := Bd.exec
  have hby := Bd.bytes
  have hml : cC.maxLocals = 3 := hml0
  have hown : sS.vm.findClass "com/example/settle/settle/service/FileSum" = some mM.cls := findClass_of_methodNamed Bd.named
  have hnm := (name_of_methodNamed Bd.named Bd.method).1
  have X0 : Stand pP l eE ({ frames := 0, cells := 0, slots := 0, locals := 0 } : Room) sS mM #[(.ref a), .null] below meth cC s₁ [] 0 0 := Stand.of_body Bd
  have e0 : s₁.heap = h0 := by rw [← hh, Bd.state]; rfl
  have N0 := Fr.nil n0
  have pre0 : ∀ tg, Steps pP.tables eE below (s₁.setTop (mkF mM 0 #[.val (.ref a), .val .null, .unset] [])) tg → Steps pP.tables eE below (s₁.setTop (entryFrame mM #[(.ref a), .null] 3)) tg := fun tg kg => castTop (ef_6 mM a) kg
  have pr1 : ∀ tg, Steps pP.tables eE below (s₁.setTop (mkF mM 40 #[.val (.ref a), .val .null, .unset] [(.int (0 : Int32))])) tg → Steps pP.tables eE below (s₁.setTop (entryFrame mM #[(.ref a), .null] 3)) tg := fun tg kg => pre0 _ (by
    show Steps pP.tables eE below (s₁.setTop (mkF mM 0 #[.val (.ref a), .val .null, .unset] [])) _
    refine XS.aloadN X0.here hx rfl (hb hby d6_0) rfl rfl ?_
    show Steps pP.tables eE below (s₁.setTop (mkF mM 1 #[.val (.ref a), .val .null, .unset] [.null])) _
    refine X0.instanceofNull hx (g := (mkF mM 1 #[.val (.ref a), .val .null, .unset] [.null])) rfl rfl (hb hby d6_1) _ ?_
    show Steps pP.tables eE below (s₁.setTop (mkF mM 4 #[.val (.ref a), .val .null, .unset] [(.int (0 : Int32))])) _
    refine XS.ifYes X0.here hx rfl (pc0 := 4) (pc' := 39) rfl (hb hby d6_4) rfl ((if0 _ _).trans (teq (by decide)).1) (by decide) (by decide) ?_
    show Steps pP.tables eE below (s₁.setTop (mkF mM 39 #[.val (.ref a), .val .null, .unset] [])) _
    refine XS.iconst X0.here hx rfl (hb hby d6_39) ?_
    exact kg)
  obtain ⟨fs, hr, hrun, hended, hW, hsame⟩ := X0.leave (v := some (.int (0 : Int32))) (fun h => by rw [Bd.returns] at h; cases h)
  refine ⟨_, _, pr1 _ (retOut X0 hx (t := .boolean) Bd.returns rfl (Or.inl ⟨rfl, Or.inr (Or.inl rfl), _, rfl⟩) (hb hby d6_40) hr), hrun, hended, _, _, rfl, ?_, ⟨_, rfl⟩, hW, hsame.mono (by decide) (by decide)⟩
  show Q6 Z a h0 n0 _ s₁.heap _
  rw [e0]
  exact ⟨rfl, N0, rfl⟩
theorem d7_0 : decode prog_46_method_6_code 0 = .ok (.aload_n 1, 1) := by decide +kernel
theorem d7_1 : decode prog_46_method_6_code 1 = .ok (.instanceof 8, 3) := by decide +kernel
theorem d7_4 : decode prog_46_method_6_code 4 = .ok (.ifCond .eq 35, 3) := by decide +kernel
theorem d7_39 : decode prog_46_method_6_code 39 = .ok (.iconst 0, 1) := by decide +kernel
theorem d7_40 : decode prog_46_method_6_code 40 = .ok (.ireturn, 1) := by decide +kernel
theorem ef_7 (mM : MethodId) (x0 : Addr) (x1 : Addr) : entryFrame mM #[(.ref x0), (.ref x1)] 3 = mkF mM 0 #[.val (.ref x0), .val (.ref x1), .unset] [] := by first | (simp [entryFrame, mkF, argsToLocals, Value.category]; done) | rfl
def Q7 (Z : State) (a : Addr) (b : Addr) (h0 : Heap) (n0 : Nat) (v : Option Value) (h : Heap) (L : List Loc) : Prop := v = some (.int (0 : Int32)) ∧ Fr n0 L ∧ h = h0
set_option maxRecDepth 65536 in
set_option maxHeartbeats 40000000 in
theorem rm7 (l : Launch) (Z : State) (a0 : Array Value) (hw : ∀ d ∈ tables_1, d.before a0 Z = true) (ws : List Jvm.Cond) (a : Addr) (b : Addr) (h0 : Heap) (n0 : Nat) (Z0 : n0 ≤ h0.size) (E_b : Exa Z h0 b "java/lang/Long") :
    MetFree l (⟨"com/example/settle/settle/service/FileSum", "equals", "(Ljava/lang/Object;)Z"⟩ : MethodName) (head1 (Jvm.Cond.code (⟨"com/example/settle/settle/service/FileSum", "equals", "(Ljava/lang/Object;)Z"⟩ : MethodName) prog_46_method_6_code 3 (some .boolean) :: ws) ({ frames := 0, cells := 0, slots := 0, locals := 0 } : Room)) (fun aA uU => aA = #[(.ref a), (.ref b)] ∧ Z.Warmed39 uU.vm ∧ uU.heap = h0) (fun _ _ _ _ _ => True) (fun _ uU oO uU' => ∃ vV lL, oO = .returned vV ∧ Q7 Z a b h0 n0 vV uU'.heap lL ∧ FrameEnd uU oO uU' lL ({ frames := 0, cells := 0, slots := 0, locals := 0 } : Room).cells ({ frames := 0, cells := 0, slots := 0, locals := 0 } : Room).slots) := by
  refine MetFree.of_bodySF (plainFor_of_name pn_0) hisR ?_
  intro pP eE sS mM args below meth cC s₁ Bd hml0 hP hK
  obtain ⟨rfl, hZ, hh⟩ := hP
  have hx := Bd.exec
  have hby := Bd.bytes
  have hml : cC.maxLocals = 3 := hml0
  have hown : sS.vm.findClass "com/example/settle/settle/service/FileSum" = some mM.cls := findClass_of_methodNamed Bd.named
  have hnm := (name_of_methodNamed Bd.named Bd.method).1
  have X0 : Stand pP l eE ({ frames := 0, cells := 0, slots := 0, locals := 0 } : Room) sS mM #[(.ref a), (.ref b)] below meth cC s₁ [] 0 0 := Stand.of_body Bd
  have e0 : s₁.heap = h0 := by rw [← hh, Bd.state]; rfl
  have N0 := Fr.nil n0
  have pre0 : ∀ tg, Steps pP.tables eE below (s₁.setTop (mkF mM 0 #[.val (.ref a), .val (.ref b), .unset] [])) tg → Steps pP.tables eE below (s₁.setTop (entryFrame mM #[(.ref a), (.ref b)] 3)) tg := fun tg kg => castTop (ef_7 mM a b) kg
  have pr1 : ∀ tg, Steps pP.tables eE below (s₁.setTop (mkF mM 1 #[.val (.ref a), .val (.ref b), .unset] [(.ref b)])) tg → Steps pP.tables eE below (s₁.setTop (entryFrame mM #[(.ref a), (.ref b)] 3)) tg := fun tg kg => pre0 _ (by
    show Steps pP.tables eE below (s₁.setTop (mkF mM 0 #[.val (.ref a), .val (.ref b), .unset] [])) _
    refine XS.aloadN X0.here hx rfl (hb hby d7_0) rfl rfl ?_
    exact kg)
  obtain ⟨T2, X2, e2, st2⟩ := instNo X0 hx hZ hown (hw _ (List.mem_of_getElem? (i := 19) rfl)) e0 E_b (own_noinst (hw _ (List.mem_of_getElem? (i := 29) rfl)) (hw _ (List.mem_of_getElem? (i := 2) rfl)) (NS.step (hw _ (List.mem_of_getElem? (i := 29) rfl)) (NS.step (hw _ (List.mem_of_getElem? (i := 30) rfl)) (own_ns (hw _ (List.mem_of_getElem? (i := 31) rfl)) (hw _ (List.mem_of_getElem? (i := 2) rfl)) (by decide)) (by decide)) (by decide)) (by decide)) (g := (mkF mM 1 #[.val (.ref a), .val (.ref b), .unset] [(.ref b)])) rfl rfl (hb hby d7_1)
  have pr3 : ∀ tg, Steps pP.tables eE below (T2.setTop (mkF mM 4 #[.val (.ref a), .val (.ref b), .unset] [(.int (0 : Int32))])) tg → Steps pP.tables eE below (s₁.setTop (entryFrame mM #[(.ref a), (.ref b)] 3)) tg := fun tg kg => pr1 _ (st2 _ kg)
  have pr4 : ∀ tg, Steps pP.tables eE below (T2.setTop (mkF mM 40 #[.val (.ref a), .val (.ref b), .unset] [(.int (0 : Int32))])) tg → Steps pP.tables eE below (s₁.setTop (entryFrame mM #[(.ref a), (.ref b)] 3)) tg := fun tg kg => pr3 _ (by
    show Steps pP.tables eE below (T2.setTop (mkF mM 4 #[.val (.ref a), .val (.ref b), .unset] [(.int (0 : Int32))])) _
    refine XS.ifYes X2.here hx rfl (pc0 := 4) (pc' := 39) rfl (hb hby d7_4) rfl ((if0 _ _).trans (teq (by decide)).1) (by decide) (by decide) ?_
    show Steps pP.tables eE below (T2.setTop (mkF mM 39 #[.val (.ref a), .val (.ref b), .unset] [])) _
    refine XS.iconst X2.here hx rfl (hb hby d7_39) ?_
    exact kg)
  obtain ⟨fs, hr, hrun, hended, hW, hsame⟩ := X2.leave (v := some (.int (0 : Int32))) (fun h => by rw [Bd.returns] at h; cases h)
  refine ⟨_, _, pr4 _ (retOut X2 hx (t := .boolean) Bd.returns rfl (Or.inl ⟨rfl, Or.inr (Or.inl rfl), _, rfl⟩) (hb hby d7_40) hr), hrun, hended, _, _, rfl, ?_, ⟨_, rfl⟩, hW, hsame.mono (by decide) (by decide)⟩
  show Q7 Z a b h0 n0 _ T2.heap _
  rw [e2]
  exact ⟨rfl, N0, rfl⟩
theorem pd_2 : parseMethodDescriptor "(JI)V" = some ⟨[.long, .int], none⟩ := by decide +kernel
theorem pd_3 : parseMethodDescriptor "(Ljava/lang/Object;)Z" = some ⟨[(.object "java/lang/Object")], some .boolean⟩ := by decide +kernel
theorem pd_4 : parseMethodDescriptor "(J)Ljava/lang/Long;" = some ⟨[.long], some (.object "java/lang/Long")⟩ := by decide +kernel
theorem pn_3 : plainName "com/example/settle/settle/service/FileSumEqualsPinLaw" = true := by first | (simp [plainName, overriddenIn]; done) | decide +kernel
theorem ef_0 (mM : MethodId) (x0 : Int64) (x1 : Int32) (x2 : Int64) (x3 : Int32) (x4 : Int32) : entryFrame mM #[(.long x0), (.int x1), (.long x2), (.int x3), (.int x4)] maxLocals = mkF mM 0 #[.val (.long x0), .second, .val (.int x1), .val (.long x2), .second, .val (.int x3), .val (.int x4), .unset, .unset, .unset, .unset, .unset, .unset, .unset] [] := by first | (simp [entryFrame, mkF, argsToLocals, Value.category, maxLocals]; done) | rfl
def Q0 (Z : State) (l1 : Int64) (c1 : Int32) (l2 : Int64) (c2 : Int32) (mo : Int32) (ca : Addr) (cc : Cell) (h0 : Heap) (n0 : Nat) (v : Option Value) (h : Heap) (L : List Loc) : Prop := v = some (.int (1 : Int32)) ∧ Fr n0 L
set_option maxRecDepth 65536 in
set_option maxHeartbeats 40000000 in
theorem rm0 (l : Launch) (Z : State) (a0 : Array Value) (hw : ∀ d ∈ tables_1, d.before a0 Z = true) (ws : List Jvm.Cond) (l1 : Int64) (c1 : Int32) (l2 : Int64) (c2 : Int32) (mo : Int32) (ca : Addr) (cc : Cell) (h0 : Heap) (n0 : Nat) (Z0 : n0 ≤ h0.size) (O : Old Z n0 h0) (S_cache : Sta Z Z.heap "java/lang/Long$LongCache" "cache" "[Ljava/lang/Long;" (.ref ca)) (B : Bxs Z ca cc "java/lang/Long" "J" (256 : Int32) (fun j : Int32 => Value.long (j - 128).toInt64)) :
    MetFree l x (head1 (Jvm.Cond.code x code maxLocals ret :: ws) room_1) (fun aA uU => aA = #[(.long l1), (.int c1), (.long l2), (.int c2), (.int mo)] ∧ Z.Warmed39 uU.vm ∧ uU.heap = h0) (fun _ _ _ _ _ => True) (fun _ uU oO uU' => ∃ vV lL, oO = .returned vV ∧ Q0 Z l1 c1 l2 c2 mo ca cc h0 n0 vV uU'.heap lL ∧ FrameEnd uU oO uU' lL room_1.cells room_1.slots) := by
  refine MetFree.of_bodySF (plainFor_of_name pn_3) hisR ?_
  intro pP eE sS mM args below meth cC s₁ Bd hml0 hP hK
  obtain ⟨rfl, hZ, hh⟩ := hP
  have hx := Bd.exec
  have hby := Bd.bytes
  have hml : cC.maxLocals = 14 := hml0
  have hown : sS.vm.findClass "com/example/settle/settle/service/FileSumEqualsPinLaw" = some mM.cls := findClass_of_methodNamed Bd.named
  have hnm := (name_of_methodNamed Bd.named Bd.method).1
  have X0 : Stand pP l eE room_1 sS mM #[(.long l1), (.int c1), (.long l2), (.int c2), (.int mo)] below meth cC s₁ [] 0 0 := Stand.of_body Bd
  have e0 : s₁.heap = h0 := by rw [← hh, Bd.state]; rfl
  have N0 := Fr.nil n0
  have pre0 : ∀ tg, Steps pP.tables eE below (s₁.setTop (mkF mM 0 #[.val (.long l1), .second, .val (.int c1), .val (.long l2), .second, .val (.int c2), .val (.int mo), .unset, .unset, .unset, .unset, .unset, .unset, .unset] [])) tg → Steps pP.tables eE below (s₁.setTop (entryFrame mM #[(.long l1), (.int c1), (.long l2), (.int c2), (.int mo)] maxLocals)) tg := fun tg kg => castTop (ef_0 mM l1 c1 l2 c2 mo) kg
  have pr1 : ∀ tg, Steps pP.tables eE below (s₁.setTop (mkF mM 10 #[.val (.long l1), .second, .val (.int c1), .val (.long l2), .second, .val (.int c2), .val (.int mo), .val (.int ((mo &&& (2147483647 : Int32)) % (6 : Int32))), .unset, .unset, .unset, .unset, .unset, .unset] [])) tg → Steps pP.tables eE below (s₁.setTop (entryFrame mM #[(.long l1), (.int c1), (.long l2), (.int c2), (.int mo)] maxLocals)) tg := fun tg kg => pre0 _ (by
    show Steps pP.tables eE below (s₁.setTop (mkF mM 0 #[.val (.long l1), .second, .val (.int c1), .val (.long l2), .second, .val (.int c2), .val (.int mo), .unset, .unset, .unset, .unset, .unset, .unset, .unset] [])) _
    refine XS.iload X0.here hx rfl (hb hby at_0) rfl ?_
    show Steps pP.tables eE below (s₁.setTop (mkF mM 2 #[.val (.long l1), .second, .val (.int c1), .val (.long l2), .second, .val (.int c2), .val (.int mo), .unset, .unset, .unset, .unset, .unset, .unset, .unset] [(.int mo)])) _
    refine Jvm.Stand.ldcI X0 hx hown (v := (2147483647 : Int32)) (mvT hZ (hw _ (List.mem_of_getElem? (i := 0) rfl))) rfl (hb hby at_2) ?_
    show Steps pP.tables eE below (s₁.setTop (mkF mM 4 #[.val (.long l1), .second, .val (.int c1), .val (.long l2), .second, .val (.int c2), .val (.int mo), .unset, .unset, .unset, .unset, .unset, .unset, .unset] [(.int (2147483647 : Int32)), (.int mo)])) _
    refine XS.iand X0.here hx rfl (hb hby at_4) rfl ?_
    show Steps pP.tables eE below (s₁.setTop (mkF mM 5 #[.val (.long l1), .second, .val (.int c1), .val (.long l2), .second, .val (.int c2), .val (.int mo), .unset, .unset, .unset, .unset, .unset, .unset, .unset] [(.int (mo &&& (2147483647 : Int32)))])) _
    refine XS.bipush X0.here hx rfl (hb hby at_5) ?_
    show Steps pP.tables eE below (s₁.setTop (mkF mM 7 #[.val (.long l1), .second, .val (.int c1), .val (.long l2), .second, .val (.int c2), .val (.int mo), .unset, .unset, .unset, .unset, .unset, .unset, .unset] [(.int (6 : Int32)), (.int (mo &&& (2147483647 : Int32)))])) _
    refine iremM (g := (mkF mM 7 #[.val (.long l1), .second, .val (.int c1), .val (.long l2), .second, .val (.int c2), .val (.int mo), .unset, .unset, .unset, .unset, .unset, .unset, .unset] [(.int (6 : Int32)), (.int (mo &&& (2147483647 : Int32)))])) X0 hx rfl (hb hby at_7) rfl (by decide) ?_
    show Steps pP.tables eE below (s₁.setTop (mkF mM 8 #[.val (.long l1), .second, .val (.int c1), .val (.long l2), .second, .val (.int c2), .val (.int mo), .unset, .unset, .unset, .unset, .unset, .unset, .unset] [(.int ((mo &&& (2147483647 : Int32)) % (6 : Int32)))])) _
    refine XS.istore X0.here hx rfl (hb hby at_8) rfl (l' := #[.val (.long l1), .second, .val (.int c1), .val (.long l2), .second, .val (.int c2), .val (.int mo), .val (.int ((mo &&& (2147483647 : Int32)) % (6 : Int32))), .unset, .unset, .unset, .unset, .unset, .unset]) rfl ?_
    exact kg)
  obtain ⟨z2, hz2⟩ : ∃ z, z = ((mo &&& (2147483647 : Int32)) % (6 : Int32)) := ⟨_, rfl⟩
  have pr3 : ∀ tg, Steps pP.tables eE below (s₁.setTop (mkF mM 10 #[.val (.long l1), .second, .val (.int c1), .val (.long l2), .second, .val (.int c2), .val (.int mo), .val (.int z2), .unset, .unset, .unset, .unset, .unset, .unset] [])) tg → Steps pP.tables eE below (s₁.setTop (entryFrame mM #[(.long l1), (.int c1), (.long l2), (.int c2), (.int mo)] maxLocals)) tg := by
    rw [hz2]; exact pr1
  have pr4 : ∀ tg, Steps pP.tables eE below (s₁.setTop (mkF mM 13 #[.val (.long l1), .second, .val (.int c1), .val (.long l2), .second, .val (.int c2), .val (.int mo), .val (.int z2), .unset, .unset, .unset, .unset, .unset, .unset] [(.int (1 : Int32)), (.int z2)])) tg → Steps pP.tables eE below (s₁.setTop (entryFrame mM #[(.long l1), (.int c1), (.long l2), (.int c2), (.int mo)] maxLocals)) tg := fun tg kg => pr3 _ (by
    show Steps pP.tables eE below (s₁.setTop (mkF mM 10 #[.val (.long l1), .second, .val (.int c1), .val (.long l2), .second, .val (.int c2), .val (.int mo), .val (.int z2), .unset, .unset, .unset, .unset, .unset, .unset] [])) _
    refine XS.iload X0.here hx rfl (hb hby at_10) rfl ?_
    show Steps pP.tables eE below (s₁.setTop (mkF mM 12 #[.val (.long l1), .second, .val (.int c1), .val (.long l2), .second, .val (.int c2), .val (.int mo), .val (.int z2), .unset, .unset, .unset, .unset, .unset, .unset] [(.int z2)])) _
    refine XS.iconst X0.here hx rfl (hb hby at_12) ?_
    exact kg)
  obtain ⟨j7, hj7, st8⟩ : ∃ (j7 : Int64), j7 = (if z2 = (1 : Int32) then l1 else (if z2 = (2 : Int32) then l1 else l2)) ∧ ∀ tg, Steps pP.tables eE below (s₁.setTop (mkF mM 27 #[.val (.long l1), .second, .val (.int c1), .val (.long l2), .second, .val (.int c2), .val (.int mo), .val (.int z2), .unset, .unset, .unset, .unset, .unset, .unset] [(.long j7)])) tg → Steps pP.tables eE below (s₁.setTop (mkF mM 13 #[.val (.long l1), .second, .val (.int c1), .val (.long l2), .second, .val (.int c2), .val (.int mo), .val (.int z2), .unset, .unset, .unset, .unset, .unset, .unset] [(.int (1 : Int32)), (.int z2)])) tg := by
    by_cases hj13_5 : z2 = (1 : Int32)
    ·
      refine ⟨l1, (by rw [if_pos hj13_5]), fun tg kg => ?_⟩
      show Steps pP.tables eE below (s₁.setTop (mkF mM 13 #[.val (.long l1), .second, .val (.int c1), .val (.long l2), .second, .val (.int c2), .val (.int mo), .val (.int z2), .unset, .unset, .unset, .unset, .unset, .unset] [(.int (1 : Int32)), (.int z2)])) _
      refine XS.icmpYes X0.here hx rfl (pc0 := 13) (pc' := 22) rfl (hb hby at_13) rfl (teq hj13_5).1 (by decide) (by decide) ?_
      show Steps pP.tables eE below (s₁.setTop (mkF mM 22 #[.val (.long l1), .second, .val (.int c1), .val (.long l2), .second, .val (.int c2), .val (.int mo), .val (.int z2), .unset, .unset, .unset, .unset, .unset, .unset] [])) _
      refine XS.lloadN X0.here hx rfl (hb hby at_22) rfl ?_
      show Steps pP.tables eE below (s₁.setTop (mkF mM 23 #[.val (.long l1), .second, .val (.int c1), .val (.long l2), .second, .val (.int c2), .val (.int mo), .val (.int z2), .unset, .unset, .unset, .unset, .unset, .unset] [(.long l1)])) _
      refine XS.goto X0.here hx rfl (pc0 := 23) (pc' := 27) rfl (hb hby at_23) (by decide) (by decide) ?_
      exact kg
    ·
      by_cases hj19_6 : z2 = (2 : Int32)
      ·
        refine ⟨l1, (by rw [if_neg hj13_5, if_pos hj19_6]), fun tg kg => ?_⟩
        show Steps pP.tables eE below (s₁.setTop (mkF mM 13 #[.val (.long l1), .second, .val (.int c1), .val (.long l2), .second, .val (.int c2), .val (.int mo), .val (.int z2), .unset, .unset, .unset, .unset, .unset, .unset] [(.int (1 : Int32)), (.int z2)])) _
        refine XS.icmpNo X0.here hx rfl (hb hby at_13) rfl (feq hj13_5).1 ?_
        show Steps pP.tables eE below (s₁.setTop (mkF mM 16 #[.val (.long l1), .second, .val (.int c1), .val (.long l2), .second, .val (.int c2), .val (.int mo), .val (.int z2), .unset, .unset, .unset, .unset, .unset, .unset] [])) _
        refine XS.iload X0.here hx rfl (hb hby at_16) rfl ?_
        show Steps pP.tables eE below (s₁.setTop (mkF mM 18 #[.val (.long l1), .second, .val (.int c1), .val (.long l2), .second, .val (.int c2), .val (.int mo), .val (.int z2), .unset, .unset, .unset, .unset, .unset, .unset] [(.int z2)])) _
        refine XS.iconst X0.here hx rfl (hb hby at_18) ?_
        show Steps pP.tables eE below (s₁.setTop (mkF mM 19 #[.val (.long l1), .second, .val (.int c1), .val (.long l2), .second, .val (.int c2), .val (.int mo), .val (.int z2), .unset, .unset, .unset, .unset, .unset, .unset] [(.int (2 : Int32)), (.int z2)])) _
        refine XS.icmpNo X0.here hx rfl (hb hby at_19) rfl (teq hj19_6).2 ?_
        show Steps pP.tables eE below (s₁.setTop (mkF mM 22 #[.val (.long l1), .second, .val (.int c1), .val (.long l2), .second, .val (.int c2), .val (.int mo), .val (.int z2), .unset, .unset, .unset, .unset, .unset, .unset] [])) _
        refine XS.lloadN X0.here hx rfl (hb hby at_22) rfl ?_
        show Steps pP.tables eE below (s₁.setTop (mkF mM 23 #[.val (.long l1), .second, .val (.int c1), .val (.long l2), .second, .val (.int c2), .val (.int mo), .val (.int z2), .unset, .unset, .unset, .unset, .unset, .unset] [(.long l1)])) _
        refine XS.goto X0.here hx rfl (pc0 := 23) (pc' := 27) rfl (hb hby at_23) (by decide) (by decide) ?_
        exact kg
      ·
        refine ⟨l2, (by rw [if_neg hj13_5, if_neg hj19_6]), fun tg kg => ?_⟩
        show Steps pP.tables eE below (s₁.setTop (mkF mM 13 #[.val (.long l1), .second, .val (.int c1), .val (.long l2), .second, .val (.int c2), .val (.int mo), .val (.int z2), .unset, .unset, .unset, .unset, .unset, .unset] [(.int (1 : Int32)), (.int z2)])) _
        refine XS.icmpNo X0.here hx rfl (hb hby at_13) rfl (feq hj13_5).1 ?_
        show Steps pP.tables eE below (s₁.setTop (mkF mM 16 #[.val (.long l1), .second, .val (.int c1), .val (.long l2), .second, .val (.int c2), .val (.int mo), .val (.int z2), .unset, .unset, .unset, .unset, .unset, .unset] [])) _
        refine XS.iload X0.here hx rfl (hb hby at_16) rfl ?_
        show Steps pP.tables eE below (s₁.setTop (mkF mM 18 #[.val (.long l1), .second, .val (.int c1), .val (.long l2), .second, .val (.int c2), .val (.int mo), .val (.int z2), .unset, .unset, .unset, .unset, .unset, .unset] [(.int z2)])) _
        refine XS.iconst X0.here hx rfl (hb hby at_18) ?_
        show Steps pP.tables eE below (s₁.setTop (mkF mM 19 #[.val (.long l1), .second, .val (.int c1), .val (.long l2), .second, .val (.int c2), .val (.int mo), .val (.int z2), .unset, .unset, .unset, .unset, .unset, .unset] [(.int (2 : Int32)), (.int z2)])) _
        refine XS.icmpYes X0.here hx rfl (pc0 := 19) (pc' := 26) rfl (hb hby at_19) rfl (feq hj19_6).2 (by decide) (by decide) ?_
        show Steps pP.tables eE below (s₁.setTop (mkF mM 26 #[.val (.long l1), .second, .val (.int c1), .val (.long l2), .second, .val (.int c2), .val (.int mo), .val (.int z2), .unset, .unset, .unset, .unset, .unset, .unset] [])) _
        refine XS.lloadN X0.here hx rfl (hb hby at_26) rfl ?_
        exact kg
  have pr9 : ∀ tg, Steps pP.tables eE below (s₁.setTop (mkF mM 27 #[.val (.long l1), .second, .val (.int c1), .val (.long l2), .second, .val (.int c2), .val (.int mo), .val (.int z2), .unset, .unset, .unset, .unset, .unset, .unset] [(.long j7)])) tg → Steps pP.tables eE below (s₁.setTop (entryFrame mM #[(.long l1), (.int c1), (.long l2), (.int c2), (.int mo)] maxLocals)) tg := fun tg kg => pr4 _ (st8 _ kg)
  have pr10 : ∀ tg, Steps pP.tables eE below (s₁.setTop (mkF mM 32 #[.val (.long l1), .second, .val (.int c1), .val (.long l2), .second, .val (.int c2), .val (.int mo), .val (.int z2), .val (.long j7), .second, .unset, .unset, .unset, .unset] [(.int (1 : Int32)), (.int z2)])) tg → Steps pP.tables eE below (s₁.setTop (entryFrame mM #[(.long l1), (.int c1), (.long l2), (.int c2), (.int mo)] maxLocals)) tg := fun tg kg => pr9 _ (by
    show Steps pP.tables eE below (s₁.setTop (mkF mM 27 #[.val (.long l1), .second, .val (.int c1), .val (.long l2), .second, .val (.int c2), .val (.int mo), .val (.int z2), .unset, .unset, .unset, .unset, .unset, .unset] [(.long j7)])) _
    refine XS.lstore X0.here hx rfl (hb hby at_27) rfl (l' := #[.val (.long l1), .second, .val (.int c1), .val (.long l2), .second, .val (.int c2), .val (.int mo), .val (.int z2), .val (.long j7), .second, .unset, .unset, .unset, .unset]) rfl ?_
    show Steps pP.tables eE below (s₁.setTop (mkF mM 29 #[.val (.long l1), .second, .val (.int c1), .val (.long l2), .second, .val (.int c2), .val (.int mo), .val (.int z2), .val (.long j7), .second, .unset, .unset, .unset, .unset] [])) _
    refine XS.iload X0.here hx rfl (hb hby at_29) rfl ?_
    show Steps pP.tables eE below (s₁.setTop (mkF mM 31 #[.val (.long l1), .second, .val (.int c1), .val (.long l2), .second, .val (.int c2), .val (.int mo), .val (.int z2), .val (.long j7), .second, .unset, .unset, .unset, .unset] [(.int z2)])) _
    refine XS.iconst X0.here hx rfl (hb hby at_31) ?_
    exact kg)
  obtain ⟨j13, hj13, st14⟩ : ∃ (j13 : Int32), j13 = (if z2 = (1 : Int32) then c1 else (if z2 = (3 : Int32) then c1 else c2)) ∧ ∀ tg, Steps pP.tables eE below (s₁.setTop (mkF mM 47 #[.val (.long l1), .second, .val (.int c1), .val (.long l2), .second, .val (.int c2), .val (.int mo), .val (.int z2), .val (.long j7), .second, .unset, .unset, .unset, .unset] [(.int j13)])) tg → Steps pP.tables eE below (s₁.setTop (mkF mM 32 #[.val (.long l1), .second, .val (.int c1), .val (.long l2), .second, .val (.int c2), .val (.int mo), .val (.int z2), .val (.long j7), .second, .unset, .unset, .unset, .unset] [(.int (1 : Int32)), (.int z2)])) tg := by
    by_cases hj32_11 : z2 = (1 : Int32)
    ·
      refine ⟨c1, (by rw [if_pos hj32_11]), fun tg kg => ?_⟩
      show Steps pP.tables eE below (s₁.setTop (mkF mM 32 #[.val (.long l1), .second, .val (.int c1), .val (.long l2), .second, .val (.int c2), .val (.int mo), .val (.int z2), .val (.long j7), .second, .unset, .unset, .unset, .unset] [(.int (1 : Int32)), (.int z2)])) _
      refine XS.icmpYes X0.here hx rfl (pc0 := 32) (pc' := 41) rfl (hb hby at_32) rfl (teq hj32_11).1 (by decide) (by decide) ?_
      show Steps pP.tables eE below (s₁.setTop (mkF mM 41 #[.val (.long l1), .second, .val (.int c1), .val (.long l2), .second, .val (.int c2), .val (.int mo), .val (.int z2), .val (.long j7), .second, .unset, .unset, .unset, .unset] [])) _
      refine XS.iloadN X0.here hx rfl (hb hby at_41) rfl ?_
      show Steps pP.tables eE below (s₁.setTop (mkF mM 42 #[.val (.long l1), .second, .val (.int c1), .val (.long l2), .second, .val (.int c2), .val (.int mo), .val (.int z2), .val (.long j7), .second, .unset, .unset, .unset, .unset] [(.int c1)])) _
      refine XS.goto X0.here hx rfl (pc0 := 42) (pc' := 47) rfl (hb hby at_42) (by decide) (by decide) ?_
      exact kg
    ·
      by_cases hj38_12 : z2 = (3 : Int32)
      ·
        refine ⟨c1, (by rw [if_neg hj32_11, if_pos hj38_12]), fun tg kg => ?_⟩
        show Steps pP.tables eE below (s₁.setTop (mkF mM 32 #[.val (.long l1), .second, .val (.int c1), .val (.long l2), .second, .val (.int c2), .val (.int mo), .val (.int z2), .val (.long j7), .second, .unset, .unset, .unset, .unset] [(.int (1 : Int32)), (.int z2)])) _
        refine XS.icmpNo X0.here hx rfl (hb hby at_32) rfl (feq hj32_11).1 ?_
        show Steps pP.tables eE below (s₁.setTop (mkF mM 35 #[.val (.long l1), .second, .val (.int c1), .val (.long l2), .second, .val (.int c2), .val (.int mo), .val (.int z2), .val (.long j7), .second, .unset, .unset, .unset, .unset] [])) _
        refine XS.iload X0.here hx rfl (hb hby at_35) rfl ?_
        show Steps pP.tables eE below (s₁.setTop (mkF mM 37 #[.val (.long l1), .second, .val (.int c1), .val (.long l2), .second, .val (.int c2), .val (.int mo), .val (.int z2), .val (.long j7), .second, .unset, .unset, .unset, .unset] [(.int z2)])) _
        refine XS.iconst X0.here hx rfl (hb hby at_37) ?_
        show Steps pP.tables eE below (s₁.setTop (mkF mM 38 #[.val (.long l1), .second, .val (.int c1), .val (.long l2), .second, .val (.int c2), .val (.int mo), .val (.int z2), .val (.long j7), .second, .unset, .unset, .unset, .unset] [(.int (3 : Int32)), (.int z2)])) _
        refine XS.icmpNo X0.here hx rfl (hb hby at_38) rfl (teq hj38_12).2 ?_
        show Steps pP.tables eE below (s₁.setTop (mkF mM 41 #[.val (.long l1), .second, .val (.int c1), .val (.long l2), .second, .val (.int c2), .val (.int mo), .val (.int z2), .val (.long j7), .second, .unset, .unset, .unset, .unset] [])) _
        refine XS.iloadN X0.here hx rfl (hb hby at_41) rfl ?_
        show Steps pP.tables eE below (s₁.setTop (mkF mM 42 #[.val (.long l1), .second, .val (.int c1), .val (.long l2), .second, .val (.int c2), .val (.int mo), .val (.int z2), .val (.long j7), .second, .unset, .unset, .unset, .unset] [(.int c1)])) _
        refine XS.goto X0.here hx rfl (pc0 := 42) (pc' := 47) rfl (hb hby at_42) (by decide) (by decide) ?_
        exact kg
      ·
        refine ⟨c2, (by rw [if_neg hj32_11, if_neg hj38_12]), fun tg kg => ?_⟩
        show Steps pP.tables eE below (s₁.setTop (mkF mM 32 #[.val (.long l1), .second, .val (.int c1), .val (.long l2), .second, .val (.int c2), .val (.int mo), .val (.int z2), .val (.long j7), .second, .unset, .unset, .unset, .unset] [(.int (1 : Int32)), (.int z2)])) _
        refine XS.icmpNo X0.here hx rfl (hb hby at_32) rfl (feq hj32_11).1 ?_
        show Steps pP.tables eE below (s₁.setTop (mkF mM 35 #[.val (.long l1), .second, .val (.int c1), .val (.long l2), .second, .val (.int c2), .val (.int mo), .val (.int z2), .val (.long j7), .second, .unset, .unset, .unset, .unset] [])) _
        refine XS.iload X0.here hx rfl (hb hby at_35) rfl ?_
        show Steps pP.tables eE below (s₁.setTop (mkF mM 37 #[.val (.long l1), .second, .val (.int c1), .val (.long l2), .second, .val (.int c2), .val (.int mo), .val (.int z2), .val (.long j7), .second, .unset, .unset, .unset, .unset] [(.int z2)])) _
        refine XS.iconst X0.here hx rfl (hb hby at_37) ?_
        show Steps pP.tables eE below (s₁.setTop (mkF mM 38 #[.val (.long l1), .second, .val (.int c1), .val (.long l2), .second, .val (.int c2), .val (.int mo), .val (.int z2), .val (.long j7), .second, .unset, .unset, .unset, .unset] [(.int (3 : Int32)), (.int z2)])) _
        refine XS.icmpYes X0.here hx rfl (pc0 := 38) (pc' := 45) rfl (hb hby at_38) rfl (feq hj38_12).2 (by decide) (by decide) ?_
        show Steps pP.tables eE below (s₁.setTop (mkF mM 45 #[.val (.long l1), .second, .val (.int c1), .val (.long l2), .second, .val (.int c2), .val (.int mo), .val (.int z2), .val (.long j7), .second, .unset, .unset, .unset, .unset] [])) _
        refine XS.iload X0.here hx rfl (hb hby at_45) rfl ?_
        exact kg
  have pr15 : ∀ tg, Steps pP.tables eE below (s₁.setTop (mkF mM 47 #[.val (.long l1), .second, .val (.int c1), .val (.long l2), .second, .val (.int c2), .val (.int mo), .val (.int z2), .val (.long j7), .second, .unset, .unset, .unset, .unset] [(.int j13)])) tg → Steps pP.tables eE below (s₁.setTop (entryFrame mM #[(.long l1), (.int c1), (.long l2), (.int c2), (.int mo)] maxLocals)) tg := fun tg kg => pr10 _ (st14 _ kg)
  have pr16 : ∀ tg, Steps pP.tables eE below (s₁.setTop (mkF mM 49 #[.val (.long l1), .second, .val (.int c1), .val (.long l2), .second, .val (.int c2), .val (.int mo), .val (.int z2), .val (.long j7), .second, .val (.int j13), .unset, .unset, .unset] [])) tg → Steps pP.tables eE below (s₁.setTop (entryFrame mM #[(.long l1), (.int c1), (.long l2), (.int c2), (.int mo)] maxLocals)) tg := fun tg kg => pr15 _ (by
    show Steps pP.tables eE below (s₁.setTop (mkF mM 47 #[.val (.long l1), .second, .val (.int c1), .val (.long l2), .second, .val (.int c2), .val (.int mo), .val (.int z2), .val (.long j7), .second, .unset, .unset, .unset, .unset] [(.int j13)])) _
    refine XS.istore X0.here hx rfl (hb hby at_47) rfl (l' := #[.val (.long l1), .second, .val (.int c1), .val (.long l2), .second, .val (.int c2), .val (.int mo), .val (.int z2), .val (.long j7), .second, .val (.int j13), .unset, .unset, .unset]) rfl ?_
    exact kg)
  obtain ⟨T17, h17, X17, e17, E17, A17, D17, -, st17⟩ := newO X0 hx hZ hown (hw _ (List.mem_of_getElem? (i := 1) rfl)) (hw _ (List.mem_of_getElem? (i := 2) rfl)) (hw _ (List.mem_of_getElem? (i := 3) rfl)) e0 (g := (mkF mM 49 #[.val (.long l1), .second, .val (.int c1), .val (.long l2), .second, .val (.int c2), .val (.int mo), .val (.int z2), .val (.long j7), .second, .val (.int j13), .unset, .unset, .unset] [])) rfl (hb hby at_49) (by decide) (by decide)
  obtain ⟨b17, g17⟩ : ∃ z, z = (h0).size := ⟨_, rfl⟩
  rw [← g17] at A17 D17 st17
  have gn18 : n0 ≤ b17 := Nat.le_trans Z0 (Nat.le_of_eq g17.symm)
  have gs19 : h0.size ≤ b17 := Nat.le_trans (Keep.refl h0 []).1 (Nat.le_of_eq g17.symm)
  have F17_length : Fld Z h17 b17 "com/example/settle/settle/service/FileSum" "length" "J" (.long (0 : Int64)) := D17 (Or.inr (hw _ (List.mem_of_getElem? (i := 11) rfl))) (ty := .long) (by decide)
  have F17_crc : Fld Z h17 b17 "com/example/settle/settle/service/FileSum" "crc" "I" (.int (0 : Int32)) := D17 (Or.inr (hw _ (List.mem_of_getElem? (i := 13) rfl))) (ty := .int) (by decide)
  have pr20 : ∀ tg, Steps pP.tables eE below (T17.setTop (mkF mM 52 #[.val (.long l1), .second, .val (.int c1), .val (.long l2), .second, .val (.int c2), .val (.int mo), .val (.int z2), .val (.long j7), .second, .val (.int j13), .unset, .unset, .unset] [(.ref b17)])) tg → Steps pP.tables eE below (s₁.setTop (entryFrame mM #[(.long l1), (.int c1), (.long l2), (.int c2), (.int mo)] maxLocals)) tg := fun tg kg => pr16 _ (st17 _ kg)
  have pr21 : ∀ tg, Steps pP.tables eE below (T17.setTop (mkF mM 55 #[.val (.long l1), .second, .val (.int c1), .val (.long l2), .second, .val (.int c2), .val (.int mo), .val (.int z2), .val (.long j7), .second, .val (.int j13), .unset, .unset, .unset] [(.int c1), (.long l1), (.ref b17), (.ref b17)])) tg → Steps pP.tables eE below (s₁.setTop (entryFrame mM #[(.long l1), (.int c1), (.long l2), (.int c2), (.int mo)] maxLocals)) tg := fun tg kg => pr20 _ (by
    show Steps pP.tables eE below (T17.setTop (mkF mM 52 #[.val (.long l1), .second, .val (.int c1), .val (.long l2), .second, .val (.int c2), .val (.int mo), .val (.int z2), .val (.long j7), .second, .val (.int j13), .unset, .unset, .unset] [(.ref b17)])) _
    refine XS.dup X17.here hx rfl (hb hby at_52) rfl rfl ?_
    show Steps pP.tables eE below (T17.setTop (mkF mM 53 #[.val (.long l1), .second, .val (.int c1), .val (.long l2), .second, .val (.int c2), .val (.int mo), .val (.int z2), .val (.long j7), .second, .val (.int j13), .unset, .unset, .unset] [(.ref b17), (.ref b17)])) _
    refine XS.lloadN X17.here hx rfl (hb hby at_53) rfl ?_
    show Steps pP.tables eE below (T17.setTop (mkF mM 54 #[.val (.long l1), .second, .val (.int c1), .val (.long l2), .second, .val (.int c2), .val (.int mo), .val (.int z2), .val (.long j7), .second, .val (.int j13), .unset, .unset, .unset] [(.long l1), (.ref b17), (.ref b17)])) _
    refine XS.iloadN X17.here hx rfl (hb hby at_54) rfl ?_
    exact kg)
  have c22 := (Nat.le_trans Z0 E17.1)
  obtain ⟨_, _, ⟨T23, L23, kk23, nn23⟩, -, X23, ⟨Lc23, hQ23, l23, y23, z23⟩, st23⟩ := X17.specialBack hx (y := (⟨"com/example/settle/settle/service/FileSum", "<init>", "(JI)V"⟩ : MethodName)) rfl hown (mvT hZ (hw _ (List.mem_of_getElem? (i := 4) rfl))) (mvT hZ (hw _ (List.mem_of_getElem? (i := 5) rfl))) (mvT hZ (hw _ (List.mem_of_getElem? (i := 6) rfl))) (by decide) (backOf (W := 1) (rm1 l Z a0 hw [] b17 l1 c1 h17 n0 c22 A17 gn18 F17_length F17_crc ) hZ (hw _ (List.mem_of_getElem? (i := 6) rfl)) (hw _ (List.mem_of_getElem? (i := 3) rfl)) (by decide) (by decide)) (g := (mkF mM 55 #[.val (.long l1), .second, .val (.int c1), .val (.long l2), .second, .val (.int c2), .val (.int mo), .val (.int z2), .val (.long j7), .second, .val (.int j13), .unset, .unset, .unset] [(.int c1), (.long l1), (.ref b17), (.ref b17)])) rfl (by rw [hml]; rfl) (Steps.refl _) (a := b17) (argsL := [(.long l1), (.int c1)]) (rest := [(.ref b17)]) (lenOf pd_2 rfl) rfl (by show 2 * 0 + _ ≤ _; exact Nat.le_of_eq rfl) (hb hby at_55) (fun _ _ => ⟨rfl, e17, (by decide : 1 + 0 ≤ _), (by decide : 2 + 0 ≤ _)⟩)
  dsimp only [Pt.U, Pt.locs, Pt.cells, Pt.slots] at X23 l23 y23 z23 st23 hQ23
  subst l23 y23 z23
  obtain ⟨rfl, Nq23, K23, E23, F23_0, F23_1⟩ := hQ23
  have N23 := Fr.app N0 Nq23
  have pr24 : ∀ tg, Steps pP.tables eE below (T23.setTop (mkF mM 58 #[.val (.long l1), .second, .val (.int c1), .val (.long l2), .second, .val (.int c2), .val (.int mo), .val (.int z2), .val (.long j7), .second, .val (.int j13), .unset, .unset, .unset] [(.ref b17)])) tg → Steps pP.tables eE below (s₁.setTop (entryFrame mM #[(.long l1), (.int c1), (.long l2), (.int c2), (.int mo)] maxLocals)) tg := fun tg kg => pr21 _ (st23.trans kg)
  have pr25 : ∀ tg, Steps pP.tables eE below (T23.setTop (mkF mM 60 #[.val (.long l1), .second, .val (.int c1), .val (.long l2), .second, .val (.int c2), .val (.int mo), .val (.int z2), .val (.long j7), .second, .val (.int j13), .val (.ref b17), .unset, .unset] [])) tg → Steps pP.tables eE below (s₁.setTop (entryFrame mM #[(.long l1), (.int c1), (.long l2), (.int c2), (.int mo)] maxLocals)) tg := fun tg kg => pr24 _ (by
    show Steps pP.tables eE below (T23.setTop (mkF mM 58 #[.val (.long l1), .second, .val (.int c1), .val (.long l2), .second, .val (.int c2), .val (.int mo), .val (.int z2), .val (.long j7), .second, .val (.int j13), .unset, .unset, .unset] [(.ref b17)])) _
    refine XS.astore X23.here hx rfl (hb hby at_58) rfl rfl (l' := #[.val (.long l1), .second, .val (.int c1), .val (.long l2), .second, .val (.int c2), .val (.int mo), .val (.int z2), .val (.long j7), .second, .val (.int j13), .val (.ref b17), .unset, .unset]) rfl ?_
    exact kg)
  obtain ⟨T26, h26, X26, e26, E26, A26, D26, -, st26⟩ := newO X23 hx hZ hown (hw _ (List.mem_of_getElem? (i := 1) rfl)) (hw _ (List.mem_of_getElem? (i := 2) rfl)) (hw _ (List.mem_of_getElem? (i := 3) rfl)) rfl (g := (mkF mM 60 #[.val (.long l1), .second, .val (.int c1), .val (.long l2), .second, .val (.int c2), .val (.int mo), .val (.int z2), .val (.long j7), .second, .val (.int j13), .val (.ref b17), .unset, .unset] [])) rfl (hb hby at_60) (by decide) (by decide)
  obtain ⟨b26, g26⟩ : ∃ z, z = (T23.heap).size := ⟨_, rfl⟩
  rw [← g26] at A26 D26 st26
  have ne27 : b17 ≠ b26 := Nat.ne_of_lt (Nat.lt_of_lt_of_le (E23).lt (Nat.le_of_eq g26.symm))
  have c29 := (Nat.le_trans c22 K23.1)
  have gn28 : n0 ≤ b26 := Nat.le_trans c29 (Nat.le_of_eq g26.symm)
  have c31 := (Keep.trans (Keep.ext (Keep.refl h0 []) E17) K23 (allS (Or.inr gs19) all0))
  have gs30 : h0.size ≤ b26 := Nat.le_trans c31.1 (Nat.le_of_eq g26.symm)
  have F26_length : Fld Z h26 b26 "com/example/settle/settle/service/FileSum" "length" "J" (.long (0 : Int64)) := D26 (Or.inr (hw _ (List.mem_of_getElem? (i := 11) rfl))) (ty := .long) (by decide)
  have F26_crc : Fld Z h26 b26 "com/example/settle/settle/service/FileSum" "crc" "I" (.int (0 : Int32)) := D26 (Or.inr (hw _ (List.mem_of_getElem? (i := 13) rfl))) (ty := .int) (by decide)
  have pr32 : ∀ tg, Steps pP.tables eE below (T26.setTop (mkF mM 63 #[.val (.long l1), .second, .val (.int c1), .val (.long l2), .second, .val (.int c2), .val (.int mo), .val (.int z2), .val (.long j7), .second, .val (.int j13), .val (.ref b17), .unset, .unset] [(.ref b26)])) tg → Steps pP.tables eE below (s₁.setTop (entryFrame mM #[(.long l1), (.int c1), (.long l2), (.int c2), (.int mo)] maxLocals)) tg := fun tg kg => pr25 _ (st26 _ kg)
  have pr33 : ∀ tg, Steps pP.tables eE below (T26.setTop (mkF mM 68 #[.val (.long l1), .second, .val (.int c1), .val (.long l2), .second, .val (.int c2), .val (.int mo), .val (.int z2), .val (.long j7), .second, .val (.int j13), .val (.ref b17), .unset, .unset] [(.int j13), (.long j7), (.ref b26), (.ref b26)])) tg → Steps pP.tables eE below (s₁.setTop (entryFrame mM #[(.long l1), (.int c1), (.long l2), (.int c2), (.int mo)] maxLocals)) tg := fun tg kg => pr32 _ (by
    show Steps pP.tables eE below (T26.setTop (mkF mM 63 #[.val (.long l1), .second, .val (.int c1), .val (.long l2), .second, .val (.int c2), .val (.int mo), .val (.int z2), .val (.long j7), .second, .val (.int j13), .val (.ref b17), .unset, .unset] [(.ref b26)])) _
    refine XS.dup X26.here hx rfl (hb hby at_63) rfl rfl ?_
    show Steps pP.tables eE below (T26.setTop (mkF mM 64 #[.val (.long l1), .second, .val (.int c1), .val (.long l2), .second, .val (.int c2), .val (.int mo), .val (.int z2), .val (.long j7), .second, .val (.int j13), .val (.ref b17), .unset, .unset] [(.ref b26), (.ref b26)])) _
    refine XS.lload X26.here hx rfl (hb hby at_64) rfl ?_
    show Steps pP.tables eE below (T26.setTop (mkF mM 66 #[.val (.long l1), .second, .val (.int c1), .val (.long l2), .second, .val (.int c2), .val (.int mo), .val (.int z2), .val (.long j7), .second, .val (.int j13), .val (.ref b17), .unset, .unset] [(.long j7), (.ref b26), (.ref b26)])) _
    refine XS.iload X26.here hx rfl (hb hby at_66) rfl ?_
    exact kg)
  have c34 := (Nat.le_trans c29 E26.1)
  obtain ⟨_, _, ⟨T35, L35, kk35, nn35⟩, -, X35, ⟨Lc35, hQ35, l35, y35, z35⟩, st35⟩ := X26.specialBack hx (y := (⟨"com/example/settle/settle/service/FileSum", "<init>", "(JI)V"⟩ : MethodName)) rfl hown (mvT hZ (hw _ (List.mem_of_getElem? (i := 4) rfl))) (mvT hZ (hw _ (List.mem_of_getElem? (i := 5) rfl))) (mvT hZ (hw _ (List.mem_of_getElem? (i := 6) rfl))) (by decide) (backOf (W := 1) (rm1 l Z a0 hw [] b26 j7 j13 h26 n0 c34 A26 gn28 F26_length F26_crc ) hZ (hw _ (List.mem_of_getElem? (i := 6) rfl)) (hw _ (List.mem_of_getElem? (i := 3) rfl)) (by decide) (by decide)) (g := (mkF mM 68 #[.val (.long l1), .second, .val (.int c1), .val (.long l2), .second, .val (.int c2), .val (.int mo), .val (.int z2), .val (.long j7), .second, .val (.int j13), .val (.ref b17), .unset, .unset] [(.int j13), (.long j7), (.ref b26), (.ref b26)])) rfl (by rw [hml]; rfl) (Steps.refl _) (a := b26) (argsL := [(.long j7), (.int j13)]) (rest := [(.ref b26)]) (lenOf pd_2 rfl) rfl (by show 2 * 0 + _ ≤ _; exact Nat.le_of_eq rfl) (hb hby at_68) (fun _ _ => ⟨rfl, e26, (by decide : 2 + 0 ≤ _), (by decide : 4 + 0 ≤ _)⟩)
  dsimp only [Pt.U, Pt.locs, Pt.cells, Pt.slots] at X35 l35 y35 z35 st35 hQ35
  subst l35 y35 z35
  obtain ⟨rfl, Nq35, K35, E35, F35_0, F35_1⟩ := hQ35
  have N35 := Fr.app N23 Nq35
  have pr36 : ∀ tg, Steps pP.tables eE below (T35.setTop (mkF mM 71 #[.val (.long l1), .second, .val (.int c1), .val (.long l2), .second, .val (.int c2), .val (.int mo), .val (.int z2), .val (.long j7), .second, .val (.int j13), .val (.ref b17), .unset, .unset] [(.ref b26)])) tg → Steps pP.tables eE below (s₁.setTop (entryFrame mM #[(.long l1), (.int c1), (.long l2), (.int c2), (.int mo)] maxLocals)) tg := fun tg kg => pr33 _ (st35.trans kg)
  have pr38 : ∀ tg, Steps pP.tables eE below (T35.setTop (mkF mM 76 #[.val (.long l1), .second, .val (.int c1), .val (.long l2), .second, .val (.int c2), .val (.int mo), .val (.int z2), .val (.long j7), .second, .val (.int j13), .val (.ref b17), .val (.ref b26), .unset] [(.int (4 : Int32)), (.int z2)])) tg → Steps pP.tables eE below (s₁.setTop (entryFrame mM #[(.long l1), (.int c1), (.long l2), (.int c2), (.int mo)] maxLocals)) tg := fun tg kg => pr36 _ (by
    show Steps pP.tables eE below (T35.setTop (mkF mM 71 #[.val (.long l1), .second, .val (.int c1), .val (.long l2), .second, .val (.int c2), .val (.int mo), .val (.int z2), .val (.long j7), .second, .val (.int j13), .val (.ref b17), .unset, .unset] [(.ref b26)])) _
    refine XS.astore X35.here hx rfl (hb hby at_71) rfl rfl (l' := #[.val (.long l1), .second, .val (.int c1), .val (.long l2), .second, .val (.int c2), .val (.int mo), .val (.int z2), .val (.long j7), .second, .val (.int j13), .val (.ref b17), .val (.ref b26), .unset]) rfl ?_
    show Steps pP.tables eE below (T35.setTop (mkF mM 73 #[.val (.long l1), .second, .val (.int c1), .val (.long l2), .second, .val (.int c2), .val (.int mo), .val (.int z2), .val (.long j7), .second, .val (.int j13), .val (.ref b17), .val (.ref b26), .unset] [])) _
    refine XS.iload X35.here hx rfl (hb hby at_73) rfl ?_
    show Steps pP.tables eE below (T35.setTop (mkF mM 75 #[.val (.long l1), .second, .val (.int c1), .val (.long l2), .second, .val (.int c2), .val (.int mo), .val (.int z2), .val (.long j7), .second, .val (.int j13), .val (.ref b17), .val (.ref b26), .unset] [(.int z2)])) _
    refine XS.iconst X35.here hx rfl (hb hby at_75) ?_
    exact kg)
  by_cases hc76_37 : z2 = (4 : Int32)
  ·
    have pr39 : ∀ tg, Steps pP.tables eE below (T35.setTop (mkF mM 82 #[.val (.long l1), .second, .val (.int c1), .val (.long l2), .second, .val (.int c2), .val (.int mo), .val (.int z2), .val (.long j7), .second, .val (.int j13), .val (.ref b17), .val (.ref b26), .unset] [.null, (.ref b17)])) tg → Steps pP.tables eE below (s₁.setTop (entryFrame mM #[(.long l1), (.int c1), (.long l2), (.int c2), (.int mo)] maxLocals)) tg := fun tg kg => pr38 _ (by
      show Steps pP.tables eE below (T35.setTop (mkF mM 76 #[.val (.long l1), .second, .val (.int c1), .val (.long l2), .second, .val (.int c2), .val (.int mo), .val (.int z2), .val (.long j7), .second, .val (.int j13), .val (.ref b17), .val (.ref b26), .unset] [(.int (4 : Int32)), (.int z2)])) _
      refine XS.icmpNo X35.here hx rfl (hb hby at_76) rfl (teq hc76_37).2 ?_
      show Steps pP.tables eE below (T35.setTop (mkF mM 79 #[.val (.long l1), .second, .val (.int c1), .val (.long l2), .second, .val (.int c2), .val (.int mo), .val (.int z2), .val (.long j7), .second, .val (.int j13), .val (.ref b17), .val (.ref b26), .unset] [])) _
      refine XS.aload X35.here hx rfl (hb hby at_79) rfl rfl ?_
      show Steps pP.tables eE below (T35.setTop (mkF mM 81 #[.val (.long l1), .second, .val (.int c1), .val (.long l2), .second, .val (.int c2), .val (.int mo), .val (.int z2), .val (.long j7), .second, .val (.int j13), .val (.ref b17), .val (.ref b26), .unset] [(.ref b17)])) _
      refine XS.aconstNull X35.here hx rfl (hb hby at_81) ?_
      exact kg)
    have c40 := (Nat.le_trans c34 K35.1)
    have c42 := (Exa.keep (Exa.ext E26 E23) K35)
    obtain ⟨cq41, kq41, qa41, qb41, qc41⟩ := isOf hZ rfl c42
    obtain ⟨_, _, ⟨T41, L41, kk41, nn41⟩, -, X41, ⟨Lc41, hQ41, l41, y41, z41⟩, st41⟩ := X35.virtualBack hx (y := (⟨"com/example/settle/settle/service/FileSum", "equals", "(Ljava/lang/Object;)Z"⟩ : MethodName)) (z := (⟨"com/example/settle/settle/service/FileSum", "equals", "(Ljava/lang/Object;)Z"⟩ : MethodName)) hown (mvT hZ (hw _ (List.mem_of_getElem? (i := 14) rfl))) (mvT hZ (hw _ (List.mem_of_getElem? (i := 15) rfl))) (notFace_of_selects (args := #[]) (mvT hZ (hw _ (List.mem_of_getElem? (i := 17) rfl)))) (mvT hZ (hw _ (List.mem_of_getElem? (i := 17) rfl))) (mvT hZ (hw _ (List.mem_of_getElem? (i := 16) rfl))) (by decide) (backOf (W := 0) (rm6 l Z a0 hw [] b17 T35.heap n0 c40) hZ (hw _ (List.mem_of_getElem? (i := 18) rfl)) (hw _ (List.mem_of_getElem? (i := 3) rfl)) (by decide) (by decide)) qa41 qc41 (g := (mkF mM 82 #[.val (.long l1), .second, .val (.int c1), .val (.long l2), .second, .val (.int c2), .val (.int mo), .val (.int z2), .val (.long j7), .second, .val (.int j13), .val (.ref b17), .val (.ref b26), .unset] [.null, (.ref b17)])) rfl (by rw [hml]; rfl) (Steps.refl _) (argsL := [.null]) (rest := []) (lenOf pd_3 rfl) rfl (by show 2 * 0 + _ ≤ _; exact Nat.le_of_eq rfl) (hb hby at_82) (fun _ _ => ⟨rfl, rfl, (by decide : 2 + 0 ≤ _), (by decide : 4 + 0 ≤ _)⟩)
    dsimp only [Pt.U, Pt.locs, Pt.cells, Pt.slots] at X41 l41 y41 z41 st41 hQ41
    subst l41 y41 z41
    obtain ⟨rfl, Nq41, e41⟩ := hQ41
    have N41 := Fr.app N35 Nq41
    have pr43 : ∀ tg, Steps pP.tables eE below (T41.setTop (mkF mM 85 #[.val (.long l1), .second, .val (.int c1), .val (.long l2), .second, .val (.int c2), .val (.int mo), .val (.int z2), .val (.long j7), .second, .val (.int j13), .val (.ref b17), .val (.ref b26), .unset] [(.int (0 : Int32))])) tg → Steps pP.tables eE below (s₁.setTop (entryFrame mM #[(.long l1), (.int c1), (.long l2), (.int c2), (.int mo)] maxLocals)) tg := fun tg kg => pr39 _ (st41.trans kg)
    have pr44 : ∀ tg, Steps pP.tables eE below (T41.setTop (mkF mM 93 #[.val (.long l1), .second, .val (.int c1), .val (.long l2), .second, .val (.int c2), .val (.int mo), .val (.int z2), .val (.long j7), .second, .val (.int j13), .val (.ref b17), .val (.ref b26), .unset] [(.int (1 : Int32))])) tg → Steps pP.tables eE below (s₁.setTop (entryFrame mM #[(.long l1), (.int c1), (.long l2), (.int c2), (.int mo)] maxLocals)) tg := fun tg kg => pr43 _ (by
      show Steps pP.tables eE below (T41.setTop (mkF mM 85 #[.val (.long l1), .second, .val (.int c1), .val (.long l2), .second, .val (.int c2), .val (.int mo), .val (.int z2), .val (.long j7), .second, .val (.int j13), .val (.ref b17), .val (.ref b26), .unset] [(.int (0 : Int32))])) _
      refine XS.ifNo X41.here hx rfl (hb hby at_85) rfl ((if0 _ _).trans (teq (by decide)).2) ?_
      show Steps pP.tables eE below (T41.setTop (mkF mM 88 #[.val (.long l1), .second, .val (.int c1), .val (.long l2), .second, .val (.int c2), .val (.int mo), .val (.int z2), .val (.long j7), .second, .val (.int j13), .val (.ref b17), .val (.ref b26), .unset] [])) _
      refine XS.iconst X41.here hx rfl (hb hby at_88) ?_
      show Steps pP.tables eE below (T41.setTop (mkF mM 89 #[.val (.long l1), .second, .val (.int c1), .val (.long l2), .second, .val (.int c2), .val (.int mo), .val (.int z2), .val (.long j7), .second, .val (.int j13), .val (.ref b17), .val (.ref b26), .unset] [(.int (1 : Int32))])) _
      refine XS.goto X41.here hx rfl (pc0 := 89) (pc' := 93) rfl (hb hby at_89) (by decide) (by decide) ?_
      exact kg)
    obtain ⟨fs, hr, hrun, hended, hW, hsame⟩ := X41.leave (v := some (.int (1 : Int32))) (fun h => by rw [Bd.returns] at h; cases h)
    refine ⟨_, _, pr44 _ (retOut X41 hx (t := .boolean) Bd.returns rfl (Or.inl ⟨rfl, Or.inr (Or.inl rfl), _, rfl⟩) (hb hby at_93) hr), hrun, hended, _, _, rfl, ?_, ⟨_, rfl⟩, hW, hsame.mono (by decide) (by decide)⟩
    show Q0 Z l1 c1 l2 c2 mo ca cc h0 n0 _ T41.heap _
    rw [e41]
    exact ⟨rfl, N41⟩
  ·
    have pr46 : ∀ tg, Steps pP.tables eE below (T35.setTop (mkF mM 97 #[.val (.long l1), .second, .val (.int c1), .val (.long l2), .second, .val (.int c2), .val (.int mo), .val (.int z2), .val (.long j7), .second, .val (.int j13), .val (.ref b17), .val (.ref b26), .unset] [(.int (5 : Int32)), (.int z2)])) tg → Steps pP.tables eE below (s₁.setTop (entryFrame mM #[(.long l1), (.int c1), (.long l2), (.int c2), (.int mo)] maxLocals)) tg := fun tg kg => pr38 _ (by
      show Steps pP.tables eE below (T35.setTop (mkF mM 76 #[.val (.long l1), .second, .val (.int c1), .val (.long l2), .second, .val (.int c2), .val (.int mo), .val (.int z2), .val (.long j7), .second, .val (.int j13), .val (.ref b17), .val (.ref b26), .unset] [(.int (4 : Int32)), (.int z2)])) _
      refine XS.icmpYes X35.here hx rfl (pc0 := 76) (pc' := 94) rfl (hb hby at_76) rfl (feq hc76_37).2 (by decide) (by decide) ?_
      show Steps pP.tables eE below (T35.setTop (mkF mM 94 #[.val (.long l1), .second, .val (.int c1), .val (.long l2), .second, .val (.int c2), .val (.int mo), .val (.int z2), .val (.long j7), .second, .val (.int j13), .val (.ref b17), .val (.ref b26), .unset] [])) _
      refine XS.iload X35.here hx rfl (hb hby at_94) rfl ?_
      show Steps pP.tables eE below (T35.setTop (mkF mM 96 #[.val (.long l1), .second, .val (.int c1), .val (.long l2), .second, .val (.int c2), .val (.int mo), .val (.int z2), .val (.long j7), .second, .val (.int j13), .val (.ref b17), .val (.ref b26), .unset] [(.int z2)])) _
      refine XS.iconst X35.here hx rfl (hb hby at_96) ?_
      exact kg)
    by_cases hc97_45 : z2 = (5 : Int32)
    ·
      have c47 := (Old.keep (Old.ext (Old.keep (Old.ext O E17) K23 (allS gn18 all0)) E26) K35 (allS gn28 all0))
      have pr48 : ∀ tg, Steps pP.tables eE below (T35.setTop (mkF mM 103 #[.val (.long l1), .second, .val (.int c1), .val (.long l2), .second, .val (.int c2), .val (.int mo), .val (.int z2), .val (.long j7), .second, .val (.int j13), .val (.ref b17), .val (.ref b26), .unset] [(.long l1), (.ref b17)])) tg → Steps pP.tables eE below (s₁.setTop (entryFrame mM #[(.long l1), (.int c1), (.long l2), (.int c2), (.int mo)] maxLocals)) tg := fun tg kg => pr46 _ (by
        show Steps pP.tables eE below (T35.setTop (mkF mM 97 #[.val (.long l1), .second, .val (.int c1), .val (.long l2), .second, .val (.int c2), .val (.int mo), .val (.int z2), .val (.long j7), .second, .val (.int j13), .val (.ref b17), .val (.ref b26), .unset] [(.int (5 : Int32)), (.int z2)])) _
        refine XS.icmpNo X35.here hx rfl (hb hby at_97) rfl (teq hc97_45).2 ?_
        show Steps pP.tables eE below (T35.setTop (mkF mM 100 #[.val (.long l1), .second, .val (.int c1), .val (.long l2), .second, .val (.int c2), .val (.int mo), .val (.int z2), .val (.long j7), .second, .val (.int j13), .val (.ref b17), .val (.ref b26), .unset] [])) _
        refine XS.aload X35.here hx rfl (hb hby at_100) rfl rfl ?_
        show Steps pP.tables eE below (T35.setTop (mkF mM 102 #[.val (.long l1), .second, .val (.int c1), .val (.long l2), .second, .val (.int c2), .val (.int mo), .val (.int z2), .val (.long j7), .second, .val (.int j13), .val (.ref b17), .val (.ref b26), .unset] [(.ref b17)])) _
        refine XS.lloadN X35.here hx rfl (hb hby at_102) rfl ?_
        exact kg)
      have c49 := (Nat.le_trans c34 K35.1)
      obtain ⟨_, _, ⟨T50, L50, kk50, nn50⟩, -, X50, ⟨Lc50, hQ50, l50, y50, z50⟩, st50⟩ := Jvm.LawKit.callS X35 hx (y := (⟨"java/lang/Long", "valueOf", "(J)Ljava/lang/Long;"⟩ : MethodName)) hown (mvT hZ (hw _ (List.mem_of_getElem? (i := 21) rfl))) (mvT hZ (hw _ (List.mem_of_getElem? (i := 22) rfl))) (mvT hZ (hw _ (List.mem_of_getElem? (i := 23) rfl))) (mvT hZ (hw _ (List.mem_of_getElem? (i := 24) rfl))) (by decide) (backOf (W := 1) (rm4 l Z a0 hw [] l1 ca cc T35.heap n0 c49 c47 S_cache B) hZ (hw _ (List.mem_of_getElem? (i := 24) rfl)) (hw _ (List.mem_of_getElem? (i := 23) rfl)) (by decide) (by decide)) (g := (mkF mM 103 #[.val (.long l1), .second, .val (.int c1), .val (.long l2), .second, .val (.int c2), .val (.int mo), .val (.int z2), .val (.long j7), .second, .val (.int j13), .val (.ref b17), .val (.ref b26), .unset] [(.long l1), (.ref b17)])) rfl (by rw [hml]; rfl) (argsL := [(.long l1)]) (rest := [(.ref b17)]) (lenOf pd_4 rfl) rfl (by show 2 * 0 + _ ≤ _; exact Nat.le_of_eq rfl) (hb hby at_103) (fun _ _ => ⟨rfl, rfl, (by decide : 2 + 1 ≤ _), (by decide : 4 + 1 ≤ _)⟩)
      dsimp only [Pt.U, Pt.locs, Pt.cells, Pt.slots] at X50 l50 y50 z50 st50 hQ50
      subst l50 y50 z50
      obtain ⟨bo50, rfl, Nq50, K50, Eb50⟩ := hQ50
      have N50 := Fr.app N35 Nq50
      have pr51 : ∀ tg, Steps pP.tables eE below (T50.setTop (mkF mM 106 #[.val (.long l1), .second, .val (.int c1), .val (.long l2), .second, .val (.int c2), .val (.int mo), .val (.int z2), .val (.long j7), .second, .val (.int j13), .val (.ref b17), .val (.ref b26), .unset] [(.ref bo50), (.ref b17)])) tg → Steps pP.tables eE below (s₁.setTop (entryFrame mM #[(.long l1), (.int c1), (.long l2), (.int c2), (.int mo)] maxLocals)) tg := fun tg kg => pr48 _ (st50 _ kg)
      have c52 := (Nat.le_trans c49 K50.1)
      have c54 := (Exa.keep (Exa.keep (Exa.ext E26 E23) K35) K50)
      obtain ⟨cq53, kq53, qa53, qb53, qc53⟩ := isOf hZ rfl c54
      obtain ⟨_, _, ⟨T53, L53, kk53, nn53⟩, -, X53, ⟨Lc53, hQ53, l53, y53, z53⟩, st53⟩ := X50.virtualBack hx (y := (⟨"com/example/settle/settle/service/FileSum", "equals", "(Ljava/lang/Object;)Z"⟩ : MethodName)) (z := (⟨"com/example/settle/settle/service/FileSum", "equals", "(Ljava/lang/Object;)Z"⟩ : MethodName)) hown (mvT hZ (hw _ (List.mem_of_getElem? (i := 14) rfl))) (mvT hZ (hw _ (List.mem_of_getElem? (i := 15) rfl))) (notFace_of_selects (args := #[]) (mvT hZ (hw _ (List.mem_of_getElem? (i := 17) rfl)))) (mvT hZ (hw _ (List.mem_of_getElem? (i := 17) rfl))) (mvT hZ (hw _ (List.mem_of_getElem? (i := 16) rfl))) (by decide) (backOf (W := 0) (rm7 l Z a0 hw [] b17 bo50 T50.heap n0 c52 Eb50) hZ (hw _ (List.mem_of_getElem? (i := 18) rfl)) (hw _ (List.mem_of_getElem? (i := 3) rfl)) (by decide) (by decide)) qa53 qc53 (g := (mkF mM 106 #[.val (.long l1), .second, .val (.int c1), .val (.long l2), .second, .val (.int c2), .val (.int mo), .val (.int z2), .val (.long j7), .second, .val (.int j13), .val (.ref b17), .val (.ref b26), .unset] [(.ref bo50), (.ref b17)])) rfl (by rw [hml]; rfl) (Steps.refl _) (argsL := [(.ref bo50)]) (rest := []) (lenOf pd_3 rfl) rfl (by show 2 * 0 + _ ≤ _; exact Nat.le_of_eq rfl) (hb hby at_106) (fun _ _ => ⟨rfl, rfl, (by decide : 3 + 0 ≤ _), (by decide : 5 + 0 ≤ _)⟩)
      dsimp only [Pt.U, Pt.locs, Pt.cells, Pt.slots] at X53 l53 y53 z53 st53 hQ53
      subst l53 y53 z53
      obtain ⟨rfl, Nq53, e53⟩ := hQ53
      have N53 := Fr.app N50 Nq53
      have pr55 : ∀ tg, Steps pP.tables eE below (T53.setTop (mkF mM 109 #[.val (.long l1), .second, .val (.int c1), .val (.long l2), .second, .val (.int c2), .val (.int mo), .val (.int z2), .val (.long j7), .second, .val (.int j13), .val (.ref b17), .val (.ref b26), .unset] [(.int (0 : Int32))])) tg → Steps pP.tables eE below (s₁.setTop (entryFrame mM #[(.long l1), (.int c1), (.long l2), (.int c2), (.int mo)] maxLocals)) tg := fun tg kg => pr51 _ (st53.trans kg)
      have c56 := (Fld.keep (Fld.keep (Fld.ext E26 F23_0) K35 (ninS ne27 nin0)) K50 nin0)
      have c57 := (Fld.keep (Fld.keep (Fld.ext E26 F23_1) K35 (ninS ne27 nin0)) K50 nin0)
      have pr58 : ∀ tg, Steps pP.tables eE below (T53.setTop (mkF mM 116 #[.val (.long l1), .second, .val (.int c1), .val (.long l2), .second, .val (.int c2), .val (.int mo), .val (.int z2), .val (.long j7), .second, .val (.int j13), .val (.ref b17), .val (.ref b26), .unset] [(.ref b17), (.ref b17)])) tg → Steps pP.tables eE below (s₁.setTop (entryFrame mM #[(.long l1), (.int c1), (.long l2), (.int c2), (.int mo)] maxLocals)) tg := fun tg kg => pr55 _ (by
        show Steps pP.tables eE below (T53.setTop (mkF mM 109 #[.val (.long l1), .second, .val (.int c1), .val (.long l2), .second, .val (.int c2), .val (.int mo), .val (.int z2), .val (.long j7), .second, .val (.int j13), .val (.ref b17), .val (.ref b26), .unset] [(.int (0 : Int32))])) _
        refine XS.ifNo X53.here hx rfl (hb hby at_109) rfl ((if0 _ _).trans (teq (by decide)).2) ?_
        show Steps pP.tables eE below (T53.setTop (mkF mM 112 #[.val (.long l1), .second, .val (.int c1), .val (.long l2), .second, .val (.int c2), .val (.int mo), .val (.int z2), .val (.long j7), .second, .val (.int j13), .val (.ref b17), .val (.ref b26), .unset] [])) _
        refine XS.aload X53.here hx rfl (hb hby at_112) rfl rfl ?_
        show Steps pP.tables eE below (T53.setTop (mkF mM 114 #[.val (.long l1), .second, .val (.int c1), .val (.long l2), .second, .val (.int c2), .val (.int mo), .val (.int z2), .val (.long j7), .second, .val (.int j13), .val (.ref b17), .val (.ref b26), .unset] [(.ref b17)])) _
        refine XS.aload X53.here hx rfl (hb hby at_114) rfl rfl ?_
        exact kg)
      obtain ⟨cq59, kq59, qa59, qb59, qc59⟩ := isOf hZ e53 c54
      obtain ⟨_, _, ⟨T59, L59, kk59, nn59⟩, -, X59, ⟨Lc59, hQ59, l59, y59, z59⟩, st59⟩ := X53.virtualBack hx (y := (⟨"com/example/settle/settle/service/FileSum", "equals", "(Ljava/lang/Object;)Z"⟩ : MethodName)) (z := (⟨"com/example/settle/settle/service/FileSum", "equals", "(Ljava/lang/Object;)Z"⟩ : MethodName)) hown (mvT hZ (hw _ (List.mem_of_getElem? (i := 14) rfl))) (mvT hZ (hw _ (List.mem_of_getElem? (i := 15) rfl))) (notFace_of_selects (args := #[]) (mvT hZ (hw _ (List.mem_of_getElem? (i := 17) rfl)))) (mvT hZ (hw _ (List.mem_of_getElem? (i := 17) rfl))) (mvT hZ (hw _ (List.mem_of_getElem? (i := 16) rfl))) (by decide) (backOf (W := 0) (rm5 l Z a0 hw [] b17 b17 l1 c1 l1 c1 T50.heap n0 c52 c54 c56 c57 c54 c56 c57) hZ (hw _ (List.mem_of_getElem? (i := 18) rfl)) (hw _ (List.mem_of_getElem? (i := 3) rfl)) (by decide) (by decide)) qa59 qc59 (g := (mkF mM 116 #[.val (.long l1), .second, .val (.int c1), .val (.long l2), .second, .val (.int c2), .val (.int mo), .val (.int z2), .val (.long j7), .second, .val (.int j13), .val (.ref b17), .val (.ref b26), .unset] [(.ref b17), (.ref b17)])) rfl (by rw [hml]; rfl) (Steps.refl _) (argsL := [(.ref b17)]) (rest := []) (lenOf pd_3 rfl) rfl (by show 2 * 0 + _ ≤ _; exact Nat.le_of_eq rfl) (hb hby at_116) (fun _ _ => ⟨rfl, e53, (by decide : 3 + 0 ≤ _), (by decide : 5 + 0 ≤ _)⟩)
      dsimp only [Pt.U, Pt.locs, Pt.cells, Pt.slots] at X59 l59 y59 z59 st59 hQ59
      subst l59 y59 z59
      obtain ⟨r59, rfl, hr59, Nq59, e59⟩ := hQ59
      have N59 := Fr.app N53 Nq59
      have pr60 : ∀ tg, Steps pP.tables eE below (T59.setTop (mkF mM 119 #[.val (.long l1), .second, .val (.int c1), .val (.long l2), .second, .val (.int c2), .val (.int mo), .val (.int z2), .val (.long j7), .second, .val (.int j13), .val (.ref b17), .val (.ref b26), .unset] [(.int r59)])) tg → Steps pP.tables eE below (s₁.setTop (entryFrame mM #[(.long l1), (.int c1), (.long l2), (.int c2), (.int mo)] maxLocals)) tg := fun tg kg => pr58 _ (st59.trans kg)
      rw [if_pos (rfl : l1 = l1)] at hr59
      rw [if_pos (rfl : c1 = c1)] at hr59
      subst hr59
      have pr61 : ∀ tg, Steps pP.tables eE below (T59.setTop (mkF mM 127 #[.val (.long l1), .second, .val (.int c1), .val (.long l2), .second, .val (.int c2), .val (.int mo), .val (.int z2), .val (.long j7), .second, .val (.int j13), .val (.ref b17), .val (.ref b26), .unset] [(.int (1 : Int32))])) tg → Steps pP.tables eE below (s₁.setTop (entryFrame mM #[(.long l1), (.int c1), (.long l2), (.int c2), (.int mo)] maxLocals)) tg := fun tg kg => pr60 _ (by
        show Steps pP.tables eE below (T59.setTop (mkF mM 119 #[.val (.long l1), .second, .val (.int c1), .val (.long l2), .second, .val (.int c2), .val (.int mo), .val (.int z2), .val (.long j7), .second, .val (.int j13), .val (.ref b17), .val (.ref b26), .unset] [(.int (1 : Int32))])) _
        refine XS.ifNo X59.here hx rfl (hb hby at_119) rfl ((if0 _ _).trans (feq (by decide)).1) ?_
        show Steps pP.tables eE below (T59.setTop (mkF mM 122 #[.val (.long l1), .second, .val (.int c1), .val (.long l2), .second, .val (.int c2), .val (.int mo), .val (.int z2), .val (.long j7), .second, .val (.int j13), .val (.ref b17), .val (.ref b26), .unset] [])) _
        refine XS.iconst X59.here hx rfl (hb hby at_122) ?_
        show Steps pP.tables eE below (T59.setTop (mkF mM 123 #[.val (.long l1), .second, .val (.int c1), .val (.long l2), .second, .val (.int c2), .val (.int mo), .val (.int z2), .val (.long j7), .second, .val (.int j13), .val (.ref b17), .val (.ref b26), .unset] [(.int (1 : Int32))])) _
        refine XS.goto X59.here hx rfl (pc0 := 123) (pc' := 127) rfl (hb hby at_123) (by decide) (by decide) ?_
        exact kg)
      obtain ⟨fs, hr, hrun, hended, hW, hsame⟩ := X59.leave (v := some (.int (1 : Int32))) (fun h => by rw [Bd.returns] at h; cases h)
      refine ⟨_, _, pr61 _ (retOut X59 hx (t := .boolean) Bd.returns rfl (Or.inl ⟨rfl, Or.inr (Or.inl rfl), _, rfl⟩) (hb hby at_127) hr), hrun, hended, _, _, rfl, ?_, ⟨_, rfl⟩, hW, hsame.mono (by decide) (by decide)⟩
      show Q0 Z l1 c1 l2 c2 mo ca cc h0 n0 _ T59.heap _
      rw [e59]
      exact ⟨rfl, N59⟩
    ·
      have pr62 : ∀ tg, Steps pP.tables eE below (T35.setTop (mkF mM 132 #[.val (.long l1), .second, .val (.int c1), .val (.long l2), .second, .val (.int c2), .val (.int mo), .val (.int z2), .val (.long j7), .second, .val (.int j13), .val (.ref b17), .val (.ref b26), .unset] [(.int (lcmpW j7 l1))])) tg → Steps pP.tables eE below (s₁.setTop (entryFrame mM #[(.long l1), (.int c1), (.long l2), (.int c2), (.int mo)] maxLocals)) tg := fun tg kg => pr46 _ (by
        show Steps pP.tables eE below (T35.setTop (mkF mM 97 #[.val (.long l1), .second, .val (.int c1), .val (.long l2), .second, .val (.int c2), .val (.int mo), .val (.int z2), .val (.long j7), .second, .val (.int j13), .val (.ref b17), .val (.ref b26), .unset] [(.int (5 : Int32)), (.int z2)])) _
        refine XS.icmpYes X35.here hx rfl (pc0 := 97) (pc' := 128) rfl (hb hby at_97) rfl (feq hc97_45).2 (by decide) (by decide) ?_
        show Steps pP.tables eE below (T35.setTop (mkF mM 128 #[.val (.long l1), .second, .val (.int c1), .val (.long l2), .second, .val (.int c2), .val (.int mo), .val (.int z2), .val (.long j7), .second, .val (.int j13), .val (.ref b17), .val (.ref b26), .unset] [])) _
        refine XS.lload X35.here hx rfl (hb hby at_128) rfl ?_
        show Steps pP.tables eE below (T35.setTop (mkF mM 130 #[.val (.long l1), .second, .val (.int c1), .val (.long l2), .second, .val (.int c2), .val (.int mo), .val (.int z2), .val (.long j7), .second, .val (.int j13), .val (.ref b17), .val (.ref b26), .unset] [(.long j7)])) _
        refine XS.lloadN X35.here hx rfl (hb hby at_130) rfl ?_
        show Steps pP.tables eE below (T35.setTop (mkF mM 131 #[.val (.long l1), .second, .val (.int c1), .val (.long l2), .second, .val (.int c2), .val (.int mo), .val (.int z2), .val (.long j7), .second, .val (.int j13), .val (.ref b17), .val (.ref b26), .unset] [(.long l1), (.long j7)])) _
        refine XS.lcmp X35.here hx rfl (hb hby at_131) rfl ?_
        exact kg)
      obtain ⟨j65, hj65, st66⟩ : ∃ (j65 : Int32), j65 = (if j7 = l1 then (if j13 = c1 then (1 : Int32) else (0 : Int32)) else (0 : Int32)) ∧ ∀ tg, Steps pP.tables eE below (T35.setTop (mkF mM 146 #[.val (.long l1), .second, .val (.int c1), .val (.long l2), .second, .val (.int c2), .val (.int mo), .val (.int z2), .val (.long j7), .second, .val (.int j13), .val (.ref b17), .val (.ref b26), .unset] [(.int j65)])) tg → Steps pP.tables eE below (T35.setTop (mkF mM 132 #[.val (.long l1), .second, .val (.int c1), .val (.long l2), .second, .val (.int c2), .val (.int mo), .val (.int z2), .val (.long j7), .second, .val (.int j13), .val (.ref b17), .val (.ref b26), .unset] [(.int (lcmpW j7 l1))])) tg := by
        by_cases hj132_63 : j7 = l1
        ·
          by_cases hj138_64 : j13 = c1
          ·
            refine ⟨(1 : Int32), (by rw [if_pos hj132_63, if_pos hj138_64]), fun tg kg => ?_⟩
            show Steps pP.tables eE below (T35.setTop (mkF mM 132 #[.val (.long l1), .second, .val (.int c1), .val (.long l2), .second, .val (.int c2), .val (.int mo), .val (.int z2), .val (.long j7), .second, .val (.int j13), .val (.ref b17), .val (.ref b26), .unset] [(.int (lcmpW j7 l1))])) _
            refine XS.ifNo X35.here hx rfl (hb hby at_132) rfl ((if0 _ _).trans (teq ((lw_eq _ _).mpr hj132_63)).2) ?_
            show Steps pP.tables eE below (T35.setTop (mkF mM 135 #[.val (.long l1), .second, .val (.int c1), .val (.long l2), .second, .val (.int c2), .val (.int mo), .val (.int z2), .val (.long j7), .second, .val (.int j13), .val (.ref b17), .val (.ref b26), .unset] [])) _
            refine XS.iload X35.here hx rfl (hb hby at_135) rfl ?_
            show Steps pP.tables eE below (T35.setTop (mkF mM 137 #[.val (.long l1), .second, .val (.int c1), .val (.long l2), .second, .val (.int c2), .val (.int mo), .val (.int z2), .val (.long j7), .second, .val (.int j13), .val (.ref b17), .val (.ref b26), .unset] [(.int j13)])) _
            refine XS.iloadN X35.here hx rfl (hb hby at_137) rfl ?_
            show Steps pP.tables eE below (T35.setTop (mkF mM 138 #[.val (.long l1), .second, .val (.int c1), .val (.long l2), .second, .val (.int c2), .val (.int mo), .val (.int z2), .val (.long j7), .second, .val (.int j13), .val (.ref b17), .val (.ref b26), .unset] [(.int c1), (.int j13)])) _
            refine XS.icmpNo X35.here hx rfl (hb hby at_138) rfl (teq hj138_64).2 ?_
            show Steps pP.tables eE below (T35.setTop (mkF mM 141 #[.val (.long l1), .second, .val (.int c1), .val (.long l2), .second, .val (.int c2), .val (.int mo), .val (.int z2), .val (.long j7), .second, .val (.int j13), .val (.ref b17), .val (.ref b26), .unset] [])) _
            refine XS.iconst X35.here hx rfl (hb hby at_141) ?_
            show Steps pP.tables eE below (T35.setTop (mkF mM 142 #[.val (.long l1), .second, .val (.int c1), .val (.long l2), .second, .val (.int c2), .val (.int mo), .val (.int z2), .val (.long j7), .second, .val (.int j13), .val (.ref b17), .val (.ref b26), .unset] [(.int (1 : Int32))])) _
            refine XS.goto X35.here hx rfl (pc0 := 142) (pc' := 146) rfl (hb hby at_142) (by decide) (by decide) ?_
            exact kg
          ·
            refine ⟨(0 : Int32), (by rw [if_pos hj132_63, if_neg hj138_64]), fun tg kg => ?_⟩
            show Steps pP.tables eE below (T35.setTop (mkF mM 132 #[.val (.long l1), .second, .val (.int c1), .val (.long l2), .second, .val (.int c2), .val (.int mo), .val (.int z2), .val (.long j7), .second, .val (.int j13), .val (.ref b17), .val (.ref b26), .unset] [(.int (lcmpW j7 l1))])) _
            refine XS.ifNo X35.here hx rfl (hb hby at_132) rfl ((if0 _ _).trans (teq ((lw_eq _ _).mpr hj132_63)).2) ?_
            show Steps pP.tables eE below (T35.setTop (mkF mM 135 #[.val (.long l1), .second, .val (.int c1), .val (.long l2), .second, .val (.int c2), .val (.int mo), .val (.int z2), .val (.long j7), .second, .val (.int j13), .val (.ref b17), .val (.ref b26), .unset] [])) _
            refine XS.iload X35.here hx rfl (hb hby at_135) rfl ?_
            show Steps pP.tables eE below (T35.setTop (mkF mM 137 #[.val (.long l1), .second, .val (.int c1), .val (.long l2), .second, .val (.int c2), .val (.int mo), .val (.int z2), .val (.long j7), .second, .val (.int j13), .val (.ref b17), .val (.ref b26), .unset] [(.int j13)])) _
            refine XS.iloadN X35.here hx rfl (hb hby at_137) rfl ?_
            show Steps pP.tables eE below (T35.setTop (mkF mM 138 #[.val (.long l1), .second, .val (.int c1), .val (.long l2), .second, .val (.int c2), .val (.int mo), .val (.int z2), .val (.long j7), .second, .val (.int j13), .val (.ref b17), .val (.ref b26), .unset] [(.int c1), (.int j13)])) _
            refine XS.icmpYes X35.here hx rfl (pc0 := 138) (pc' := 145) rfl (hb hby at_138) rfl (feq hj138_64).2 (by decide) (by decide) ?_
            show Steps pP.tables eE below (T35.setTop (mkF mM 145 #[.val (.long l1), .second, .val (.int c1), .val (.long l2), .second, .val (.int c2), .val (.int mo), .val (.int z2), .val (.long j7), .second, .val (.int j13), .val (.ref b17), .val (.ref b26), .unset] [])) _
            refine XS.iconst X35.here hx rfl (hb hby at_145) ?_
            exact kg
        ·
          refine ⟨(0 : Int32), (by rw [if_neg hj132_63]), fun tg kg => ?_⟩
          show Steps pP.tables eE below (T35.setTop (mkF mM 132 #[.val (.long l1), .second, .val (.int c1), .val (.long l2), .second, .val (.int c2), .val (.int mo), .val (.int z2), .val (.long j7), .second, .val (.int j13), .val (.ref b17), .val (.ref b26), .unset] [(.int (lcmpW j7 l1))])) _
          refine XS.ifYes X35.here hx rfl (pc0 := 132) (pc' := 145) rfl (hb hby at_132) rfl ((if0 _ _).trans (feq (fun q => hj132_63 ((lw_eq _ _).mp q))).2) (by decide) (by decide) ?_
          show Steps pP.tables eE below (T35.setTop (mkF mM 145 #[.val (.long l1), .second, .val (.int c1), .val (.long l2), .second, .val (.int c2), .val (.int mo), .val (.int z2), .val (.long j7), .second, .val (.int j13), .val (.ref b17), .val (.ref b26), .unset] [])) _
          refine XS.iconst X35.here hx rfl (hb hby at_145) ?_
          exact kg
      have pr67 : ∀ tg, Steps pP.tables eE below (T35.setTop (mkF mM 146 #[.val (.long l1), .second, .val (.int c1), .val (.long l2), .second, .val (.int c2), .val (.int mo), .val (.int z2), .val (.long j7), .second, .val (.int j13), .val (.ref b17), .val (.ref b26), .unset] [(.int j65)])) tg → Steps pP.tables eE below (s₁.setTop (entryFrame mM #[(.long l1), (.int c1), (.long l2), (.int c2), (.int mo)] maxLocals)) tg := fun tg kg => pr62 _ (st66 _ kg)
      have c68 := (Exa.keep (Exa.ext E26 E23) K35)
      have c69 := (Fld.keep (Fld.ext E26 F23_0) K35 (ninS ne27 nin0))
      have c70 := (Fld.keep (Fld.ext E26 F23_1) K35 (ninS ne27 nin0))
      have pr71 : ∀ tg, Steps pP.tables eE below (T35.setTop (mkF mM 152 #[.val (.long l1), .second, .val (.int c1), .val (.long l2), .second, .val (.int c2), .val (.int mo), .val (.int z2), .val (.long j7), .second, .val (.int j13), .val (.ref b17), .val (.ref b26), .val (.int j65)] [(.ref b26), (.ref b17)])) tg → Steps pP.tables eE below (s₁.setTop (entryFrame mM #[(.long l1), (.int c1), (.long l2), (.int c2), (.int mo)] maxLocals)) tg := fun tg kg => pr67 _ (by
        show Steps pP.tables eE below (T35.setTop (mkF mM 146 #[.val (.long l1), .second, .val (.int c1), .val (.long l2), .second, .val (.int c2), .val (.int mo), .val (.int z2), .val (.long j7), .second, .val (.int j13), .val (.ref b17), .val (.ref b26), .unset] [(.int j65)])) _
        refine XS.istore X35.here hx rfl (hb hby at_146) rfl (l' := #[.val (.long l1), .second, .val (.int c1), .val (.long l2), .second, .val (.int c2), .val (.int mo), .val (.int z2), .val (.long j7), .second, .val (.int j13), .val (.ref b17), .val (.ref b26), .val (.int j65)]) rfl ?_
        show Steps pP.tables eE below (T35.setTop (mkF mM 148 #[.val (.long l1), .second, .val (.int c1), .val (.long l2), .second, .val (.int c2), .val (.int mo), .val (.int z2), .val (.long j7), .second, .val (.int j13), .val (.ref b17), .val (.ref b26), .val (.int j65)] [])) _
        refine XS.aload X35.here hx rfl (hb hby at_148) rfl rfl ?_
        show Steps pP.tables eE below (T35.setTop (mkF mM 150 #[.val (.long l1), .second, .val (.int c1), .val (.long l2), .second, .val (.int c2), .val (.int mo), .val (.int z2), .val (.long j7), .second, .val (.int j13), .val (.ref b17), .val (.ref b26), .val (.int j65)] [(.ref b17)])) _
        refine XS.aload X35.here hx rfl (hb hby at_150) rfl rfl ?_
        exact kg)
      have c72 := (Nat.le_trans c34 K35.1)
      obtain ⟨cq73, kq73, qa73, qb73, qc73⟩ := isOf hZ rfl c68
      obtain ⟨_, _, ⟨T73, L73, kk73, nn73⟩, -, X73, ⟨Lc73, hQ73, l73, y73, z73⟩, st73⟩ := X35.virtualBack hx (y := (⟨"com/example/settle/settle/service/FileSum", "equals", "(Ljava/lang/Object;)Z"⟩ : MethodName)) (z := (⟨"com/example/settle/settle/service/FileSum", "equals", "(Ljava/lang/Object;)Z"⟩ : MethodName)) hown (mvT hZ (hw _ (List.mem_of_getElem? (i := 14) rfl))) (mvT hZ (hw _ (List.mem_of_getElem? (i := 15) rfl))) (notFace_of_selects (args := #[]) (mvT hZ (hw _ (List.mem_of_getElem? (i := 17) rfl)))) (mvT hZ (hw _ (List.mem_of_getElem? (i := 17) rfl))) (mvT hZ (hw _ (List.mem_of_getElem? (i := 16) rfl))) (by decide) (backOf (W := 0) (rm5 l Z a0 hw [] b17 b26 l1 c1 j7 j13 T35.heap n0 c72 c68 c69 c70 E35 F35_0 F35_1) hZ (hw _ (List.mem_of_getElem? (i := 18) rfl)) (hw _ (List.mem_of_getElem? (i := 3) rfl)) (by decide) (by decide)) qa73 qc73 (g := (mkF mM 152 #[.val (.long l1), .second, .val (.int c1), .val (.long l2), .second, .val (.int c2), .val (.int mo), .val (.int z2), .val (.long j7), .second, .val (.int j13), .val (.ref b17), .val (.ref b26), .val (.int j65)] [(.ref b26), (.ref b17)])) rfl (by rw [hml]; rfl) (Steps.refl _) (argsL := [(.ref b26)]) (rest := []) (lenOf pd_3 rfl) rfl (by show 2 * 0 + _ ≤ _; exact Nat.le_of_eq rfl) (hb hby at_152) (fun _ _ => ⟨rfl, rfl, (by decide : 2 + 0 ≤ _), (by decide : 4 + 0 ≤ _)⟩)
      dsimp only [Pt.U, Pt.locs, Pt.cells, Pt.slots] at X73 l73 y73 z73 st73 hQ73
      subst l73 y73 z73
      obtain ⟨r73, rfl, hr73, Nq73, e73⟩ := hQ73
      have N73 := Fr.app N35 Nq73
      have pr74 : ∀ tg, Steps pP.tables eE below (T73.setTop (mkF mM 155 #[.val (.long l1), .second, .val (.int c1), .val (.long l2), .second, .val (.int c2), .val (.int mo), .val (.int z2), .val (.long j7), .second, .val (.int j13), .val (.ref b17), .val (.ref b26), .val (.int j65)] [(.int r73)])) tg → Steps pP.tables eE below (s₁.setTop (entryFrame mM #[(.long l1), (.int c1), (.long l2), (.int c2), (.int mo)] maxLocals)) tg := fun tg kg => pr71 _ (st73.trans kg)
      have pr75 : ∀ tg, Steps pP.tables eE below (T73.setTop (mkF mM 157 #[.val (.long l1), .second, .val (.int c1), .val (.long l2), .second, .val (.int c2), .val (.int mo), .val (.int z2), .val (.long j7), .second, .val (.int j13), .val (.ref b17), .val (.ref b26), .val (.int j65)] [(.int j65), (.int r73)])) tg → Steps pP.tables eE below (s₁.setTop (entryFrame mM #[(.long l1), (.int c1), (.long l2), (.int c2), (.int mo)] maxLocals)) tg := fun tg kg => pr74 _ (by
        show Steps pP.tables eE below (T73.setTop (mkF mM 155 #[.val (.long l1), .second, .val (.int c1), .val (.long l2), .second, .val (.int c2), .val (.int mo), .val (.int z2), .val (.long j7), .second, .val (.int j13), .val (.ref b17), .val (.ref b26), .val (.int j65)] [(.int r73)])) _
        refine XS.iload X73.here hx rfl (hb hby at_155) rfl ?_
        exact kg)
      by_cases hd76 : j7 = l1
      ·
        rw [if_pos hd76] at hj65
        by_cases hd77 : j13 = c1
        ·
          rw [if_pos hd77] at hj65
          subst hj65
          rw [if_pos hd76] at hr73
          rw [if_pos hd77] at hr73
          subst hr73
          have pr78 : ∀ tg, Steps pP.tables eE below (T73.setTop (mkF mM 164 #[.val (.long l1), .second, .val (.int c1), .val (.long l2), .second, .val (.int c2), .val (.int mo), .val (.int z2), .val (.long j7), .second, .val (.int j13), .val (.ref b17), .val (.ref b26), .val (.int (1 : Int32))] [(.ref b17), (.ref b26)])) tg → Steps pP.tables eE below (s₁.setTop (entryFrame mM #[(.long l1), (.int c1), (.long l2), (.int c2), (.int mo)] maxLocals)) tg := fun tg kg => pr75 _ (by
            show Steps pP.tables eE below (T73.setTop (mkF mM 157 #[.val (.long l1), .second, .val (.int c1), .val (.long l2), .second, .val (.int c2), .val (.int mo), .val (.int z2), .val (.long j7), .second, .val (.int j13), .val (.ref b17), .val (.ref b26), .val (.int (1 : Int32))] [(.int (1 : Int32)), (.int (1 : Int32))])) _
            refine XS.icmpNo X73.here hx rfl (hb hby at_157) rfl (teq (by decide)).2 ?_
            show Steps pP.tables eE below (T73.setTop (mkF mM 160 #[.val (.long l1), .second, .val (.int c1), .val (.long l2), .second, .val (.int c2), .val (.int mo), .val (.int z2), .val (.long j7), .second, .val (.int j13), .val (.ref b17), .val (.ref b26), .val (.int (1 : Int32))] [])) _
            refine XS.aload X73.here hx rfl (hb hby at_160) rfl rfl ?_
            show Steps pP.tables eE below (T73.setTop (mkF mM 162 #[.val (.long l1), .second, .val (.int c1), .val (.long l2), .second, .val (.int c2), .val (.int mo), .val (.int z2), .val (.long j7), .second, .val (.int j13), .val (.ref b17), .val (.ref b26), .val (.int (1 : Int32))] [(.ref b26)])) _
            refine XS.aload X73.here hx rfl (hb hby at_162) rfl rfl ?_
            exact kg)
          obtain ⟨cq79, kq79, qa79, qb79, qc79⟩ := isOf hZ e73 E35
          obtain ⟨_, _, ⟨T79, L79, kk79, nn79⟩, -, X79, ⟨Lc79, hQ79, l79, y79, z79⟩, st79⟩ := X73.virtualBack hx (y := (⟨"com/example/settle/settle/service/FileSum", "equals", "(Ljava/lang/Object;)Z"⟩ : MethodName)) (z := (⟨"com/example/settle/settle/service/FileSum", "equals", "(Ljava/lang/Object;)Z"⟩ : MethodName)) hown (mvT hZ (hw _ (List.mem_of_getElem? (i := 14) rfl))) (mvT hZ (hw _ (List.mem_of_getElem? (i := 15) rfl))) (notFace_of_selects (args := #[]) (mvT hZ (hw _ (List.mem_of_getElem? (i := 17) rfl)))) (mvT hZ (hw _ (List.mem_of_getElem? (i := 17) rfl))) (mvT hZ (hw _ (List.mem_of_getElem? (i := 16) rfl))) (by decide) (backOf (W := 0) (rm5 l Z a0 hw [] b26 b17 j7 j13 l1 c1 T35.heap n0 c72 E35 F35_0 F35_1 c68 c69 c70) hZ (hw _ (List.mem_of_getElem? (i := 18) rfl)) (hw _ (List.mem_of_getElem? (i := 3) rfl)) (by decide) (by decide)) qa79 qc79 (g := (mkF mM 164 #[.val (.long l1), .second, .val (.int c1), .val (.long l2), .second, .val (.int c2), .val (.int mo), .val (.int z2), .val (.long j7), .second, .val (.int j13), .val (.ref b17), .val (.ref b26), .val (.int (1 : Int32))] [(.ref b17), (.ref b26)])) rfl (by rw [hml]; rfl) (Steps.refl _) (argsL := [(.ref b17)]) (rest := []) (lenOf pd_3 rfl) rfl (by show 2 * 0 + _ ≤ _; exact Nat.le_of_eq rfl) (hb hby at_164) (fun _ _ => ⟨rfl, e73, (by decide : 2 + 0 ≤ _), (by decide : 4 + 0 ≤ _)⟩)
          dsimp only [Pt.U, Pt.locs, Pt.cells, Pt.slots] at X79 l79 y79 z79 st79 hQ79
          subst l79 y79 z79
          obtain ⟨r79, rfl, hr79, Nq79, e79⟩ := hQ79
          have N79 := Fr.app N73 Nq79
          have pr80 : ∀ tg, Steps pP.tables eE below (T79.setTop (mkF mM 167 #[.val (.long l1), .second, .val (.int c1), .val (.long l2), .second, .val (.int c2), .val (.int mo), .val (.int z2), .val (.long j7), .second, .val (.int j13), .val (.ref b17), .val (.ref b26), .val (.int (1 : Int32))] [(.int r79)])) tg → Steps pP.tables eE below (s₁.setTop (entryFrame mM #[(.long l1), (.int c1), (.long l2), (.int c2), (.int mo)] maxLocals)) tg := fun tg kg => pr78 _ (st79.trans kg)
          have pr81 : ∀ tg, Steps pP.tables eE below (T79.setTop (mkF mM 169 #[.val (.long l1), .second, .val (.int c1), .val (.long l2), .second, .val (.int c2), .val (.int mo), .val (.int z2), .val (.long j7), .second, .val (.int j13), .val (.ref b17), .val (.ref b26), .val (.int (1 : Int32))] [(.int (1 : Int32)), (.int r79)])) tg → Steps pP.tables eE below (s₁.setTop (entryFrame mM #[(.long l1), (.int c1), (.long l2), (.int c2), (.int mo)] maxLocals)) tg := fun tg kg => pr80 _ (by
            show Steps pP.tables eE below (T79.setTop (mkF mM 167 #[.val (.long l1), .second, .val (.int c1), .val (.long l2), .second, .val (.int c2), .val (.int mo), .val (.int z2), .val (.long j7), .second, .val (.int j13), .val (.ref b17), .val (.ref b26), .val (.int (1 : Int32))] [(.int r79)])) _
            refine XS.iload X79.here hx rfl (hb hby at_167) rfl ?_
            exact kg)
          rw [if_pos (Eq.symm hd76)] at hr79
          rw [if_pos (Eq.symm hd77)] at hr79
          subst hr79
          have pr82 : ∀ tg, Steps pP.tables eE below (T79.setTop (mkF mM 177 #[.val (.long l1), .second, .val (.int c1), .val (.long l2), .second, .val (.int c2), .val (.int mo), .val (.int z2), .val (.long j7), .second, .val (.int j13), .val (.ref b17), .val (.ref b26), .val (.int (1 : Int32))] [(.int (1 : Int32))])) tg → Steps pP.tables eE below (s₁.setTop (entryFrame mM #[(.long l1), (.int c1), (.long l2), (.int c2), (.int mo)] maxLocals)) tg := fun tg kg => pr81 _ (by
            show Steps pP.tables eE below (T79.setTop (mkF mM 169 #[.val (.long l1), .second, .val (.int c1), .val (.long l2), .second, .val (.int c2), .val (.int mo), .val (.int z2), .val (.long j7), .second, .val (.int j13), .val (.ref b17), .val (.ref b26), .val (.int (1 : Int32))] [(.int (1 : Int32)), (.int (1 : Int32))])) _
            refine XS.icmpNo X79.here hx rfl (hb hby at_169) rfl (teq (by decide)).2 ?_
            show Steps pP.tables eE below (T79.setTop (mkF mM 172 #[.val (.long l1), .second, .val (.int c1), .val (.long l2), .second, .val (.int c2), .val (.int mo), .val (.int z2), .val (.long j7), .second, .val (.int j13), .val (.ref b17), .val (.ref b26), .val (.int (1 : Int32))] [])) _
            refine XS.iconst X79.here hx rfl (hb hby at_172) ?_
            show Steps pP.tables eE below (T79.setTop (mkF mM 173 #[.val (.long l1), .second, .val (.int c1), .val (.long l2), .second, .val (.int c2), .val (.int mo), .val (.int z2), .val (.long j7), .second, .val (.int j13), .val (.ref b17), .val (.ref b26), .val (.int (1 : Int32))] [(.int (1 : Int32))])) _
            refine XS.goto X79.here hx rfl (pc0 := 173) (pc' := 177) rfl (hb hby at_173) (by decide) (by decide) ?_
            exact kg)
          obtain ⟨fs, hr, hrun, hended, hW, hsame⟩ := X79.leave (v := some (.int (1 : Int32))) (fun h => by rw [Bd.returns] at h; cases h)
          refine ⟨_, _, pr82 _ (retOut X79 hx (t := .boolean) Bd.returns rfl (Or.inl ⟨rfl, Or.inr (Or.inl rfl), _, rfl⟩) (hb hby at_177) hr), hrun, hended, _, _, rfl, ?_, ⟨_, rfl⟩, hW, hsame.mono (by decide) (by decide)⟩
          show Q0 Z l1 c1 l2 c2 mo ca cc h0 n0 _ T79.heap _
          rw [e79]
          exact ⟨rfl, N79⟩
        ·
          rw [if_neg hd77] at hj65
          subst hj65
          rw [if_pos hd76] at hr73
          rw [if_neg hd77] at hr73
          subst hr73
          have pr83 : ∀ tg, Steps pP.tables eE below (T73.setTop (mkF mM 164 #[.val (.long l1), .second, .val (.int c1), .val (.long l2), .second, .val (.int c2), .val (.int mo), .val (.int z2), .val (.long j7), .second, .val (.int j13), .val (.ref b17), .val (.ref b26), .val (.int (0 : Int32))] [(.ref b17), (.ref b26)])) tg → Steps pP.tables eE below (s₁.setTop (entryFrame mM #[(.long l1), (.int c1), (.long l2), (.int c2), (.int mo)] maxLocals)) tg := fun tg kg => pr75 _ (by
            show Steps pP.tables eE below (T73.setTop (mkF mM 157 #[.val (.long l1), .second, .val (.int c1), .val (.long l2), .second, .val (.int c2), .val (.int mo), .val (.int z2), .val (.long j7), .second, .val (.int j13), .val (.ref b17), .val (.ref b26), .val (.int (0 : Int32))] [(.int (0 : Int32)), (.int (0 : Int32))])) _
            refine XS.icmpNo X73.here hx rfl (hb hby at_157) rfl (teq (by decide)).2 ?_
            show Steps pP.tables eE below (T73.setTop (mkF mM 160 #[.val (.long l1), .second, .val (.int c1), .val (.long l2), .second, .val (.int c2), .val (.int mo), .val (.int z2), .val (.long j7), .second, .val (.int j13), .val (.ref b17), .val (.ref b26), .val (.int (0 : Int32))] [])) _
            refine XS.aload X73.here hx rfl (hb hby at_160) rfl rfl ?_
            show Steps pP.tables eE below (T73.setTop (mkF mM 162 #[.val (.long l1), .second, .val (.int c1), .val (.long l2), .second, .val (.int c2), .val (.int mo), .val (.int z2), .val (.long j7), .second, .val (.int j13), .val (.ref b17), .val (.ref b26), .val (.int (0 : Int32))] [(.ref b26)])) _
            refine XS.aload X73.here hx rfl (hb hby at_162) rfl rfl ?_
            exact kg)
          obtain ⟨cq84, kq84, qa84, qb84, qc84⟩ := isOf hZ e73 E35
          obtain ⟨_, _, ⟨T84, L84, kk84, nn84⟩, -, X84, ⟨Lc84, hQ84, l84, y84, z84⟩, st84⟩ := X73.virtualBack hx (y := (⟨"com/example/settle/settle/service/FileSum", "equals", "(Ljava/lang/Object;)Z"⟩ : MethodName)) (z := (⟨"com/example/settle/settle/service/FileSum", "equals", "(Ljava/lang/Object;)Z"⟩ : MethodName)) hown (mvT hZ (hw _ (List.mem_of_getElem? (i := 14) rfl))) (mvT hZ (hw _ (List.mem_of_getElem? (i := 15) rfl))) (notFace_of_selects (args := #[]) (mvT hZ (hw _ (List.mem_of_getElem? (i := 17) rfl)))) (mvT hZ (hw _ (List.mem_of_getElem? (i := 17) rfl))) (mvT hZ (hw _ (List.mem_of_getElem? (i := 16) rfl))) (by decide) (backOf (W := 0) (rm5 l Z a0 hw [] b26 b17 j7 j13 l1 c1 T35.heap n0 c72 E35 F35_0 F35_1 c68 c69 c70) hZ (hw _ (List.mem_of_getElem? (i := 18) rfl)) (hw _ (List.mem_of_getElem? (i := 3) rfl)) (by decide) (by decide)) qa84 qc84 (g := (mkF mM 164 #[.val (.long l1), .second, .val (.int c1), .val (.long l2), .second, .val (.int c2), .val (.int mo), .val (.int z2), .val (.long j7), .second, .val (.int j13), .val (.ref b17), .val (.ref b26), .val (.int (0 : Int32))] [(.ref b17), (.ref b26)])) rfl (by rw [hml]; rfl) (Steps.refl _) (argsL := [(.ref b17)]) (rest := []) (lenOf pd_3 rfl) rfl (by show 2 * 0 + _ ≤ _; exact Nat.le_of_eq rfl) (hb hby at_164) (fun _ _ => ⟨rfl, e73, (by decide : 2 + 0 ≤ _), (by decide : 4 + 0 ≤ _)⟩)
          dsimp only [Pt.U, Pt.locs, Pt.cells, Pt.slots] at X84 l84 y84 z84 st84 hQ84
          subst l84 y84 z84
          obtain ⟨r84, rfl, hr84, Nq84, e84⟩ := hQ84
          have N84 := Fr.app N73 Nq84
          have pr85 : ∀ tg, Steps pP.tables eE below (T84.setTop (mkF mM 167 #[.val (.long l1), .second, .val (.int c1), .val (.long l2), .second, .val (.int c2), .val (.int mo), .val (.int z2), .val (.long j7), .second, .val (.int j13), .val (.ref b17), .val (.ref b26), .val (.int (0 : Int32))] [(.int r84)])) tg → Steps pP.tables eE below (s₁.setTop (entryFrame mM #[(.long l1), (.int c1), (.long l2), (.int c2), (.int mo)] maxLocals)) tg := fun tg kg => pr83 _ (st84.trans kg)
          have pr86 : ∀ tg, Steps pP.tables eE below (T84.setTop (mkF mM 169 #[.val (.long l1), .second, .val (.int c1), .val (.long l2), .second, .val (.int c2), .val (.int mo), .val (.int z2), .val (.long j7), .second, .val (.int j13), .val (.ref b17), .val (.ref b26), .val (.int (0 : Int32))] [(.int (0 : Int32)), (.int r84)])) tg → Steps pP.tables eE below (s₁.setTop (entryFrame mM #[(.long l1), (.int c1), (.long l2), (.int c2), (.int mo)] maxLocals)) tg := fun tg kg => pr85 _ (by
            show Steps pP.tables eE below (T84.setTop (mkF mM 167 #[.val (.long l1), .second, .val (.int c1), .val (.long l2), .second, .val (.int c2), .val (.int mo), .val (.int z2), .val (.long j7), .second, .val (.int j13), .val (.ref b17), .val (.ref b26), .val (.int (0 : Int32))] [(.int r84)])) _
            refine XS.iload X84.here hx rfl (hb hby at_167) rfl ?_
            exact kg)
          rw [if_pos (Eq.symm hd76)] at hr84
          rw [if_neg (fun q => hd77 q.symm)] at hr84
          subst hr84
          have pr87 : ∀ tg, Steps pP.tables eE below (T84.setTop (mkF mM 177 #[.val (.long l1), .second, .val (.int c1), .val (.long l2), .second, .val (.int c2), .val (.int mo), .val (.int z2), .val (.long j7), .second, .val (.int j13), .val (.ref b17), .val (.ref b26), .val (.int (0 : Int32))] [(.int (1 : Int32))])) tg → Steps pP.tables eE below (s₁.setTop (entryFrame mM #[(.long l1), (.int c1), (.long l2), (.int c2), (.int mo)] maxLocals)) tg := fun tg kg => pr86 _ (by
            show Steps pP.tables eE below (T84.setTop (mkF mM 169 #[.val (.long l1), .second, .val (.int c1), .val (.long l2), .second, .val (.int c2), .val (.int mo), .val (.int z2), .val (.long j7), .second, .val (.int j13), .val (.ref b17), .val (.ref b26), .val (.int (0 : Int32))] [(.int (0 : Int32)), (.int (0 : Int32))])) _
            refine XS.icmpNo X84.here hx rfl (hb hby at_169) rfl (teq (by decide)).2 ?_
            show Steps pP.tables eE below (T84.setTop (mkF mM 172 #[.val (.long l1), .second, .val (.int c1), .val (.long l2), .second, .val (.int c2), .val (.int mo), .val (.int z2), .val (.long j7), .second, .val (.int j13), .val (.ref b17), .val (.ref b26), .val (.int (0 : Int32))] [])) _
            refine XS.iconst X84.here hx rfl (hb hby at_172) ?_
            show Steps pP.tables eE below (T84.setTop (mkF mM 173 #[.val (.long l1), .second, .val (.int c1), .val (.long l2), .second, .val (.int c2), .val (.int mo), .val (.int z2), .val (.long j7), .second, .val (.int j13), .val (.ref b17), .val (.ref b26), .val (.int (0 : Int32))] [(.int (1 : Int32))])) _
            refine XS.goto X84.here hx rfl (pc0 := 173) (pc' := 177) rfl (hb hby at_173) (by decide) (by decide) ?_
            exact kg)
          obtain ⟨fs, hr, hrun, hended, hW, hsame⟩ := X84.leave (v := some (.int (1 : Int32))) (fun h => by rw [Bd.returns] at h; cases h)
          refine ⟨_, _, pr87 _ (retOut X84 hx (t := .boolean) Bd.returns rfl (Or.inl ⟨rfl, Or.inr (Or.inl rfl), _, rfl⟩) (hb hby at_177) hr), hrun, hended, _, _, rfl, ?_, ⟨_, rfl⟩, hW, hsame.mono (by decide) (by decide)⟩
          show Q0 Z l1 c1 l2 c2 mo ca cc h0 n0 _ T84.heap _
          rw [e84]
          exact ⟨rfl, N84⟩
      ·
        rw [if_neg hd76] at hj65
        subst hj65
        rw [if_neg hd76] at hr73
        subst hr73
        have pr88 : ∀ tg, Steps pP.tables eE below (T73.setTop (mkF mM 164 #[.val (.long l1), .second, .val (.int c1), .val (.long l2), .second, .val (.int c2), .val (.int mo), .val (.int z2), .val (.long j7), .second, .val (.int j13), .val (.ref b17), .val (.ref b26), .val (.int (0 : Int32))] [(.ref b17), (.ref b26)])) tg → Steps pP.tables eE below (s₁.setTop (entryFrame mM #[(.long l1), (.int c1), (.long l2), (.int c2), (.int mo)] maxLocals)) tg := fun tg kg => pr75 _ (by
          show Steps pP.tables eE below (T73.setTop (mkF mM 157 #[.val (.long l1), .second, .val (.int c1), .val (.long l2), .second, .val (.int c2), .val (.int mo), .val (.int z2), .val (.long j7), .second, .val (.int j13), .val (.ref b17), .val (.ref b26), .val (.int (0 : Int32))] [(.int (0 : Int32)), (.int (0 : Int32))])) _
          refine XS.icmpNo X73.here hx rfl (hb hby at_157) rfl (teq (by decide)).2 ?_
          show Steps pP.tables eE below (T73.setTop (mkF mM 160 #[.val (.long l1), .second, .val (.int c1), .val (.long l2), .second, .val (.int c2), .val (.int mo), .val (.int z2), .val (.long j7), .second, .val (.int j13), .val (.ref b17), .val (.ref b26), .val (.int (0 : Int32))] [])) _
          refine XS.aload X73.here hx rfl (hb hby at_160) rfl rfl ?_
          show Steps pP.tables eE below (T73.setTop (mkF mM 162 #[.val (.long l1), .second, .val (.int c1), .val (.long l2), .second, .val (.int c2), .val (.int mo), .val (.int z2), .val (.long j7), .second, .val (.int j13), .val (.ref b17), .val (.ref b26), .val (.int (0 : Int32))] [(.ref b26)])) _
          refine XS.aload X73.here hx rfl (hb hby at_162) rfl rfl ?_
          exact kg)
        obtain ⟨cq89, kq89, qa89, qb89, qc89⟩ := isOf hZ e73 E35
        obtain ⟨_, _, ⟨T89, L89, kk89, nn89⟩, -, X89, ⟨Lc89, hQ89, l89, y89, z89⟩, st89⟩ := X73.virtualBack hx (y := (⟨"com/example/settle/settle/service/FileSum", "equals", "(Ljava/lang/Object;)Z"⟩ : MethodName)) (z := (⟨"com/example/settle/settle/service/FileSum", "equals", "(Ljava/lang/Object;)Z"⟩ : MethodName)) hown (mvT hZ (hw _ (List.mem_of_getElem? (i := 14) rfl))) (mvT hZ (hw _ (List.mem_of_getElem? (i := 15) rfl))) (notFace_of_selects (args := #[]) (mvT hZ (hw _ (List.mem_of_getElem? (i := 17) rfl)))) (mvT hZ (hw _ (List.mem_of_getElem? (i := 17) rfl))) (mvT hZ (hw _ (List.mem_of_getElem? (i := 16) rfl))) (by decide) (backOf (W := 0) (rm5 l Z a0 hw [] b26 b17 j7 j13 l1 c1 T35.heap n0 c72 E35 F35_0 F35_1 c68 c69 c70) hZ (hw _ (List.mem_of_getElem? (i := 18) rfl)) (hw _ (List.mem_of_getElem? (i := 3) rfl)) (by decide) (by decide)) qa89 qc89 (g := (mkF mM 164 #[.val (.long l1), .second, .val (.int c1), .val (.long l2), .second, .val (.int c2), .val (.int mo), .val (.int z2), .val (.long j7), .second, .val (.int j13), .val (.ref b17), .val (.ref b26), .val (.int (0 : Int32))] [(.ref b17), (.ref b26)])) rfl (by rw [hml]; rfl) (Steps.refl _) (argsL := [(.ref b17)]) (rest := []) (lenOf pd_3 rfl) rfl (by show 2 * 0 + _ ≤ _; exact Nat.le_of_eq rfl) (hb hby at_164) (fun _ _ => ⟨rfl, e73, (by decide : 2 + 0 ≤ _), (by decide : 4 + 0 ≤ _)⟩)
        dsimp only [Pt.U, Pt.locs, Pt.cells, Pt.slots] at X89 l89 y89 z89 st89 hQ89
        subst l89 y89 z89
        obtain ⟨r89, rfl, hr89, Nq89, e89⟩ := hQ89
        have N89 := Fr.app N73 Nq89
        have pr90 : ∀ tg, Steps pP.tables eE below (T89.setTop (mkF mM 167 #[.val (.long l1), .second, .val (.int c1), .val (.long l2), .second, .val (.int c2), .val (.int mo), .val (.int z2), .val (.long j7), .second, .val (.int j13), .val (.ref b17), .val (.ref b26), .val (.int (0 : Int32))] [(.int r89)])) tg → Steps pP.tables eE below (s₁.setTop (entryFrame mM #[(.long l1), (.int c1), (.long l2), (.int c2), (.int mo)] maxLocals)) tg := fun tg kg => pr88 _ (st89.trans kg)
        have pr91 : ∀ tg, Steps pP.tables eE below (T89.setTop (mkF mM 169 #[.val (.long l1), .second, .val (.int c1), .val (.long l2), .second, .val (.int c2), .val (.int mo), .val (.int z2), .val (.long j7), .second, .val (.int j13), .val (.ref b17), .val (.ref b26), .val (.int (0 : Int32))] [(.int (0 : Int32)), (.int r89)])) tg → Steps pP.tables eE below (s₁.setTop (entryFrame mM #[(.long l1), (.int c1), (.long l2), (.int c2), (.int mo)] maxLocals)) tg := fun tg kg => pr90 _ (by
          show Steps pP.tables eE below (T89.setTop (mkF mM 167 #[.val (.long l1), .second, .val (.int c1), .val (.long l2), .second, .val (.int c2), .val (.int mo), .val (.int z2), .val (.long j7), .second, .val (.int j13), .val (.ref b17), .val (.ref b26), .val (.int (0 : Int32))] [(.int r89)])) _
          refine XS.iload X89.here hx rfl (hb hby at_167) rfl ?_
          exact kg)
        rw [if_neg (fun q => hd76 q.symm)] at hr89
        subst hr89
        have pr92 : ∀ tg, Steps pP.tables eE below (T89.setTop (mkF mM 177 #[.val (.long l1), .second, .val (.int c1), .val (.long l2), .second, .val (.int c2), .val (.int mo), .val (.int z2), .val (.long j7), .second, .val (.int j13), .val (.ref b17), .val (.ref b26), .val (.int (0 : Int32))] [(.int (1 : Int32))])) tg → Steps pP.tables eE below (s₁.setTop (entryFrame mM #[(.long l1), (.int c1), (.long l2), (.int c2), (.int mo)] maxLocals)) tg := fun tg kg => pr91 _ (by
          show Steps pP.tables eE below (T89.setTop (mkF mM 169 #[.val (.long l1), .second, .val (.int c1), .val (.long l2), .second, .val (.int c2), .val (.int mo), .val (.int z2), .val (.long j7), .second, .val (.int j13), .val (.ref b17), .val (.ref b26), .val (.int (0 : Int32))] [(.int (0 : Int32)), (.int (0 : Int32))])) _
          refine XS.icmpNo X89.here hx rfl (hb hby at_169) rfl (teq (by decide)).2 ?_
          show Steps pP.tables eE below (T89.setTop (mkF mM 172 #[.val (.long l1), .second, .val (.int c1), .val (.long l2), .second, .val (.int c2), .val (.int mo), .val (.int z2), .val (.long j7), .second, .val (.int j13), .val (.ref b17), .val (.ref b26), .val (.int (0 : Int32))] [])) _
          refine XS.iconst X89.here hx rfl (hb hby at_172) ?_
          show Steps pP.tables eE below (T89.setTop (mkF mM 173 #[.val (.long l1), .second, .val (.int c1), .val (.long l2), .second, .val (.int c2), .val (.int mo), .val (.int z2), .val (.long j7), .second, .val (.int j13), .val (.ref b17), .val (.ref b26), .val (.int (0 : Int32))] [(.int (1 : Int32))])) _
          refine XS.goto X89.here hx rfl (pc0 := 173) (pc' := 177) rfl (hb hby at_173) (by decide) (by decide) ?_
          exact kg)
        obtain ⟨fs, hr, hrun, hended, hW, hsame⟩ := X89.leave (v := some (.int (1 : Int32))) (fun h => by rw [Bd.returns] at h; cases h)
        refine ⟨_, _, pr92 _ (retOut X89 hx (t := .boolean) Bd.returns rfl (Or.inl ⟨rfl, Or.inr (Or.inl rfl), _, rfl⟩) (hb hby at_177) hr), hrun, hended, _, _, rfl, ?_, ⟨_, rfl⟩, hW, hsame.mono (by decide) (by decide)⟩
        show Q0 Z l1 c1 l2 c2 mo ca cc h0 n0 _ T89.heap _
        rw [e89]
        exact ⟨rfl, N89⟩
set_option maxRecDepth 65536 in
set_option maxHeartbeats 40000000 in
theorem comes_1 {Post : Tables → Env → Array Value → State → Outcome → State → Prop} (hpost : ∀ tb e args s v u, (limb_1_1.after args s (.returned v) u = true ∧ limb_1_2.after args s (.returned v) u = true ∧ True) → FrameEnd s (.returned v) u (Jvm.fieldLocs frame_1_writes args s ++ Jvm.arrayLocs frame_1_arrays args s ++ Jvm.staticLocs frame_1_statics s) 16 128 → Post tb e args s (.returned v) u) :
    ArmFor flags0 classFile x code maxLocals ret World_1 tables_1 room_1 Calls_1 rest_1 Pre_1 Post := by
  intro l hfl _ _ p e ha hc hk s m args below hf hA hF happ hP
  obtain ⟨hcalls, hrest, hpre⟩ := hP
  obtain ⟨-, -, -, hnamed, -, -, -, hat⟩ := (Spec.applies_iff hf).mp happ
  obtain ⟨hg, hn⟩ := and_e (Cond.before_iff.mp (show (Jvm.Cond.and given_1 narrow_1).before args s = true from hpre))
  obtain ⟨n1, n2⟩ := and_e hg
  obtain ⟨n3, n4⟩ := and_e n2
  obtain ⟨n5, n6⟩ := and_e n4
  obtain ⟨n7, n8⟩ := and_e n6
  obtain ⟨n9, n10⟩ := and_e n8
  obtain ⟨w0, w1, w2, w3, w4, rfl⟩ : ∃ w0 w1 w2 w3 w4 : Value, args = #[w0, w1, w2, w3, w4] := by
    have hs : args.size = 5 := by simpa [Cond.value, given_1] using n1
    obtain ⟨L⟩ := args
    match L, hs with
    | [w0, w1, w2, w3, w4], _ => exact ⟨w0, w1, w2, w3, w4, rfl⟩
  have hw := fun d (hd : d ∈ tables_1) => atoms_spec (ws := Jvm.Cond.code x code maxLocals ret :: tables_1) hat d (List.mem_cons_of_mem _ hd)
  have hfit : Fit s := fun {y c} hc i hi => by
    obtain ⟨ha, rfl⟩ := Array.getElem?_eq_some_iff.mp hc
    have q := List.all_eq_true.mp ((Array.all_eq_true_iff_forall_mem.mp hF) _ (Array.getElem_mem ha)) i (List.mem_range.mpr hi)
    simpa [Array.getElem?_eq_getElem hi] using q
  obtain ⟨hsets, hown0⟩ := atoms_of _ (rest_1_c_eq ▸ (show rest_1_c.before _ s = true from hrest))
  have hr0 := Cond.before_iff.mp hown0
  obtain ⟨i0, ei0⟩ := isL_v n3
  obtain rfl : w0 = (.long i0) := Option.some.inj ei0
  obtain ⟨i1, ei1⟩ := is_v n5
  obtain rfl : w1 = (.int i1) := Option.some.inj ei1
  obtain ⟨i2, ei2⟩ := isL_v n7
  obtain rfl : w2 = (.long i2) := Option.some.inj ei2
  obtain ⟨i3, ei3⟩ := is_v n9
  obtain rfl : w3 = (.int i3) := Option.some.inj ei3
  obtain ⟨i4, ei4⟩ := is_v n10
  obtain rfl : w4 = (.int i4) := Option.some.inj ei4
  obtain ⟨ca, eca⟩ := arr_v (Cond.before_iff.mp (hsets _ (List.mem_of_getElem? (i := 2) rfl)))
  have S_cache : Sta s s.heap "java/lang/Long$LongCache" "cache" "[Ljava/lang/Long;" (.ref ca) := Sta.start eca (Or.inl (hsets _ (List.mem_of_getElem? (i := 1) rfl)))
  obtain ⟨cc, Acc⟩ := Arr.start eca (Cond.before_iff.mp (hsets _ (List.mem_of_getElem? (i := 2) rfl)))
  obtain ⟨hl1, hl2⟩ := own_len eca Acc (eqv_i (Term.int_eval (256)) (Cond.before_iff.mp (hsets _ (List.mem_of_getElem? (i := 4) rfl))))
  have Bx : Bxs s ca cc "java/lang/Long" "J" (256 : Int32) (fun j : Int32 => Value.long (j - 128).toInt64) := Bxs.start (fun idx => eca) Acc hl1 hl2 (by decide) (Cond.before_iff.mp (hsets _ (List.mem_of_getElem? (i := 5) rfl))) (fun X j hj hq => (eqv_l (i2l_at (Term.sub_int (idx_at hj) (Term.int_eval (128)))) hq))
  obtain ⟨n, o, h1, h2, h3, _, L, rfl, ⟨rfl, N⟩, hq⟩ := rm0 l s _ hw tables_1 i0 i1 i2 i3 i4 ca cc s.heap s.heap.size (Nat.le_refl _) (Old.start s) S_cache Bx p e ha hc hk s m _ below hf ((Spec.applies_iff_loose hf).mp happ).1 ⟨rfl, State.Warmed39.refl s, rfl⟩ trivial
  refine ⟨n, _, h1, h2, h3, hpost _ _ _ _ _ _ ⟨Cond.after_iff.mpr rfl, Cond.after_iff.mpr (eq_i res_at (Term.int_eval (1)) rfl), trivial⟩ ⟨hq.1, hq.2.1, (hq.2.2.sift fun y hy => Or.inr (N y hy)).mono (by decide) (by decide)⟩⟩
theorem main_1_1 : Claimed_1_1 := comes_1 fun _ _ _ _ _ _ h hF => ⟨h.1, hF⟩
theorem main_1_2 : Claimed_1_2 := comes_1 fun _ _ _ _ _ _ h hF => ⟨h.2.1, hF⟩
end Jvm.Pilot.@@N@@
namespace Jvm.Pilot.@@N@@
open Jvm Jvm.ClassFile Sem Op Lib Jvm.Free Jvm.Stand Jvm.Pilot.@@N@@.Jvm.D
/-! MADE BY PROGRAM (witnessworld.py) out of the Statement's table words and the real class files: 16 classes; the members and pool entries that the words name. The judged class is class 1, her method 1. -/
namespace start1
open Jvm.ClassFile
def u (s : String) : CpInfo := .utf8 (stringToUtf16 s)
/-- a pool by its gaps: so many unusable entries, then the entry; so many at the end -/
def gap : Nat → List CpInfo → List CpInfo
  | 0, r => r
  | n + 1, r => .unusable :: gap n r
def poolList (es : List (Nat × CpInfo)) (last : Nat) : List CpInfo := es.foldr (fun e r => gap e.1 (e.2 :: r)) (gap last [])
def pool (es : List (Nat × CpInfo)) (last : Nat) : Array CpInfo := ⟨poolList es last⟩
def fileOf (pool : Array CpInfo) (this : Nat) (attrs : Array Attribute := #[]) (ms : Array MethodInfo := #[]) (fl : Nat := 33) (sup : Nat := 0) (ifs : Array Nat := #[]) (fds : Array FieldInfo := #[]) : ClassFile where
  minorVersion := 0
  majorVersion := 65
  constantPool := pool
  accessFlags := fl
  thisClass := this
  superClass := sup
  interfaces := ifs
  fields := fds
  methods := ms
  attributes := attrs
def plain (name : String) (sup : Option ClassId) : Class where
  name := name
  kind := .ordinary
  loader := none
  accessFlags := 33
  super := sup
  interfaces := #[]
  cf := none
  fields := #[]
  methods := #[]
  instanceTypes := #[]
  staticTypes := #[]
  resolved := #[]
  callSites := []
  init := .initialized
  statics := none
  mirror := none

def pool0 : Array CpInfo := pool [(5, u "<init>"), (0, u "()V"), (1, .class_ 10), (1, u "java/lang/Object")] 113

def k0c0 : Code := { maxStack := 0, maxLocals := 1, code := object_method_1_code, exceptionTable := #[], attributes := #[] }
def k0m0 : Method := { name := "<init>", desc := "()V", sig := { parameters := [], returnType := none }, accessFlags := 1, code := some k0c0 }
/-- java/lang/Object -/
def k0 : Class := { plain "java/lang/Object" none with
  accessFlags := 33
  interfaces := #[]
  cf := some (fileOf pool0 8 #[] #[{ accessFlags := 1, nameIndex := 5, descriptorIndex := 6, attributes := #[] }] 33 0 #[] #[])
  fields := #[]
  methods := #[k0m0]
  instanceTypes := #[]
  staticTypes := #[]
  resolved := Array.replicate 124 none
  statics := none }

def pool1 : Array CpInfo := pool [(2, .class_ 4), (1, u "java/lang/Object"), (0, u "<init>"), (0, u "()V"), (0, .integer 2147483647), (0, .class_ 9), (0, u "com/example/settle/settle/service/FileSum"), (0, .methodref 8 11), (0, .nameAndType 5 12), (0, u "(JI)V"), (0, .methodref 8 14), (0, .nameAndType 15 16), (0, u "equals"), (0, u "(Ljava/lang/Object;)Z"), (0, .methodref 18 19), (0, .class_ 20), (0, .nameAndType 21 22), (0, u "java/lang/Long"), (0, u "valueOf"), (0, u "(J)Ljava/lang/Long;"), (0, .class_ 24), (0, u "com/example/settle/settle/service/FileSumEqualsPinLaw"), (2, u "law"), (0, u "(JIJII)Z")] 3

def k1m0 : Method := { name := "<init>", desc := "()V", sig := { parameters := [], returnType := none }, accessFlags := 1, code := none }
def k1c1 : Code := { maxStack := 5, maxLocals := 14, code := code, exceptionTable := #[], attributes := #[] }
def k1m1 : Method := { name := "law", desc := "(JIJII)Z", sig := { parameters := [.long, .int, .long, .int, .int], returnType := some .boolean }, accessFlags := 9, code := some k1c1 }
/-- com/example/settle/settle/service/FileSumEqualsPinLaw -/
def k1 : Class := { plain "com/example/settle/settle/service/FileSumEqualsPinLaw" (some 0) with
  accessFlags := 49
  interfaces := #[]
  cf := some (fileOf pool1 23 #[] #[{ accessFlags := 1, nameIndex := 5, descriptorIndex := 6, attributes := #[] }, { accessFlags := 9, nameIndex := 27, descriptorIndex := 28, attributes := #[] }] 49 2 #[] #[])
  fields := #[]
  methods := #[k1m0, k1m1]
  instanceTypes := #[]
  staticTypes := #[]
  resolved := Array.replicate 32 none
  statics := none }

def pool2 : Array CpInfo := pool [(1, .methodref 2 3), (0, .class_ 4), (0, .nameAndType 5 6), (0, u "java/lang/Object"), (0, u "<init>"), (0, u "()V"), (0, .fieldref 8 9), (0, .class_ 10), (0, .nameAndType 11 12), (0, u "com/example/settle/settle/service/FileSum"), (0, u "length"), (0, u "J"), (0, .fieldref 8 14), (0, .nameAndType 15 16), (0, u "crc"), (0, u "I"), (24, u "(JI)V"), (71, u "equals"), (0, u "(Ljava/lang/Object;)Z")] 2

def k2c0 : Code := { maxStack := 3, maxLocals := 4, code := prog_46_method_1_code, exceptionTable := #[], attributes := #[] }
def k2m0 : Method := { name := "<init>", desc := "(JI)V", sig := { parameters := [.long, .int], returnType := none }, accessFlags := 0, code := some k2c0 }
def k2c1 : Code := { maxStack := 4, maxLocals := 3, code := prog_46_method_6_code, exceptionTable := #[], attributes := #[] }
def k2m1 : Method := { name := "equals", desc := "(Ljava/lang/Object;)Z", sig := { parameters := [(.object "java/lang/Object")], returnType := some .boolean }, accessFlags := 1, code := some k2c1 }
/-- com/example/settle/settle/service/FileSum -/
def k2 : Class := { plain "com/example/settle/settle/service/FileSum" (some 0) with
  accessFlags := 32
  interfaces := #[]
  cf := some (fileOf pool2 8 #[] #[{ accessFlags := 0, nameIndex := 5, descriptorIndex := 41, attributes := #[] }, { accessFlags := 1, nameIndex := 113, descriptorIndex := 114, attributes := #[] }] 32 2 #[] #[{ accessFlags := 18, nameIndex := 11, descriptorIndex := 12, attributes := #[] }, { accessFlags := 18, nameIndex := 15, descriptorIndex := 16, attributes := #[] }])
  fields := #[{ name := "length", type := .long, accessFlags := 18, slot := 0, constantValue := 0 }, { name := "crc", type := .int, accessFlags := 18, slot := 1, constantValue := 0 }]
  methods := #[k2m0, k2m1]
  instanceTypes := #[.long, .int]
  staticTypes := #[]
  resolved := Array.replicate 117 none
  statics := none }

def pool3 : Array CpInfo := pool [(1, .class_ 2), (0, u "java/io/Serializable"), (0, .class_ 4), (0, u "java/lang/Object")] 2

/-- java/io/Serializable -/
def k3 : Class := { plain "java/io/Serializable" (some 0) with
  accessFlags := 1537
  interfaces := #[]
  cf := some (fileOf pool3 1 #[] #[] 1537 3 #[] #[])
  fields := #[]
  methods := #[]
  instanceTypes := #[]
  staticTypes := #[]
  resolved := Array.replicate 7 none
  statics := none }

def pool4 : Array CpInfo := pool [(1, .methodref 2 3), (0, .class_ 4), (0, .nameAndType 5 6), (0, u "java/lang/Object"), (0, u "<init>"), (0, u "()V"), (1, .class_ 10), (1, u "java/lang/Number"), (2, .class_ 14), (0, u "java/io/Serializable"), (0, u "serialVersionUID"), (0, u "J")] 20

def k4c0 : Code := { maxStack := 1, maxLocals := 1, code := jdk_18_method_1_code, exceptionTable := #[], attributes := #[] }
def k4m0 : Method := { name := "<init>", desc := "()V", sig := { parameters := [], returnType := none }, accessFlags := 1, code := some k4c0 }
/-- java/lang/Number -/
def k4 : Class := { plain "java/lang/Number" (some 0) with
  accessFlags := 1057
  interfaces := #[3]
  cf := some (fileOf pool4 8 #[] #[{ accessFlags := 1, nameIndex := 5, descriptorIndex := 6, attributes := #[] }] 1057 2 #[13] #[{ accessFlags := 26, nameIndex := 15, descriptorIndex := 16, attributes := #[] }])
  fields := #[{ name := "serialVersionUID", type := .long, accessFlags := 26, slot := 0, constantValue := 0 }]
  methods := #[k4m0]
  instanceTypes := #[]
  staticTypes := #[.long]
  resolved := Array.replicate 37 none
  statics := none }

def pool5 : Array CpInfo := pool [(1, .class_ 2), (0, u "java/lang/Comparable"), (0, .class_ 4), (0, u "java/lang/Object")] 7

/-- java/lang/Comparable -/
def k5 : Class := { plain "java/lang/Comparable" (some 0) with
  accessFlags := 1537
  interfaces := #[]
  cf := some (fileOf pool5 1 #[] #[] 1537 3 #[] #[])
  fields := #[]
  methods := #[]
  instanceTypes := #[]
  staticTypes := #[]
  resolved := Array.replicate 12 none
  statics := none }

def pool6 : Array CpInfo := pool [(1, .class_ 2), (0, u "java/lang/constant/Constable"), (0, .class_ 4), (0, u "java/lang/Object")] 6

/-- java/lang/constant/Constable -/
def k6 : Class := { plain "java/lang/constant/Constable" (some 0) with
  accessFlags := 1537
  interfaces := #[]
  cf := some (fileOf pool6 1 #[] #[] 1537 3 #[] #[])
  fields := #[]
  methods := #[]
  instanceTypes := #[]
  staticTypes := #[]
  resolved := Array.replicate 11 none
  statics := none }

def pool7 : Array CpInfo := pool [(1, .class_ 2), (0, u "java/lang/constant/ConstantDesc"), (0, .class_ 4), (0, u "java/lang/Object")] 32

/-- java/lang/constant/ConstantDesc -/
def k7 : Class := { plain "java/lang/constant/ConstantDesc" (some 0) with
  accessFlags := 1537
  interfaces := #[]
  cf := some (fileOf pool7 1 #[] #[] 1537 3 #[] #[])
  fields := #[]
  methods := #[]
  instanceTypes := #[]
  staticTypes := #[]
  resolved := Array.replicate 37 none
  statics := none }

def pool8 : Array CpInfo := pool [(1, .class_ 2), (0, u "java/lang/Long"), (55, .nameAndType 59 60), (0, u "<init>"), (0, u "()V"), (24, u "valueOf"), (143, u "(J)Ljava/lang/Long;"), (0, .long 18446744073709551488), (1, .long 127), (1, .fieldref 235 236), (0, .class_ 237), (0, .nameAndType 238 239), (0, u "java/lang/Long$LongCache"), (0, u "cache"), (0, u "[Ljava/lang/Long;"), (0, .methodref 1 241), (0, .nameAndType 59 242), (0, u "(J)V"), (27, .methodref 271 58), (0, .class_ 272), (0, u "java/lang/Number"), (0, .fieldref 1 274), (0, .nameAndType 275 276), (0, u "value"), (0, u "J"), (84, u "TYPE"), (0, u "Ljava/lang/Class;"), (0, .class_ 364), (0, u "java/lang/Comparable"), (0, .class_ 366), (0, u "java/lang/constant/Constable"), (0, .class_ 368), (0, u "java/lang/constant/ConstantDesc"), (0, u "MIN_VALUE"), (1, u "MAX_VALUE"), (4, u "SIZE"), (0, u "I"), (1, u "BYTES"), (1, u "serialVersionUID")] 142

def k8c0 : Code := { maxStack := 4, maxLocals := 3, code := jdk_35_method_24_code, exceptionTable := #[], attributes := #[] }
def k8m0 : Method := { name := "valueOf", desc := "(J)Ljava/lang/Long;", sig := { parameters := [.long], returnType := some (.object "java/lang/Long") }, accessFlags := 9, code := some k8c0 }
def k8c1 : Code := { maxStack := 3, maxLocals := 3, code := jdk_35_method_26_code, exceptionTable := #[], attributes := #[] }
def k8m1 : Method := { name := "<init>", desc := "(J)V", sig := { parameters := [.long], returnType := none }, accessFlags := 1, code := some k8c1 }
/-- java/lang/Long -/
def k8 : Class := { plain "java/lang/Long" (some 4) with
  accessFlags := 49
  interfaces := #[5, 6, 7]
  cf := some (fileOf pool8 1 #[.nestMembers #[235]] #[{ accessFlags := 9, nameIndex := 85, descriptorIndex := 229, attributes := #[] }, { accessFlags := 1, nameIndex := 59, descriptorIndex := 242, attributes := #[] }] 49 271 #[363, 365, 367] #[{ accessFlags := 25, nameIndex := 369, descriptorIndex := 276, attributes := #[] }, { accessFlags := 25, nameIndex := 371, descriptorIndex := 276, attributes := #[] }, { accessFlags := 25, nameIndex := 361, descriptorIndex := 362, attributes := #[] }, { accessFlags := 18, nameIndex := 275, descriptorIndex := 276, attributes := #[] }, { accessFlags := 25, nameIndex := 376, descriptorIndex := 377, attributes := #[] }, { accessFlags := 25, nameIndex := 379, descriptorIndex := 377, attributes := #[] }, { accessFlags := 26, nameIndex := 381, descriptorIndex := 276, attributes := #[] }])
  fields := #[{ name := "MIN_VALUE", type := .long, accessFlags := 25, slot := 0, constantValue := 0 }, { name := "MAX_VALUE", type := .long, accessFlags := 25, slot := 1, constantValue := 0 }, { name := "TYPE", type := (.object "java/lang/Class"), accessFlags := 25, slot := 2, constantValue := 0 }, { name := "value", type := .long, accessFlags := 18, slot := 0, constantValue := 0 }, { name := "SIZE", type := .int, accessFlags := 25, slot := 3, constantValue := 0 }, { name := "BYTES", type := .int, accessFlags := 25, slot := 4, constantValue := 0 }, { name := "serialVersionUID", type := .long, accessFlags := 26, slot := 5, constantValue := 0 }]
  methods := #[k8m0, k8m1]
  instanceTypes := #[.long]
  staticTypes := #[.long, .long, (.object "java/lang/Class"), .int, .int, .long]
  resolved := Array.replicate 524 none
  statics := none }

def pool9 : Array CpInfo := pool [(2, .class_ 4), (1, u "java/lang/Object"), (0, u "<init>"), (0, u "()V"), (0, .class_ 8), (0, u "java/lang/Long"), (7, .class_ 18), (1, u "java/lang/Long$LongCache"), (0, u "$assertionsDisabled"), (0, u "Z"), (8, u "archivedCache"), (0, u "[Ljava/lang/Long;"), (7, u "cache")] 24

def k9m0 : Method := { name := "<init>", desc := "()V", sig := { parameters := [], returnType := none }, accessFlags := 2, code := none }
/-- java/lang/Long$LongCache -/
def k9 : Class := { plain "java/lang/Long$LongCache" (some 0) with
  accessFlags := 48
  interfaces := #[]
  cf := some (fileOf pool9 16 #[.nestHost 7] #[{ accessFlags := 2, nameIndex := 5, descriptorIndex := 6, attributes := #[] }] 48 2 #[] #[{ accessFlags := 24, nameIndex := 38, descriptorIndex := 30, attributes := #[] }, { accessFlags := 8, nameIndex := 29, descriptorIndex := 30, attributes := #[] }, { accessFlags := 4120, nameIndex := 19, descriptorIndex := 20, attributes := #[] }])
  fields := #[{ name := "cache", type := (.array (.object "java/lang/Long")), accessFlags := 24, slot := 0, constantValue := 0 }, { name := "archivedCache", type := (.array (.object "java/lang/Long")), accessFlags := 8, slot := 1, constantValue := 0 }, { name := "$assertionsDisabled", type := .boolean, accessFlags := 4120, slot := 2, constantValue := 0 }]
  methods := #[k9m0]
  instanceTypes := #[]
  staticTypes := #[(.array (.object "java/lang/Long")), (.array (.object "java/lang/Long")), .boolean]
  resolved := Array.replicate 63 none
  statics := some 0 }

def pool10 : Array CpInfo := pool [(1, u "java/lang/Cloneable"), (0, .class_ 1), (0, u "java/lang/Object"), (0, .class_ 3)] 3

/-- java/lang/Cloneable -/
def k10 : Class := { plain "java/lang/Cloneable" (some 0) with
  accessFlags := 1537
  interfaces := #[]
  cf := some (fileOf pool10 2 #[] #[] 1537 4 #[] #[])
  fields := #[]
  methods := #[]
  instanceTypes := #[]
  staticTypes := #[]
  resolved := Array.replicate 8 none
  statics := none }

/-- the primitive byte -/
def k11 : Class := { plain "byte" none with kind := .primitive 'B', accessFlags := 0x411 }
/-- [B -/
def k12 : Class := { plain "[B" (some 0) with kind := .array 11 .byte, interfaces := #[10, 3], accessFlags := 1041 }

/-- the primitive int -/
def k13 : Class := { plain "int" none with kind := .primitive 'I', accessFlags := 0x411 }
/-- [I -/
def k14 : Class := { plain "[I" (some 0) with kind := .array 13 .int, interfaces := #[10, 3], accessFlags := 1041 }

/-- [Ljava/lang/Long; -/
def k15 : Class := { plain "[Ljava/lang/Long;" (some 0) with kind := .array 8 (.object "java/lang/Long"), interfaces := #[10, 3], accessFlags := 1041 }

def heap : Heap := #[{ cls := 9, slots := #[.ref 1, .null, .int 0], vm := .statics 9 },
  { cls := 15, slots := #[.ref 2, .ref 3, .ref 4, .ref 5, .ref 6, .ref 7, .ref 8, .ref 9, .ref 10, .ref 11, .ref 12, .ref 13, .ref 14, .ref 15, .ref 16, .ref 17, .ref 18, .ref 19, .ref 20, .ref 21, .ref 22, .ref 23, .ref 24, .ref 25, .ref 26, .ref 27, .ref 28, .ref 29, .ref 30, .ref 31, .ref 32, .ref 33, .ref 34, .ref 35, .ref 36, .ref 37, .ref 38, .ref 39, .ref 40, .ref 41, .ref 42, .ref 43, .ref 44, .ref 45, .ref 46, .ref 47, .ref 48, .ref 49, .ref 50, .ref 51, .ref 52, .ref 53, .ref 54, .ref 55, .ref 56, .ref 57, .ref 58, .ref 59, .ref 60, .ref 61, .ref 62, .ref 63, .ref 64, .ref 65, .ref 66, .ref 67, .ref 68, .ref 69, .ref 70, .ref 71, .ref 72, .ref 73, .ref 74, .ref 75, .ref 76, .ref 77, .ref 78, .ref 79, .ref 80, .ref 81, .ref 82, .ref 83, .ref 84, .ref 85, .ref 86, .ref 87, .ref 88, .ref 89, .ref 90, .ref 91, .ref 92, .ref 93, .ref 94, .ref 95, .ref 96, .ref 97, .ref 98, .ref 99, .ref 100, .ref 101, .ref 102, .ref 103, .ref 104, .ref 105, .ref 106, .ref 107, .ref 108, .ref 109, .ref 110, .ref 111, .ref 112, .ref 113, .ref 114, .ref 115, .ref 116, .ref 117, .ref 118, .ref 119, .ref 120, .ref 121, .ref 122, .ref 123, .ref 124, .ref 125, .ref 126, .ref 127, .ref 128, .ref 129, .ref 130, .ref 131, .ref 132, .ref 133, .ref 134, .ref 135, .ref 136, .ref 137, .ref 138, .ref 139, .ref 140, .ref 141, .ref 142, .ref 143, .ref 144, .ref 145, .ref 146, .ref 147, .ref 148, .ref 149, .ref 150, .ref 151, .ref 152, .ref 153, .ref 154, .ref 155, .ref 156, .ref 157, .ref 158, .ref 159, .ref 160, .ref 161, .ref 162, .ref 163, .ref 164, .ref 165, .ref 166, .ref 167, .ref 168, .ref 169, .ref 170, .ref 171, .ref 172, .ref 173, .ref 174, .ref 175, .ref 176, .ref 177, .ref 178, .ref 179, .ref 180, .ref 181, .ref 182, .ref 183, .ref 184, .ref 185, .ref 186, .ref 187, .ref 188, .ref 189, .ref 190, .ref 191, .ref 192, .ref 193, .ref 194, .ref 195, .ref 196, .ref 197, .ref 198, .ref 199, .ref 200, .ref 201, .ref 202, .ref 203, .ref 204, .ref 205, .ref 206, .ref 207, .ref 208, .ref 209, .ref 210, .ref 211, .ref 212, .ref 213, .ref 214, .ref 215, .ref 216, .ref 217, .ref 218, .ref 219, .ref 220, .ref 221, .ref 222, .ref 223, .ref 224, .ref 225, .ref 226, .ref 227, .ref 228, .ref 229, .ref 230, .ref 231, .ref 232, .ref 233, .ref 234, .ref 235, .ref 236, .ref 237, .ref 238, .ref 239, .ref 240, .ref 241, .ref 242, .ref 243, .ref 244, .ref 245, .ref 246, .ref 247, .ref 248, .ref 249, .ref 250, .ref 251, .ref 252, .ref 253, .ref 254, .ref 255, .ref 256, .ref 257], vm := .none },
  { cls := 8, slots := #[.long (-128)], vm := .none },
  { cls := 8, slots := #[.long (-127)], vm := .none },
  { cls := 8, slots := #[.long (-126)], vm := .none },
  { cls := 8, slots := #[.long (-125)], vm := .none },
  { cls := 8, slots := #[.long (-124)], vm := .none },
  { cls := 8, slots := #[.long (-123)], vm := .none },
  { cls := 8, slots := #[.long (-122)], vm := .none },
  { cls := 8, slots := #[.long (-121)], vm := .none },
  { cls := 8, slots := #[.long (-120)], vm := .none },
  { cls := 8, slots := #[.long (-119)], vm := .none },
  { cls := 8, slots := #[.long (-118)], vm := .none },
  { cls := 8, slots := #[.long (-117)], vm := .none },
  { cls := 8, slots := #[.long (-116)], vm := .none },
  { cls := 8, slots := #[.long (-115)], vm := .none },
  { cls := 8, slots := #[.long (-114)], vm := .none },
  { cls := 8, slots := #[.long (-113)], vm := .none },
  { cls := 8, slots := #[.long (-112)], vm := .none },
  { cls := 8, slots := #[.long (-111)], vm := .none },
  { cls := 8, slots := #[.long (-110)], vm := .none },
  { cls := 8, slots := #[.long (-109)], vm := .none },
  { cls := 8, slots := #[.long (-108)], vm := .none },
  { cls := 8, slots := #[.long (-107)], vm := .none },
  { cls := 8, slots := #[.long (-106)], vm := .none },
  { cls := 8, slots := #[.long (-105)], vm := .none },
  { cls := 8, slots := #[.long (-104)], vm := .none },
  { cls := 8, slots := #[.long (-103)], vm := .none },
  { cls := 8, slots := #[.long (-102)], vm := .none },
  { cls := 8, slots := #[.long (-101)], vm := .none },
  { cls := 8, slots := #[.long (-100)], vm := .none },
  { cls := 8, slots := #[.long (-99)], vm := .none },
  { cls := 8, slots := #[.long (-98)], vm := .none },
  { cls := 8, slots := #[.long (-97)], vm := .none },
  { cls := 8, slots := #[.long (-96)], vm := .none },
  { cls := 8, slots := #[.long (-95)], vm := .none },
  { cls := 8, slots := #[.long (-94)], vm := .none },
  { cls := 8, slots := #[.long (-93)], vm := .none },
  { cls := 8, slots := #[.long (-92)], vm := .none },
  { cls := 8, slots := #[.long (-91)], vm := .none },
  { cls := 8, slots := #[.long (-90)], vm := .none },
  { cls := 8, slots := #[.long (-89)], vm := .none },
  { cls := 8, slots := #[.long (-88)], vm := .none },
  { cls := 8, slots := #[.long (-87)], vm := .none },
  { cls := 8, slots := #[.long (-86)], vm := .none },
  { cls := 8, slots := #[.long (-85)], vm := .none },
  { cls := 8, slots := #[.long (-84)], vm := .none },
  { cls := 8, slots := #[.long (-83)], vm := .none },
  { cls := 8, slots := #[.long (-82)], vm := .none },
  { cls := 8, slots := #[.long (-81)], vm := .none },
  { cls := 8, slots := #[.long (-80)], vm := .none },
  { cls := 8, slots := #[.long (-79)], vm := .none },
  { cls := 8, slots := #[.long (-78)], vm := .none },
  { cls := 8, slots := #[.long (-77)], vm := .none },
  { cls := 8, slots := #[.long (-76)], vm := .none },
  { cls := 8, slots := #[.long (-75)], vm := .none },
  { cls := 8, slots := #[.long (-74)], vm := .none },
  { cls := 8, slots := #[.long (-73)], vm := .none },
  { cls := 8, slots := #[.long (-72)], vm := .none },
  { cls := 8, slots := #[.long (-71)], vm := .none },
  { cls := 8, slots := #[.long (-70)], vm := .none },
  { cls := 8, slots := #[.long (-69)], vm := .none },
  { cls := 8, slots := #[.long (-68)], vm := .none },
  { cls := 8, slots := #[.long (-67)], vm := .none },
  { cls := 8, slots := #[.long (-66)], vm := .none },
  { cls := 8, slots := #[.long (-65)], vm := .none },
  { cls := 8, slots := #[.long (-64)], vm := .none },
  { cls := 8, slots := #[.long (-63)], vm := .none },
  { cls := 8, slots := #[.long (-62)], vm := .none },
  { cls := 8, slots := #[.long (-61)], vm := .none },
  { cls := 8, slots := #[.long (-60)], vm := .none },
  { cls := 8, slots := #[.long (-59)], vm := .none },
  { cls := 8, slots := #[.long (-58)], vm := .none },
  { cls := 8, slots := #[.long (-57)], vm := .none },
  { cls := 8, slots := #[.long (-56)], vm := .none },
  { cls := 8, slots := #[.long (-55)], vm := .none },
  { cls := 8, slots := #[.long (-54)], vm := .none },
  { cls := 8, slots := #[.long (-53)], vm := .none },
  { cls := 8, slots := #[.long (-52)], vm := .none },
  { cls := 8, slots := #[.long (-51)], vm := .none },
  { cls := 8, slots := #[.long (-50)], vm := .none },
  { cls := 8, slots := #[.long (-49)], vm := .none },
  { cls := 8, slots := #[.long (-48)], vm := .none },
  { cls := 8, slots := #[.long (-47)], vm := .none },
  { cls := 8, slots := #[.long (-46)], vm := .none },
  { cls := 8, slots := #[.long (-45)], vm := .none },
  { cls := 8, slots := #[.long (-44)], vm := .none },
  { cls := 8, slots := #[.long (-43)], vm := .none },
  { cls := 8, slots := #[.long (-42)], vm := .none },
  { cls := 8, slots := #[.long (-41)], vm := .none },
  { cls := 8, slots := #[.long (-40)], vm := .none },
  { cls := 8, slots := #[.long (-39)], vm := .none },
  { cls := 8, slots := #[.long (-38)], vm := .none },
  { cls := 8, slots := #[.long (-37)], vm := .none },
  { cls := 8, slots := #[.long (-36)], vm := .none },
  { cls := 8, slots := #[.long (-35)], vm := .none },
  { cls := 8, slots := #[.long (-34)], vm := .none },
  { cls := 8, slots := #[.long (-33)], vm := .none },
  { cls := 8, slots := #[.long (-32)], vm := .none },
  { cls := 8, slots := #[.long (-31)], vm := .none },
  { cls := 8, slots := #[.long (-30)], vm := .none },
  { cls := 8, slots := #[.long (-29)], vm := .none },
  { cls := 8, slots := #[.long (-28)], vm := .none },
  { cls := 8, slots := #[.long (-27)], vm := .none },
  { cls := 8, slots := #[.long (-26)], vm := .none },
  { cls := 8, slots := #[.long (-25)], vm := .none },
  { cls := 8, slots := #[.long (-24)], vm := .none },
  { cls := 8, slots := #[.long (-23)], vm := .none },
  { cls := 8, slots := #[.long (-22)], vm := .none },
  { cls := 8, slots := #[.long (-21)], vm := .none },
  { cls := 8, slots := #[.long (-20)], vm := .none },
  { cls := 8, slots := #[.long (-19)], vm := .none },
  { cls := 8, slots := #[.long (-18)], vm := .none },
  { cls := 8, slots := #[.long (-17)], vm := .none },
  { cls := 8, slots := #[.long (-16)], vm := .none },
  { cls := 8, slots := #[.long (-15)], vm := .none },
  { cls := 8, slots := #[.long (-14)], vm := .none },
  { cls := 8, slots := #[.long (-13)], vm := .none },
  { cls := 8, slots := #[.long (-12)], vm := .none },
  { cls := 8, slots := #[.long (-11)], vm := .none },
  { cls := 8, slots := #[.long (-10)], vm := .none },
  { cls := 8, slots := #[.long (-9)], vm := .none },
  { cls := 8, slots := #[.long (-8)], vm := .none },
  { cls := 8, slots := #[.long (-7)], vm := .none },
  { cls := 8, slots := #[.long (-6)], vm := .none },
  { cls := 8, slots := #[.long (-5)], vm := .none },
  { cls := 8, slots := #[.long (-4)], vm := .none },
  { cls := 8, slots := #[.long (-3)], vm := .none },
  { cls := 8, slots := #[.long (-2)], vm := .none },
  { cls := 8, slots := #[.long (-1)], vm := .none },
  { cls := 8, slots := #[.long 0], vm := .none },
  { cls := 8, slots := #[.long 1], vm := .none },
  { cls := 8, slots := #[.long 2], vm := .none },
  { cls := 8, slots := #[.long 3], vm := .none },
  { cls := 8, slots := #[.long 4], vm := .none },
  { cls := 8, slots := #[.long 5], vm := .none },
  { cls := 8, slots := #[.long 6], vm := .none },
  { cls := 8, slots := #[.long 7], vm := .none },
  { cls := 8, slots := #[.long 8], vm := .none },
  { cls := 8, slots := #[.long 9], vm := .none },
  { cls := 8, slots := #[.long 10], vm := .none },
  { cls := 8, slots := #[.long 11], vm := .none },
  { cls := 8, slots := #[.long 12], vm := .none },
  { cls := 8, slots := #[.long 13], vm := .none },
  { cls := 8, slots := #[.long 14], vm := .none },
  { cls := 8, slots := #[.long 15], vm := .none },
  { cls := 8, slots := #[.long 16], vm := .none },
  { cls := 8, slots := #[.long 17], vm := .none },
  { cls := 8, slots := #[.long 18], vm := .none },
  { cls := 8, slots := #[.long 19], vm := .none },
  { cls := 8, slots := #[.long 20], vm := .none },
  { cls := 8, slots := #[.long 21], vm := .none },
  { cls := 8, slots := #[.long 22], vm := .none },
  { cls := 8, slots := #[.long 23], vm := .none },
  { cls := 8, slots := #[.long 24], vm := .none },
  { cls := 8, slots := #[.long 25], vm := .none },
  { cls := 8, slots := #[.long 26], vm := .none },
  { cls := 8, slots := #[.long 27], vm := .none },
  { cls := 8, slots := #[.long 28], vm := .none },
  { cls := 8, slots := #[.long 29], vm := .none },
  { cls := 8, slots := #[.long 30], vm := .none },
  { cls := 8, slots := #[.long 31], vm := .none },
  { cls := 8, slots := #[.long 32], vm := .none },
  { cls := 8, slots := #[.long 33], vm := .none },
  { cls := 8, slots := #[.long 34], vm := .none },
  { cls := 8, slots := #[.long 35], vm := .none },
  { cls := 8, slots := #[.long 36], vm := .none },
  { cls := 8, slots := #[.long 37], vm := .none },
  { cls := 8, slots := #[.long 38], vm := .none },
  { cls := 8, slots := #[.long 39], vm := .none },
  { cls := 8, slots := #[.long 40], vm := .none },
  { cls := 8, slots := #[.long 41], vm := .none },
  { cls := 8, slots := #[.long 42], vm := .none },
  { cls := 8, slots := #[.long 43], vm := .none },
  { cls := 8, slots := #[.long 44], vm := .none },
  { cls := 8, slots := #[.long 45], vm := .none },
  { cls := 8, slots := #[.long 46], vm := .none },
  { cls := 8, slots := #[.long 47], vm := .none },
  { cls := 8, slots := #[.long 48], vm := .none },
  { cls := 8, slots := #[.long 49], vm := .none },
  { cls := 8, slots := #[.long 50], vm := .none },
  { cls := 8, slots := #[.long 51], vm := .none },
  { cls := 8, slots := #[.long 52], vm := .none },
  { cls := 8, slots := #[.long 53], vm := .none },
  { cls := 8, slots := #[.long 54], vm := .none },
  { cls := 8, slots := #[.long 55], vm := .none },
  { cls := 8, slots := #[.long 56], vm := .none },
  { cls := 8, slots := #[.long 57], vm := .none },
  { cls := 8, slots := #[.long 58], vm := .none },
  { cls := 8, slots := #[.long 59], vm := .none },
  { cls := 8, slots := #[.long 60], vm := .none },
  { cls := 8, slots := #[.long 61], vm := .none },
  { cls := 8, slots := #[.long 62], vm := .none },
  { cls := 8, slots := #[.long 63], vm := .none },
  { cls := 8, slots := #[.long 64], vm := .none },
  { cls := 8, slots := #[.long 65], vm := .none },
  { cls := 8, slots := #[.long 66], vm := .none },
  { cls := 8, slots := #[.long 67], vm := .none },
  { cls := 8, slots := #[.long 68], vm := .none },
  { cls := 8, slots := #[.long 69], vm := .none },
  { cls := 8, slots := #[.long 70], vm := .none },
  { cls := 8, slots := #[.long 71], vm := .none },
  { cls := 8, slots := #[.long 72], vm := .none },
  { cls := 8, slots := #[.long 73], vm := .none },
  { cls := 8, slots := #[.long 74], vm := .none },
  { cls := 8, slots := #[.long 75], vm := .none },
  { cls := 8, slots := #[.long 76], vm := .none },
  { cls := 8, slots := #[.long 77], vm := .none },
  { cls := 8, slots := #[.long 78], vm := .none },
  { cls := 8, slots := #[.long 79], vm := .none },
  { cls := 8, slots := #[.long 80], vm := .none },
  { cls := 8, slots := #[.long 81], vm := .none },
  { cls := 8, slots := #[.long 82], vm := .none },
  { cls := 8, slots := #[.long 83], vm := .none },
  { cls := 8, slots := #[.long 84], vm := .none },
  { cls := 8, slots := #[.long 85], vm := .none },
  { cls := 8, slots := #[.long 86], vm := .none },
  { cls := 8, slots := #[.long 87], vm := .none },
  { cls := 8, slots := #[.long 88], vm := .none },
  { cls := 8, slots := #[.long 89], vm := .none },
  { cls := 8, slots := #[.long 90], vm := .none },
  { cls := 8, slots := #[.long 91], vm := .none },
  { cls := 8, slots := #[.long 92], vm := .none },
  { cls := 8, slots := #[.long 93], vm := .none },
  { cls := 8, slots := #[.long 94], vm := .none },
  { cls := 8, slots := #[.long 95], vm := .none },
  { cls := 8, slots := #[.long 96], vm := .none },
  { cls := 8, slots := #[.long 97], vm := .none },
  { cls := 8, slots := #[.long 98], vm := .none },
  { cls := 8, slots := #[.long 99], vm := .none },
  { cls := 8, slots := #[.long 100], vm := .none },
  { cls := 8, slots := #[.long 101], vm := .none },
  { cls := 8, slots := #[.long 102], vm := .none },
  { cls := 8, slots := #[.long 103], vm := .none },
  { cls := 8, slots := #[.long 104], vm := .none },
  { cls := 8, slots := #[.long 105], vm := .none },
  { cls := 8, slots := #[.long 106], vm := .none },
  { cls := 8, slots := #[.long 107], vm := .none },
  { cls := 8, slots := #[.long 108], vm := .none },
  { cls := 8, slots := #[.long 109], vm := .none },
  { cls := 8, slots := #[.long 110], vm := .none },
  { cls := 8, slots := #[.long 111], vm := .none },
  { cls := 8, slots := #[.long 112], vm := .none },
  { cls := 8, slots := #[.long 113], vm := .none },
  { cls := 8, slots := #[.long 114], vm := .none },
  { cls := 8, slots := #[.long 115], vm := .none },
  { cls := 8, slots := #[.long 116], vm := .none },
  { cls := 8, slots := #[.long 117], vm := .none },
  { cls := 8, slots := #[.long 118], vm := .none },
  { cls := 8, slots := #[.long 119], vm := .none },
  { cls := 8, slots := #[.long 120], vm := .none },
  { cls := 8, slots := #[.long 121], vm := .none },
  { cls := 8, slots := #[.long 122], vm := .none },
  { cls := 8, slots := #[.long 123], vm := .none },
  { cls := 8, slots := #[.long 124], vm := .none },
  { cls := 8, slots := #[.long 125], vm := .none },
  { cls := 8, slots := #[.long 126], vm := .none },
  { cls := 8, slots := #[.long 127], vm := .none }]
def classes : Array Class := #[k0, k1, k2, k3, k4, k5, k6, k7, k8, k9, k10, k11, k12, k13, k14, k15]
def interned : List (Array UInt16 × Addr) := []
def slotsUsed : Nat := 515
def theMethod : MethodId := ⟨1, 1⟩
def args0 : Array Value := #[.long 5, .int 9, .long 3, .int 4, .int 0]
def aboutOver (below : List Frame) : State where
  vm := { classes := classes, interned := interned.toArray }
  heap := heap
  slotsUsed := slotsUsed
  threads := #[{ frames := .invoking theMethod args0 :: below }]
def below0 : List Frame := [.native { method := ⟨0, 0⟩, args := #[] }]
def about1 : State := aboutOver below0
def p0 : Program := .bare "" "" ""
def e0 : Env := launch0.env 0 0 0
theorem w_frames : about1.frames = Frame.invoking theMethod args0 :: below0 := rfl
set_option maxRecDepth 65536 in
theorem w_args : argsFit about1.vm theMethod args0 = true := by decide +kernel
set_option maxRecDepth 65536 in
theorem w_heap : heapFits about1 = true := by decide +kernel
set_option maxRecDepth 65536 in
theorem w_runnable : about1.curStatus? = some .runnable := by decide +kernel
set_option maxRecDepth 65536 in
theorem w_alone : about1.alone = true := by decide +kernel
set_option maxRecDepth 65536 in
theorem w_named : about1.methodNamed? x = some theMethod := by decide +kernel
set_option maxRecDepth 65536 in
theorem w_hears : about1.hears theMethod below0 = true := by decide +kernel
set_option maxRecDepth 65536 in
theorem w_ripe : about1.ripe theMethod args0 below0 = true := by decide +kernel
theorem w_running : about1.status = .running := rfl
set_option maxRecDepth 65536 in
theorem w_room : about1.hasRoom e0.platform room_1 = true :=
  launch0.hasRoom_least _ room_1 (by decide +kernel) (by decide +kernel) (by decide +kernel) (by decide +kernel) (by decide +kernel) (by decide +kernel)
theorem allAtoms_all (ts : List Jvm.Cond) (a : Array Jvm.Value) (st : Jvm.State) : (allAtoms ts).before a st = ts.all (fun c => c.before a st) := by
  induction ts with
  | nil => rfl
  | cons c t ih =>
    show (Jvm.Cond.and c (allAtoms t)).before a st = _
    rw [Jvm.Cond.before_and, ih, List.all_cons]
def words1 : List Jvm.Cond := Jvm.Cond.code x code maxLocals ret :: tables_1
/-- a 'code' word, met by the world's own term for the bytes: nothing is compared byte by byte -/
theorem code_word {y : MethodName} {bytes : ByteArray} {mx : Nat} {rt : Option FieldType} {a : Array Value} {s : State} {m : MethodId} {meth : Method} {c : Code} (h1 : s.methodNamed? y = some m) (h2 : s.vm.method? m = some meth) (h3 : meth.code = some c) (h4 : c.code = bytes)
    (h5 : (c.maxLocals == mx && c.exceptionTable.isEmpty && decide (c.maxStack ≤ mostOperands) && decide (meth.sig.returnType = rt) && !meth.locks && decide (parseMethodDescriptor y.desc = some meth.sig)) = true) : (Jvm.Cond.code y bytes mx rt).before a s = true := by
  simp only [Bool.and_eq_true, beq_iff_eq, Bool.not_eq_true', decide_eq_true_eq] at h5
  obtain ⟨⟨⟨⟨⟨g1, g2⟩, g3⟩, g4⟩, g5⟩, g6⟩ := h5
  simp [Cond.before, Cond.holds, Cond.value, h1, h2, h3, h4, g1, g2, g3, g4, g5, g6]
def isCode : Jvm.Cond → Bool
  | .code _ _ _ _ => true
  | _ => false
theorem all_split {L : List Jvm.Cond} {P : Jvm.Cond → Bool} (h1 : L.all (fun c => isCode c || P c) = true) (h2 : ∀ c ∈ L.filter isCode, P c = true) : L.all P = true := by
  refine List.all_eq_true.mpr fun c hc => ?_
  have h := List.all_eq_true.mp h1 c hc
  rcases Bool.eq_false_or_eq_true (isCode c) with hi | hi
  · exact h2 c (List.mem_filter.mpr ⟨hc, hi⟩)
  · simpa [hi] using h
set_option maxRecDepth 65536 in
theorem w_c0 : (Jvm.Cond.code x code maxLocals ret).before args0 about1 = true := code_word (m := ⟨1, 1⟩) (meth := k1m1) (c := k1c1) (by decide +kernel) rfl rfl rfl (by decide +kernel)
set_option maxRecDepth 65536 in
theorem w_c1 : (Jvm.Cond.code ({ cls := "com/example/settle/settle/service/FileSum", name := "<init>", desc := "(JI)V" } : Jvm.MethodName) prog_46_method_1_code (4 : Nat) (Option.none : Option Jvm.ClassFile.FieldType)).before args0 about1 = true := code_word (m := ⟨2, 0⟩) (meth := k2m0) (c := k2c0) (by decide +kernel) rfl rfl rfl (by decide +kernel)
set_option maxRecDepth 65536 in
theorem w_c2 : (Jvm.Cond.code ({ cls := "java/lang/Object", name := "<init>", desc := "()V" } : Jvm.MethodName) object_method_1_code (1 : Nat) (Option.none : Option Jvm.ClassFile.FieldType)).before args0 about1 = true := code_word (m := ⟨0, 0⟩) (meth := k0m0) (c := k0c0) (by decide +kernel) rfl rfl rfl (by decide +kernel)
set_option maxRecDepth 65536 in
theorem w_c3 : (Jvm.Cond.code ({ cls := "com/example/settle/settle/service/FileSum", name := "equals", desc := "(Ljava/lang/Object;)Z" } : Jvm.MethodName) prog_46_method_6_code (3 : Nat) (Option.some Jvm.ClassFile.FieldType.boolean)).before args0 about1 = true := code_word (m := ⟨2, 1⟩) (meth := k2m1) (c := k2c1) (by decide +kernel) rfl rfl rfl (by decide +kernel)
set_option maxRecDepth 65536 in
theorem w_c4 : (Jvm.Cond.code ({ cls := "java/lang/Long", name := "valueOf", desc := "(J)Ljava/lang/Long;" } : Jvm.MethodName) jdk_35_method_24_code (3 : Nat) (Option.some (Jvm.ClassFile.FieldType.object "java/lang/Long"))).before args0 about1 = true := code_word (m := ⟨8, 0⟩) (meth := k8m0) (c := k8c0) (by decide +kernel) rfl rfl rfl (by decide +kernel)
set_option maxRecDepth 65536 in
theorem w_c5 : (Jvm.Cond.code ({ cls := "java/lang/Long", name := "<init>", desc := "(J)V" } : Jvm.MethodName) jdk_35_method_26_code (3 : Nat) (Option.none : Option Jvm.ClassFile.FieldType)).before args0 about1 = true := code_word (m := ⟨8, 1⟩) (meth := k8m1) (c := k8c1) (by decide +kernel) rfl rfl rfl (by decide +kernel)
set_option maxRecDepth 65536 in
theorem w_c6 : (Jvm.Cond.code ({ cls := "java/lang/Number", name := "<init>", desc := "()V" } : Jvm.MethodName) jdk_18_method_1_code (1 : Nat) (Option.none : Option Jvm.ClassFile.FieldType)).before args0 about1 = true := code_word (m := ⟨4, 0⟩) (meth := k4m0) (c := k4c0) (by decide +kernel) rfl rfl rfl (by decide +kernel)
def codes1 : List Jvm.Cond := [Jvm.Cond.code x code maxLocals ret, Jvm.Cond.code ({ cls := "com/example/settle/settle/service/FileSum", name := "<init>", desc := "(JI)V" } : Jvm.MethodName) prog_46_method_1_code (4 : Nat) (Option.none : Option Jvm.ClassFile.FieldType), Jvm.Cond.code ({ cls := "java/lang/Object", name := "<init>", desc := "()V" } : Jvm.MethodName) object_method_1_code (1 : Nat) (Option.none : Option Jvm.ClassFile.FieldType), Jvm.Cond.code ({ cls := "com/example/settle/settle/service/FileSum", name := "equals", desc := "(Ljava/lang/Object;)Z" } : Jvm.MethodName) prog_46_method_6_code (3 : Nat) (Option.some Jvm.ClassFile.FieldType.boolean), Jvm.Cond.code ({ cls := "java/lang/Long", name := "valueOf", desc := "(J)Ljava/lang/Long;" } : Jvm.MethodName) jdk_35_method_24_code (3 : Nat) (Option.some (Jvm.ClassFile.FieldType.object "java/lang/Long")), Jvm.Cond.code ({ cls := "java/lang/Long", name := "<init>", desc := "(J)V" } : Jvm.MethodName) jdk_35_method_26_code (3 : Nat) (Option.none : Option Jvm.ClassFile.FieldType), Jvm.Cond.code ({ cls := "java/lang/Number", name := "<init>", desc := "()V" } : Jvm.MethodName) jdk_18_method_1_code (1 : Nat) (Option.none : Option Jvm.ClassFile.FieldType)]
set_option maxRecDepth 65536 in
theorem codes_eq : words1.filter isCode = codes1 := rfl
theorem w_codes : ∀ c ∈ words1.filter isCode, c.before args0 about1 = true := by
  rw [codes_eq]
  intro c hc
  simp only [codes1, List.mem_cons, List.not_mem_nil, or_false] at hc
  rcases hc with rfl | rfl | rfl | rfl | rfl | rfl | rfl
  · exact w_c0
  · exact w_c1
  · exact w_c2
  · exact w_c3
  · exact w_c4
  · exact w_c5
  · exact w_c6
set_option maxRecDepth 65536 in
theorem w_t1 : (words1.take 24).all (fun c => isCode c || c.before args0 about1) = true := by decide +kernel
set_option maxRecDepth 65536 in
theorem w_t2 : (words1.drop 24).all (fun c => isCode c || c.before args0 about1) = true := by decide +kernel
theorem w_tables : (allAtoms (Jvm.Cond.code x code maxLocals ret :: tables_1)).before args0 about1 = true := by
  rw [allAtoms_all]
  show words1.all (fun c => c.before args0 about1) = true
  refine all_split ?_ w_codes
  rw [← List.take_append_drop 24 words1, List.all_append, w_t1, w_t2]
  rfl
set_option maxRecDepth 65536 in
theorem w_rest : rest_1_c.before args0 about1 = true := by decide +kernel
set_option maxRecDepth 65536 in
theorem w_case : (Jvm.Cond.and given_1 narrow_1).before args0 about1 = true := by decide +kernel
theorem w_applies : (headSpec (Jvm.Cond.code x code maxLocals ret :: tables_1) room_1).applies x e0.platform about1 = true :=
  (Spec.applies_iff w_frames).mpr ⟨w_running, w_runnable, w_alone, w_named, w_hears, w_ripe, w_room, w_tables⟩
theorem atStart : AtStart classFile x code maxLocals ret World_1 tables_1 room_1 Calls_1 rest_1 Pre_1 launch0 p0 e0 about1 theMethod args0 below0 :=
  ⟨lists_1, trivial, launch0.admits_env _ _ _, launch0.least_env, fairChoices_fair.cas, fairChoices_fair.clock, w_frames, w_args, w_heap, w_applies, trivial, w_rest, w_case⟩
end start1
theorem witness_1 : WitnessClaimed_1 := ⟨start1.p0, start1.e0, start1.about1, start1.theMethod, start1.args0, start1.below0, start1.atStart⟩
end Jvm.Pilot.@@N@@
