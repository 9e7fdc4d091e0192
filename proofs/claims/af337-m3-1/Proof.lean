import JvmDerived
import JvmDerived.Pilot.@@N@@Statement
import JvmDerived.Pilot.@@N@@Code
set_option linter.unusedVariables false
set_option linter.unusedSimpArgs false
@@BLOCK:NumsL.lean.txt@@
namespace Jvm.Pilot.@@N@@
open Jvm Jvm.ClassFile Sem Op Lib Jvm.Free Jvm.Stand Jvm.LawKit Jvm.RoadKit Bundle Jvm.Pilot.@@N@@.Jvm.D
theorem own_ns {Z : State} {a0 : Array Value} {O K : String} {n : Nat} (w : (Cond.noSuperclass O).before a0 Z = true) (wk : (Cond.instantiable K n).before a0 Z = true) (hn : O ≠ K) : NS Z O K := by
  obtain ⟨c, k, f1, f2, f3, -, -⟩ := Cond.noSuperclass_spec w
  obtain ⟨t, kt, g1, -⟩ := Cond.instantiable_spec wk
  exact ⟨c, t, f1, g1, fun fuel => by
    cases fuel with
    | zero => rfl
    | succ f => simp [Vm.isSubclassAux, ids_ne f1 g1 hn, f2, f3]⟩
theorem own_noinst {Z : State} {a0 : Array Value} {C S K : String} {n : Nat} (w : (Cond.superclass C S).before a0 Z = true) (wk : (Cond.instantiable K n).before a0 Z = true) (q : NS Z C K) (hn : C ≠ K) : ∃ c t, Z.vm.findClass C = some c ∧ Z.vm.findClass K = some t ∧ Z.vm.assignable c t = false := by
  obtain ⟨c, t, f1, g1, r⟩ := q
  obtain ⟨p, k, kp, -, f2, -, -, f5, -, -⟩ := Cond.superclass_spec f1 w
  obtain ⟨t', kt, g1', g2, g3, g4, -, -⟩ := Cond.instantiable_spec wk
  cases g1.symm.trans g1'
  have g5 : kt.isInterface = false := by simp only [Bool.or_eq_false_iff] at g4; exact g4.1
  refine ⟨c, t, f1, g1, ?_⟩
  show Z.vm.assignableAux (255 + 1) c t = false
  simp [Vm.assignableAux, ids_ne f1 g1 hn, f2, g2, f5, g3, g5, Vm.isSubclass, r]
theorem own_len {args : Array Value} {s : State} {t : Term} {a : Addr} {c : Cell} {ty : FieldType} {n : Int32} (et : t.eval args s none [] s = some (.ref a)) (A : Arr s s.heap a c ty) (h : (Term.length t).eval args s none [] s = some (.int n)) : c.slots.size < 2 ^ 31 ∧ c.slots.size.toInt32 = n := by
  have hA := A.fin (Vm.Alike.refl s.vm)
  have h31 := Jvm.Free.SBG.length_lt et hA h
  exact ⟨h31, by simpa using (len_f et hA h31).symm.trans h⟩
theorem d1_0 : decode prog_99_method_1_code 0 = .ok (.aload_n 0, 1) := by decide +kernel
theorem d1_1 : decode prog_99_method_1_code 1 = .ok (.invokespecial 1, 3) := by decide +kernel
theorem d1_4 : decode prog_99_method_1_code 4 = .ok (.return_, 1) := by decide +kernel
theorem pn_0 : plainName "com/example/refine/refine/cspm/Value" = true := by first | (simp [plainName, overriddenIn]; done) | decide +kernel
theorem ef_1 (mM : MethodId) (x0 : Addr) : entryFrame mM #[(.ref x0)] 1 = mkF mM 0 #[.val (.ref x0)] [] := by first | (simp [entryFrame, mkF, argsToLocals, Value.category]; done) | rfl
def Q1 (Z : State) (a : Addr) (h0 : Heap) (n0 : Nat) (v : Option Value) (h : Heap) (L : List Loc) : Prop := v = none ∧ Fr n0 L ∧ h = h0
set_option maxRecDepth 65536 in
set_option maxHeartbeats 40000000 in
theorem rm1 (l : Launch) (Z : State) (a0 : Array Value) (hw : ∀ d ∈ tables_1, d.before a0 Z = true) (ws : List Jvm.Cond) (a : Addr) (h0 : Heap) (n0 : Nat) (Z0 : n0 ≤ h0.size) :
    MetFree l (⟨"com/example/refine/refine/cspm/Value", "<init>", "()V"⟩ : MethodName) (head1 (Jvm.Cond.code (⟨"com/example/refine/refine/cspm/Value", "<init>", "()V"⟩ : MethodName) prog_99_method_1_code 1 none :: ws) ({ frames := 1, cells := 0, slots := 0, locals := 12 } : Room)) (fun aA uU => aA = #[(.ref a)] ∧ Z.Warmed39 uU.vm ∧ uU.heap = h0) (fun _ _ _ _ _ => True) (fun _ uU oO uU' => ∃ vV lL, oO = .returned vV ∧ Q1 Z a h0 n0 vV uU'.heap lL ∧ FrameEnd uU oO uU' lL ({ frames := 1, cells := 0, slots := 0, locals := 12 } : Room).cells ({ frames := 1, cells := 0, slots := 0, locals := 12 } : Room).slots) := by
  refine MetFree.of_bodySF (plainFor_of_name pn_0) hisR ?_
  intro pP eE sS mM args below meth cC s₁ Bd hml0 hP hK
  obtain ⟨rfl, hZ, hh⟩ := hP
  have hx := Bd.exec
  have hby := Bd.bytes
  have hml : cC.maxLocals = 1 := hml0
  have hown : sS.vm.findClass "com/example/refine/refine/cspm/Value" = some mM.cls := findClass_of_methodNamed Bd.named
  have hnm := (name_of_methodNamed Bd.named Bd.method).1
  have X0 : Stand pP l eE ({ frames := 1, cells := 0, slots := 0, locals := 12 } : Room) sS mM #[(.ref a)] below meth cC s₁ [] 0 0 := Stand.of_body Bd
  have e0 : s₁.heap = h0 := by rw [← hh, Bd.state]; rfl
  have N0 := Fr.nil n0
  have pre0 : ∀ tg, Steps pP.tables eE below (s₁.setTop (mkF mM 0 #[.val (.ref a)] [])) tg → Steps pP.tables eE below (s₁.setTop (entryFrame mM #[(.ref a)] 1)) tg := fun tg kg => castTop (ef_1 mM a) kg
  have pr1 : ∀ tg, Steps pP.tables eE below (s₁.setTop (mkF mM 1 #[.val (.ref a)] [(.ref a)])) tg → Steps pP.tables eE below (s₁.setTop (entryFrame mM #[(.ref a)] 1)) tg := fun tg kg => pre0 _ (by
    show Steps pP.tables eE below (s₁.setTop (mkF mM 0 #[.val (.ref a)] [])) _
    refine XS.aloadN X0.here hx rfl (hb hby d1_0) rfl rfl ?_
    exact kg)
  obtain ⟨T2, X2, e2, st2⟩ := initO X0 hx hZ hown (hw _ (List.mem_of_getElem? (i := 11) rfl)) (hw _ (List.mem_of_getElem? (i := 12) rfl)) (hw _ (List.mem_of_getElem? (i := 13) rfl)) e0 (g := (mkF mM 1 #[.val (.ref a)] [(.ref a)])) rfl (by rw [hml]; rfl) rfl (hb hby d1_1) (by decide) (W := 0) (by show 2 * 0 + _ ≤ _; exact Nat.le_of_eq rfl) (by decide)
  have pr3 : ∀ tg, Steps pP.tables eE below (T2.setTop (mkF mM 4 #[.val (.ref a)] [])) tg → Steps pP.tables eE below (s₁.setTop (entryFrame mM #[(.ref a)] 1)) tg := fun tg kg => pr1 _ (st2 _ kg)
  obtain ⟨fs, hr, hrun, hended, hW, hsame⟩ := X2.leave (v := none) (fun _ => rfl)
  refine ⟨_, _, pr3 _ (X2.returnOut hx Bd.returns (hb hby d1_4) hr), hrun, hended, _, _, rfl, ?_, ⟨_, rfl⟩, hW, hsame.mono (by decide) (by decide)⟩
  show Q1 Z a h0 n0 _ T2.heap _
  rw [e2]
  exact ⟨rfl, N0, rfl⟩
theorem pd_0 : parseMethodDescriptor "()V" = some ⟨[], none⟩ := by decide +kernel
theorem d2_0 : decode prog_100_method_1_code 0 = .ok (.aload_n 0, 1) := by decide +kernel
theorem d2_1 : decode prog_100_method_1_code 1 = .ok (.invokespecial 1, 3) := by decide +kernel
theorem d2_4 : decode prog_100_method_1_code 4 = .ok (.aload_n 0, 1) := by decide +kernel
theorem d2_5 : decode prog_100_method_1_code 5 = .ok (.iload_n 1, 1) := by decide +kernel
theorem d2_6 : decode prog_100_method_1_code 6 = .ok (.putfield 7, 3) := by decide +kernel
theorem d2_9 : decode prog_100_method_1_code 9 = .ok (.return_, 1) := by decide +kernel
theorem pn_1 : plainName "com/example/refine/refine/cspm/Value$Int" = true := by first | (simp [plainName, overriddenIn]; done) | decide +kernel
theorem ef_2 (mM : MethodId) (x0 : Addr) (x1 : Int32) : entryFrame mM #[(.ref x0), (.int x1)] 2 = mkF mM 0 #[.val (.ref x0), .val (.int x1)] [] := by first | (simp [entryFrame, mkF, argsToLocals, Value.category]; done) | rfl
def Q2 (Z : State) (a : Addr) (p : Int32) (h0 : Heap) (n0 : Nat) (v : Option Value) (h : Heap) (L : List Loc) : Prop := v = none ∧ Fr n0 L ∧ Keep h0 h [a] ∧ Exa Z h a "com/example/refine/refine/cspm/Value$Int" ∧ Fld Z h a "com/example/refine/refine/cspm/Value$Int" "number" "I" (.int p)
set_option maxRecDepth 65536 in
set_option maxHeartbeats 40000000 in
theorem rm2 (l : Launch) (Z : State) (a0 : Array Value) (hw : ∀ d ∈ tables_1, d.before a0 Z = true) (ws : List Jvm.Cond) (a : Addr) (p : Int32) (h0 : Heap) (n0 : Nat) (Z0 : n0 ≤ h0.size) (E_a : Exa Z h0 a "com/example/refine/refine/cspm/Value$Int") (g_a : n0 ≤ a) (F_number : Fld Z h0 a "com/example/refine/refine/cspm/Value$Int" "number" "I" (.int (0 : Int32))) :
    MetFree l (⟨"com/example/refine/refine/cspm/Value$Int", "<init>", "(I)V"⟩ : MethodName) (head1 (Jvm.Cond.code (⟨"com/example/refine/refine/cspm/Value$Int", "<init>", "(I)V"⟩ : MethodName) prog_100_method_1_code 2 none :: ws) ({ frames := 2, cells := 0, slots := 0, locals := 24 } : Room)) (fun aA uU => aA = #[(.ref a), (.int p)] ∧ Z.Warmed39 uU.vm ∧ uU.heap = h0) (fun _ _ _ _ _ => True) (fun _ uU oO uU' => ∃ vV lL, oO = .returned vV ∧ Q2 Z a p h0 n0 vV uU'.heap lL ∧ FrameEnd uU oO uU' lL ({ frames := 2, cells := 0, slots := 0, locals := 24 } : Room).cells ({ frames := 2, cells := 0, slots := 0, locals := 24 } : Room).slots) := by
  refine MetFree.of_bodySF (plainFor_of_name pn_1) hisR ?_
  intro pP eE sS mM args below meth cC s₁ Bd hml0 hP hK
  obtain ⟨rfl, hZ, hh⟩ := hP
  have hx := Bd.exec
  have hby := Bd.bytes
  have hml : cC.maxLocals = 2 := hml0
  have hown : sS.vm.findClass "com/example/refine/refine/cspm/Value$Int" = some mM.cls := findClass_of_methodNamed Bd.named
  have hnm := (name_of_methodNamed Bd.named Bd.method).1
  have X0 : Stand pP l eE ({ frames := 2, cells := 0, slots := 0, locals := 24 } : Room) sS mM #[(.ref a), (.int p)] below meth cC s₁ [] 0 0 := Stand.of_body Bd
  have e0 : s₁.heap = h0 := by rw [← hh, Bd.state]; rfl
  have N0 := Fr.nil n0
  have pre0 : ∀ tg, Steps pP.tables eE below (s₁.setTop (mkF mM 0 #[.val (.ref a), .val (.int p)] [])) tg → Steps pP.tables eE below (s₁.setTop (entryFrame mM #[(.ref a), (.int p)] 2)) tg := fun tg kg => castTop (ef_2 mM a p) kg
  have pr1 : ∀ tg, Steps pP.tables eE below (s₁.setTop (mkF mM 1 #[.val (.ref a), .val (.int p)] [(.ref a)])) tg → Steps pP.tables eE below (s₁.setTop (entryFrame mM #[(.ref a), (.int p)] 2)) tg := fun tg kg => pre0 _ (by
    show Steps pP.tables eE below (s₁.setTop (mkF mM 0 #[.val (.ref a), .val (.int p)] [])) _
    refine XS.aloadN X0.here hx rfl (hb hby d2_0) rfl rfl ?_
    exact kg)
  obtain ⟨_, _, ⟨T2, L2, kk2, nn2⟩, -, X2, ⟨Lc2, hQ2, l2, y2, z2⟩, st2⟩ := X0.specialBack hx (y := (⟨"com/example/refine/refine/cspm/Value", "<init>", "()V"⟩ : MethodName)) rfl hown (mvT hZ (hw _ (List.mem_of_getElem? (i := 6) rfl))) (mvT hZ (hw _ (List.mem_of_getElem? (i := 7) rfl))) (mvT hZ (hw _ (List.mem_of_getElem? (i := 10) rfl))) (by decide) (backOf (W := 0) (rm1 l Z a0 hw [] a h0 n0 Z0) hZ (hw _ (List.mem_of_getElem? (i := 10) rfl)) (hw _ (List.mem_of_getElem? (i := 9) rfl)) (by decide) (by decide)) (g := (mkF mM 1 #[.val (.ref a), .val (.int p)] [(.ref a)])) rfl (by rw [hml]; rfl) (Steps.refl _) (a := a) (argsL := []) (rest := []) (lenOf pd_0 rfl) rfl (by show 2 * 0 + _ ≤ _; exact Nat.le_of_eq rfl) (hb hby d2_1) (fun _ _ => ⟨rfl, e0, (by decide : 0 + 0 ≤ _), (by decide : 0 + 0 ≤ _)⟩)
  dsimp only [Pt.U, Pt.locs, Pt.cells, Pt.slots] at X2 l2 y2 z2 st2 hQ2
  subst l2 y2 z2
  obtain ⟨rfl, Nq2, e2⟩ := hQ2
  have N2 := Fr.app N0 Nq2
  have pr3 : ∀ tg, Steps pP.tables eE below (T2.setTop (mkF mM 4 #[.val (.ref a), .val (.int p)] [])) tg → Steps pP.tables eE below (s₁.setTop (entryFrame mM #[(.ref a), (.int p)] 2)) tg := fun tg kg => pr1 _ (st2.trans kg)
  have pr4 : ∀ tg, Steps pP.tables eE below (T2.setTop (mkF mM 6 #[.val (.ref a), .val (.int p)] [(.int p), (.ref a)])) tg → Steps pP.tables eE below (s₁.setTop (entryFrame mM #[(.ref a), (.int p)] 2)) tg := fun tg kg => pr3 _ (by
    show Steps pP.tables eE below (T2.setTop (mkF mM 4 #[.val (.ref a), .val (.int p)] [])) _
    refine XS.aloadN X2.here hx rfl (hb hby d2_4) rfl rfl ?_
    show Steps pP.tables eE below (T2.setTop (mkF mM 5 #[.val (.ref a), .val (.int p)] [(.ref a)])) _
    refine XS.iloadN X2.here hx rfl (hb hby d2_5) rfl ?_
    exact kg)
  obtain ⟨T5, h5, X5, e5, W5, st5⟩ := putF X2 hx hZ hown (host := "") (Or.inl (hw _ (List.mem_of_getElem? (i := 14) rfl))) Via.refl e2 F_number E_a (Or.inr ⟨(hw _ (List.mem_of_getElem? (i := 15) rfl)), rfl, hnm⟩) (hw _ (List.mem_of_getElem? (i := 1) rfl)) (ty := .int) (by decide) rfl rfl (g := (mkF mM 6 #[.val (.ref a), .val (.int p)] [(.int p), (.ref a)])) rfl rfl (hb hby d2_6)
  have Fw5 := Fld.same W5 F_number
  have N5 := Fr.snoc X5 N2 g_a
  have pr6 : ∀ tg, Steps pP.tables eE below (T5.setTop (mkF mM 9 #[.val (.ref a), .val (.int p)] [])) tg → Steps pP.tables eE below (s₁.setTop (entryFrame mM #[(.ref a), (.int p)] 2)) tg := fun tg kg => pr4 _ (st5 _ kg)
  have c7 := (Keep.wr (Keep.refl h0 [a]) W5 (Or.inl (List.mem_of_getElem? (i := 0) rfl)))
  have c8 := (Exa.wr W5 E_a)
  obtain ⟨fs, hr, hrun, hended, hW, hsame⟩ := X5.leave (v := none) (fun _ => rfl)
  refine ⟨_, _, pr6 _ (X5.returnOut hx Bd.returns (hb hby d2_9) hr), hrun, hended, _, _, rfl, ?_, ⟨_, rfl⟩, hW, hsame.mono (by decide) (by decide)⟩
  show Q2 Z a p h0 n0 _ T5.heap _
  rw [e5]
  exact ⟨rfl, N5, c7, c8, Fw5⟩
theorem d3_0 : decode prog_101_method_1_code 0 = .ok (.aload_n 0, 1) := by decide +kernel
theorem d3_1 : decode prog_101_method_1_code 1 = .ok (.invokespecial 1, 3) := by decide +kernel
theorem d3_4 : decode prog_101_method_1_code 4 = .ok (.aload_n 0, 1) := by decide +kernel
theorem d3_5 : decode prog_101_method_1_code 5 = .ok (.aload_n 1, 1) := by decide +kernel
theorem d3_6 : decode prog_101_method_1_code 6 = .ok (.putfield 7, 3) := by decide +kernel
theorem d3_9 : decode prog_101_method_1_code 9 = .ok (.return_, 1) := by decide +kernel
theorem pn_2 : plainName "com/example/refine/refine/cspm/Value$Text" = true := by first | (simp [plainName, overriddenIn]; done) | decide +kernel
theorem ef_3 (mM : MethodId) (x0 : Addr) (x1 : Addr) : entryFrame mM #[(.ref x0), (.ref x1)] 2 = mkF mM 0 #[.val (.ref x0), .val (.ref x1)] [] := by first | (simp [entryFrame, mkF, argsToLocals, Value.category]; done) | rfl
def Q3 (Z : State) (a : Addr) (x : Addr) (h0 : Heap) (n0 : Nat) (v : Option Value) (h : Heap) (L : List Loc) : Prop := v = none ∧ Fr n0 L ∧ Keep h0 h [a] ∧ Exa Z h a "com/example/refine/refine/cspm/Value$Text" ∧ Fld Z h a "com/example/refine/refine/cspm/Value$Text" "text" "Ljava/lang/String;" (.ref x)
set_option maxRecDepth 65536 in
set_option maxHeartbeats 40000000 in
theorem rm3 (l : Launch) (Z : State) (a0 : Array Value) (hw : ∀ d ∈ tables_1, d.before a0 Z = true) (ws : List Jvm.Cond) (a : Addr) (x : Addr) (h0 : Heap) (n0 : Nat) (Z0 : n0 ≤ h0.size) (E_a : Exa Z h0 a "com/example/refine/refine/cspm/Value$Text") (g_a : n0 ≤ a) (F_text : Fld Z h0 a "com/example/refine/refine/cspm/Value$Text" "text" "Ljava/lang/String;" .null) :
    MetFree l (⟨"com/example/refine/refine/cspm/Value$Text", "<init>", "(Ljava/lang/String;)V"⟩ : MethodName) (head1 (Jvm.Cond.code (⟨"com/example/refine/refine/cspm/Value$Text", "<init>", "(Ljava/lang/String;)V"⟩ : MethodName) prog_101_method_1_code 2 none :: ws) ({ frames := 2, cells := 0, slots := 0, locals := 24 } : Room)) (fun aA uU => aA = #[(.ref a), (.ref x)] ∧ Z.Warmed39 uU.vm ∧ uU.heap = h0) (fun _ _ _ _ _ => True) (fun _ uU oO uU' => ∃ vV lL, oO = .returned vV ∧ Q3 Z a x h0 n0 vV uU'.heap lL ∧ FrameEnd uU oO uU' lL ({ frames := 2, cells := 0, slots := 0, locals := 24 } : Room).cells ({ frames := 2, cells := 0, slots := 0, locals := 24 } : Room).slots) := by
  refine MetFree.of_bodySF (plainFor_of_name pn_2) hisR ?_
  intro pP eE sS mM args below meth cC s₁ Bd hml0 hP hK
  obtain ⟨rfl, hZ, hh⟩ := hP
  have hx := Bd.exec
  have hby := Bd.bytes
  have hml : cC.maxLocals = 2 := hml0
  have hown : sS.vm.findClass "com/example/refine/refine/cspm/Value$Text" = some mM.cls := findClass_of_methodNamed Bd.named
  have hnm := (name_of_methodNamed Bd.named Bd.method).1
  have X0 : Stand pP l eE ({ frames := 2, cells := 0, slots := 0, locals := 24 } : Room) sS mM #[(.ref a), (.ref x)] below meth cC s₁ [] 0 0 := Stand.of_body Bd
  have e0 : s₁.heap = h0 := by rw [← hh, Bd.state]; rfl
  have N0 := Fr.nil n0
  have pre0 : ∀ tg, Steps pP.tables eE below (s₁.setTop (mkF mM 0 #[.val (.ref a), .val (.ref x)] [])) tg → Steps pP.tables eE below (s₁.setTop (entryFrame mM #[(.ref a), (.ref x)] 2)) tg := fun tg kg => castTop (ef_3 mM a x) kg
  have pr1 : ∀ tg, Steps pP.tables eE below (s₁.setTop (mkF mM 1 #[.val (.ref a), .val (.ref x)] [(.ref a)])) tg → Steps pP.tables eE below (s₁.setTop (entryFrame mM #[(.ref a), (.ref x)] 2)) tg := fun tg kg => pre0 _ (by
    show Steps pP.tables eE below (s₁.setTop (mkF mM 0 #[.val (.ref a), .val (.ref x)] [])) _
    refine XS.aloadN X0.here hx rfl (hb hby d3_0) rfl rfl ?_
    exact kg)
  obtain ⟨_, _, ⟨T2, L2, kk2, nn2⟩, -, X2, ⟨Lc2, hQ2, l2, y2, z2⟩, st2⟩ := X0.specialBack hx (y := (⟨"com/example/refine/refine/cspm/Value", "<init>", "()V"⟩ : MethodName)) rfl hown (mvT hZ (hw _ (List.mem_of_getElem? (i := 54) rfl))) (mvT hZ (hw _ (List.mem_of_getElem? (i := 7) rfl))) (mvT hZ (hw _ (List.mem_of_getElem? (i := 10) rfl))) (by decide) (backOf (W := 0) (rm1 l Z a0 hw [] a h0 n0 Z0) hZ (hw _ (List.mem_of_getElem? (i := 10) rfl)) (hw _ (List.mem_of_getElem? (i := 9) rfl)) (by decide) (by decide)) (g := (mkF mM 1 #[.val (.ref a), .val (.ref x)] [(.ref a)])) rfl (by rw [hml]; rfl) (Steps.refl _) (a := a) (argsL := []) (rest := []) (lenOf pd_0 rfl) rfl (by show 2 * 0 + _ ≤ _; exact Nat.le_of_eq rfl) (hb hby d3_1) (fun _ _ => ⟨rfl, e0, (by decide : 0 + 0 ≤ _), (by decide : 0 + 0 ≤ _)⟩)
  dsimp only [Pt.U, Pt.locs, Pt.cells, Pt.slots] at X2 l2 y2 z2 st2 hQ2
  subst l2 y2 z2
  obtain ⟨rfl, Nq2, e2⟩ := hQ2
  have N2 := Fr.app N0 Nq2
  have pr3 : ∀ tg, Steps pP.tables eE below (T2.setTop (mkF mM 4 #[.val (.ref a), .val (.ref x)] [])) tg → Steps pP.tables eE below (s₁.setTop (entryFrame mM #[(.ref a), (.ref x)] 2)) tg := fun tg kg => pr1 _ (st2.trans kg)
  have pr4 : ∀ tg, Steps pP.tables eE below (T2.setTop (mkF mM 6 #[.val (.ref a), .val (.ref x)] [(.ref x), (.ref a)])) tg → Steps pP.tables eE below (s₁.setTop (entryFrame mM #[(.ref a), (.ref x)] 2)) tg := fun tg kg => pr3 _ (by
    show Steps pP.tables eE below (T2.setTop (mkF mM 4 #[.val (.ref a), .val (.ref x)] [])) _
    refine XS.aloadN X2.here hx rfl (hb hby d3_4) rfl rfl ?_
    show Steps pP.tables eE below (T2.setTop (mkF mM 5 #[.val (.ref a), .val (.ref x)] [(.ref a)])) _
    refine XS.aloadN X2.here hx rfl (hb hby d3_5) rfl rfl ?_
    exact kg)
  obtain ⟨T5, h5, X5, e5, W5, st5⟩ := putF X2 hx hZ hown (host := "") (Or.inl (hw _ (List.mem_of_getElem? (i := 55) rfl))) Via.refl e2 F_text E_a (Or.inr ⟨(hw _ (List.mem_of_getElem? (i := 56) rfl)), rfl, hnm⟩) (hw _ (List.mem_of_getElem? (i := 25) rfl)) (ty := (.object "java/lang/String")) (by decide) rfl rfl (g := (mkF mM 6 #[.val (.ref a), .val (.ref x)] [(.ref x), (.ref a)])) rfl rfl (hb hby d3_6)
  have Fw5 := Fld.same W5 F_text
  have N5 := Fr.snoc X5 N2 g_a
  have pr6 : ∀ tg, Steps pP.tables eE below (T5.setTop (mkF mM 9 #[.val (.ref a), .val (.ref x)] [])) tg → Steps pP.tables eE below (s₁.setTop (entryFrame mM #[(.ref a), (.ref x)] 2)) tg := fun tg kg => pr4 _ (st5 _ kg)
  have c7 := (Keep.wr (Keep.refl h0 [a]) W5 (Or.inl (List.mem_of_getElem? (i := 0) rfl)))
  have c8 := (Exa.wr W5 E_a)
  obtain ⟨fs, hr, hrun, hended, hW, hsame⟩ := X5.leave (v := none) (fun _ => rfl)
  refine ⟨_, _, pr6 _ (X5.returnOut hx Bd.returns (hb hby d3_9) hr), hrun, hended, _, _, rfl, ?_, ⟨_, rfl⟩, hW, hsame.mono (by decide) (by decide)⟩
  show Q3 Z a x h0 n0 _ T5.heap _
  rw [e5]
  exact ⟨rfl, N5, c7, c8, Fw5⟩
theorem d4_0 : decode jdk_18_method_1_code 0 = .ok (.aload_n 0, 1) := by decide +kernel
theorem d4_1 : decode jdk_18_method_1_code 1 = .ok (.invokespecial 1, 3) := by decide +kernel
theorem d4_4 : decode jdk_18_method_1_code 4 = .ok (.return_, 1) := by decide +kernel
theorem pn_3 : plainName "java/lang/Number" = true := by first | (simp [plainName, overriddenIn]; done) | decide +kernel
theorem ef_4 (mM : MethodId) (x0 : Addr) : entryFrame mM #[(.ref x0)] 1 = mkF mM 0 #[.val (.ref x0)] [] := by first | (simp [entryFrame, mkF, argsToLocals, Value.category]; done) | rfl
def Q4 (Z : State) (a : Addr) (h0 : Heap) (n0 : Nat) (v : Option Value) (h : Heap) (L : List Loc) : Prop := v = none ∧ Fr n0 L ∧ h = h0
set_option maxRecDepth 65536 in
set_option maxHeartbeats 40000000 in
theorem rm4 (l : Launch) (Z : State) (a0 : Array Value) (hw : ∀ d ∈ tables_1, d.before a0 Z = true) (ws : List Jvm.Cond) (a : Addr) (h0 : Heap) (n0 : Nat) (Z0 : n0 ≤ h0.size) :
    MetFree l (⟨"java/lang/Number", "<init>", "()V"⟩ : MethodName) (head1 (Jvm.Cond.code (⟨"java/lang/Number", "<init>", "()V"⟩ : MethodName) jdk_18_method_1_code 1 none :: ws) ({ frames := 1, cells := 0, slots := 0, locals := 12 } : Room)) (fun aA uU => aA = #[(.ref a)] ∧ Z.Warmed39 uU.vm ∧ uU.heap = h0) (fun _ _ _ _ _ => True) (fun _ uU oO uU' => ∃ vV lL, oO = .returned vV ∧ Q4 Z a h0 n0 vV uU'.heap lL ∧ FrameEnd uU oO uU' lL ({ frames := 1, cells := 0, slots := 0, locals := 12 } : Room).cells ({ frames := 1, cells := 0, slots := 0, locals := 12 } : Room).slots) := by
  refine MetFree.of_bodySF (plainFor_of_name pn_3) hisR ?_
  intro pP eE sS mM args below meth cC s₁ Bd hml0 hP hK
  obtain ⟨rfl, hZ, hh⟩ := hP
  have hx := Bd.exec
  have hby := Bd.bytes
  have hml : cC.maxLocals = 1 := hml0
  have hown : sS.vm.findClass "java/lang/Number" = some mM.cls := findClass_of_methodNamed Bd.named
  have hnm := (name_of_methodNamed Bd.named Bd.method).1
  have X0 : Stand pP l eE ({ frames := 1, cells := 0, slots := 0, locals := 12 } : Room) sS mM #[(.ref a)] below meth cC s₁ [] 0 0 := Stand.of_body Bd
  have e0 : s₁.heap = h0 := by rw [← hh, Bd.state]; rfl
  have N0 := Fr.nil n0
  have pre0 : ∀ tg, Steps pP.tables eE below (s₁.setTop (mkF mM 0 #[.val (.ref a)] [])) tg → Steps pP.tables eE below (s₁.setTop (entryFrame mM #[(.ref a)] 1)) tg := fun tg kg => castTop (ef_4 mM a) kg
  have pr1 : ∀ tg, Steps pP.tables eE below (s₁.setTop (mkF mM 1 #[.val (.ref a)] [(.ref a)])) tg → Steps pP.tables eE below (s₁.setTop (entryFrame mM #[(.ref a)] 1)) tg := fun tg kg => pre0 _ (by
    show Steps pP.tables eE below (s₁.setTop (mkF mM 0 #[.val (.ref a)] [])) _
    refine XS.aloadN X0.here hx rfl (hb hby d4_0) rfl rfl ?_
    exact kg)
  obtain ⟨T2, X2, e2, st2⟩ := initO X0 hx hZ hown (hw _ (List.mem_of_getElem? (i := 76) rfl)) (hw _ (List.mem_of_getElem? (i := 12) rfl)) (hw _ (List.mem_of_getElem? (i := 13) rfl)) e0 (g := (mkF mM 1 #[.val (.ref a)] [(.ref a)])) rfl (by rw [hml]; rfl) rfl (hb hby d4_1) (by decide) (W := 0) (by show 2 * 0 + _ ≤ _; exact Nat.le_of_eq rfl) (by decide)
  have pr3 : ∀ tg, Steps pP.tables eE below (T2.setTop (mkF mM 4 #[.val (.ref a)] [])) tg → Steps pP.tables eE below (s₁.setTop (entryFrame mM #[(.ref a)] 1)) tg := fun tg kg => pr1 _ (st2 _ kg)
  obtain ⟨fs, hr, hrun, hended, hW, hsame⟩ := X2.leave (v := none) (fun _ => rfl)
  refine ⟨_, _, pr3 _ (X2.returnOut hx Bd.returns (hb hby d4_4) hr), hrun, hended, _, _, rfl, ?_, ⟨_, rfl⟩, hW, hsame.mono (by decide) (by decide)⟩
  show Q4 Z a h0 n0 _ T2.heap _
  rw [e2]
  exact ⟨rfl, N0, rfl⟩
theorem d5_0 : decode jdk_33_method_23_code 0 = .ok (.aload_n 0, 1) := by decide +kernel
theorem d5_1 : decode jdk_33_method_23_code 1 = .ok (.invokespecial 202, 3) := by decide +kernel
theorem d5_4 : decode jdk_33_method_23_code 4 = .ok (.aload_n 0, 1) := by decide +kernel
theorem d5_5 : decode jdk_33_method_23_code 5 = .ok (.iload_n 1, 1) := by decide +kernel
theorem d5_6 : decode jdk_33_method_23_code 6 = .ok (.putfield 205, 3) := by decide +kernel
theorem d5_9 : decode jdk_33_method_23_code 9 = .ok (.return_, 1) := by decide +kernel
theorem pn_4 : plainName "java/lang/Integer" = true := by first | (simp [plainName, overriddenIn]; done) | decide +kernel
theorem ef_5 (mM : MethodId) (x0 : Addr) (x1 : Int32) : entryFrame mM #[(.ref x0), (.int x1)] 2 = mkF mM 0 #[.val (.ref x0), .val (.int x1)] [] := by first | (simp [entryFrame, mkF, argsToLocals, Value.category]; done) | rfl
def Q5 (Z : State) (a : Addr) (p : Int32) (h0 : Heap) (n0 : Nat) (v : Option Value) (h : Heap) (L : List Loc) : Prop := v = none ∧ Fr n0 L ∧ Keep h0 h [a] ∧ Exa Z h a "java/lang/Integer" ∧ Fld Z h a "java/lang/Integer" "value" "I" (.int p)
set_option maxRecDepth 65536 in
set_option maxHeartbeats 40000000 in
theorem rm5 (l : Launch) (Z : State) (a0 : Array Value) (hw : ∀ d ∈ tables_1, d.before a0 Z = true) (ws : List Jvm.Cond) (a : Addr) (p : Int32) (h0 : Heap) (n0 : Nat) (Z0 : n0 ≤ h0.size) (E_a : Exa Z h0 a "java/lang/Integer") (g_a : n0 ≤ a) (F_value : Fld Z h0 a "java/lang/Integer" "value" "I" (.int (0 : Int32))) :
    MetFree l (⟨"java/lang/Integer", "<init>", "(I)V"⟩ : MethodName) (head1 (Jvm.Cond.code (⟨"java/lang/Integer", "<init>", "(I)V"⟩ : MethodName) jdk_33_method_23_code 2 none :: ws) ({ frames := 2, cells := 0, slots := 0, locals := 24 } : Room)) (fun aA uU => aA = #[(.ref a), (.int p)] ∧ Z.Warmed39 uU.vm ∧ uU.heap = h0) (fun _ _ _ _ _ => True) (fun _ uU oO uU' => ∃ vV lL, oO = .returned vV ∧ Q5 Z a p h0 n0 vV uU'.heap lL ∧ FrameEnd uU oO uU' lL ({ frames := 2, cells := 0, slots := 0, locals := 24 } : Room).cells ({ frames := 2, cells := 0, slots := 0, locals := 24 } : Room).slots) := by
  refine MetFree.of_bodySF (plainFor_of_name pn_4) hisR ?_
  intro pP eE sS mM args below meth cC s₁ Bd hml0 hP hK
  obtain ⟨rfl, hZ, hh⟩ := hP
  have hx := Bd.exec
  have hby := Bd.bytes
  have hml : cC.maxLocals = 2 := hml0
  have hown : sS.vm.findClass "java/lang/Integer" = some mM.cls := findClass_of_methodNamed Bd.named
  have hnm := (name_of_methodNamed Bd.named Bd.method).1
  have X0 : Stand pP l eE ({ frames := 2, cells := 0, slots := 0, locals := 24 } : Room) sS mM #[(.ref a), (.int p)] below meth cC s₁ [] 0 0 := Stand.of_body Bd
  have e0 : s₁.heap = h0 := by rw [← hh, Bd.state]; rfl
  have N0 := Fr.nil n0
  have pre0 : ∀ tg, Steps pP.tables eE below (s₁.setTop (mkF mM 0 #[.val (.ref a), .val (.int p)] [])) tg → Steps pP.tables eE below (s₁.setTop (entryFrame mM #[(.ref a), (.int p)] 2)) tg := fun tg kg => castTop (ef_5 mM a p) kg
  have pr1 : ∀ tg, Steps pP.tables eE below (s₁.setTop (mkF mM 1 #[.val (.ref a), .val (.int p)] [(.ref a)])) tg → Steps pP.tables eE below (s₁.setTop (entryFrame mM #[(.ref a), (.int p)] 2)) tg := fun tg kg => pre0 _ (by
    show Steps pP.tables eE below (s₁.setTop (mkF mM 0 #[.val (.ref a), .val (.int p)] [])) _
    refine XS.aloadN X0.here hx rfl (hb hby d5_0) rfl rfl ?_
    exact kg)
  obtain ⟨_, _, ⟨T2, L2, kk2, nn2⟩, -, X2, ⟨Lc2, hQ2, l2, y2, z2⟩, st2⟩ := X0.specialBack hx (y := (⟨"java/lang/Number", "<init>", "()V"⟩ : MethodName)) rfl hown (mvT hZ (hw _ (List.mem_of_getElem? (i := 70) rfl))) (mvT hZ (hw _ (List.mem_of_getElem? (i := 71) rfl))) (mvT hZ (hw _ (List.mem_of_getElem? (i := 75) rfl))) (by decide) (backOf (W := 0) (rm4 l Z a0 hw [] a h0 n0 Z0) hZ (hw _ (List.mem_of_getElem? (i := 75) rfl)) (hw _ (List.mem_of_getElem? (i := 74) rfl)) (by decide) (by decide)) (g := (mkF mM 1 #[.val (.ref a), .val (.int p)] [(.ref a)])) rfl (by rw [hml]; rfl) (Steps.refl _) (a := a) (argsL := []) (rest := []) (lenOf pd_0 rfl) rfl (by show 2 * 0 + _ ≤ _; exact Nat.le_of_eq rfl) (hb hby d5_1) (fun _ _ => ⟨rfl, e0, (by decide : 0 + 0 ≤ _), (by decide : 0 + 0 ≤ _)⟩)
  dsimp only [Pt.U, Pt.locs, Pt.cells, Pt.slots] at X2 l2 y2 z2 st2 hQ2
  subst l2 y2 z2
  obtain ⟨rfl, Nq2, e2⟩ := hQ2
  have N2 := Fr.app N0 Nq2
  have pr3 : ∀ tg, Steps pP.tables eE below (T2.setTop (mkF mM 4 #[.val (.ref a), .val (.int p)] [])) tg → Steps pP.tables eE below (s₁.setTop (entryFrame mM #[(.ref a), (.int p)] 2)) tg := fun tg kg => pr1 _ (st2.trans kg)
  have pr4 : ∀ tg, Steps pP.tables eE below (T2.setTop (mkF mM 6 #[.val (.ref a), .val (.int p)] [(.int p), (.ref a)])) tg → Steps pP.tables eE below (s₁.setTop (entryFrame mM #[(.ref a), (.int p)] 2)) tg := fun tg kg => pr3 _ (by
    show Steps pP.tables eE below (T2.setTop (mkF mM 4 #[.val (.ref a), .val (.int p)] [])) _
    refine XS.aloadN X2.here hx rfl (hb hby d5_4) rfl rfl ?_
    show Steps pP.tables eE below (T2.setTop (mkF mM 5 #[.val (.ref a), .val (.int p)] [(.ref a)])) _
    refine XS.iloadN X2.here hx rfl (hb hby d5_5) rfl ?_
    exact kg)
  obtain ⟨T5, h5, X5, e5, W5, st5⟩ := putF X2 hx hZ hown (host := "") (Or.inl (hw _ (List.mem_of_getElem? (i := 77) rfl))) Via.refl e2 F_value E_a (Or.inr ⟨(hw _ (List.mem_of_getElem? (i := 78) rfl)), rfl, hnm⟩) (hw _ (List.mem_of_getElem? (i := 65) rfl)) (ty := .int) (by decide) rfl rfl (g := (mkF mM 6 #[.val (.ref a), .val (.int p)] [(.int p), (.ref a)])) rfl rfl (hb hby d5_6)
  have Fw5 := Fld.same W5 F_value
  have N5 := Fr.snoc X5 N2 g_a
  have pr6 : ∀ tg, Steps pP.tables eE below (T5.setTop (mkF mM 9 #[.val (.ref a), .val (.int p)] [])) tg → Steps pP.tables eE below (s₁.setTop (entryFrame mM #[(.ref a), (.int p)] 2)) tg := fun tg kg => pr4 _ (st5 _ kg)
  have c7 := (Keep.wr (Keep.refl h0 [a]) W5 (Or.inl (List.mem_of_getElem? (i := 0) rfl)))
  have c8 := (Exa.wr W5 E_a)
  obtain ⟨fs, hr, hrun, hended, hW, hsame⟩ := X5.leave (v := none) (fun _ => rfl)
  refine ⟨_, _, pr6 _ (X5.returnOut hx Bd.returns (hb hby d5_9) hr), hrun, hended, _, _, rfl, ?_, ⟨_, rfl⟩, hW, hsame.mono (by decide) (by decide)⟩
  show Q5 Z a p h0 n0 _ T5.heap _
  rw [e5]
  exact ⟨rfl, N5, c7, c8, Fw5⟩
theorem own_box {p : Int32} (h1 : ¬ p < (-128 : Int32)) (h2 : ¬ (127 : Int32) < p) : ¬ (p + (128 : Int32)) < 0 ∧ (p + (128 : Int32)) < (256 : Int32) := by
  rw [Int32.lt_iff_toInt_lt] at h1 h2
  have a1 : (-128 : Int32).toInt = -128 := rfl
  have a2 : (127 : Int32).toInt = 127 := rfl
  have a3 : (128 : Int32).toInt = 128 := rfl
  have a4 : (256 : Int32).toInt = 256 := rfl
  have a5 : (0 : Int32).toInt = 0 := rfl
  have e2 := Jvm.Kit.i32_add (p := p) (q := 128) (by omega) (by omega)
  rw [Int32.lt_iff_toInt_lt, Int32.lt_iff_toInt_lt]; omega
theorem pd_1 : parseMethodDescriptor "(I)V" = some ⟨[.int], none⟩ := by decide +kernel
theorem d6_0 : decode jdk_33_method_22_code 0 = .ok (.iload_n 0, 1) := by decide +kernel
theorem d6_1 : decode jdk_33_method_22_code 1 = .ok (.bipush (-128), 2) := by decide +kernel
theorem d6_3 : decode jdk_33_method_22_code 3 = .ok (.if_icmp .lt 20, 3) := by decide +kernel
theorem d6_6 : decode jdk_33_method_22_code 6 = .ok (.iload_n 0, 1) := by decide +kernel
theorem d6_7 : decode jdk_33_method_22_code 7 = .ok (.getstatic 191, 3) := by decide +kernel
theorem d6_10 : decode jdk_33_method_22_code 10 = .ok (.if_icmp .gt 13, 3) := by decide +kernel
theorem d6_13 : decode jdk_33_method_22_code 13 = .ok (.getstatic 195, 3) := by decide +kernel
theorem d6_16 : decode jdk_33_method_22_code 16 = .ok (.iload_n 0, 1) := by decide +kernel
theorem d6_17 : decode jdk_33_method_22_code 17 = .ok (.sipush 128, 3) := by decide +kernel
theorem d6_20 : decode jdk_33_method_22_code 20 = .ok (.iadd, 1) := by decide +kernel
theorem d6_21 : decode jdk_33_method_22_code 21 = .ok (.aaload, 1) := by decide +kernel
theorem d6_22 : decode jdk_33_method_22_code 22 = .ok (.areturn, 1) := by decide +kernel
theorem d6_23 : decode jdk_33_method_22_code 23 = .ok (.new 1, 3) := by decide +kernel
theorem d6_26 : decode jdk_33_method_22_code 26 = .ok (.dup, 1) := by decide +kernel
theorem d6_27 : decode jdk_33_method_22_code 27 = .ok (.iload_n 0, 1) := by decide +kernel
theorem d6_28 : decode jdk_33_method_22_code 28 = .ok (.invokespecial 199, 3) := by decide +kernel
theorem d6_31 : decode jdk_33_method_22_code 31 = .ok (.areturn, 1) := by decide +kernel
theorem ef_6 (mM : MethodId) (x0 : Int32) : entryFrame mM #[(.int x0)] 1 = mkF mM 0 #[.val (.int x0)] [] := by first | (simp [entryFrame, mkF, argsToLocals, Value.category]; done) | rfl
def Q6 (Z : State) (p : Int32) (ca : Addr) (cc : Cell) (h0 : Heap) (n0 : Nat) (v : Option Value) (h : Heap) (L : List Loc) : Prop := ∃ b : Addr, v = some (.ref b) ∧ Fr n0 L ∧ Keep h0 h [] ∧ Exa Z h b "java/lang/Integer"
set_option maxRecDepth 65536 in
set_option maxHeartbeats 40000000 in
theorem rm6 (l : Launch) (Z : State) (a0 : Array Value) (hw : ∀ d ∈ tables_1, d.before a0 Z = true) (ws : List Jvm.Cond) (p : Int32) (ca : Addr) (cc : Cell) (h0 : Heap) (n0 : Nat) (Z0 : n0 ≤ h0.size) (O : Old Z n0 h0) (S_cache : Sta Z Z.heap "java/lang/Integer$IntegerCache" "cache" "[Ljava/lang/Integer;" (.ref ca)) (B : Bxs Z ca cc "java/lang/Integer" "I" (256 : Int32) (fun j : Int32 => Value.int (j - 128))) (S_high : Sta Z Z.heap "java/lang/Integer$IntegerCache" "high" "I" (.int (127 : Int32))) :
    MetFree l (⟨"java/lang/Integer", "valueOf", "(I)Ljava/lang/Integer;"⟩ : MethodName) (head1 (Jvm.Cond.code (⟨"java/lang/Integer", "valueOf", "(I)Ljava/lang/Integer;"⟩ : MethodName) jdk_33_method_22_code 1 (some (.object "java/lang/Integer")) :: ws) ({ frames := 3, cells := 1, slots := 1, locals := 38 } : Room)) (fun aA uU => aA = #[(.int p)] ∧ Z.Warmed39 uU.vm ∧ uU.heap = h0) (fun _ _ _ _ _ => True) (fun _ uU oO uU' => ∃ vV lL, oO = .returned vV ∧ Q6 Z p ca cc h0 n0 vV uU'.heap lL ∧ FrameEnd uU oO uU' lL ({ frames := 3, cells := 1, slots := 1, locals := 38 } : Room).cells ({ frames := 3, cells := 1, slots := 1, locals := 38 } : Room).slots) := by
  refine MetFree.of_bodySF (plainFor_of_name pn_4) hisR ?_
  intro pP eE sS mM args below meth cC s₁ Bd hml0 hP hK
  obtain ⟨rfl, hZ, hh⟩ := hP
  have hx := Bd.exec
  have hby := Bd.bytes
  have hml : cC.maxLocals = 1 := hml0
  have hown : sS.vm.findClass "java/lang/Integer" = some mM.cls := findClass_of_methodNamed Bd.named
  have hnm := (name_of_methodNamed Bd.named Bd.method).1
  have X0 : Stand pP l eE ({ frames := 3, cells := 1, slots := 1, locals := 38 } : Room) sS mM #[(.int p)] below meth cC s₁ [] 0 0 := Stand.of_body Bd
  have e0 : s₁.heap = h0 := by rw [← hh, Bd.state]; rfl
  have N0 := Fr.nil n0
  have pre0 : ∀ tg, Steps pP.tables eE below (s₁.setTop (mkF mM 0 #[.val (.int p)] [])) tg → Steps pP.tables eE below (s₁.setTop (entryFrame mM #[(.int p)] 1)) tg := fun tg kg => castTop (ef_6 mM p) kg
  have pr2 : ∀ tg, Steps pP.tables eE below (s₁.setTop (mkF mM 3 #[.val (.int p)] [(.int (-128 : Int32)), (.int p)])) tg → Steps pP.tables eE below (s₁.setTop (entryFrame mM #[(.int p)] 1)) tg := fun tg kg => pre0 _ (by
    show Steps pP.tables eE below (s₁.setTop (mkF mM 0 #[.val (.int p)] [])) _
    refine XS.iloadN X0.here hx rfl (hb hby d6_0) rfl ?_
    show Steps pP.tables eE below (s₁.setTop (mkF mM 1 #[.val (.int p)] [(.int p)])) _
    refine XS.bipush X0.here hx rfl (hb hby d6_1) ?_
    exact kg)
  by_cases hc3_1 : p < (-128 : Int32)
  ·
    have pr3 : ∀ tg, Steps pP.tables eE below (s₁.setTop (mkF mM 23 #[.val (.int p)] [])) tg → Steps pP.tables eE below (s₁.setTop (entryFrame mM #[(.int p)] 1)) tg := fun tg kg => pr2 _ (by
      show Steps pP.tables eE below (s₁.setTop (mkF mM 3 #[.val (.int p)] [(.int (-128 : Int32)), (.int p)])) _
      refine XS.icmpYes X0.here hx rfl (pc0 := 3) (pc' := 23) rfl (hb hby d6_3) rfl (tlt hc3_1).1 (by decide) (by decide) ?_
      exact kg)
    obtain ⟨T4, h4, X4, e4, E4, A4, D4, -, st4⟩ := newO X0 hx hZ hown (hw _ (List.mem_of_getElem? (i := 64) rfl)) (hw _ (List.mem_of_getElem? (i := 65) rfl)) (hw _ (List.mem_of_getElem? (i := 62) rfl)) e0 (g := (mkF mM 23 #[.val (.int p)] [])) rfl (hb hby d6_23) (by decide) (by decide)
    obtain ⟨b4, g4⟩ : ∃ z, z = (h0).size := ⟨_, rfl⟩
    rw [← g4] at A4 D4 st4
    have gn5 : n0 ≤ b4 := Nat.le_trans Z0 (Nat.le_of_eq g4.symm)
    have gs6 : h0.size ≤ b4 := Nat.le_trans (Keep.refl h0 []).1 (Nat.le_of_eq g4.symm)
    have F4_value : Fld Z h4 b4 "java/lang/Integer" "value" "I" (.int (0 : Int32)) := D4 (Or.inr (hw _ (List.mem_of_getElem? (i := 78) rfl))) (ty := .int) (by decide)
    have pr7 : ∀ tg, Steps pP.tables eE below (T4.setTop (mkF mM 26 #[.val (.int p)] [(.ref b4)])) tg → Steps pP.tables eE below (s₁.setTop (entryFrame mM #[(.int p)] 1)) tg := fun tg kg => pr3 _ (st4 _ kg)
    have pr8 : ∀ tg, Steps pP.tables eE below (T4.setTop (mkF mM 28 #[.val (.int p)] [(.int p), (.ref b4), (.ref b4)])) tg → Steps pP.tables eE below (s₁.setTop (entryFrame mM #[(.int p)] 1)) tg := fun tg kg => pr7 _ (by
      show Steps pP.tables eE below (T4.setTop (mkF mM 26 #[.val (.int p)] [(.ref b4)])) _
      refine XS.dup X4.here hx rfl (hb hby d6_26) rfl rfl ?_
      show Steps pP.tables eE below (T4.setTop (mkF mM 27 #[.val (.int p)] [(.ref b4), (.ref b4)])) _
      refine XS.iloadN X4.here hx rfl (hb hby d6_27) rfl ?_
      exact kg)
    have c9 := (Nat.le_trans Z0 E4.1)
    obtain ⟨_, _, ⟨T10, L10, kk10, nn10⟩, -, X10, ⟨Lc10, hQ10, l10, y10, z10⟩, st10⟩ := X4.specialBack hx (y := (⟨"java/lang/Integer", "<init>", "(I)V"⟩ : MethodName)) rfl hown (mvT hZ (hw _ (List.mem_of_getElem? (i := 66) rfl))) (mvT hZ (hw _ (List.mem_of_getElem? (i := 67) rfl))) (mvT hZ (hw _ (List.mem_of_getElem? (i := 69) rfl))) (by decide) (backOf (W := 1) (rm5 l Z a0 hw [] b4 p h4 n0 c9 A4 gn5 F4_value ) hZ (hw _ (List.mem_of_getElem? (i := 69) rfl)) (hw _ (List.mem_of_getElem? (i := 62) rfl)) (by decide) (by decide)) (g := (mkF mM 28 #[.val (.int p)] [(.int p), (.ref b4), (.ref b4)])) rfl (by rw [hml]; rfl) (Steps.refl _) (a := b4) (argsL := [(.int p)]) (rest := [(.ref b4)]) (lenOf pd_1 rfl) rfl (by show 2 * 0 + _ ≤ _; exact Nat.le_of_eq rfl) (hb hby d6_28) (fun _ _ => ⟨rfl, e4, (by decide : 1 + 0 ≤ _), (by decide : 1 + 0 ≤ _)⟩)
    dsimp only [Pt.U, Pt.locs, Pt.cells, Pt.slots] at X10 l10 y10 z10 st10 hQ10
    subst l10 y10 z10
    obtain ⟨rfl, Nq10, K10, E10, F10_0⟩ := hQ10
    have N10 := Fr.app N0 Nq10
    have pr11 : ∀ tg, Steps pP.tables eE below (T10.setTop (mkF mM 31 #[.val (.int p)] [(.ref b4)])) tg → Steps pP.tables eE below (s₁.setTop (entryFrame mM #[(.int p)] 1)) tg := fun tg kg => pr8 _ (st10.trans kg)
    have c12 := (Keep.trans (Keep.ext (Keep.refl h0 []) E4) K10 (allS (Or.inr gs6) all0))
    obtain ⟨fs, hr, hrun, hended, hW, hsame⟩ := X10.leave (v := some (.ref b4)) (fun h => by rw [Bd.returns] at h; cases h)
    refine ⟨_, _, pr11 _ (retOut X10 hx (t := (.object "java/lang/Integer")) Bd.returns rfl (Or.inr (Or.inr (Or.inr (Or.inr ⟨rfl, rfl, rfl⟩)))) (hb hby d6_31) hr), hrun, hended, _, _, rfl, ?_, ⟨_, rfl⟩, hW, hsame.mono (by decide) (by decide)⟩
    show Q6 Z p ca cc h0 n0 _ T10.heap _
    exact ⟨_, rfl, N10, c12, E10⟩
  ·
    have pr13 : ∀ tg, Steps pP.tables eE below (s₁.setTop (mkF mM 7 #[.val (.int p)] [(.int p)])) tg → Steps pP.tables eE below (s₁.setTop (entryFrame mM #[(.int p)] 1)) tg := fun tg kg => pr2 _ (by
      show Steps pP.tables eE below (s₁.setTop (mkF mM 3 #[.val (.int p)] [(.int (-128 : Int32)), (.int p)])) _
      refine XS.icmpNo X0.here hx rfl (hb hby d6_3) rfl (flt hc3_1).1 ?_
      show Steps pP.tables eE below (s₁.setTop (mkF mM 6 #[.val (.int p)] [])) _
      refine XS.iloadN X0.here hx rfl (hb hby d6_6) rfl ?_
      exact kg)
    obtain ⟨T14, X14, e14, st14⟩ := getS2 X0 hx hZ hown (host := "") (Or.inl (hw _ (List.mem_of_getElem? (i := 81) rfl))) Via.refl e0 (Sta.ext (O).2 S_high) (g := (mkF mM 7 #[.val (.int p)] [(.int p)])) rfl (hb hby d6_7)
    have pr15 : ∀ tg, Steps pP.tables eE below (T14.setTop (mkF mM 10 #[.val (.int p)] [(.int (127 : Int32)), (.int p)])) tg → Steps pP.tables eE below (s₁.setTop (entryFrame mM #[(.int p)] 1)) tg := fun tg kg => pr13 _ (st14 _ kg)
    by_cases hc10_16 : (127 : Int32) < p
    ·
      have pr17 : ∀ tg, Steps pP.tables eE below (T14.setTop (mkF mM 23 #[.val (.int p)] [])) tg → Steps pP.tables eE below (s₁.setTop (entryFrame mM #[(.int p)] 1)) tg := fun tg kg => pr15 _ (by
        show Steps pP.tables eE below (T14.setTop (mkF mM 10 #[.val (.int p)] [(.int (127 : Int32)), (.int p)])) _
        refine XS.icmpYes X14.here hx rfl (pc0 := 10) (pc' := 23) rfl (hb hby d6_10) rfl (tlt hc10_16).2.2.1 (by decide) (by decide) ?_
        exact kg)
      obtain ⟨T18, h18, X18, e18, E18, A18, D18, -, st18⟩ := newO X14 hx hZ hown (hw _ (List.mem_of_getElem? (i := 64) rfl)) (hw _ (List.mem_of_getElem? (i := 65) rfl)) (hw _ (List.mem_of_getElem? (i := 62) rfl)) e14 (g := (mkF mM 23 #[.val (.int p)] [])) rfl (hb hby d6_23) (by decide) (by decide)
      obtain ⟨b18, g18⟩ : ∃ z, z = (h0).size := ⟨_, rfl⟩
      rw [← g18] at A18 D18 st18
      have gn19 : n0 ≤ b18 := Nat.le_trans Z0 (Nat.le_of_eq g18.symm)
      have gs20 : h0.size ≤ b18 := Nat.le_trans (Keep.refl h0 []).1 (Nat.le_of_eq g18.symm)
      have F18_value : Fld Z h18 b18 "java/lang/Integer" "value" "I" (.int (0 : Int32)) := D18 (Or.inr (hw _ (List.mem_of_getElem? (i := 78) rfl))) (ty := .int) (by decide)
      have pr21 : ∀ tg, Steps pP.tables eE below (T18.setTop (mkF mM 26 #[.val (.int p)] [(.ref b18)])) tg → Steps pP.tables eE below (s₁.setTop (entryFrame mM #[(.int p)] 1)) tg := fun tg kg => pr17 _ (st18 _ kg)
      have pr22 : ∀ tg, Steps pP.tables eE below (T18.setTop (mkF mM 28 #[.val (.int p)] [(.int p), (.ref b18), (.ref b18)])) tg → Steps pP.tables eE below (s₁.setTop (entryFrame mM #[(.int p)] 1)) tg := fun tg kg => pr21 _ (by
        show Steps pP.tables eE below (T18.setTop (mkF mM 26 #[.val (.int p)] [(.ref b18)])) _
        refine XS.dup X18.here hx rfl (hb hby d6_26) rfl rfl ?_
        show Steps pP.tables eE below (T18.setTop (mkF mM 27 #[.val (.int p)] [(.ref b18), (.ref b18)])) _
        refine XS.iloadN X18.here hx rfl (hb hby d6_27) rfl ?_
        exact kg)
      have c23 := (Nat.le_trans Z0 E18.1)
      obtain ⟨_, _, ⟨T24, L24, kk24, nn24⟩, -, X24, ⟨Lc24, hQ24, l24, y24, z24⟩, st24⟩ := X18.specialBack hx (y := (⟨"java/lang/Integer", "<init>", "(I)V"⟩ : MethodName)) rfl hown (mvT hZ (hw _ (List.mem_of_getElem? (i := 66) rfl))) (mvT hZ (hw _ (List.mem_of_getElem? (i := 67) rfl))) (mvT hZ (hw _ (List.mem_of_getElem? (i := 69) rfl))) (by decide) (backOf (W := 1) (rm5 l Z a0 hw [] b18 p h18 n0 c23 A18 gn19 F18_value ) hZ (hw _ (List.mem_of_getElem? (i := 69) rfl)) (hw _ (List.mem_of_getElem? (i := 62) rfl)) (by decide) (by decide)) (g := (mkF mM 28 #[.val (.int p)] [(.int p), (.ref b18), (.ref b18)])) rfl (by rw [hml]; rfl) (Steps.refl _) (a := b18) (argsL := [(.int p)]) (rest := [(.ref b18)]) (lenOf pd_1 rfl) rfl (by show 2 * 0 + _ ≤ _; exact Nat.le_of_eq rfl) (hb hby d6_28) (fun _ _ => ⟨rfl, e18, (by decide : 1 + 0 ≤ _), (by decide : 1 + 0 ≤ _)⟩)
      dsimp only [Pt.U, Pt.locs, Pt.cells, Pt.slots] at X24 l24 y24 z24 st24 hQ24
      subst l24 y24 z24
      obtain ⟨rfl, Nq24, K24, E24, F24_0⟩ := hQ24
      have N24 := Fr.app N0 Nq24
      have pr25 : ∀ tg, Steps pP.tables eE below (T24.setTop (mkF mM 31 #[.val (.int p)] [(.ref b18)])) tg → Steps pP.tables eE below (s₁.setTop (entryFrame mM #[(.int p)] 1)) tg := fun tg kg => pr22 _ (st24.trans kg)
      have c26 := (Keep.trans (Keep.ext (Keep.refl h0 []) E18) K24 (allS (Or.inr gs20) all0))
      obtain ⟨fs, hr, hrun, hended, hW, hsame⟩ := X24.leave (v := some (.ref b18)) (fun h => by rw [Bd.returns] at h; cases h)
      refine ⟨_, _, pr25 _ (retOut X24 hx (t := (.object "java/lang/Integer")) Bd.returns rfl (Or.inr (Or.inr (Or.inr (Or.inr ⟨rfl, rfl, rfl⟩)))) (hb hby d6_31) hr), hrun, hended, _, _, rfl, ?_, ⟨_, rfl⟩, hW, hsame.mono (by decide) (by decide)⟩
      show Q6 Z p ca cc h0 n0 _ T24.heap _
      exact ⟨_, rfl, N24, c26, E24⟩
    ·
      have pr27 : ∀ tg, Steps pP.tables eE below (T14.setTop (mkF mM 13 #[.val (.int p)] [])) tg → Steps pP.tables eE below (s₁.setTop (entryFrame mM #[(.int p)] 1)) tg := fun tg kg => pr15 _ (by
        show Steps pP.tables eE below (T14.setTop (mkF mM 10 #[.val (.int p)] [(.int (127 : Int32)), (.int p)])) _
        refine XS.icmpNo X14.here hx rfl (hb hby d6_10) rfl (flt hc10_16).2.2.1 ?_
        exact kg)
      obtain ⟨T28, X28, e28, st28⟩ := getS2 X14 hx hZ hown (host := "") (Or.inl (hw _ (List.mem_of_getElem? (i := 83) rfl))) Via.refl e14 (Sta.ext (O).2 S_cache) (g := (mkF mM 13 #[.val (.int p)] [])) rfl (hb hby d6_13)
      have pr29 : ∀ tg, Steps pP.tables eE below (T28.setTop (mkF mM 16 #[.val (.int p)] [(.ref ca)])) tg → Steps pP.tables eE below (s₁.setTop (entryFrame mM #[(.int p)] 1)) tg := fun tg kg => pr27 _ (st28 _ kg)
      have pr30 : ∀ tg, Steps pP.tables eE below (T28.setTop (mkF mM 21 #[.val (.int p)] [(.int (p + (128 : Int32))), (.ref ca)])) tg → Steps pP.tables eE below (s₁.setTop (entryFrame mM #[(.int p)] 1)) tg := fun tg kg => pr29 _ (by
        show Steps pP.tables eE below (T28.setTop (mkF mM 16 #[.val (.int p)] [(.ref ca)])) _
        refine XS.iloadN X28.here hx rfl (hb hby d6_16) rfl ?_
        show Steps pP.tables eE below (T28.setTop (mkF mM 17 #[.val (.int p)] [(.int p), (.ref ca)])) _
        refine XS.sipush X28.here hx rfl (hb hby d6_17) ?_
        show Steps pP.tables eE below (T28.setTop (mkF mM 20 #[.val (.int p)] [(.int (128 : Int32)), (.int p), (.ref ca)])) _
        refine XS.iadd X28.here hx rfl (hb hby d6_20) rfl ?_
        exact kg)
      obtain ⟨bA31, bS31, bM31⟩ := Bxs.ext B (O).2
      have hj31 := own_box hc3_1 hc10_16
      have hin31 : ¬ ((p + (128 : Int32)) < 0 ∨ cc.slots.size ≤ ((p + (128 : Int32))).toNatClampNeg) := inb_of bS31 hj31
      obtain ⟨bx31, hat31, EX31, -⟩ := B.2.2.2 _ hin31
      have pr32 : ∀ tg, Steps pP.tables eE below (T28.setTop (mkF mM 22 #[.val (.int p)] [(.ref bx31)])) tg → Steps pP.tables eE below (s₁.setTop (entryFrame mM #[(.int p)] 1)) tg := fun tg kg => pr30 _ (by
        show Steps pP.tables eE below (T28.setTop (mkF mM 21 #[.val (.int p)] [(.int (p + (128 : Int32))), (.ref ca)])) _
        refine X28.aaload hx (j := (p + (128 : Int32))) (v := (.ref bx31)) (by rw [e28]; exact bA31.1) (State.isArrayOf_alike hZ.alike bA31.2.1) rfl bA31.2.2 hin31 hat31 (g := (mkF mM 21 #[.val (.int p)] [(.int (p + (128 : Int32))), (.ref ca)])) rfl rfl (hb hby d6_21) _ ?_
        exact kg)
      obtain ⟨fs, hr, hrun, hended, hW, hsame⟩ := X28.leave (v := some (.ref bx31)) (fun h => by rw [Bd.returns] at h; cases h)
      refine ⟨_, _, pr32 _ (retOut X28 hx (t := (.object "java/lang/Integer")) Bd.returns rfl (Or.inr (Or.inr (Or.inr (Or.inr ⟨rfl, rfl, rfl⟩)))) (hb hby d6_22) hr), hrun, hended, _, _, rfl, ?_, ⟨_, rfl⟩, hW, hsame.mono (by decide) (by decide)⟩
      show Q6 Z p ca cc h0 n0 _ T28.heap _
      rw [e28]
      exact ⟨_, rfl, N0, (Keep.refl h0 []), (Exa.ext (O).2 EX31)⟩
theorem d7_0 : decode prog_100_method_6_code 0 = .ok (.aload_n 1, 1) := by decide +kernel
theorem d7_1 : decode prog_100_method_6_code 1 = .ok (.instanceof 8, 3) := by decide +kernel
theorem d7_4 : decode prog_100_method_6_code 4 = .ok (.ifCond .eq 23, 3) := by decide +kernel
theorem d7_7 : decode prog_100_method_6_code 7 = .ok (.aload_n 1, 1) := by decide +kernel
theorem d7_8 : decode prog_100_method_6_code 8 = .ok (.checkcast 8, 3) := by decide +kernel
theorem d7_11 : decode prog_100_method_6_code 11 = .ok (.astore_n 2, 1) := by decide +kernel
theorem d7_12 : decode prog_100_method_6_code 12 = .ok (.aload_n 2, 1) := by decide +kernel
theorem d7_13 : decode prog_100_method_6_code 13 = .ok (.getfield 7, 3) := by decide +kernel
theorem d7_16 : decode prog_100_method_6_code 16 = .ok (.aload_n 0, 1) := by decide +kernel
theorem d7_17 : decode prog_100_method_6_code 17 = .ok (.getfield 7, 3) := by decide +kernel
theorem d7_20 : decode prog_100_method_6_code 20 = .ok (.if_icmp .ne 7, 3) := by decide +kernel
theorem d7_23 : decode prog_100_method_6_code 23 = .ok (.iconst 1, 1) := by decide +kernel
theorem d7_24 : decode prog_100_method_6_code 24 = .ok (.goto 4, 3) := by decide +kernel
theorem d7_27 : decode prog_100_method_6_code 27 = .ok (.iconst 0, 1) := by decide +kernel
theorem d7_28 : decode prog_100_method_6_code 28 = .ok (.ireturn, 1) := by decide +kernel
theorem ef_7 (mM : MethodId) (x0 : Addr) (x1 : Addr) : entryFrame mM #[(.ref x0), (.ref x1)] 3 = mkF mM 0 #[.val (.ref x0), .val (.ref x1), .unset] [] := by first | (simp [entryFrame, mkF, argsToLocals, Value.category]; done) | rfl
def Q7 (Z : State) (a : Addr) (b : Addr) (x0 : Int32) (y0 : Int32) (h0 : Heap) (n0 : Nat) (v : Option Value) (h : Heap) (L : List Loc) : Prop := ∃ r : Int32, v = some (.int r) ∧ r = (if y0 = x0 then (1 : Int32) else (0 : Int32)) ∧ Fr n0 L ∧ h = h0
set_option maxRecDepth 65536 in
set_option maxHeartbeats 40000000 in
theorem rm7 (l : Launch) (Z : State) (a0 : Array Value) (hw : ∀ d ∈ tables_1, d.before a0 Z = true) (ws : List Jvm.Cond) (a : Addr) (b : Addr) (x0 : Int32) (y0 : Int32) (h0 : Heap) (n0 : Nat) (Z0 : n0 ≤ h0.size) (E_a : Exa Z h0 a "com/example/refine/refine/cspm/Value$Int") (F_number_a : Fld Z h0 a "com/example/refine/refine/cspm/Value$Int" "number" "I" (.int x0)) (E_b : Exa Z h0 b "com/example/refine/refine/cspm/Value$Int") (F_number_b : Fld Z h0 b "com/example/refine/refine/cspm/Value$Int" "number" "I" (.int y0)) :
    MetFree l (⟨"com/example/refine/refine/cspm/Value$Int", "equals", "(Ljava/lang/Object;)Z"⟩ : MethodName) (head1 (Jvm.Cond.code (⟨"com/example/refine/refine/cspm/Value$Int", "equals", "(Ljava/lang/Object;)Z"⟩ : MethodName) prog_100_method_6_code 3 (some .boolean) :: ws) ({ frames := 0, cells := 0, slots := 0, locals := 0 } : Room)) (fun aA uU => aA = #[(.ref a), (.ref b)] ∧ Z.Warmed39 uU.vm ∧ uU.heap = h0) (fun _ _ _ _ _ => True) (fun _ uU oO uU' => ∃ vV lL, oO = .returned vV ∧ Q7 Z a b x0 y0 h0 n0 vV uU'.heap lL ∧ FrameEnd uU oO uU' lL ({ frames := 0, cells := 0, slots := 0, locals := 0 } : Room).cells ({ frames := 0, cells := 0, slots := 0, locals := 0 } : Room).slots) := by
  refine MetFree.of_bodySF (plainFor_of_name pn_1) hisR ?_
  intro pP eE sS mM args below meth cC s₁ Bd hml0 hP hK
  obtain ⟨rfl, hZ, hh⟩ := hP
  have hx := Bd.exec
  have hby := Bd.bytes
  have hml : cC.maxLocals = 3 := hml0
  have hown : sS.vm.findClass "com/example/refine/refine/cspm/Value$Int" = some mM.cls := findClass_of_methodNamed Bd.named
  have hnm := (name_of_methodNamed Bd.named Bd.method).1
  have X0 : Stand pP l eE ({ frames := 0, cells := 0, slots := 0, locals := 0 } : Room) sS mM #[(.ref a), (.ref b)] below meth cC s₁ [] 0 0 := Stand.of_body Bd
  have e0 : s₁.heap = h0 := by rw [← hh, Bd.state]; rfl
  have N0 := Fr.nil n0
  have pre0 : ∀ tg, Steps pP.tables eE below (s₁.setTop (mkF mM 0 #[.val (.ref a), .val (.ref b), .unset] [])) tg → Steps pP.tables eE below (s₁.setTop (entryFrame mM #[(.ref a), (.ref b)] 3)) tg := fun tg kg => castTop (ef_7 mM a b) kg
  have pr1 : ∀ tg, Steps pP.tables eE below (s₁.setTop (mkF mM 1 #[.val (.ref a), .val (.ref b), .unset] [(.ref b)])) tg → Steps pP.tables eE below (s₁.setTop (entryFrame mM #[(.ref a), (.ref b)] 3)) tg := fun tg kg => pre0 _ (by
    show Steps pP.tables eE below (s₁.setTop (mkF mM 0 #[.val (.ref a), .val (.ref b), .unset] [])) _
    refine XS.aloadN X0.here hx rfl (hb hby d7_0) rfl rfl ?_
    exact kg)
  obtain ⟨T2, X2, e2, st2⟩ := instY X0 hx hZ hown (hw _ (List.mem_of_getElem? (i := 22) rfl)) e0 (Ins.self E_b) (g := (mkF mM 1 #[.val (.ref a), .val (.ref b), .unset] [(.ref b)])) rfl rfl (hb hby d7_1)
  have pr3 : ∀ tg, Steps pP.tables eE below (T2.setTop (mkF mM 4 #[.val (.ref a), .val (.ref b), .unset] [(.int (1 : Int32))])) tg → Steps pP.tables eE below (s₁.setTop (entryFrame mM #[(.ref a), (.ref b)] 3)) tg := fun tg kg => pr1 _ (st2 _ kg)
  have pr4 : ∀ tg, Steps pP.tables eE below (T2.setTop (mkF mM 8 #[.val (.ref a), .val (.ref b), .unset] [(.ref b)])) tg → Steps pP.tables eE below (s₁.setTop (entryFrame mM #[(.ref a), (.ref b)] 3)) tg := fun tg kg => pr3 _ (by
    show Steps pP.tables eE below (T2.setTop (mkF mM 4 #[.val (.ref a), .val (.ref b), .unset] [(.int (1 : Int32))])) _
    refine XS.ifNo X2.here hx rfl (hb hby d7_4) rfl ((if0 _ _).trans (feq (by decide)).1) ?_
    show Steps pP.tables eE below (T2.setTop (mkF mM 7 #[.val (.ref a), .val (.ref b), .unset] [])) _
    refine XS.aloadN X2.here hx rfl (hb hby d7_7) rfl rfl ?_
    exact kg)
  obtain ⟨T5, X5, e5, st5⟩ := castY X2 hx hZ hown (hw _ (List.mem_of_getElem? (i := 22) rfl)) e2 (Ins.self E_b) (g := (mkF mM 8 #[.val (.ref a), .val (.ref b), .unset] [(.ref b)])) rfl rfl (hb hby d7_8)
  have pr6 : ∀ tg, Steps pP.tables eE below (T5.setTop (mkF mM 11 #[.val (.ref a), .val (.ref b), .unset] [(.ref b)])) tg → Steps pP.tables eE below (s₁.setTop (entryFrame mM #[(.ref a), (.ref b)] 3)) tg := fun tg kg => pr4 _ (st5 _ kg)
  have pr7 : ∀ tg, Steps pP.tables eE below (T5.setTop (mkF mM 13 #[.val (.ref a), .val (.ref b), .val (.ref b)] [(.ref b)])) tg → Steps pP.tables eE below (s₁.setTop (entryFrame mM #[(.ref a), (.ref b)] 3)) tg := fun tg kg => pr6 _ (by
    show Steps pP.tables eE below (T5.setTop (mkF mM 11 #[.val (.ref a), .val (.ref b), .unset] [(.ref b)])) _
    refine XS.astoreN X5.here hx rfl (hb hby d7_11) rfl rfl (l' := #[.val (.ref a), .val (.ref b), .val (.ref b)]) rfl ?_
    show Steps pP.tables eE below (T5.setTop (mkF mM 12 #[.val (.ref a), .val (.ref b), .val (.ref b)] [])) _
    refine XS.aloadN X5.here hx rfl (hb hby d7_12) rfl rfl ?_
    exact kg)
  obtain ⟨T8, X8, e8, st8⟩ := getF X5 hx hZ hown (host := "") (Or.inl (hw _ (List.mem_of_getElem? (i := 14) rfl))) Via.refl e5 F_number_b (g := (mkF mM 13 #[.val (.ref a), .val (.ref b), .val (.ref b)] [(.ref b)])) rfl rfl (hb hby d7_13)
  have pr9 : ∀ tg, Steps pP.tables eE below (T8.setTop (mkF mM 16 #[.val (.ref a), .val (.ref b), .val (.ref b)] [(.int y0)])) tg → Steps pP.tables eE below (s₁.setTop (entryFrame mM #[(.ref a), (.ref b)] 3)) tg := fun tg kg => pr7 _ (st8 _ kg)
  have pr10 : ∀ tg, Steps pP.tables eE below (T8.setTop (mkF mM 17 #[.val (.ref a), .val (.ref b), .val (.ref b)] [(.ref a), (.int y0)])) tg → Steps pP.tables eE below (s₁.setTop (entryFrame mM #[(.ref a), (.ref b)] 3)) tg := fun tg kg => pr9 _ (by
    show Steps pP.tables eE below (T8.setTop (mkF mM 16 #[.val (.ref a), .val (.ref b), .val (.ref b)] [(.int y0)])) _
    refine XS.aloadN X8.here hx rfl (hb hby d7_16) rfl rfl ?_
    exact kg)
  obtain ⟨T11, X11, e11, st11⟩ := getF X8 hx hZ hown (host := "") (Or.inl (hw _ (List.mem_of_getElem? (i := 14) rfl))) Via.refl e8 F_number_a (g := (mkF mM 17 #[.val (.ref a), .val (.ref b), .val (.ref b)] [(.ref a), (.int y0)])) rfl rfl (hb hby d7_17)
  have pr12 : ∀ tg, Steps pP.tables eE below (T11.setTop (mkF mM 20 #[.val (.ref a), .val (.ref b), .val (.ref b)] [(.int x0), (.int y0)])) tg → Steps pP.tables eE below (s₁.setTop (entryFrame mM #[(.ref a), (.ref b)] 3)) tg := fun tg kg => pr10 _ (st11 _ kg)
  by_cases hc20_13 : y0 = x0
  ·
    have pr14 : ∀ tg, Steps pP.tables eE below (T11.setTop (mkF mM 28 #[.val (.ref a), .val (.ref b), .val (.ref b)] [(.int (1 : Int32))])) tg → Steps pP.tables eE below (s₁.setTop (entryFrame mM #[(.ref a), (.ref b)] 3)) tg := fun tg kg => pr12 _ (by
      show Steps pP.tables eE below (T11.setTop (mkF mM 20 #[.val (.ref a), .val (.ref b), .val (.ref b)] [(.int x0), (.int y0)])) _
      refine XS.icmpNo X11.here hx rfl (hb hby d7_20) rfl (teq hc20_13).2 ?_
      show Steps pP.tables eE below (T11.setTop (mkF mM 23 #[.val (.ref a), .val (.ref b), .val (.ref b)] [])) _
      refine XS.iconst X11.here hx rfl (hb hby d7_23) ?_
      show Steps pP.tables eE below (T11.setTop (mkF mM 24 #[.val (.ref a), .val (.ref b), .val (.ref b)] [(.int (1 : Int32))])) _
      refine XS.goto X11.here hx rfl (pc0 := 24) (pc' := 28) rfl (hb hby d7_24) (by decide) (by decide) ?_
      exact kg)
    obtain ⟨fs, hr, hrun, hended, hW, hsame⟩ := X11.leave (v := some (.int (1 : Int32))) (fun h => by rw [Bd.returns] at h; cases h)
    refine ⟨_, _, pr14 _ (retOut X11 hx (t := .boolean) Bd.returns rfl (Or.inl ⟨rfl, Or.inr (Or.inl rfl), _, rfl⟩) (hb hby d7_28) hr), hrun, hended, _, _, rfl, ?_, ⟨_, rfl⟩, hW, hsame.mono (by decide) (by decide)⟩
    show Q7 Z a b x0 y0 h0 n0 _ T11.heap _
    rw [e11]
    exact ⟨_, rfl, by rw [if_pos hc20_13], N0, rfl⟩
  ·
    have pr15 : ∀ tg, Steps pP.tables eE below (T11.setTop (mkF mM 28 #[.val (.ref a), .val (.ref b), .val (.ref b)] [(.int (0 : Int32))])) tg → Steps pP.tables eE below (s₁.setTop (entryFrame mM #[(.ref a), (.ref b)] 3)) tg := fun tg kg => pr12 _ (by
      show Steps pP.tables eE below (T11.setTop (mkF mM 20 #[.val (.ref a), .val (.ref b), .val (.ref b)] [(.int x0), (.int y0)])) _
      refine XS.icmpYes X11.here hx rfl (pc0 := 20) (pc' := 27) rfl (hb hby d7_20) rfl (feq hc20_13).2 (by decide) (by decide) ?_
      show Steps pP.tables eE below (T11.setTop (mkF mM 27 #[.val (.ref a), .val (.ref b), .val (.ref b)] [])) _
      refine XS.iconst X11.here hx rfl (hb hby d7_27) ?_
      exact kg)
    obtain ⟨fs, hr, hrun, hended, hW, hsame⟩ := X11.leave (v := some (.int (0 : Int32))) (fun h => by rw [Bd.returns] at h; cases h)
    refine ⟨_, _, pr15 _ (retOut X11 hx (t := .boolean) Bd.returns rfl (Or.inl ⟨rfl, Or.inr (Or.inl rfl), _, rfl⟩) (hb hby d7_28) hr), hrun, hended, _, _, rfl, ?_, ⟨_, rfl⟩, hW, hsame.mono (by decide) (by decide)⟩
    show Q7 Z a b x0 y0 h0 n0 _ T11.heap _
    rw [e11]
    exact ⟨_, rfl, by rw [if_neg hc20_13], N0, rfl⟩
theorem d8_0 : decode prog_100_method_6_code 0 = .ok (.aload_n 1, 1) := by decide +kernel
theorem d8_1 : decode prog_100_method_6_code 1 = .ok (.instanceof 8, 3) := by decide +kernel
theorem d8_4 : decode prog_100_method_6_code 4 = .ok (.ifCond .eq 23, 3) := by decide +kernel
theorem d8_27 : decode prog_100_method_6_code 27 = .ok (.iconst 0, 1) := by decide +kernel
theorem d8_28 : decode prog_100_method_6_code 28 = .ok (.ireturn, 1) := by decide +kernel
theorem ef_8 (mM : MethodId) (x0 : Addr) : entryFrame mM #[(.ref x0), .null] 3 = mkF mM 0 #[.val (.ref x0), .val .null, .unset] [] := by first | (simp [entryFrame, mkF, argsToLocals, Value.category]; done) | rfl
def Q8 (Z : State) (a : Addr) (h0 : Heap) (n0 : Nat) (v : Option Value) (h : Heap) (L : List Loc) : Prop := v = some (.int (0 : Int32)) ∧ Fr n0 L ∧ h = h0
set_option maxRecDepth 65536 in
set_option maxHeartbeats 40000000 in
theorem rm8 (l : Launch) (Z : State) (a0 : Array Value) (hw : ∀ d ∈ tables_1, d.before a0 Z = true) (ws : List Jvm.Cond) (a : Addr) (h0 : Heap) (n0 : Nat) (Z0 : n0 ≤ h0.size) :
    MetFree l (⟨"com/example/refine/refine/cspm/Value$Int", "equals", "(Ljava/lang/Object;)Z"⟩ : MethodName) (head1 (Jvm.Cond.code (⟨"com/example/refine/refine/cspm/Value$Int", "equals", "(Ljava/lang/Object;)Z"⟩ : MethodName) prog_100_method_6_code 3 (some .boolean) :: ws) ({ frames := 0, cells := 0, slots := 0, locals := 0 } : Room)) (fun aA uU => aA = #[(.ref a), .null] ∧ Z.Warmed39 uU.vm ∧ uU.heap = h0) (fun _ _ _ _ _ => True) (fun _ uU oO uU' => ∃ vV lL, oO = .returned vV ∧ Q8 Z a h0 n0 vV uU'.heap lL ∧ FrameEnd uU oO uU' lL ({ frames := 0, cells := 0, slots := 0, locals := 0 } : Room).cells ({ frames := 0, cells := 0, slots := 0, locals := 0 } : Room).slots) := by
  refine MetFree.of_bodySF (plainFor_of_name pn_1) hisR ?_
  intro pP eE sS mM args below meth cC s₁ Bd hml0 hP hK
  obtain ⟨rfl, hZ, hh⟩ := hP
  have hx := Bd.exec
  have hby := Bd.bytes
  have hml : cC.maxLocals = 3 := hml0
  have hown : sS.vm.findClass "com/example/refine/refine/cspm/Value$Int" = some mM.cls := findClass_of_methodNamed Bd.named
  have hnm := (name_of_methodNamed Bd.named Bd.method).1
  have X0 : Stand pP l eE ({ frames := 0, cells := 0, slots := 0, locals := 0 } : Room) sS mM #[(.ref a), .null] below meth cC s₁ [] 0 0 := Stand.of_body Bd
  have e0 : s₁.heap = h0 := by rw [← hh, Bd.state]; rfl
  have N0 := Fr.nil n0
  have pre0 : ∀ tg, Steps pP.tables eE below (s₁.setTop (mkF mM 0 #[.val (.ref a), .val .null, .unset] [])) tg → Steps pP.tables eE below (s₁.setTop (entryFrame mM #[(.ref a), .null] 3)) tg := fun tg kg => castTop (ef_8 mM a) kg
  have pr1 : ∀ tg, Steps pP.tables eE below (s₁.setTop (mkF mM 28 #[.val (.ref a), .val .null, .unset] [(.int (0 : Int32))])) tg → Steps pP.tables eE below (s₁.setTop (entryFrame mM #[(.ref a), .null] 3)) tg := fun tg kg => pre0 _ (by
    show Steps pP.tables eE below (s₁.setTop (mkF mM 0 #[.val (.ref a), .val .null, .unset] [])) _
    refine XS.aloadN X0.here hx rfl (hb hby d8_0) rfl rfl ?_
    show Steps pP.tables eE below (s₁.setTop (mkF mM 1 #[.val (.ref a), .val .null, .unset] [.null])) _
    refine X0.instanceofNull hx (g := (mkF mM 1 #[.val (.ref a), .val .null, .unset] [.null])) rfl rfl (hb hby d8_1) _ ?_
    show Steps pP.tables eE below (s₁.setTop (mkF mM 4 #[.val (.ref a), .val .null, .unset] [(.int (0 : Int32))])) _
    refine XS.ifYes X0.here hx rfl (pc0 := 4) (pc' := 27) rfl (hb hby d8_4) rfl ((if0 _ _).trans (teq (by decide)).1) (by decide) (by decide) ?_
    show Steps pP.tables eE below (s₁.setTop (mkF mM 27 #[.val (.ref a), .val .null, .unset] [])) _
    refine XS.iconst X0.here hx rfl (hb hby d8_27) ?_
    exact kg)
  obtain ⟨fs, hr, hrun, hended, hW, hsame⟩ := X0.leave (v := some (.int (0 : Int32))) (fun h => by rw [Bd.returns] at h; cases h)
  refine ⟨_, _, pr1 _ (retOut X0 hx (t := .boolean) Bd.returns rfl (Or.inl ⟨rfl, Or.inr (Or.inl rfl), _, rfl⟩) (hb hby d8_28) hr), hrun, hended, _, _, rfl, ?_, ⟨_, rfl⟩, hW, hsame.mono (by decide) (by decide)⟩
  show Q8 Z a h0 n0 _ s₁.heap _
  rw [e0]
  exact ⟨rfl, N0, rfl⟩
theorem d9_0 : decode prog_100_method_6_code 0 = .ok (.aload_n 1, 1) := by decide +kernel
theorem d9_1 : decode prog_100_method_6_code 1 = .ok (.instanceof 8, 3) := by decide +kernel
theorem d9_4 : decode prog_100_method_6_code 4 = .ok (.ifCond .eq 23, 3) := by decide +kernel
theorem d9_27 : decode prog_100_method_6_code 27 = .ok (.iconst 0, 1) := by decide +kernel
theorem d9_28 : decode prog_100_method_6_code 28 = .ok (.ireturn, 1) := by decide +kernel
theorem ef_9 (mM : MethodId) (x0 : Addr) (x1 : Addr) : entryFrame mM #[(.ref x0), (.ref x1)] 3 = mkF mM 0 #[.val (.ref x0), .val (.ref x1), .unset] [] := by first | (simp [entryFrame, mkF, argsToLocals, Value.category]; done) | rfl
def Q9 (Z : State) (a : Addr) (b : Addr) (h0 : Heap) (n0 : Nat) (v : Option Value) (h : Heap) (L : List Loc) : Prop := v = some (.int (0 : Int32)) ∧ Fr n0 L ∧ h = h0
set_option maxRecDepth 65536 in
set_option maxHeartbeats 40000000 in
theorem rm9 (l : Launch) (Z : State) (a0 : Array Value) (hw : ∀ d ∈ tables_1, d.before a0 Z = true) (ws : List Jvm.Cond) (a : Addr) (b : Addr) (h0 : Heap) (n0 : Nat) (Z0 : n0 ≤ h0.size) (E_b : Exa Z h0 b "java/lang/Integer") :
    MetFree l (⟨"com/example/refine/refine/cspm/Value$Int", "equals", "(Ljava/lang/Object;)Z"⟩ : MethodName) (head1 (Jvm.Cond.code (⟨"com/example/refine/refine/cspm/Value$Int", "equals", "(Ljava/lang/Object;)Z"⟩ : MethodName) prog_100_method_6_code 3 (some .boolean) :: ws) ({ frames := 0, cells := 0, slots := 0, locals := 0 } : Room)) (fun aA uU => aA = #[(.ref a), (.ref b)] ∧ Z.Warmed39 uU.vm ∧ uU.heap = h0) (fun _ _ _ _ _ => True) (fun _ uU oO uU' => ∃ vV lL, oO = .returned vV ∧ Q9 Z a b h0 n0 vV uU'.heap lL ∧ FrameEnd uU oO uU' lL ({ frames := 0, cells := 0, slots := 0, locals := 0 } : Room).cells ({ frames := 0, cells := 0, slots := 0, locals := 0 } : Room).slots) := by
  refine MetFree.of_bodySF (plainFor_of_name pn_1) hisR ?_
  intro pP eE sS mM args below meth cC s₁ Bd hml0 hP hK
  obtain ⟨rfl, hZ, hh⟩ := hP
  have hx := Bd.exec
  have hby := Bd.bytes
  have hml : cC.maxLocals = 3 := hml0
  have hown : sS.vm.findClass "com/example/refine/refine/cspm/Value$Int" = some mM.cls := findClass_of_methodNamed Bd.named
  have hnm := (name_of_methodNamed Bd.named Bd.method).1
  have X0 : Stand pP l eE ({ frames := 0, cells := 0, slots := 0, locals := 0 } : Room) sS mM #[(.ref a), (.ref b)] below meth cC s₁ [] 0 0 := Stand.of_body Bd
  have e0 : s₁.heap = h0 := by rw [← hh, Bd.state]; rfl
  have N0 := Fr.nil n0
  have pre0 : ∀ tg, Steps pP.tables eE below (s₁.setTop (mkF mM 0 #[.val (.ref a), .val (.ref b), .unset] [])) tg → Steps pP.tables eE below (s₁.setTop (entryFrame mM #[(.ref a), (.ref b)] 3)) tg := fun tg kg => castTop (ef_9 mM a b) kg
  have pr1 : ∀ tg, Steps pP.tables eE below (s₁.setTop (mkF mM 1 #[.val (.ref a), .val (.ref b), .unset] [(.ref b)])) tg → Steps pP.tables eE below (s₁.setTop (entryFrame mM #[(.ref a), (.ref b)] 3)) tg := fun tg kg => pre0 _ (by
    show Steps pP.tables eE below (s₁.setTop (mkF mM 0 #[.val (.ref a), .val (.ref b), .unset] [])) _
    refine XS.aloadN X0.here hx rfl (hb hby d9_0) rfl rfl ?_
    exact kg)
  obtain ⟨T2, X2, e2, st2⟩ := instNo X0 hx hZ hown (hw _ (List.mem_of_getElem? (i := 22) rfl)) e0 E_b (own_noinst (hw _ (List.mem_of_getElem? (i := 79) rfl)) (hw _ (List.mem_of_getElem? (i := 1) rfl)) (NS.step (hw _ (List.mem_of_getElem? (i := 79) rfl)) (NS.step (hw _ (List.mem_of_getElem? (i := 80) rfl)) (own_ns (hw _ (List.mem_of_getElem? (i := 59) rfl)) (hw _ (List.mem_of_getElem? (i := 1) rfl)) (by decide)) (by decide)) (by decide)) (by decide)) (g := (mkF mM 1 #[.val (.ref a), .val (.ref b), .unset] [(.ref b)])) rfl rfl (hb hby d9_1)
  have pr3 : ∀ tg, Steps pP.tables eE below (T2.setTop (mkF mM 4 #[.val (.ref a), .val (.ref b), .unset] [(.int (0 : Int32))])) tg → Steps pP.tables eE below (s₁.setTop (entryFrame mM #[(.ref a), (.ref b)] 3)) tg := fun tg kg => pr1 _ (st2 _ kg)
  have pr4 : ∀ tg, Steps pP.tables eE below (T2.setTop (mkF mM 28 #[.val (.ref a), .val (.ref b), .unset] [(.int (0 : Int32))])) tg → Steps pP.tables eE below (s₁.setTop (entryFrame mM #[(.ref a), (.ref b)] 3)) tg := fun tg kg => pr3 _ (by
    show Steps pP.tables eE below (T2.setTop (mkF mM 4 #[.val (.ref a), .val (.ref b), .unset] [(.int (0 : Int32))])) _
    refine XS.ifYes X2.here hx rfl (pc0 := 4) (pc' := 27) rfl (hb hby d9_4) rfl ((if0 _ _).trans (teq (by decide)).1) (by decide) (by decide) ?_
    show Steps pP.tables eE below (T2.setTop (mkF mM 27 #[.val (.ref a), .val (.ref b), .unset] [])) _
    refine XS.iconst X2.here hx rfl (hb hby d9_27) ?_
    exact kg)
  obtain ⟨fs, hr, hrun, hended, hW, hsame⟩ := X2.leave (v := some (.int (0 : Int32))) (fun h => by rw [Bd.returns] at h; cases h)
  refine ⟨_, _, pr4 _ (retOut X2 hx (t := .boolean) Bd.returns rfl (Or.inl ⟨rfl, Or.inr (Or.inl rfl), _, rfl⟩) (hb hby d9_28) hr), hrun, hended, _, _, rfl, ?_, ⟨_, rfl⟩, hW, hsame.mono (by decide) (by decide)⟩
  show Q9 Z a b h0 n0 _ T2.heap _
  rw [e2]
  exact ⟨rfl, N0, rfl⟩
theorem d10_0 : decode prog_100_method_6_code 0 = .ok (.aload_n 1, 1) := by decide +kernel
theorem d10_1 : decode prog_100_method_6_code 1 = .ok (.instanceof 8, 3) := by decide +kernel
theorem d10_4 : decode prog_100_method_6_code 4 = .ok (.ifCond .eq 23, 3) := by decide +kernel
theorem d10_27 : decode prog_100_method_6_code 27 = .ok (.iconst 0, 1) := by decide +kernel
theorem d10_28 : decode prog_100_method_6_code 28 = .ok (.ireturn, 1) := by decide +kernel
theorem ef_10 (mM : MethodId) (x0 : Addr) (x1 : Addr) : entryFrame mM #[(.ref x0), (.ref x1)] 3 = mkF mM 0 #[.val (.ref x0), .val (.ref x1), .unset] [] := by first | (simp [entryFrame, mkF, argsToLocals, Value.category]; done) | rfl
def Q10 (Z : State) (a : Addr) (b : Addr) (h0 : Heap) (n0 : Nat) (v : Option Value) (h : Heap) (L : List Loc) : Prop := v = some (.int (0 : Int32)) ∧ Fr n0 L ∧ h = h0
set_option maxRecDepth 65536 in
set_option maxHeartbeats 40000000 in
theorem rm10 (l : Launch) (Z : State) (a0 : Array Value) (hw : ∀ d ∈ tables_1, d.before a0 Z = true) (ws : List Jvm.Cond) (a : Addr) (b : Addr) (h0 : Heap) (n0 : Nat) (Z0 : n0 ≤ h0.size) (E_b : Exa Z h0 b "com/example/refine/refine/cspm/Value$Text") :
    MetFree l (⟨"com/example/refine/refine/cspm/Value$Int", "equals", "(Ljava/lang/Object;)Z"⟩ : MethodName) (head1 (Jvm.Cond.code (⟨"com/example/refine/refine/cspm/Value$Int", "equals", "(Ljava/lang/Object;)Z"⟩ : MethodName) prog_100_method_6_code 3 (some .boolean) :: ws) ({ frames := 0, cells := 0, slots := 0, locals := 0 } : Room)) (fun aA uU => aA = #[(.ref a), (.ref b)] ∧ Z.Warmed39 uU.vm ∧ uU.heap = h0) (fun _ _ _ _ _ => True) (fun _ uU oO uU' => ∃ vV lL, oO = .returned vV ∧ Q10 Z a b h0 n0 vV uU'.heap lL ∧ FrameEnd uU oO uU' lL ({ frames := 0, cells := 0, slots := 0, locals := 0 } : Room).cells ({ frames := 0, cells := 0, slots := 0, locals := 0 } : Room).slots) := by
  refine MetFree.of_bodySF (plainFor_of_name pn_1) hisR ?_
  intro pP eE sS mM args below meth cC s₁ Bd hml0 hP hK
  obtain ⟨rfl, hZ, hh⟩ := hP
  have hx := Bd.exec
  have hby := Bd.bytes
  have hml : cC.maxLocals = 3 := hml0
  have hown : sS.vm.findClass "com/example/refine/refine/cspm/Value$Int" = some mM.cls := findClass_of_methodNamed Bd.named
  have hnm := (name_of_methodNamed Bd.named Bd.method).1
  have X0 : Stand pP l eE ({ frames := 0, cells := 0, slots := 0, locals := 0 } : Room) sS mM #[(.ref a), (.ref b)] below meth cC s₁ [] 0 0 := Stand.of_body Bd
  have e0 : s₁.heap = h0 := by rw [← hh, Bd.state]; rfl
  have N0 := Fr.nil n0
  have pre0 : ∀ tg, Steps pP.tables eE below (s₁.setTop (mkF mM 0 #[.val (.ref a), .val (.ref b), .unset] [])) tg → Steps pP.tables eE below (s₁.setTop (entryFrame mM #[(.ref a), (.ref b)] 3)) tg := fun tg kg => castTop (ef_10 mM a b) kg
  have pr1 : ∀ tg, Steps pP.tables eE below (s₁.setTop (mkF mM 1 #[.val (.ref a), .val (.ref b), .unset] [(.ref b)])) tg → Steps pP.tables eE below (s₁.setTop (entryFrame mM #[(.ref a), (.ref b)] 3)) tg := fun tg kg => pre0 _ (by
    show Steps pP.tables eE below (s₁.setTop (mkF mM 0 #[.val (.ref a), .val (.ref b), .unset] [])) _
    refine XS.aloadN X0.here hx rfl (hb hby d10_0) rfl rfl ?_
    exact kg)
  obtain ⟨T2, X2, e2, st2⟩ := instNo X0 hx hZ hown (hw _ (List.mem_of_getElem? (i := 22) rfl)) e0 E_b (own_noinst (hw _ (List.mem_of_getElem? (i := 57) rfl)) (hw _ (List.mem_of_getElem? (i := 1) rfl)) (NS.step (hw _ (List.mem_of_getElem? (i := 57) rfl)) (NS.step (hw _ (List.mem_of_getElem? (i := 58) rfl)) (own_ns (hw _ (List.mem_of_getElem? (i := 59) rfl)) (hw _ (List.mem_of_getElem? (i := 1) rfl)) (by decide)) (by decide)) (by decide)) (by decide)) (g := (mkF mM 1 #[.val (.ref a), .val (.ref b), .unset] [(.ref b)])) rfl rfl (hb hby d10_1)
  have pr3 : ∀ tg, Steps pP.tables eE below (T2.setTop (mkF mM 4 #[.val (.ref a), .val (.ref b), .unset] [(.int (0 : Int32))])) tg → Steps pP.tables eE below (s₁.setTop (entryFrame mM #[(.ref a), (.ref b)] 3)) tg := fun tg kg => pr1 _ (st2 _ kg)
  have pr4 : ∀ tg, Steps pP.tables eE below (T2.setTop (mkF mM 28 #[.val (.ref a), .val (.ref b), .unset] [(.int (0 : Int32))])) tg → Steps pP.tables eE below (s₁.setTop (entryFrame mM #[(.ref a), (.ref b)] 3)) tg := fun tg kg => pr3 _ (by
    show Steps pP.tables eE below (T2.setTop (mkF mM 4 #[.val (.ref a), .val (.ref b), .unset] [(.int (0 : Int32))])) _
    refine XS.ifYes X2.here hx rfl (pc0 := 4) (pc' := 27) rfl (hb hby d10_4) rfl ((if0 _ _).trans (teq (by decide)).1) (by decide) (by decide) ?_
    show Steps pP.tables eE below (T2.setTop (mkF mM 27 #[.val (.ref a), .val (.ref b), .unset] [])) _
    refine XS.iconst X2.here hx rfl (hb hby d10_27) ?_
    exact kg)
  obtain ⟨fs, hr, hrun, hended, hW, hsame⟩ := X2.leave (v := some (.int (0 : Int32))) (fun h => by rw [Bd.returns] at h; cases h)
  refine ⟨_, _, pr4 _ (retOut X2 hx (t := .boolean) Bd.returns rfl (Or.inl ⟨rfl, Or.inr (Or.inl rfl), _, rfl⟩) (hb hby d10_28) hr), hrun, hended, _, _, rfl, ?_, ⟨_, rfl⟩, hW, hsame.mono (by decide) (by decide)⟩
  show Q10 Z a b h0 n0 _ T2.heap _
  rw [e2]
  exact ⟨rfl, N0, rfl⟩
theorem d11_0 : decode jdk_43_method_3_code 0 = .ok (.iload_n 0, 1) := by decide +kernel
theorem d11_1 : decode jdk_43_method_3_code 1 = .ok (.sipush 255, 3) := by decide +kernel
theorem d11_4 : decode jdk_43_method_3_code 4 = .ok (.if_icmp .gt 7, 3) := by decide +kernel
theorem d11_7 : decode jdk_43_method_3_code 7 = .ok (.iconst 1, 1) := by decide +kernel
theorem d11_8 : decode jdk_43_method_3_code 8 = .ok (.goto 4, 3) := by decide +kernel
theorem d11_11 : decode jdk_43_method_3_code 11 = .ok (.iconst 0, 1) := by decide +kernel
theorem d11_12 : decode jdk_43_method_3_code 12 = .ok (.ireturn, 1) := by decide +kernel
theorem pn_5 : plainName "java/lang/StringLatin1" = true := by first | (simp [plainName, overriddenIn]; done) | decide +kernel
theorem ef_11 (mM : MethodId) (x0 : Int32) : entryFrame mM #[(.int x0)] 1 = mkF mM 0 #[.val (.int x0)] [] := by first | (simp [entryFrame, mkF, argsToLocals, Value.category]; done) | rfl
def Q11 (Z : State) (c : Int32) (h0 : Heap) (n0 : Nat) (v : Option Value) (h : Heap) (L : List Loc) : Prop := ∃ r : Int32, v = some (.int r) ∧ r = (if (255 : Int32) < c then (0 : Int32) else (1 : Int32)) ∧ Fr n0 L ∧ h = h0
set_option maxRecDepth 65536 in
set_option maxHeartbeats 40000000 in
theorem rm11 (l : Launch) (Z : State) (a0 : Array Value) (hw : ∀ d ∈ tables_1, d.before a0 Z = true) (ws : List Jvm.Cond) (c : Int32) (h0 : Heap) (n0 : Nat) (Z0 : n0 ≤ h0.size) :
    MetFree l (⟨"java/lang/StringLatin1", "canEncode", "(C)Z"⟩ : MethodName) (head1 (Jvm.Cond.code (⟨"java/lang/StringLatin1", "canEncode", "(C)Z"⟩ : MethodName) jdk_43_method_3_code 1 (some .boolean) :: ws) ({ frames := 0, cells := 0, slots := 0, locals := 0 } : Room)) (fun aA uU => aA = #[(.int c)] ∧ Z.Warmed39 uU.vm ∧ uU.heap = h0) (fun _ _ _ _ _ => True) (fun _ uU oO uU' => ∃ vV lL, oO = .returned vV ∧ Q11 Z c h0 n0 vV uU'.heap lL ∧ FrameEnd uU oO uU' lL ({ frames := 0, cells := 0, slots := 0, locals := 0 } : Room).cells ({ frames := 0, cells := 0, slots := 0, locals := 0 } : Room).slots) := by
  refine MetFree.of_bodySF (plainFor_of_name pn_5) hisR ?_
  intro pP eE sS mM args below meth cC s₁ Bd hml0 hP hK
  obtain ⟨rfl, hZ, hh⟩ := hP
  have hx := Bd.exec
  have hby := Bd.bytes
  have hml : cC.maxLocals = 1 := hml0
  have hown : sS.vm.findClass "java/lang/StringLatin1" = some mM.cls := findClass_of_methodNamed Bd.named
  have hnm := (name_of_methodNamed Bd.named Bd.method).1
  have X0 : Stand pP l eE ({ frames := 0, cells := 0, slots := 0, locals := 0 } : Room) sS mM #[(.int c)] below meth cC s₁ [] 0 0 := Stand.of_body Bd
  have e0 : s₁.heap = h0 := by rw [← hh, Bd.state]; rfl
  have N0 := Fr.nil n0
  have pre0 : ∀ tg, Steps pP.tables eE below (s₁.setTop (mkF mM 0 #[.val (.int c)] [])) tg → Steps pP.tables eE below (s₁.setTop (entryFrame mM #[(.int c)] 1)) tg := fun tg kg => castTop (ef_11 mM c) kg
  have pr2 : ∀ tg, Steps pP.tables eE below (s₁.setTop (mkF mM 4 #[.val (.int c)] [(.int (255 : Int32)), (.int c)])) tg → Steps pP.tables eE below (s₁.setTop (entryFrame mM #[(.int c)] 1)) tg := fun tg kg => pre0 _ (by
    show Steps pP.tables eE below (s₁.setTop (mkF mM 0 #[.val (.int c)] [])) _
    refine XS.iloadN X0.here hx rfl (hb hby d11_0) rfl ?_
    show Steps pP.tables eE below (s₁.setTop (mkF mM 1 #[.val (.int c)] [(.int c)])) _
    refine XS.sipush X0.here hx rfl (hb hby d11_1) ?_
    exact kg)
  by_cases hc4_1 : (255 : Int32) < c
  ·
    have pr3 : ∀ tg, Steps pP.tables eE below (s₁.setTop (mkF mM 12 #[.val (.int c)] [(.int (0 : Int32))])) tg → Steps pP.tables eE below (s₁.setTop (entryFrame mM #[(.int c)] 1)) tg := fun tg kg => pr2 _ (by
      show Steps pP.tables eE below (s₁.setTop (mkF mM 4 #[.val (.int c)] [(.int (255 : Int32)), (.int c)])) _
      refine XS.icmpYes X0.here hx rfl (pc0 := 4) (pc' := 11) rfl (hb hby d11_4) rfl (tlt hc4_1).2.2.1 (by decide) (by decide) ?_
      show Steps pP.tables eE below (s₁.setTop (mkF mM 11 #[.val (.int c)] [])) _
      refine XS.iconst X0.here hx rfl (hb hby d11_11) ?_
      exact kg)
    obtain ⟨fs, hr, hrun, hended, hW, hsame⟩ := X0.leave (v := some (.int (0 : Int32))) (fun h => by rw [Bd.returns] at h; cases h)
    refine ⟨_, _, pr3 _ (retOut X0 hx (t := .boolean) Bd.returns rfl (Or.inl ⟨rfl, Or.inr (Or.inl rfl), _, rfl⟩) (hb hby d11_12) hr), hrun, hended, _, _, rfl, ?_, ⟨_, rfl⟩, hW, hsame.mono (by decide) (by decide)⟩
    show Q11 Z c h0 n0 _ s₁.heap _
    rw [e0]
    exact ⟨_, rfl, by rw [if_pos hc4_1], N0, rfl⟩
  ·
    have pr4 : ∀ tg, Steps pP.tables eE below (s₁.setTop (mkF mM 12 #[.val (.int c)] [(.int (1 : Int32))])) tg → Steps pP.tables eE below (s₁.setTop (entryFrame mM #[(.int c)] 1)) tg := fun tg kg => pr2 _ (by
      show Steps pP.tables eE below (s₁.setTop (mkF mM 4 #[.val (.int c)] [(.int (255 : Int32)), (.int c)])) _
      refine XS.icmpNo X0.here hx rfl (hb hby d11_4) rfl (flt hc4_1).2.2.1 ?_
      show Steps pP.tables eE below (s₁.setTop (mkF mM 7 #[.val (.int c)] [])) _
      refine XS.iconst X0.here hx rfl (hb hby d11_7) ?_
      show Steps pP.tables eE below (s₁.setTop (mkF mM 8 #[.val (.int c)] [(.int (1 : Int32))])) _
      refine XS.goto X0.here hx rfl (pc0 := 8) (pc' := 12) rfl (hb hby d11_8) (by decide) (by decide) ?_
      exact kg)
    obtain ⟨fs, hr, hrun, hended, hW, hsame⟩ := X0.leave (v := some (.int (1 : Int32))) (fun h => by rw [Bd.returns] at h; cases h)
    refine ⟨_, _, pr4 _ (retOut X0 hx (t := .boolean) Bd.returns rfl (Or.inl ⟨rfl, Or.inr (Or.inl rfl), _, rfl⟩) (hb hby d11_12) hr), hrun, hended, _, _, rfl, ?_, ⟨_, rfl⟩, hW, hsame.mono (by decide) (by decide)⟩
    show Q11 Z c h0 n0 _ s₁.heap _
    rw [e0]
    exact ⟨_, rfl, by rw [if_neg hc4_1], N0, rfl⟩
theorem d12_0 : decode jdk_43_method_46_code 0 = .ok (.iconst 1, 1) := by decide +kernel
theorem d12_1 : decode jdk_43_method_46_code 1 = .ok (.newarray .byte, 2) := by decide +kernel
theorem d12_3 : decode jdk_43_method_46_code 3 = .ok (.dup, 1) := by decide +kernel
theorem d12_4 : decode jdk_43_method_46_code 4 = .ok (.iconst 0, 1) := by decide +kernel
theorem d12_5 : decode jdk_43_method_46_code 5 = .ok (.iload_n 0, 1) := by decide +kernel
theorem d12_6 : decode jdk_43_method_46_code 6 = .ok (.i2b, 1) := by decide +kernel
theorem d12_7 : decode jdk_43_method_46_code 7 = .ok (.bastore, 1) := by decide +kernel
theorem d12_8 : decode jdk_43_method_46_code 8 = .ok (.areturn, 1) := by decide +kernel
theorem ef_12 (mM : MethodId) (x0 : Int32) : entryFrame mM #[(.int x0)] 1 = mkF mM 0 #[.val (.int x0)] [] := by first | (simp [entryFrame, mkF, argsToLocals, Value.category]; done) | rfl
def Q12 (Z : State) (c : Int32) (h0 : Heap) (n0 : Nat) (v : Option Value) (h : Heap) (L : List Loc) : Prop := ∃ b : Addr, v = some (.ref b) ∧ Fr n0 L ∧ Keep h0 h []
set_option maxRecDepth 65536 in
set_option maxHeartbeats 40000000 in
theorem rm12 (l : Launch) (Z : State) (a0 : Array Value) (hw : ∀ d ∈ tables_1, d.before a0 Z = true) (ws : List Jvm.Cond) (c : Int32) (h0 : Heap) (n0 : Nat) (Z0 : n0 ≤ h0.size) :
    MetFree l (⟨"java/lang/StringLatin1", "toBytes", "(C)[B"⟩ : MethodName) (head1 (Jvm.Cond.code (⟨"java/lang/StringLatin1", "toBytes", "(C)[B"⟩ : MethodName) jdk_43_method_46_code 1 (some (.array .byte)) :: ws) ({ frames := 0, cells := 1, slots := 1, locals := 0 } : Room)) (fun aA uU => aA = #[(.int c)] ∧ Z.Warmed39 uU.vm ∧ uU.heap = h0) (fun _ _ _ _ _ => True) (fun _ uU oO uU' => ∃ vV lL, oO = .returned vV ∧ Q12 Z c h0 n0 vV uU'.heap lL ∧ FrameEnd uU oO uU' lL ({ frames := 0, cells := 1, slots := 1, locals := 0 } : Room).cells ({ frames := 0, cells := 1, slots := 1, locals := 0 } : Room).slots) := by
  refine MetFree.of_bodySF (plainFor_of_name pn_5) hisR ?_
  intro pP eE sS mM args below meth cC s₁ Bd hml0 hP hK
  obtain ⟨rfl, hZ, hh⟩ := hP
  have hx := Bd.exec
  have hby := Bd.bytes
  have hml : cC.maxLocals = 1 := hml0
  have hown : sS.vm.findClass "java/lang/StringLatin1" = some mM.cls := findClass_of_methodNamed Bd.named
  have hnm := (name_of_methodNamed Bd.named Bd.method).1
  have X0 : Stand pP l eE ({ frames := 0, cells := 1, slots := 1, locals := 0 } : Room) sS mM #[(.int c)] below meth cC s₁ [] 0 0 := Stand.of_body Bd
  have e0 : s₁.heap = h0 := by rw [← hh, Bd.state]; rfl
  have N0 := Fr.nil n0
  have pre0 : ∀ tg, Steps pP.tables eE below (s₁.setTop (mkF mM 0 #[.val (.int c)] [])) tg → Steps pP.tables eE below (s₁.setTop (entryFrame mM #[(.int c)] 1)) tg := fun tg kg => castTop (ef_12 mM c) kg
  have pr1 : ∀ tg, Steps pP.tables eE below (s₁.setTop (mkF mM 1 #[.val (.int c)] [(.int (1 : Int32))])) tg → Steps pP.tables eE below (s₁.setTop (entryFrame mM #[(.int c)] 1)) tg := fun tg kg => pre0 _ (by
    show Steps pP.tables eE below (s₁.setTop (mkF mM 0 #[.val (.int c)] [])) _
    refine XS.iconst X0.here hx rfl (hb hby d12_0) ?_
    exact kg)
  obtain ⟨T2, h2, k2, X2, e2, E2, A2, Ex2, st2⟩ := newPE X0 hx hZ (hw _ (List.mem_of_getElem? (i := 41) rfl)) e0 (g := (mkF mM 1 #[.val (.int c)] [(.int (1 : Int32))])) rfl (hb hby d12_1) rfl (by decide) (cap := 1) (by decide) (by decide) (by decide) (by decide) (ad := "[B") rfl
  obtain ⟨b2, g2⟩ : ∃ z, z = (h0).size := ⟨_, rfl⟩
  rw [← g2] at A2 Ex2 st2
  have gn3 : n0 ≤ b2 := Nat.le_trans Z0 (Nat.le_of_eq g2.symm)
  have gs4 : h0.size ≤ b2 := Nat.le_trans (Keep.refl h0 []).1 (Nat.le_of_eq g2.symm)
  have V2 : Arv Z h2 b2 k2 .byte (1 : Int32) [(.int (0 : Int32))] (.int (0 : Int32)) := (Arv.new A2 (by decide)).pad (pad_rep [] (.int (0 : Int32)) 1)
  have pr5 : ∀ tg, Steps pP.tables eE below (T2.setTop (mkF mM 3 #[.val (.int c)] [(.ref b2)])) tg → Steps pP.tables eE below (s₁.setTop (entryFrame mM #[(.int c)] 1)) tg := fun tg kg => pr1 _ (st2 _ kg)
  have pr6 : ∀ tg, Steps pP.tables eE below (T2.setTop (mkF mM 7 #[.val (.int c)] [(.int c.toInt8.toInt32), (.int (0 : Int32)), (.ref b2), (.ref b2)])) tg → Steps pP.tables eE below (s₁.setTop (entryFrame mM #[(.int c)] 1)) tg := fun tg kg => pr5 _ (by
    show Steps pP.tables eE below (T2.setTop (mkF mM 3 #[.val (.int c)] [(.ref b2)])) _
    refine XS.dup X2.here hx rfl (hb hby d12_3) rfl rfl ?_
    show Steps pP.tables eE below (T2.setTop (mkF mM 4 #[.val (.int c)] [(.ref b2), (.ref b2)])) _
    refine XS.iconst X2.here hx rfl (hb hby d12_4) ?_
    show Steps pP.tables eE below (T2.setTop (mkF mM 5 #[.val (.int c)] [(.int (0 : Int32)), (.ref b2), (.ref b2)])) _
    refine XS.iloadN X2.here hx rfl (hb hby d12_5) rfl ?_
    show Steps pP.tables eE below (T2.setTop (mkF mM 6 #[.val (.int c)] [(.int c), (.int (0 : Int32)), (.ref b2), (.ref b2)])) _
    refine XS.i2b X2.here hx rfl (hb hby d12_6) rfl ?_
    exact kg)
  obtain ⟨cla7, Ara7, qa7, Sa7, Ma7, Ha7, Ga7⟩ := id V2
  have hin8 : ¬ ((0 : Int32) < 0 ∨ cla7.slots.size ≤ ((0 : Int32)).toNatClampNeg) := inb_of Sa7 ⟨by decide, by decide⟩
  obtain ⟨T8, h8, X8, e8, W8, st8⟩ := stB X2 hx hZ e2 Ara7 (j := (0 : Int32)) hin8 (g := (mkF mM 7 #[.val (.int c)] [(.int c.toInt8.toInt32), (.int (0 : Int32)), (.ref b2), (.ref b2)])) rfl rfl (hb hby d12_7)
  have V8 : Arv Z h8 b2 k2 .byte (1 : Int32) [(.int (nar .byte c.toInt8.toInt32))] (.int (0 : Int32)) := Arv.set Ara7 qa7 Sa7 Ma7 Ha7 Ga7 (fits_nar_byte _) W8 0 rfl (Nat.le_of_ble_eq_true rfl)
  have N8 := Fr.snoc X8 N0 gn3
  have pr9 : ∀ tg, Steps pP.tables eE below (T8.setTop (mkF mM 8 #[.val (.int c)] [(.ref b2)])) tg → Steps pP.tables eE below (s₁.setTop (entryFrame mM #[(.int c)] 1)) tg := fun tg kg => pr6 _ (st8 _ kg)
  have c10 := (Keep.wr (Keep.ext (Keep.refl h0 []) E2) W8 (Or.inr gs4))
  obtain ⟨fs, hr, hrun, hended, hW, hsame⟩ := X8.leave (v := some (.ref b2)) (fun h => by rw [Bd.returns] at h; cases h)
  refine ⟨_, _, pr9 _ (retOut X8 hx (t := (.array .byte)) Bd.returns rfl (Or.inr (Or.inr (Or.inr (Or.inr ⟨rfl, rfl, rfl⟩)))) (hb hby d12_8) hr), hrun, hended, _, _, rfl, ?_, ⟨_, rfl⟩, hW, hsame.mono (by decide) (by decide)⟩
  show Q12 Z c h0 n0 _ T8.heap _
  rw [e8]
  exact ⟨_, rfl, N8, c10⟩
theorem d13_0 : decode jdk_42_method_151_code 0 = .ok (.aload_n 0, 1) := by decide +kernel
theorem d13_1 : decode jdk_42_method_151_code 1 = .ok (.invokespecial 1, 3) := by decide +kernel
theorem d13_4 : decode jdk_42_method_151_code 4 = .ok (.aload_n 0, 1) := by decide +kernel
theorem d13_5 : decode jdk_42_method_151_code 5 = .ok (.aload_n 1, 1) := by decide +kernel
theorem d13_6 : decode jdk_42_method_151_code 6 = .ok (.putfield 9, 3) := by decide +kernel
theorem d13_9 : decode jdk_42_method_151_code 9 = .ok (.aload_n 0, 1) := by decide +kernel
theorem d13_10 : decode jdk_42_method_151_code 10 = .ok (.iload_n 2, 1) := by decide +kernel
theorem d13_11 : decode jdk_42_method_151_code 11 = .ok (.putfield 15, 3) := by decide +kernel
theorem d13_14 : decode jdk_42_method_151_code 14 = .ok (.return_, 1) := by decide +kernel
theorem pn_6 : plainName "java/lang/String" = true := by first | (simp [plainName, overriddenIn]; done) | decide +kernel
theorem ef_13 (mM : MethodId) (x0 : Addr) (x1 : Addr) (x2 : Int32) : entryFrame mM #[(.ref x0), (.ref x1), (.int x2)] 3 = mkF mM 0 #[.val (.ref x0), .val (.ref x1), .val (.int x2)] [] := by first | (simp [entryFrame, mkF, argsToLocals, Value.category]; done) | rfl
def Q13 (Z : State) (a : Addr) (x : Addr) (p : Int32) (h0 : Heap) (n0 : Nat) (v : Option Value) (h : Heap) (L : List Loc) : Prop := v = none ∧ Fr n0 L ∧ Keep h0 h [a] ∧ Exa Z h a "java/lang/String" ∧ Fld Z h a "java/lang/String" "value" "[B" (.ref x) ∧ Fld Z h a "java/lang/String" "coder" "B" (.int (nar .byte p))
set_option maxRecDepth 65536 in
set_option maxHeartbeats 40000000 in
theorem rm13 (l : Launch) (Z : State) (a0 : Array Value) (hw : ∀ d ∈ tables_1, d.before a0 Z = true) (ws : List Jvm.Cond) (a : Addr) (x : Addr) (p : Int32) (h0 : Heap) (n0 : Nat) (Z0 : n0 ≤ h0.size) (E_a : Exa Z h0 a "java/lang/String") (g_a : n0 ≤ a) (F_value : Fld Z h0 a "java/lang/String" "value" "[B" .null) (F_coder : Fld Z h0 a "java/lang/String" "coder" "B" (.int (0 : Int32))) :
    MetFree l (⟨"java/lang/String", "<init>", "([BB)V"⟩ : MethodName) (head1 (Jvm.Cond.code (⟨"java/lang/String", "<init>", "([BB)V"⟩ : MethodName) jdk_42_method_151_code 3 none :: ws) ({ frames := 1, cells := 0, slots := 0, locals := 12 } : Room)) (fun aA uU => aA = #[(.ref a), (.ref x), (.int p)] ∧ Z.Warmed39 uU.vm ∧ uU.heap = h0) (fun _ _ _ _ _ => True) (fun _ uU oO uU' => ∃ vV lL, oO = .returned vV ∧ Q13 Z a x p h0 n0 vV uU'.heap lL ∧ FrameEnd uU oO uU' lL ({ frames := 1, cells := 0, slots := 0, locals := 12 } : Room).cells ({ frames := 1, cells := 0, slots := 0, locals := 12 } : Room).slots) := by
  refine MetFree.of_bodySF (plainFor_of_name pn_6) hisR ?_
  intro pP eE sS mM args below meth cC s₁ Bd hml0 hP hK
  obtain ⟨rfl, hZ, hh⟩ := hP
  have hx := Bd.exec
  have hby := Bd.bytes
  have hml : cC.maxLocals = 3 := hml0
  have hown : sS.vm.findClass "java/lang/String" = some mM.cls := findClass_of_methodNamed Bd.named
  have hnm := (name_of_methodNamed Bd.named Bd.method).1
  have X0 : Stand pP l eE ({ frames := 1, cells := 0, slots := 0, locals := 12 } : Room) sS mM #[(.ref a), (.ref x), (.int p)] below meth cC s₁ [] 0 0 := Stand.of_body Bd
  have e0 : s₁.heap = h0 := by rw [← hh, Bd.state]; rfl
  have N0 := Fr.nil n0
  have pre0 : ∀ tg, Steps pP.tables eE below (s₁.setTop (mkF mM 0 #[.val (.ref a), .val (.ref x), .val (.int p)] [])) tg → Steps pP.tables eE below (s₁.setTop (entryFrame mM #[(.ref a), (.ref x), (.int p)] 3)) tg := fun tg kg => castTop (ef_13 mM a x p) kg
  have pr1 : ∀ tg, Steps pP.tables eE below (s₁.setTop (mkF mM 1 #[.val (.ref a), .val (.ref x), .val (.int p)] [(.ref a)])) tg → Steps pP.tables eE below (s₁.setTop (entryFrame mM #[(.ref a), (.ref x), (.int p)] 3)) tg := fun tg kg => pre0 _ (by
    show Steps pP.tables eE below (s₁.setTop (mkF mM 0 #[.val (.ref a), .val (.ref x), .val (.int p)] [])) _
    refine XS.aloadN X0.here hx rfl (hb hby d13_0) rfl rfl ?_
    exact kg)
  obtain ⟨T2, X2, e2, st2⟩ := initO X0 hx hZ hown (hw _ (List.mem_of_getElem? (i := 46) rfl)) (hw _ (List.mem_of_getElem? (i := 12) rfl)) (hw _ (List.mem_of_getElem? (i := 13) rfl)) e0 (g := (mkF mM 1 #[.val (.ref a), .val (.ref x), .val (.int p)] [(.ref a)])) rfl (by rw [hml]; rfl) rfl (hb hby d13_1) (by decide) (W := 0) (by show 2 * 0 + _ ≤ _; exact Nat.le_of_eq rfl) (by decide)
  have pr3 : ∀ tg, Steps pP.tables eE below (T2.setTop (mkF mM 4 #[.val (.ref a), .val (.ref x), .val (.int p)] [])) tg → Steps pP.tables eE below (s₁.setTop (entryFrame mM #[(.ref a), (.ref x), (.int p)] 3)) tg := fun tg kg => pr1 _ (st2 _ kg)
  have pr4 : ∀ tg, Steps pP.tables eE below (T2.setTop (mkF mM 6 #[.val (.ref a), .val (.ref x), .val (.int p)] [(.ref x), (.ref a)])) tg → Steps pP.tables eE below (s₁.setTop (entryFrame mM #[(.ref a), (.ref x), (.int p)] 3)) tg := fun tg kg => pr3 _ (by
    show Steps pP.tables eE below (T2.setTop (mkF mM 4 #[.val (.ref a), .val (.ref x), .val (.int p)] [])) _
    refine XS.aloadN X2.here hx rfl (hb hby d13_4) rfl rfl ?_
    show Steps pP.tables eE below (T2.setTop (mkF mM 5 #[.val (.ref a), .val (.ref x), .val (.int p)] [(.ref a)])) _
    refine XS.aloadN X2.here hx rfl (hb hby d13_5) rfl rfl ?_
    exact kg)
  obtain ⟨T5, h5, X5, e5, W5, st5⟩ := putF X2 hx hZ hown (host := "") (Or.inl (hw _ (List.mem_of_getElem? (i := 47) rfl))) Via.refl e2 F_value E_a (Or.inr ⟨(hw _ (List.mem_of_getElem? (i := 48) rfl)), rfl, hnm⟩) (hw _ (List.mem_of_getElem? (i := 37) rfl)) (ty := (.array .byte)) (by decide) rfl rfl (g := (mkF mM 6 #[.val (.ref a), .val (.ref x), .val (.int p)] [(.ref x), (.ref a)])) rfl rfl (hb hby d13_6)
  have Fw5 := Fld.same W5 F_value
  have N5 := Fr.snoc X5 N0 g_a
  have pr6 : ∀ tg, Steps pP.tables eE below (T5.setTop (mkF mM 9 #[.val (.ref a), .val (.ref x), .val (.int p)] [])) tg → Steps pP.tables eE below (s₁.setTop (entryFrame mM #[(.ref a), (.ref x), (.int p)] 3)) tg := fun tg kg => pr4 _ (st5 _ kg)
  have c7 := (Fld.other W5 F_coder (Or.inr (slot_ne (C := "java/lang/String") (Or.inr (hw _ (List.mem_of_getElem? (i := 50) rfl))) (Or.inr (hw _ (List.mem_of_getElem? (i := 48) rfl))) (by decide) (t := .byte) (t' := (.array .byte)) (by decide) (by decide))))
  have c8 := (Exa.wr W5 E_a)
  have pr9 : ∀ tg, Steps pP.tables eE below (T5.setTop (mkF mM 11 #[.val (.ref a), .val (.ref x), .val (.int p)] [(.int p), (.ref a)])) tg → Steps pP.tables eE below (s₁.setTop (entryFrame mM #[(.ref a), (.ref x), (.int p)] 3)) tg := fun tg kg => pr6 _ (by
    show Steps pP.tables eE below (T5.setTop (mkF mM 9 #[.val (.ref a), .val (.ref x), .val (.int p)] [])) _
    refine XS.aloadN X5.here hx rfl (hb hby d13_9) rfl rfl ?_
    show Steps pP.tables eE below (T5.setTop (mkF mM 10 #[.val (.ref a), .val (.ref x), .val (.int p)] [(.ref a)])) _
    refine XS.iloadN X5.here hx rfl (hb hby d13_10) rfl ?_
    exact kg)
  obtain ⟨T10, h10, X10, e10, W10, st10⟩ := putFN X5 hx hZ hown (hw _ (List.mem_of_getElem? (i := 49) rfl)) Via.refl e5 c7 c8 (Or.inr ⟨(hw _ (List.mem_of_getElem? (i := 50) rfl)), rfl, hnm⟩) (hw _ (List.mem_of_getElem? (i := 37) rfl)) (ty := .byte) (v' := .int (nar .byte p)) (by decide) rfl (fits_nar_byte _) (g := (mkF mM 11 #[.val (.ref a), .val (.ref x), .val (.int p)] [(.int p), (.ref a)])) rfl rfl (hb hby d13_11)
  have Fw10 := Fld.same W10 c7
  have N10 := Fr.snoc X10 N5 g_a
  have pr11 : ∀ tg, Steps pP.tables eE below (T10.setTop (mkF mM 14 #[.val (.ref a), .val (.ref x), .val (.int p)] [])) tg → Steps pP.tables eE below (s₁.setTop (entryFrame mM #[(.ref a), (.ref x), (.int p)] 3)) tg := fun tg kg => pr9 _ (st10 _ kg)
  have c12 := (Keep.wr (Keep.wr (Keep.refl h0 [a]) W5 (Or.inl (List.mem_of_getElem? (i := 0) rfl))) W10 (Or.inl (List.mem_of_getElem? (i := 0) rfl)))
  have c13 := (Exa.wr W10 c8)
  have c14 := (Fld.other W10 Fw5 (Or.inr (slot_ne (C := "java/lang/String") (Or.inr (hw _ (List.mem_of_getElem? (i := 48) rfl))) (Or.inr (hw _ (List.mem_of_getElem? (i := 50) rfl))) (by decide) (t := (.array .byte)) (t' := .byte) (by decide) (by decide))))
  obtain ⟨fs, hr, hrun, hended, hW, hsame⟩ := X10.leave (v := none) (fun _ => rfl)
  refine ⟨_, _, pr11 _ (X10.returnOut hx Bd.returns (hb hby d13_14) hr), hrun, hended, _, _, rfl, ?_, ⟨_, rfl⟩, hW, hsame.mono (by decide) (by decide)⟩
  show Q13 Z a x p h0 n0 _ T10.heap _
  rw [e10]
  exact ⟨rfl, N10, c12, c13, c14, Fw10⟩
theorem pd_2 : parseMethodDescriptor "(C)Z" = some ⟨[.char], some .boolean⟩ := by decide +kernel
theorem pd_3 : parseMethodDescriptor "(C)[B" = some ⟨[.char], some (.array .byte)⟩ := by decide +kernel
theorem pd_4 : parseMethodDescriptor "([BB)V" = some ⟨[(.array .byte), .byte], none⟩ := by decide +kernel
theorem d14_0 : decode jdk_42_method_139_code 0 = .ok (.getstatic 38, 3) := by decide +kernel
theorem d14_3 : decode jdk_42_method_139_code 3 = .ok (.ifCond .eq 23, 3) := by decide +kernel
theorem d14_6 : decode jdk_42_method_139_code 6 = .ok (.iload_n 0, 1) := by decide +kernel
theorem d14_7 : decode jdk_42_method_139_code 7 = .ok (.invokestatic 1015, 3) := by decide +kernel
theorem d14_10 : decode jdk_42_method_139_code 10 = .ok (.ifCond .eq 16, 3) := by decide +kernel
theorem d14_13 : decode jdk_42_method_139_code 13 = .ok (.new 10, 3) := by decide +kernel
theorem d14_16 : decode jdk_42_method_139_code 16 = .ok (.dup, 1) := by decide +kernel
theorem d14_17 : decode jdk_42_method_139_code 17 = .ok (.iload_n 0, 1) := by decide +kernel
theorem d14_18 : decode jdk_42_method_139_code 18 = .ok (.invokestatic 1018, 3) := by decide +kernel
theorem d14_21 : decode jdk_42_method_139_code 21 = .ok (.iconst 0, 1) := by decide +kernel
theorem d14_22 : decode jdk_42_method_139_code 22 = .ok (.invokespecial 209, 3) := by decide +kernel
theorem d14_25 : decode jdk_42_method_139_code 25 = .ok (.areturn, 1) := by decide +kernel
theorem ef_14 (mM : MethodId) (x0 : Int32) : entryFrame mM #[(.int x0)] 1 = mkF mM 0 #[.val (.int x0)] [] := by first | (simp [entryFrame, mkF, argsToLocals, Value.category]; done) | rfl
def Q14 (Z : State) (c : Int32) (cs : Int32) (h0 : Heap) (n0 : Nat) (v : Option Value) (h : Heap) (L : List Loc) : Prop := ∃ b : Addr, v = some (.ref b) ∧ Fr n0 L ∧ Keep h0 h []
set_option maxRecDepth 65536 in
set_option maxHeartbeats 40000000 in
theorem rm14 (l : Launch) (Z : State) (a0 : Array Value) (hw : ∀ d ∈ tables_1, d.before a0 Z = true) (ws : List Jvm.Cond) (c : Int32) (cs : Int32) (h0 : Heap) (n0 : Nat) (Z0 : n0 ≤ h0.size) (O : Old Z n0 h0) (S_cs : Sta Z Z.heap "java/lang/String" "COMPACT_STRINGS" "Z" (.int cs)) (hcs : ¬ cs = (0 : Int32)) (hc : ¬ (255 : Int32) < c) :
    MetFree l (⟨"java/lang/String", "valueOf", "(C)Ljava/lang/String;"⟩ : MethodName) (head1 (Jvm.Cond.code (⟨"java/lang/String", "valueOf", "(C)Ljava/lang/String;"⟩ : MethodName) jdk_42_method_139_code 1 (some (.object "java/lang/String")) :: ws) ({ frames := 2, cells := 2, slots := 5, locals := 27 } : Room)) (fun aA uU => aA = #[(.int c)] ∧ Z.Warmed39 uU.vm ∧ uU.heap = h0) (fun _ _ _ _ _ => True) (fun _ uU oO uU' => ∃ vV lL, oO = .returned vV ∧ Q14 Z c cs h0 n0 vV uU'.heap lL ∧ FrameEnd uU oO uU' lL ({ frames := 2, cells := 2, slots := 5, locals := 27 } : Room).cells ({ frames := 2, cells := 2, slots := 5, locals := 27 } : Room).slots) := by
  refine MetFree.of_bodySF (plainFor_of_name pn_6) hisR ?_
  intro pP eE sS mM args below meth cC s₁ Bd hml0 hP hK
  obtain ⟨rfl, hZ, hh⟩ := hP
  have hx := Bd.exec
  have hby := Bd.bytes
  have hml : cC.maxLocals = 1 := hml0
  have hown : sS.vm.findClass "java/lang/String" = some mM.cls := findClass_of_methodNamed Bd.named
  have hnm := (name_of_methodNamed Bd.named Bd.method).1
  have X0 : Stand pP l eE ({ frames := 2, cells := 2, slots := 5, locals := 27 } : Room) sS mM #[(.int c)] below meth cC s₁ [] 0 0 := Stand.of_body Bd
  have e0 : s₁.heap = h0 := by rw [← hh, Bd.state]; rfl
  have N0 := Fr.nil n0
  have pre0 : ∀ tg, Steps pP.tables eE below (s₁.setTop (mkF mM 0 #[.val (.int c)] [])) tg → Steps pP.tables eE below (s₁.setTop (entryFrame mM #[(.int c)] 1)) tg := fun tg kg => castTop (ef_14 mM c) kg
  obtain ⟨T1, X1, e1, st1⟩ := getS2 X0 hx hZ hown (host := "") (Or.inl (hw _ (List.mem_of_getElem? (i := 31) rfl))) Via.refl e0 (Sta.ext (O).2 S_cs) (g := (mkF mM 0 #[.val (.int c)] [])) rfl (hb hby d14_0)
  have pr2 : ∀ tg, Steps pP.tables eE below (T1.setTop (mkF mM 3 #[.val (.int c)] [(.int cs)])) tg → Steps pP.tables eE below (s₁.setTop (entryFrame mM #[(.int c)] 1)) tg := fun tg kg => pre0 _ (st1 _ kg)
  have pr3 : ∀ tg, Steps pP.tables eE below (T1.setTop (mkF mM 7 #[.val (.int c)] [(.int c)])) tg → Steps pP.tables eE below (s₁.setTop (entryFrame mM #[(.int c)] 1)) tg := fun tg kg => pr2 _ (by
    show Steps pP.tables eE below (T1.setTop (mkF mM 3 #[.val (.int c)] [(.int cs)])) _
    refine XS.ifNo X1.here hx rfl (hb hby d14_3) rfl ((if0 _ _).trans (feq hcs).1) ?_
    show Steps pP.tables eE below (T1.setTop (mkF mM 6 #[.val (.int c)] [])) _
    refine XS.iloadN X1.here hx rfl (hb hby d14_6) rfl ?_
    exact kg)
  obtain ⟨_, _, ⟨T4, L4, kk4, nn4⟩, -, X4, ⟨Lc4, hQ4, l4, y4, z4⟩, st4⟩ := Jvm.LawKit.callS X1 hx (y := (⟨"java/lang/StringLatin1", "canEncode", "(C)Z"⟩ : MethodName)) hown (mvT hZ (hw _ (List.mem_of_getElem? (i := 32) rfl))) (mvT hZ (hw _ (List.mem_of_getElem? (i := 33) rfl))) (mvT hZ (hw _ (List.mem_of_getElem? (i := 34) rfl))) (mvT hZ (hw _ (List.mem_of_getElem? (i := 35) rfl))) (by decide) (backOf (W := 0) (rm11 l Z a0 hw [] c h0 n0 Z0) hZ (hw _ (List.mem_of_getElem? (i := 35) rfl)) (hw _ (List.mem_of_getElem? (i := 34) rfl)) (by decide) (by decide)) (g := (mkF mM 7 #[.val (.int c)] [(.int c)])) rfl (by rw [hml]; rfl) (argsL := [(.int c)]) (rest := []) (lenOf pd_2 rfl) rfl (by show 2 * 0 + _ ≤ _; exact Nat.le_of_eq rfl) (hb hby d14_7) (fun _ _ => ⟨rfl, e1, (by decide : 0 + 0 ≤ _), (by decide : 0 + 0 ≤ _)⟩)
  dsimp only [Pt.U, Pt.locs, Pt.cells, Pt.slots] at X4 l4 y4 z4 st4 hQ4
  subst l4 y4 z4
  obtain ⟨r4, rfl, hr4, Nq4, e4⟩ := hQ4
  have N4 := Fr.app N0 Nq4
  have pr5 : ∀ tg, Steps pP.tables eE below (T4.setTop (mkF mM 10 #[.val (.int c)] [(.int r4)])) tg → Steps pP.tables eE below (s₁.setTop (entryFrame mM #[(.int c)] 1)) tg := fun tg kg => pr3 _ (st4 _ kg)
  rw [if_neg hc] at hr4
  subst hr4
  have pr6 : ∀ tg, Steps pP.tables eE below (T4.setTop (mkF mM 13 #[.val (.int c)] [])) tg → Steps pP.tables eE below (s₁.setTop (entryFrame mM #[(.int c)] 1)) tg := fun tg kg => pr5 _ (by
    show Steps pP.tables eE below (T4.setTop (mkF mM 10 #[.val (.int c)] [(.int (1 : Int32))])) _
    refine XS.ifNo X4.here hx rfl (hb hby d14_10) rfl ((if0 _ _).trans (feq (by decide)).1) ?_
    exact kg)
  obtain ⟨T7, h7, X7, e7, E7, A7, D7, -, st7⟩ := newO X4 hx hZ hown (hw _ (List.mem_of_getElem? (i := 36) rfl)) (hw _ (List.mem_of_getElem? (i := 37) rfl)) (hw _ (List.mem_of_getElem? (i := 29) rfl)) e4 (g := (mkF mM 13 #[.val (.int c)] [])) rfl (hb hby d14_13) (by decide) (by decide)
  obtain ⟨b7, g7⟩ : ∃ z, z = (h0).size := ⟨_, rfl⟩
  rw [← g7] at A7 D7 st7
  have gn8 : n0 ≤ b7 := Nat.le_trans Z0 (Nat.le_of_eq g7.symm)
  have gs9 : h0.size ≤ b7 := Nat.le_trans (Keep.refl h0 []).1 (Nat.le_of_eq g7.symm)
  have F7_value : Fld Z h7 b7 "java/lang/String" "value" "[B" .null := D7 (Or.inr (hw _ (List.mem_of_getElem? (i := 48) rfl))) (ty := (.array .byte)) (by decide)
  have F7_coder : Fld Z h7 b7 "java/lang/String" "coder" "B" (.int (0 : Int32)) := D7 (Or.inr (hw _ (List.mem_of_getElem? (i := 50) rfl))) (ty := .byte) (by decide)
  have pr10 : ∀ tg, Steps pP.tables eE below (T7.setTop (mkF mM 16 #[.val (.int c)] [(.ref b7)])) tg → Steps pP.tables eE below (s₁.setTop (entryFrame mM #[(.int c)] 1)) tg := fun tg kg => pr6 _ (st7 _ kg)
  have pr11 : ∀ tg, Steps pP.tables eE below (T7.setTop (mkF mM 18 #[.val (.int c)] [(.int c), (.ref b7), (.ref b7)])) tg → Steps pP.tables eE below (s₁.setTop (entryFrame mM #[(.int c)] 1)) tg := fun tg kg => pr10 _ (by
    show Steps pP.tables eE below (T7.setTop (mkF mM 16 #[.val (.int c)] [(.ref b7)])) _
    refine XS.dup X7.here hx rfl (hb hby d14_16) rfl rfl ?_
    show Steps pP.tables eE below (T7.setTop (mkF mM 17 #[.val (.int c)] [(.ref b7), (.ref b7)])) _
    refine XS.iloadN X7.here hx rfl (hb hby d14_17) rfl ?_
    exact kg)
  have c12 := (Nat.le_trans Z0 E7.1)
  obtain ⟨_, _, ⟨T13, L13, kk13, nn13⟩, -, X13, ⟨Lc13, hQ13, l13, y13, z13⟩, st13⟩ := Jvm.LawKit.callS X7 hx (y := (⟨"java/lang/StringLatin1", "toBytes", "(C)[B"⟩ : MethodName)) hown (mvT hZ (hw _ (List.mem_of_getElem? (i := 38) rfl))) (mvT hZ (hw _ (List.mem_of_getElem? (i := 39) rfl))) (mvT hZ (hw _ (List.mem_of_getElem? (i := 34) rfl))) (mvT hZ (hw _ (List.mem_of_getElem? (i := 40) rfl))) (by decide) (backOf (W := 2) (rm12 l Z a0 hw [] c h7 n0 c12) hZ (hw _ (List.mem_of_getElem? (i := 40) rfl)) (hw _ (List.mem_of_getElem? (i := 34) rfl)) (by decide) (by decide)) (g := (mkF mM 18 #[.val (.int c)] [(.int c), (.ref b7), (.ref b7)])) rfl (by rw [hml]; rfl) (argsL := [(.int c)]) (rest := [(.ref b7), (.ref b7)]) (lenOf pd_3 rfl) rfl (by show 2 * 0 + _ ≤ _; exact Nat.le_of_eq rfl) (hb hby d14_18) (fun _ _ => ⟨rfl, e7, (by decide : 1 + 1 ≤ _), (by decide : 4 + 1 ≤ _)⟩)
  dsimp only [Pt.U, Pt.locs, Pt.cells, Pt.slots] at X13 l13 y13 z13 st13 hQ13
  subst l13 y13 z13
  obtain ⟨ba13, rfl, Nq13, K13⟩ := hQ13
  have N13 := Fr.app N4 Nq13
  have pr14 : ∀ tg, Steps pP.tables eE below (T13.setTop (mkF mM 21 #[.val (.int c)] [(.ref ba13), (.ref b7), (.ref b7)])) tg → Steps pP.tables eE below (s₁.setTop (entryFrame mM #[(.int c)] 1)) tg := fun tg kg => pr11 _ (st13 _ kg)
  have c15 := (Exa.keep A7 K13)
  have c16 := (Fld.keep F7_value K13 nin0)
  have c17 := (Fld.keep F7_coder K13 nin0)
  have pr18 : ∀ tg, Steps pP.tables eE below (T13.setTop (mkF mM 22 #[.val (.int c)] [(.int (0 : Int32)), (.ref ba13), (.ref b7), (.ref b7)])) tg → Steps pP.tables eE below (s₁.setTop (entryFrame mM #[(.int c)] 1)) tg := fun tg kg => pr14 _ (by
    show Steps pP.tables eE below (T13.setTop (mkF mM 21 #[.val (.int c)] [(.ref ba13), (.ref b7), (.ref b7)])) _
    refine XS.iconst X13.here hx rfl (hb hby d14_21) ?_
    exact kg)
  have c19 := (Nat.le_trans c12 K13.1)
  obtain ⟨_, _, ⟨T20, L20, kk20, nn20⟩, -, X20, ⟨Lc20, hQ20, l20, y20, z20⟩, st20⟩ := X13.specialBack hx (y := (⟨"java/lang/String", "<init>", "([BB)V"⟩ : MethodName)) rfl hown (mvT hZ (hw _ (List.mem_of_getElem? (i := 42) rfl))) (mvT hZ (hw _ (List.mem_of_getElem? (i := 43) rfl))) (mvT hZ (hw _ (List.mem_of_getElem? (i := 45) rfl))) (by decide) (backOf (W := 1) (rm13 l Z a0 hw [] b7 ba13 (0 : Int32) T13.heap n0 c19 c15 gn8 c16 c17 ) hZ (hw _ (List.mem_of_getElem? (i := 45) rfl)) (hw _ (List.mem_of_getElem? (i := 29) rfl)) (by decide) (by decide)) (g := (mkF mM 22 #[.val (.int c)] [(.int (0 : Int32)), (.ref ba13), (.ref b7), (.ref b7)])) rfl (by rw [hml]; rfl) (Steps.refl _) (a := b7) (argsL := [(.ref ba13), (.int (0 : Int32))]) (rest := [(.ref b7)]) (lenOf pd_4 rfl) rfl (by show 2 * 0 + _ ≤ _; exact Nat.le_of_eq rfl) (hb hby d14_22) (fun _ _ => ⟨rfl, rfl, (by decide : 2 + 0 ≤ _), (by decide : 5 + 0 ≤ _)⟩)
  dsimp only [Pt.U, Pt.locs, Pt.cells, Pt.slots] at X20 l20 y20 z20 st20 hQ20
  subst l20 y20 z20
  obtain ⟨rfl, Nq20, K20, E20, F20_0, F20_1⟩ := hQ20
  have N20 := Fr.app N13 Nq20
  have pr21 : ∀ tg, Steps pP.tables eE below (T20.setTop (mkF mM 25 #[.val (.int c)] [(.ref b7)])) tg → Steps pP.tables eE below (s₁.setTop (entryFrame mM #[(.int c)] 1)) tg := fun tg kg => pr18 _ (st20.trans kg)
  have c22 := (Keep.trans (Keep.trans (Keep.ext (Keep.refl h0 []) E7) K13 all0) K20 (allS (Or.inr gs9) all0))
  obtain ⟨fs, hr, hrun, hended, hW, hsame⟩ := X20.leave (v := some (.ref b7)) (fun h => by rw [Bd.returns] at h; cases h)
  refine ⟨_, _, pr21 _ (retOut X20 hx (t := (.object "java/lang/String")) Bd.returns rfl (Or.inr (Or.inr (Or.inr (Or.inr ⟨rfl, rfl, rfl⟩)))) (hb hby d14_25) hr), hrun, hended, _, _, rfl, ?_, ⟨_, rfl⟩, hW, hsame.mono (by decide) (by decide)⟩
  show Q14 Z c cs h0 n0 _ T20.heap _
  exact ⟨_, rfl, N20, c22⟩
theorem own_chr (b : Int32) : ¬ (255 : Int32) < (b &&& (255 : Int32)).toUInt32.toUInt16.toUInt32.toInt32 := by
  have t : ∀ k : Fin 256, ¬ (255 : Int32) < (Int32.ofNat k.val).toUInt32.toUInt16.toUInt32.toInt32 := by decide +kernel
  have h : (b &&& 255).toBitVec.toNat < 256 := by
    rw [Int32.toBitVec_and, BitVec.toNat_and]
    exact Nat.lt_succ_of_le Nat.and_le_right
  have e : (b &&& 255) = Int32.ofNat (b &&& 255).toBitVec.toNat := by
    apply Int32.toBitVec_inj.mp
    show _ = BitVec.ofNat 32 _
    rw [BitVec.ofNat_toNat]; simp
  rw [e]
  exact t ⟨_, h⟩
theorem pd_5 : parseMethodDescriptor "(Ljava/lang/Object;)Z" = some ⟨[(.object "java/lang/Object")], some .boolean⟩ := by decide +kernel
theorem pd_6 : parseMethodDescriptor "(I)Ljava/lang/Integer;" = some ⟨[.int], some (.object "java/lang/Integer")⟩ := by decide +kernel
theorem pd_7 : parseMethodDescriptor "(C)Ljava/lang/String;" = some ⟨[.char], some (.object "java/lang/String")⟩ := by decide +kernel
theorem pd_8 : parseMethodDescriptor "(Ljava/lang/String;)V" = some ⟨[(.object "java/lang/String")], none⟩ := by decide +kernel
theorem pn_7 : plainName "com/example/refine/refine/cspm/IntEqualsPinLaw" = true := by first | (simp [plainName, overriddenIn]; done) | decide +kernel
theorem ef_0 (mM : MethodId) (x0 : Int32) (x1 : Int32) (x2 : Int32) : entryFrame mM #[(.int x0), (.int x1), (.int x2)] maxLocals = mkF mM 0 #[.val (.int x0), .val (.int x1), .val (.int x2), .unset, .unset, .unset, .unset] [] := by first | (simp [entryFrame, mkF, argsToLocals, Value.category, maxLocals]; done) | rfl
def Q0 (Z : State) (av : Int32) (bv : Int32) (sel : Int32) (ca : Addr) (cc : Cell) (cs : Int32) (h0 : Heap) (n0 : Nat) (v : Option Value) (h : Heap) (L : List Loc) : Prop := v = some (.int (1 : Int32)) ∧ Fr n0 L
set_option maxRecDepth 65536 in
set_option maxHeartbeats 40000000 in
theorem rm0 (l : Launch) (Z : State) (a0 : Array Value) (hw : ∀ d ∈ tables_1, d.before a0 Z = true) (ws : List Jvm.Cond) (av : Int32) (bv : Int32) (sel : Int32) (ca : Addr) (cc : Cell) (cs : Int32) (h0 : Heap) (n0 : Nat) (Z0 : n0 ≤ h0.size) (O : Old Z n0 h0) (S_cache : Sta Z Z.heap "java/lang/Integer$IntegerCache" "cache" "[Ljava/lang/Integer;" (.ref ca)) (B : Bxs Z ca cc "java/lang/Integer" "I" (256 : Int32) (fun j : Int32 => Value.int (j - 128))) (S_high : Sta Z Z.heap "java/lang/Integer$IntegerCache" "high" "I" (.int (127 : Int32))) (S_cs : Sta Z Z.heap "java/lang/String" "COMPACT_STRINGS" "Z" (.int cs)) (hcs : ¬ cs = (0 : Int32)) :
    MetFree l x (head1 (Jvm.Cond.code x code maxLocals ret :: ws) room_1) (fun aA uU => aA = #[(.int av), (.int bv), (.int sel)] ∧ Z.Warmed39 uU.vm ∧ uU.heap = h0) (fun _ _ _ _ _ => True) (fun _ uU oO uU' => ∃ vV lL, oO = .returned vV ∧ Q0 Z av bv sel ca cc cs h0 n0 vV uU'.heap lL ∧ FrameEnd uU oO uU' lL room_1.cells room_1.slots) := by
  refine MetFree.of_bodySF (plainFor_of_name pn_7) hisR ?_
  intro pP eE sS mM args below meth cC s₁ Bd hml0 hP hK
  obtain ⟨rfl, hZ, hh⟩ := hP
  have hx := Bd.exec
  have hby := Bd.bytes
  have hml : cC.maxLocals = 7 := hml0
  have hown : sS.vm.findClass "com/example/refine/refine/cspm/IntEqualsPinLaw" = some mM.cls := findClass_of_methodNamed Bd.named
  have hnm := (name_of_methodNamed Bd.named Bd.method).1
  have X0 : Stand pP l eE room_1 sS mM #[(.int av), (.int bv), (.int sel)] below meth cC s₁ [] 0 0 := Stand.of_body Bd
  have e0 : s₁.heap = h0 := by rw [← hh, Bd.state]; rfl
  have N0 := Fr.nil n0
  have pre0 : ∀ tg, Steps pP.tables eE below (s₁.setTop (mkF mM 0 #[.val (.int av), .val (.int bv), .val (.int sel), .unset, .unset, .unset, .unset] [])) tg → Steps pP.tables eE below (s₁.setTop (entryFrame mM #[(.int av), (.int bv), (.int sel)] maxLocals)) tg := fun tg kg => castTop (ef_0 mM av bv sel) kg
  obtain ⟨T1, h1, X1, e1, E1, A1, D1, -, st1⟩ := newO X0 hx hZ hown (hw _ (List.mem_of_getElem? (i := 0) rfl)) (hw _ (List.mem_of_getElem? (i := 1) rfl)) (hw _ (List.mem_of_getElem? (i := 2) rfl)) e0 (g := (mkF mM 0 #[.val (.int av), .val (.int bv), .val (.int sel), .unset, .unset, .unset, .unset] [])) rfl (hb hby at_0) (by decide) (by decide)
  obtain ⟨b1, g1⟩ : ∃ z, z = (h0).size := ⟨_, rfl⟩
  rw [← g1] at A1 D1 st1
  have gn2 : n0 ≤ b1 := Nat.le_trans Z0 (Nat.le_of_eq g1.symm)
  have gs3 : h0.size ≤ b1 := Nat.le_trans (Keep.refl h0 []).1 (Nat.le_of_eq g1.symm)
  have F1_number : Fld Z h1 b1 "com/example/refine/refine/cspm/Value$Int" "number" "I" (.int (0 : Int32)) := D1 (Or.inr (hw _ (List.mem_of_getElem? (i := 15) rfl))) (ty := .int) (by decide)
  have pr4 : ∀ tg, Steps pP.tables eE below (T1.setTop (mkF mM 3 #[.val (.int av), .val (.int bv), .val (.int sel), .unset, .unset, .unset, .unset] [(.ref b1)])) tg → Steps pP.tables eE below (s₁.setTop (entryFrame mM #[(.int av), (.int bv), (.int sel)] maxLocals)) tg := fun tg kg => pre0 _ (st1 _ kg)
  have pr5 : ∀ tg, Steps pP.tables eE below (T1.setTop (mkF mM 5 #[.val (.int av), .val (.int bv), .val (.int sel), .unset, .unset, .unset, .unset] [(.int av), (.ref b1), (.ref b1)])) tg → Steps pP.tables eE below (s₁.setTop (entryFrame mM #[(.int av), (.int bv), (.int sel)] maxLocals)) tg := fun tg kg => pr4 _ (by
    show Steps pP.tables eE below (T1.setTop (mkF mM 3 #[.val (.int av), .val (.int bv), .val (.int sel), .unset, .unset, .unset, .unset] [(.ref b1)])) _
    refine XS.dup X1.here hx rfl (hb hby at_3) rfl rfl ?_
    show Steps pP.tables eE below (T1.setTop (mkF mM 4 #[.val (.int av), .val (.int bv), .val (.int sel), .unset, .unset, .unset, .unset] [(.ref b1), (.ref b1)])) _
    refine XS.iloadN X1.here hx rfl (hb hby at_4) rfl ?_
    exact kg)
  have c6 := (Nat.le_trans Z0 E1.1)
  obtain ⟨_, _, ⟨T7, L7, kk7, nn7⟩, -, X7, ⟨Lc7, hQ7, l7, y7, z7⟩, st7⟩ := X1.specialBack hx (y := (⟨"com/example/refine/refine/cspm/Value$Int", "<init>", "(I)V"⟩ : MethodName)) rfl hown (mvT hZ (hw _ (List.mem_of_getElem? (i := 3) rfl))) (mvT hZ (hw _ (List.mem_of_getElem? (i := 4) rfl))) (mvT hZ (hw _ (List.mem_of_getElem? (i := 5) rfl))) (by decide) (backOf (W := 1) (rm2 l Z a0 hw [] b1 av h1 n0 c6 A1 gn2 F1_number ) hZ (hw _ (List.mem_of_getElem? (i := 5) rfl)) (hw _ (List.mem_of_getElem? (i := 2) rfl)) (by decide) (by decide)) (g := (mkF mM 5 #[.val (.int av), .val (.int bv), .val (.int sel), .unset, .unset, .unset, .unset] [(.int av), (.ref b1), (.ref b1)])) rfl (by rw [hml]; rfl) (Steps.refl _) (a := b1) (argsL := [(.int av)]) (rest := [(.ref b1)]) (lenOf pd_1 rfl) rfl (by show 2 * 0 + _ ≤ _; exact Nat.le_of_eq rfl) (hb hby at_5) (fun _ _ => ⟨rfl, e1, (by decide : 1 + 0 ≤ _), (by decide : 1 + 0 ≤ _)⟩)
  dsimp only [Pt.U, Pt.locs, Pt.cells, Pt.slots] at X7 l7 y7 z7 st7 hQ7
  subst l7 y7 z7
  obtain ⟨rfl, Nq7, K7, E7, F7_0⟩ := hQ7
  have N7 := Fr.app N0 Nq7
  have pr8 : ∀ tg, Steps pP.tables eE below (T7.setTop (mkF mM 8 #[.val (.int av), .val (.int bv), .val (.int sel), .unset, .unset, .unset, .unset] [(.ref b1)])) tg → Steps pP.tables eE below (s₁.setTop (entryFrame mM #[(.int av), (.int bv), (.int sel)] maxLocals)) tg := fun tg kg => pr5 _ (st7.trans kg)
  have pr9 : ∀ tg, Steps pP.tables eE below (T7.setTop (mkF mM 18 #[.val (.int av), .val (.int bv), .val (.int sel), .val (.ref b1), .val (.int ((sel &&& (2147483647 : Int32)) % (6 : Int32))), .unset, .unset] [])) tg → Steps pP.tables eE below (s₁.setTop (entryFrame mM #[(.int av), (.int bv), (.int sel)] maxLocals)) tg := fun tg kg => pr8 _ (by
    show Steps pP.tables eE below (T7.setTop (mkF mM 8 #[.val (.int av), .val (.int bv), .val (.int sel), .unset, .unset, .unset, .unset] [(.ref b1)])) _
    refine XS.astoreN X7.here hx rfl (hb hby at_8) rfl rfl (l' := #[.val (.int av), .val (.int bv), .val (.int sel), .val (.ref b1), .unset, .unset, .unset]) rfl ?_
    show Steps pP.tables eE below (T7.setTop (mkF mM 9 #[.val (.int av), .val (.int bv), .val (.int sel), .val (.ref b1), .unset, .unset, .unset] [])) _
    refine XS.iloadN X7.here hx rfl (hb hby at_9) rfl ?_
    show Steps pP.tables eE below (T7.setTop (mkF mM 10 #[.val (.int av), .val (.int bv), .val (.int sel), .val (.ref b1), .unset, .unset, .unset] [(.int sel)])) _
    refine Jvm.Stand.ldcI X7 hx hown (v := (2147483647 : Int32)) (mvT hZ (hw _ (List.mem_of_getElem? (i := 16) rfl))) rfl (hb hby at_10) ?_
    show Steps pP.tables eE below (T7.setTop (mkF mM 12 #[.val (.int av), .val (.int bv), .val (.int sel), .val (.ref b1), .unset, .unset, .unset] [(.int (2147483647 : Int32)), (.int sel)])) _
    refine XS.iand X7.here hx rfl (hb hby at_12) rfl ?_
    show Steps pP.tables eE below (T7.setTop (mkF mM 13 #[.val (.int av), .val (.int bv), .val (.int sel), .val (.ref b1), .unset, .unset, .unset] [(.int (sel &&& (2147483647 : Int32)))])) _
    refine XS.bipush X7.here hx rfl (hb hby at_13) ?_
    show Steps pP.tables eE below (T7.setTop (mkF mM 15 #[.val (.int av), .val (.int bv), .val (.int sel), .val (.ref b1), .unset, .unset, .unset] [(.int (6 : Int32)), (.int (sel &&& (2147483647 : Int32)))])) _
    refine iremM (g := (mkF mM 15 #[.val (.int av), .val (.int bv), .val (.int sel), .val (.ref b1), .unset, .unset, .unset] [(.int (6 : Int32)), (.int (sel &&& (2147483647 : Int32)))])) X7 hx rfl (hb hby at_15) rfl (by decide) ?_
    show Steps pP.tables eE below (T7.setTop (mkF mM 16 #[.val (.int av), .val (.int bv), .val (.int sel), .val (.ref b1), .unset, .unset, .unset] [(.int ((sel &&& (2147483647 : Int32)) % (6 : Int32)))])) _
    refine XS.istore X7.here hx rfl (hb hby at_16) rfl (l' := #[.val (.int av), .val (.int bv), .val (.int sel), .val (.ref b1), .val (.int ((sel &&& (2147483647 : Int32)) % (6 : Int32))), .unset, .unset]) rfl ?_
    exact kg)
  obtain ⟨z10, hz10⟩ : ∃ z, z = ((sel &&& (2147483647 : Int32)) % (6 : Int32)) := ⟨_, rfl⟩
  have pr11 : ∀ tg, Steps pP.tables eE below (T7.setTop (mkF mM 18 #[.val (.int av), .val (.int bv), .val (.int sel), .val (.ref b1), .val (.int z10), .unset, .unset] [])) tg → Steps pP.tables eE below (s₁.setTop (entryFrame mM #[(.int av), (.int bv), (.int sel)] maxLocals)) tg := by
    rw [hz10]; exact pr9
  have pr13 : ∀ tg, Steps pP.tables eE below (T7.setTop (mkF mM 20 #[.val (.int av), .val (.int bv), .val (.int sel), .val (.ref b1), .val (.int z10), .unset, .unset] [(.int z10)])) tg → Steps pP.tables eE below (s₁.setTop (entryFrame mM #[(.int av), (.int bv), (.int sel)] maxLocals)) tg := fun tg kg => pr11 _ (by
    show Steps pP.tables eE below (T7.setTop (mkF mM 18 #[.val (.int av), .val (.int bv), .val (.int sel), .val (.ref b1), .val (.int z10), .unset, .unset] [])) _
    refine XS.iload X7.here hx rfl (hb hby at_18) rfl ?_
    exact kg)
  by_cases hc20_12 : z10 = (0 : Int32)
  ·
    have pr14 : ∀ tg, Steps pP.tables eE below (T7.setTop (mkF mM 23 #[.val (.int av), .val (.int bv), .val (.int sel), .val (.ref b1), .val (.int z10), .unset, .unset] [])) tg → Steps pP.tables eE below (s₁.setTop (entryFrame mM #[(.int av), (.int bv), (.int sel)] maxLocals)) tg := fun tg kg => pr13 _ (by
      show Steps pP.tables eE below (T7.setTop (mkF mM 20 #[.val (.int av), .val (.int bv), .val (.int sel), .val (.ref b1), .val (.int z10), .unset, .unset] [(.int z10)])) _
      refine XS.ifNo X7.here hx rfl (hb hby at_20) rfl ((if0 _ _).trans (teq hc20_12).2) ?_
      exact kg)
    obtain ⟨T15, h15, X15, e15, E15, A15, D15, -, st15⟩ := newO X7 hx hZ hown (hw _ (List.mem_of_getElem? (i := 0) rfl)) (hw _ (List.mem_of_getElem? (i := 1) rfl)) (hw _ (List.mem_of_getElem? (i := 2) rfl)) rfl (g := (mkF mM 23 #[.val (.int av), .val (.int bv), .val (.int sel), .val (.ref b1), .val (.int z10), .unset, .unset] [])) rfl (hb hby at_23) (by decide) (by decide)
    obtain ⟨b15, g15⟩ : ∃ z, z = (T7.heap).size := ⟨_, rfl⟩
    rw [← g15] at A15 D15 st15
    have ne16 : b1 ≠ b15 := Nat.ne_of_lt (Nat.lt_of_lt_of_le (E7).lt (Nat.le_of_eq g15.symm))
    have c18 := (Nat.le_trans c6 K7.1)
    have gn17 : n0 ≤ b15 := Nat.le_trans c18 (Nat.le_of_eq g15.symm)
    have c20 := (Keep.trans (Keep.ext (Keep.refl h0 []) E1) K7 (allS (Or.inr gs3) all0))
    have gs19 : h0.size ≤ b15 := Nat.le_trans c20.1 (Nat.le_of_eq g15.symm)
    have F15_number : Fld Z h15 b15 "com/example/refine/refine/cspm/Value$Int" "number" "I" (.int (0 : Int32)) := D15 (Or.inr (hw _ (List.mem_of_getElem? (i := 15) rfl))) (ty := .int) (by decide)
    have pr21 : ∀ tg, Steps pP.tables eE below (T15.setTop (mkF mM 26 #[.val (.int av), .val (.int bv), .val (.int sel), .val (.ref b1), .val (.int z10), .unset, .unset] [(.ref b15)])) tg → Steps pP.tables eE below (s₁.setTop (entryFrame mM #[(.int av), (.int bv), (.int sel)] maxLocals)) tg := fun tg kg => pr14 _ (st15 _ kg)
    have pr22 : ∀ tg, Steps pP.tables eE below (T15.setTop (mkF mM 28 #[.val (.int av), .val (.int bv), .val (.int sel), .val (.ref b1), .val (.int z10), .unset, .unset] [(.int bv), (.ref b15), (.ref b15)])) tg → Steps pP.tables eE below (s₁.setTop (entryFrame mM #[(.int av), (.int bv), (.int sel)] maxLocals)) tg := fun tg kg => pr21 _ (by
      show Steps pP.tables eE below (T15.setTop (mkF mM 26 #[.val (.int av), .val (.int bv), .val (.int sel), .val (.ref b1), .val (.int z10), .unset, .unset] [(.ref b15)])) _
      refine XS.dup X15.here hx rfl (hb hby at_26) rfl rfl ?_
      show Steps pP.tables eE below (T15.setTop (mkF mM 27 #[.val (.int av), .val (.int bv), .val (.int sel), .val (.ref b1), .val (.int z10), .unset, .unset] [(.ref b15), (.ref b15)])) _
      refine XS.iloadN X15.here hx rfl (hb hby at_27) rfl ?_
      exact kg)
    have c23 := (Nat.le_trans c18 E15.1)
    obtain ⟨_, _, ⟨T24, L24, kk24, nn24⟩, -, X24, ⟨Lc24, hQ24, l24, y24, z24⟩, st24⟩ := X15.specialBack hx (y := (⟨"com/example/refine/refine/cspm/Value$Int", "<init>", "(I)V"⟩ : MethodName)) rfl hown (mvT hZ (hw _ (List.mem_of_getElem? (i := 3) rfl))) (mvT hZ (hw _ (List.mem_of_getElem? (i := 4) rfl))) (mvT hZ (hw _ (List.mem_of_getElem? (i := 5) rfl))) (by decide) (backOf (W := 1) (rm2 l Z a0 hw [] b15 bv h15 n0 c23 A15 gn17 F15_number ) hZ (hw _ (List.mem_of_getElem? (i := 5) rfl)) (hw _ (List.mem_of_getElem? (i := 2) rfl)) (by decide) (by decide)) (g := (mkF mM 28 #[.val (.int av), .val (.int bv), .val (.int sel), .val (.ref b1), .val (.int z10), .unset, .unset] [(.int bv), (.ref b15), (.ref b15)])) rfl (by rw [hml]; rfl) (Steps.refl _) (a := b15) (argsL := [(.int bv)]) (rest := [(.ref b15)]) (lenOf pd_1 rfl) rfl (by show 2 * 0 + _ ≤ _; exact Nat.le_of_eq rfl) (hb hby at_28) (fun _ _ => ⟨rfl, e15, (by decide : 2 + 0 ≤ _), (by decide : 2 + 0 ≤ _)⟩)
    dsimp only [Pt.U, Pt.locs, Pt.cells, Pt.slots] at X24 l24 y24 z24 st24 hQ24
    subst l24 y24 z24
    obtain ⟨rfl, Nq24, K24, E24, F24_0⟩ := hQ24
    have N24 := Fr.app N7 Nq24
    have pr25 : ∀ tg, Steps pP.tables eE below (T24.setTop (mkF mM 31 #[.val (.int av), .val (.int bv), .val (.int sel), .val (.ref b1), .val (.int z10), .unset, .unset] [(.ref b15)])) tg → Steps pP.tables eE below (s₁.setTop (entryFrame mM #[(.int av), (.int bv), (.int sel)] maxLocals)) tg := fun tg kg => pr22 _ (st24.trans kg)
    have c26 := (Exa.keep (Exa.ext E15 E7) K24)
    have c27 := (Fld.keep (Fld.ext E15 F7_0) K24 (ninS ne16 nin0))
    have pr28 : ∀ tg, Steps pP.tables eE below (T24.setTop (mkF mM 36 #[.val (.int av), .val (.int bv), .val (.int sel), .val (.ref b1), .val (.int z10), .val (.ref b15), .unset] [(.ref b15), (.ref b1)])) tg → Steps pP.tables eE below (s₁.setTop (entryFrame mM #[(.int av), (.int bv), (.int sel)] maxLocals)) tg := fun tg kg => pr25 _ (by
      show Steps pP.tables eE below (T24.setTop (mkF mM 31 #[.val (.int av), .val (.int bv), .val (.int sel), .val (.ref b1), .val (.int z10), .unset, .unset] [(.ref b15)])) _
      refine XS.astore X24.here hx rfl (hb hby at_31) rfl rfl (l' := #[.val (.int av), .val (.int bv), .val (.int sel), .val (.ref b1), .val (.int z10), .val (.ref b15), .unset]) rfl ?_
      show Steps pP.tables eE below (T24.setTop (mkF mM 33 #[.val (.int av), .val (.int bv), .val (.int sel), .val (.ref b1), .val (.int z10), .val (.ref b15), .unset] [])) _
      refine XS.aloadN X24.here hx rfl (hb hby at_33) rfl rfl ?_
      show Steps pP.tables eE below (T24.setTop (mkF mM 34 #[.val (.int av), .val (.int bv), .val (.int sel), .val (.ref b1), .val (.int z10), .val (.ref b15), .unset] [(.ref b1)])) _
      refine XS.aload X24.here hx rfl (hb hby at_34) rfl rfl ?_
      exact kg)
    have c29 := (Nat.le_trans c23 K24.1)
    obtain ⟨cq30, kq30, qa30, qb30, qc30⟩ := isOf hZ rfl c26
    obtain ⟨_, _, ⟨T30, L30, kk30, nn30⟩, -, X30, ⟨Lc30, hQ30, l30, y30, z30⟩, st30⟩ := X24.virtualBack hx (y := (⟨"com/example/refine/refine/cspm/Value$Int", "equals", "(Ljava/lang/Object;)Z"⟩ : MethodName)) (z := (⟨"com/example/refine/refine/cspm/Value$Int", "equals", "(Ljava/lang/Object;)Z"⟩ : MethodName)) hown (mvT hZ (hw _ (List.mem_of_getElem? (i := 17) rfl))) (mvT hZ (hw _ (List.mem_of_getElem? (i := 18) rfl))) (notFace_of_selects (args := #[]) (mvT hZ (hw _ (List.mem_of_getElem? (i := 20) rfl)))) (mvT hZ (hw _ (List.mem_of_getElem? (i := 20) rfl))) (mvT hZ (hw _ (List.mem_of_getElem? (i := 19) rfl))) (by decide) (backOf (W := 0) (rm7 l Z a0 hw [] b1 b15 av bv T24.heap n0 c29 c26 c27 E24 F24_0) hZ (hw _ (List.mem_of_getElem? (i := 21) rfl)) (hw _ (List.mem_of_getElem? (i := 2) rfl)) (by decide) (by decide)) qa30 qc30 (g := (mkF mM 36 #[.val (.int av), .val (.int bv), .val (.int sel), .val (.ref b1), .val (.int z10), .val (.ref b15), .unset] [(.ref b15), (.ref b1)])) rfl (by rw [hml]; rfl) (Steps.refl _) (argsL := [(.ref b15)]) (rest := []) (lenOf pd_5 rfl) rfl (by show 2 * 0 + _ ≤ _; exact Nat.le_of_eq rfl) (hb hby at_36) (fun _ _ => ⟨rfl, rfl, (by decide : 2 + 0 ≤ _), (by decide : 2 + 0 ≤ _)⟩)
    dsimp only [Pt.U, Pt.locs, Pt.cells, Pt.slots] at X30 l30 y30 z30 st30 hQ30
    subst l30 y30 z30
    obtain ⟨r30, rfl, hr30, Nq30, e30⟩ := hQ30
    have N30 := Fr.app N24 Nq30
    have pr31 : ∀ tg, Steps pP.tables eE below (T30.setTop (mkF mM 39 #[.val (.int av), .val (.int bv), .val (.int sel), .val (.ref b1), .val (.int z10), .val (.ref b15), .unset] [(.int r30)])) tg → Steps pP.tables eE below (s₁.setTop (entryFrame mM #[(.int av), (.int bv), (.int sel)] maxLocals)) tg := fun tg kg => pr28 _ (st30.trans kg)
    have pr33 : ∀ tg, Steps pP.tables eE below (T30.setTop (mkF mM 45 #[.val (.int av), .val (.int bv), .val (.int sel), .val (.ref b1), .val (.int z10), .val (.ref b15), .val (.int r30)] [(.int bv), (.int av), (.int r30)])) tg → Steps pP.tables eE below (s₁.setTop (entryFrame mM #[(.int av), (.int bv), (.int sel)] maxLocals)) tg := fun tg kg => pr31 _ (by
      show Steps pP.tables eE below (T30.setTop (mkF mM 39 #[.val (.int av), .val (.int bv), .val (.int sel), .val (.ref b1), .val (.int z10), .val (.ref b15), .unset] [(.int r30)])) _
      refine XS.istore X30.here hx rfl (hb hby at_39) rfl (l' := #[.val (.int av), .val (.int bv), .val (.int sel), .val (.ref b1), .val (.int z10), .val (.ref b15), .val (.int r30)]) rfl ?_
      show Steps pP.tables eE below (T30.setTop (mkF mM 41 #[.val (.int av), .val (.int bv), .val (.int sel), .val (.ref b1), .val (.int z10), .val (.ref b15), .val (.int r30)] [])) _
      refine XS.iload X30.here hx rfl (hb hby at_41) rfl ?_
      show Steps pP.tables eE below (T30.setTop (mkF mM 43 #[.val (.int av), .val (.int bv), .val (.int sel), .val (.ref b1), .val (.int z10), .val (.ref b15), .val (.int r30)] [(.int r30)])) _
      refine XS.iloadN X30.here hx rfl (hb hby at_43) rfl ?_
      show Steps pP.tables eE below (T30.setTop (mkF mM 44 #[.val (.int av), .val (.int bv), .val (.int sel), .val (.ref b1), .val (.int z10), .val (.ref b15), .val (.int r30)] [(.int av), (.int r30)])) _
      refine XS.iloadN X30.here hx rfl (hb hby at_44) rfl ?_
      exact kg)
    by_cases hc45_32 : av = bv
    ·
      have pr34 : ∀ tg, Steps pP.tables eE below (T30.setTop (mkF mM 53 #[.val (.int av), .val (.int bv), .val (.int sel), .val (.ref b1), .val (.int z10), .val (.ref b15), .val (.int r30)] [(.int (1 : Int32)), (.int r30)])) tg → Steps pP.tables eE below (s₁.setTop (entryFrame mM #[(.int av), (.int bv), (.int sel)] maxLocals)) tg := fun tg kg => pr33 _ (by
        show Steps pP.tables eE below (T30.setTop (mkF mM 45 #[.val (.int av), .val (.int bv), .val (.int sel), .val (.ref b1), .val (.int z10), .val (.ref b15), .val (.int r30)] [(.int bv), (.int av), (.int r30)])) _
        refine XS.icmpNo X30.here hx rfl (hb hby at_45) rfl (teq hc45_32).2 ?_
        show Steps pP.tables eE below (T30.setTop (mkF mM 48 #[.val (.int av), .val (.int bv), .val (.int sel), .val (.ref b1), .val (.int z10), .val (.ref b15), .val (.int r30)] [(.int r30)])) _
        refine XS.iconst X30.here hx rfl (hb hby at_48) ?_
        show Steps pP.tables eE below (T30.setTop (mkF mM 49 #[.val (.int av), .val (.int bv), .val (.int sel), .val (.ref b1), .val (.int z10), .val (.ref b15), .val (.int r30)] [(.int (1 : Int32)), (.int r30)])) _
        refine XS.goto X30.here hx rfl (pc0 := 49) (pc' := 53) rfl (hb hby at_49) (by decide) (by decide) ?_
        exact kg)
      rw [if_pos (Eq.symm hc45_32)] at hr30
      subst hr30
      have pr35 : ∀ tg, Steps pP.tables eE below (T30.setTop (mkF mM 59 #[.val (.int av), .val (.int bv), .val (.int sel), .val (.ref b1), .val (.int z10), .val (.ref b15), .val (.int (1 : Int32))] [(.ref b1), (.ref b15)])) tg → Steps pP.tables eE below (s₁.setTop (entryFrame mM #[(.int av), (.int bv), (.int sel)] maxLocals)) tg := fun tg kg => pr34 _ (by
        show Steps pP.tables eE below (T30.setTop (mkF mM 53 #[.val (.int av), .val (.int bv), .val (.int sel), .val (.ref b1), .val (.int z10), .val (.ref b15), .val (.int (1 : Int32))] [(.int (1 : Int32)), (.int (1 : Int32))])) _
        refine XS.icmpNo X30.here hx rfl (hb hby at_53) rfl (teq (by decide)).2 ?_
        show Steps pP.tables eE below (T30.setTop (mkF mM 56 #[.val (.int av), .val (.int bv), .val (.int sel), .val (.ref b1), .val (.int z10), .val (.ref b15), .val (.int (1 : Int32))] [])) _
        refine XS.aload X30.here hx rfl (hb hby at_56) rfl rfl ?_
        show Steps pP.tables eE below (T30.setTop (mkF mM 58 #[.val (.int av), .val (.int bv), .val (.int sel), .val (.ref b1), .val (.int z10), .val (.ref b15), .val (.int (1 : Int32))] [(.ref b15)])) _
        refine XS.aloadN X30.here hx rfl (hb hby at_58) rfl rfl ?_
        exact kg)
      obtain ⟨cq36, kq36, qa36, qb36, qc36⟩ := isOf hZ e30 E24
      obtain ⟨_, _, ⟨T36, L36, kk36, nn36⟩, -, X36, ⟨Lc36, hQ36, l36, y36, z36⟩, st36⟩ := X30.virtualBack hx (y := (⟨"com/example/refine/refine/cspm/Value$Int", "equals", "(Ljava/lang/Object;)Z"⟩ : MethodName)) (z := (⟨"com/example/refine/refine/cspm/Value$Int", "equals", "(Ljava/lang/Object;)Z"⟩ : MethodName)) hown (mvT hZ (hw _ (List.mem_of_getElem? (i := 17) rfl))) (mvT hZ (hw _ (List.mem_of_getElem? (i := 18) rfl))) (notFace_of_selects (args := #[]) (mvT hZ (hw _ (List.mem_of_getElem? (i := 20) rfl)))) (mvT hZ (hw _ (List.mem_of_getElem? (i := 20) rfl))) (mvT hZ (hw _ (List.mem_of_getElem? (i := 19) rfl))) (by decide) (backOf (W := 0) (rm7 l Z a0 hw [] b15 b1 bv av T24.heap n0 c29 E24 F24_0 c26 c27) hZ (hw _ (List.mem_of_getElem? (i := 21) rfl)) (hw _ (List.mem_of_getElem? (i := 2) rfl)) (by decide) (by decide)) qa36 qc36 (g := (mkF mM 59 #[.val (.int av), .val (.int bv), .val (.int sel), .val (.ref b1), .val (.int z10), .val (.ref b15), .val (.int (1 : Int32))] [(.ref b1), (.ref b15)])) rfl (by rw [hml]; rfl) (Steps.refl _) (argsL := [(.ref b1)]) (rest := []) (lenOf pd_5 rfl) rfl (by show 2 * 0 + _ ≤ _; exact Nat.le_of_eq rfl) (hb hby at_59) (fun _ _ => ⟨rfl, e30, (by decide : 2 + 0 ≤ _), (by decide : 2 + 0 ≤ _)⟩)
      dsimp only [Pt.U, Pt.locs, Pt.cells, Pt.slots] at X36 l36 y36 z36 st36 hQ36
      subst l36 y36 z36
      obtain ⟨r36, rfl, hr36, Nq36, e36⟩ := hQ36
      have N36 := Fr.app N30 Nq36
      have pr37 : ∀ tg, Steps pP.tables eE below (T36.setTop (mkF mM 62 #[.val (.int av), .val (.int bv), .val (.int sel), .val (.ref b1), .val (.int z10), .val (.ref b15), .val (.int (1 : Int32))] [(.int r36)])) tg → Steps pP.tables eE below (s₁.setTop (entryFrame mM #[(.int av), (.int bv), (.int sel)] maxLocals)) tg := fun tg kg => pr35 _ (st36.trans kg)
      have pr38 : ∀ tg, Steps pP.tables eE below (T36.setTop (mkF mM 64 #[.val (.int av), .val (.int bv), .val (.int sel), .val (.ref b1), .val (.int z10), .val (.ref b15), .val (.int (1 : Int32))] [(.int (1 : Int32)), (.int r36)])) tg → Steps pP.tables eE below (s₁.setTop (entryFrame mM #[(.int av), (.int bv), (.int sel)] maxLocals)) tg := fun tg kg => pr37 _ (by
        show Steps pP.tables eE below (T36.setTop (mkF mM 62 #[.val (.int av), .val (.int bv), .val (.int sel), .val (.ref b1), .val (.int z10), .val (.ref b15), .val (.int (1 : Int32))] [(.int r36)])) _
        refine XS.iload X36.here hx rfl (hb hby at_62) rfl ?_
        exact kg)
      rw [if_pos hc45_32] at hr36
      subst hr36
      have pr39 : ∀ tg, Steps pP.tables eE below (T36.setTop (mkF mM 72 #[.val (.int av), .val (.int bv), .val (.int sel), .val (.ref b1), .val (.int z10), .val (.ref b15), .val (.int (1 : Int32))] [(.int (1 : Int32))])) tg → Steps pP.tables eE below (s₁.setTop (entryFrame mM #[(.int av), (.int bv), (.int sel)] maxLocals)) tg := fun tg kg => pr38 _ (by
        show Steps pP.tables eE below (T36.setTop (mkF mM 64 #[.val (.int av), .val (.int bv), .val (.int sel), .val (.ref b1), .val (.int z10), .val (.ref b15), .val (.int (1 : Int32))] [(.int (1 : Int32)), (.int (1 : Int32))])) _
        refine XS.icmpNo X36.here hx rfl (hb hby at_64) rfl (teq (by decide)).2 ?_
        show Steps pP.tables eE below (T36.setTop (mkF mM 67 #[.val (.int av), .val (.int bv), .val (.int sel), .val (.ref b1), .val (.int z10), .val (.ref b15), .val (.int (1 : Int32))] [])) _
        refine XS.iconst X36.here hx rfl (hb hby at_67) ?_
        show Steps pP.tables eE below (T36.setTop (mkF mM 68 #[.val (.int av), .val (.int bv), .val (.int sel), .val (.ref b1), .val (.int z10), .val (.ref b15), .val (.int (1 : Int32))] [(.int (1 : Int32))])) _
        refine XS.goto X36.here hx rfl (pc0 := 68) (pc' := 72) rfl (hb hby at_68) (by decide) (by decide) ?_
        exact kg)
      obtain ⟨fs, hr, hrun, hended, hW, hsame⟩ := X36.leave (v := some (.int (1 : Int32))) (fun h => by rw [Bd.returns] at h; cases h)
      refine ⟨_, _, pr39 _ (retOut X36 hx (t := .boolean) Bd.returns rfl (Or.inl ⟨rfl, Or.inr (Or.inl rfl), _, rfl⟩) (hb hby at_72) hr), hrun, hended, _, _, rfl, ?_, ⟨_, rfl⟩, hW, hsame.mono (by decide) (by decide)⟩
      show Q0 Z av bv sel ca cc cs h0 n0 _ T36.heap _
      rw [e36]
      exact ⟨rfl, N36⟩
    ·
      have pr40 : ∀ tg, Steps pP.tables eE below (T30.setTop (mkF mM 53 #[.val (.int av), .val (.int bv), .val (.int sel), .val (.ref b1), .val (.int z10), .val (.ref b15), .val (.int r30)] [(.int (0 : Int32)), (.int r30)])) tg → Steps pP.tables eE below (s₁.setTop (entryFrame mM #[(.int av), (.int bv), (.int sel)] maxLocals)) tg := fun tg kg => pr33 _ (by
        show Steps pP.tables eE below (T30.setTop (mkF mM 45 #[.val (.int av), .val (.int bv), .val (.int sel), .val (.ref b1), .val (.int z10), .val (.ref b15), .val (.int r30)] [(.int bv), (.int av), (.int r30)])) _
        refine XS.icmpYes X30.here hx rfl (pc0 := 45) (pc' := 52) rfl (hb hby at_45) rfl (feq hc45_32).2 (by decide) (by decide) ?_
        show Steps pP.tables eE below (T30.setTop (mkF mM 52 #[.val (.int av), .val (.int bv), .val (.int sel), .val (.ref b1), .val (.int z10), .val (.ref b15), .val (.int r30)] [(.int r30)])) _
        refine XS.iconst X30.here hx rfl (hb hby at_52) ?_
        exact kg)
      rw [if_neg (fun q => hc45_32 q.symm)] at hr30
      subst hr30
      have pr41 : ∀ tg, Steps pP.tables eE below (T30.setTop (mkF mM 59 #[.val (.int av), .val (.int bv), .val (.int sel), .val (.ref b1), .val (.int z10), .val (.ref b15), .val (.int (0 : Int32))] [(.ref b1), (.ref b15)])) tg → Steps pP.tables eE below (s₁.setTop (entryFrame mM #[(.int av), (.int bv), (.int sel)] maxLocals)) tg := fun tg kg => pr40 _ (by
        show Steps pP.tables eE below (T30.setTop (mkF mM 53 #[.val (.int av), .val (.int bv), .val (.int sel), .val (.ref b1), .val (.int z10), .val (.ref b15), .val (.int (0 : Int32))] [(.int (0 : Int32)), (.int (0 : Int32))])) _
        refine XS.icmpNo X30.here hx rfl (hb hby at_53) rfl (teq (by decide)).2 ?_
        show Steps pP.tables eE below (T30.setTop (mkF mM 56 #[.val (.int av), .val (.int bv), .val (.int sel), .val (.ref b1), .val (.int z10), .val (.ref b15), .val (.int (0 : Int32))] [])) _
        refine XS.aload X30.here hx rfl (hb hby at_56) rfl rfl ?_
        show Steps pP.tables eE below (T30.setTop (mkF mM 58 #[.val (.int av), .val (.int bv), .val (.int sel), .val (.ref b1), .val (.int z10), .val (.ref b15), .val (.int (0 : Int32))] [(.ref b15)])) _
        refine XS.aloadN X30.here hx rfl (hb hby at_58) rfl rfl ?_
        exact kg)
      obtain ⟨cq42, kq42, qa42, qb42, qc42⟩ := isOf hZ e30 E24
      obtain ⟨_, _, ⟨T42, L42, kk42, nn42⟩, -, X42, ⟨Lc42, hQ42, l42, y42, z42⟩, st42⟩ := X30.virtualBack hx (y := (⟨"com/example/refine/refine/cspm/Value$Int", "equals", "(Ljava/lang/Object;)Z"⟩ : MethodName)) (z := (⟨"com/example/refine/refine/cspm/Value$Int", "equals", "(Ljava/lang/Object;)Z"⟩ : MethodName)) hown (mvT hZ (hw _ (List.mem_of_getElem? (i := 17) rfl))) (mvT hZ (hw _ (List.mem_of_getElem? (i := 18) rfl))) (notFace_of_selects (args := #[]) (mvT hZ (hw _ (List.mem_of_getElem? (i := 20) rfl)))) (mvT hZ (hw _ (List.mem_of_getElem? (i := 20) rfl))) (mvT hZ (hw _ (List.mem_of_getElem? (i := 19) rfl))) (by decide) (backOf (W := 0) (rm7 l Z a0 hw [] b15 b1 bv av T24.heap n0 c29 E24 F24_0 c26 c27) hZ (hw _ (List.mem_of_getElem? (i := 21) rfl)) (hw _ (List.mem_of_getElem? (i := 2) rfl)) (by decide) (by decide)) qa42 qc42 (g := (mkF mM 59 #[.val (.int av), .val (.int bv), .val (.int sel), .val (.ref b1), .val (.int z10), .val (.ref b15), .val (.int (0 : Int32))] [(.ref b1), (.ref b15)])) rfl (by rw [hml]; rfl) (Steps.refl _) (argsL := [(.ref b1)]) (rest := []) (lenOf pd_5 rfl) rfl (by show 2 * 0 + _ ≤ _; exact Nat.le_of_eq rfl) (hb hby at_59) (fun _ _ => ⟨rfl, e30, (by decide : 2 + 0 ≤ _), (by decide : 2 + 0 ≤ _)⟩)
      dsimp only [Pt.U, Pt.locs, Pt.cells, Pt.slots] at X42 l42 y42 z42 st42 hQ42
      subst l42 y42 z42
      obtain ⟨r42, rfl, hr42, Nq42, e42⟩ := hQ42
      have N42 := Fr.app N30 Nq42
      have pr43 : ∀ tg, Steps pP.tables eE below (T42.setTop (mkF mM 62 #[.val (.int av), .val (.int bv), .val (.int sel), .val (.ref b1), .val (.int z10), .val (.ref b15), .val (.int (0 : Int32))] [(.int r42)])) tg → Steps pP.tables eE below (s₁.setTop (entryFrame mM #[(.int av), (.int bv), (.int sel)] maxLocals)) tg := fun tg kg => pr41 _ (st42.trans kg)
      have pr44 : ∀ tg, Steps pP.tables eE below (T42.setTop (mkF mM 64 #[.val (.int av), .val (.int bv), .val (.int sel), .val (.ref b1), .val (.int z10), .val (.ref b15), .val (.int (0 : Int32))] [(.int (0 : Int32)), (.int r42)])) tg → Steps pP.tables eE below (s₁.setTop (entryFrame mM #[(.int av), (.int bv), (.int sel)] maxLocals)) tg := fun tg kg => pr43 _ (by
        show Steps pP.tables eE below (T42.setTop (mkF mM 62 #[.val (.int av), .val (.int bv), .val (.int sel), .val (.ref b1), .val (.int z10), .val (.ref b15), .val (.int (0 : Int32))] [(.int r42)])) _
        refine XS.iload X42.here hx rfl (hb hby at_62) rfl ?_
        exact kg)
      rw [if_neg hc45_32] at hr42
      subst hr42
      have pr45 : ∀ tg, Steps pP.tables eE below (T42.setTop (mkF mM 72 #[.val (.int av), .val (.int bv), .val (.int sel), .val (.ref b1), .val (.int z10), .val (.ref b15), .val (.int (0 : Int32))] [(.int (1 : Int32))])) tg → Steps pP.tables eE below (s₁.setTop (entryFrame mM #[(.int av), (.int bv), (.int sel)] maxLocals)) tg := fun tg kg => pr44 _ (by
        show Steps pP.tables eE below (T42.setTop (mkF mM 64 #[.val (.int av), .val (.int bv), .val (.int sel), .val (.ref b1), .val (.int z10), .val (.ref b15), .val (.int (0 : Int32))] [(.int (0 : Int32)), (.int (0 : Int32))])) _
        refine XS.icmpNo X42.here hx rfl (hb hby at_64) rfl (teq (by decide)).2 ?_
        show Steps pP.tables eE below (T42.setTop (mkF mM 67 #[.val (.int av), .val (.int bv), .val (.int sel), .val (.ref b1), .val (.int z10), .val (.ref b15), .val (.int (0 : Int32))] [])) _
        refine XS.iconst X42.here hx rfl (hb hby at_67) ?_
        show Steps pP.tables eE below (T42.setTop (mkF mM 68 #[.val (.int av), .val (.int bv), .val (.int sel), .val (.ref b1), .val (.int z10), .val (.ref b15), .val (.int (0 : Int32))] [(.int (1 : Int32))])) _
        refine XS.goto X42.here hx rfl (pc0 := 68) (pc' := 72) rfl (hb hby at_68) (by decide) (by decide) ?_
        exact kg)
      obtain ⟨fs, hr, hrun, hended, hW, hsame⟩ := X42.leave (v := some (.int (1 : Int32))) (fun h => by rw [Bd.returns] at h; cases h)
      refine ⟨_, _, pr45 _ (retOut X42 hx (t := .boolean) Bd.returns rfl (Or.inl ⟨rfl, Or.inr (Or.inl rfl), _, rfl⟩) (hb hby at_72) hr), hrun, hended, _, _, rfl, ?_, ⟨_, rfl⟩, hW, hsame.mono (by decide) (by decide)⟩
      show Q0 Z av bv sel ca cc cs h0 n0 _ T42.heap _
      rw [e42]
      exact ⟨rfl, N42⟩
  ·
    have pr47 : ∀ tg, Steps pP.tables eE below (T7.setTop (mkF mM 76 #[.val (.int av), .val (.int bv), .val (.int sel), .val (.ref b1), .val (.int z10), .unset, .unset] [(.int (1 : Int32)), (.int z10)])) tg → Steps pP.tables eE below (s₁.setTop (entryFrame mM #[(.int av), (.int bv), (.int sel)] maxLocals)) tg := fun tg kg => pr13 _ (by
      show Steps pP.tables eE below (T7.setTop (mkF mM 20 #[.val (.int av), .val (.int bv), .val (.int sel), .val (.ref b1), .val (.int z10), .unset, .unset] [(.int z10)])) _
      refine XS.ifYes X7.here hx rfl (pc0 := 20) (pc' := 73) rfl (hb hby at_20) rfl ((if0 _ _).trans (feq hc20_12).2) (by decide) (by decide) ?_
      show Steps pP.tables eE below (T7.setTop (mkF mM 73 #[.val (.int av), .val (.int bv), .val (.int sel), .val (.ref b1), .val (.int z10), .unset, .unset] [])) _
      refine XS.iload X7.here hx rfl (hb hby at_73) rfl ?_
      show Steps pP.tables eE below (T7.setTop (mkF mM 75 #[.val (.int av), .val (.int bv), .val (.int sel), .val (.ref b1), .val (.int z10), .unset, .unset] [(.int z10)])) _
      refine XS.iconst X7.here hx rfl (hb hby at_75) ?_
      exact kg)
    by_cases hc76_46 : z10 = (1 : Int32)
    ·
      have pr48 : ∀ tg, Steps pP.tables eE below (T7.setTop (mkF mM 79 #[.val (.int av), .val (.int bv), .val (.int sel), .val (.ref b1), .val (.int z10), .unset, .unset] [])) tg → Steps pP.tables eE below (s₁.setTop (entryFrame mM #[(.int av), (.int bv), (.int sel)] maxLocals)) tg := fun tg kg => pr47 _ (by
        show Steps pP.tables eE below (T7.setTop (mkF mM 76 #[.val (.int av), .val (.int bv), .val (.int sel), .val (.ref b1), .val (.int z10), .unset, .unset] [(.int (1 : Int32)), (.int z10)])) _
        refine XS.icmpNo X7.here hx rfl (hb hby at_76) rfl (teq hc76_46).2 ?_
        exact kg)
      obtain ⟨T49, h49, X49, e49, E49, A49, D49, -, st49⟩ := newO X7 hx hZ hown (hw _ (List.mem_of_getElem? (i := 0) rfl)) (hw _ (List.mem_of_getElem? (i := 1) rfl)) (hw _ (List.mem_of_getElem? (i := 2) rfl)) rfl (g := (mkF mM 79 #[.val (.int av), .val (.int bv), .val (.int sel), .val (.ref b1), .val (.int z10), .unset, .unset] [])) rfl (hb hby at_79) (by decide) (by decide)
      obtain ⟨b49, g49⟩ : ∃ z, z = (T7.heap).size := ⟨_, rfl⟩
      rw [← g49] at A49 D49 st49
      have ne50 : b1 ≠ b49 := Nat.ne_of_lt (Nat.lt_of_lt_of_le (E7).lt (Nat.le_of_eq g49.symm))
      have c52 := (Nat.le_trans c6 K7.1)
      have gn51 : n0 ≤ b49 := Nat.le_trans c52 (Nat.le_of_eq g49.symm)
      have c54 := (Keep.trans (Keep.ext (Keep.refl h0 []) E1) K7 (allS (Or.inr gs3) all0))
      have gs53 : h0.size ≤ b49 := Nat.le_trans c54.1 (Nat.le_of_eq g49.symm)
      have F49_number : Fld Z h49 b49 "com/example/refine/refine/cspm/Value$Int" "number" "I" (.int (0 : Int32)) := D49 (Or.inr (hw _ (List.mem_of_getElem? (i := 15) rfl))) (ty := .int) (by decide)
      have pr55 : ∀ tg, Steps pP.tables eE below (T49.setTop (mkF mM 82 #[.val (.int av), .val (.int bv), .val (.int sel), .val (.ref b1), .val (.int z10), .unset, .unset] [(.ref b49)])) tg → Steps pP.tables eE below (s₁.setTop (entryFrame mM #[(.int av), (.int bv), (.int sel)] maxLocals)) tg := fun tg kg => pr48 _ (st49 _ kg)
      have pr56 : ∀ tg, Steps pP.tables eE below (T49.setTop (mkF mM 84 #[.val (.int av), .val (.int bv), .val (.int sel), .val (.ref b1), .val (.int z10), .unset, .unset] [(.int av), (.ref b49), (.ref b49)])) tg → Steps pP.tables eE below (s₁.setTop (entryFrame mM #[(.int av), (.int bv), (.int sel)] maxLocals)) tg := fun tg kg => pr55 _ (by
        show Steps pP.tables eE below (T49.setTop (mkF mM 82 #[.val (.int av), .val (.int bv), .val (.int sel), .val (.ref b1), .val (.int z10), .unset, .unset] [(.ref b49)])) _
        refine XS.dup X49.here hx rfl (hb hby at_82) rfl rfl ?_
        show Steps pP.tables eE below (T49.setTop (mkF mM 83 #[.val (.int av), .val (.int bv), .val (.int sel), .val (.ref b1), .val (.int z10), .unset, .unset] [(.ref b49), (.ref b49)])) _
        refine XS.iloadN X49.here hx rfl (hb hby at_83) rfl ?_
        exact kg)
      have c57 := (Nat.le_trans c52 E49.1)
      obtain ⟨_, _, ⟨T58, L58, kk58, nn58⟩, -, X58, ⟨Lc58, hQ58, l58, y58, z58⟩, st58⟩ := X49.specialBack hx (y := (⟨"com/example/refine/refine/cspm/Value$Int", "<init>", "(I)V"⟩ : MethodName)) rfl hown (mvT hZ (hw _ (List.mem_of_getElem? (i := 3) rfl))) (mvT hZ (hw _ (List.mem_of_getElem? (i := 4) rfl))) (mvT hZ (hw _ (List.mem_of_getElem? (i := 5) rfl))) (by decide) (backOf (W := 1) (rm2 l Z a0 hw [] b49 av h49 n0 c57 A49 gn51 F49_number ) hZ (hw _ (List.mem_of_getElem? (i := 5) rfl)) (hw _ (List.mem_of_getElem? (i := 2) rfl)) (by decide) (by decide)) (g := (mkF mM 84 #[.val (.int av), .val (.int bv), .val (.int sel), .val (.ref b1), .val (.int z10), .unset, .unset] [(.int av), (.ref b49), (.ref b49)])) rfl (by rw [hml]; rfl) (Steps.refl _) (a := b49) (argsL := [(.int av)]) (rest := [(.ref b49)]) (lenOf pd_1 rfl) rfl (by show 2 * 0 + _ ≤ _; exact Nat.le_of_eq rfl) (hb hby at_84) (fun _ _ => ⟨rfl, e49, (by decide : 2 + 0 ≤ _), (by decide : 2 + 0 ≤ _)⟩)
      dsimp only [Pt.U, Pt.locs, Pt.cells, Pt.slots] at X58 l58 y58 z58 st58 hQ58
      subst l58 y58 z58
      obtain ⟨rfl, Nq58, K58, E58, F58_0⟩ := hQ58
      have N58 := Fr.app N7 Nq58
      have pr59 : ∀ tg, Steps pP.tables eE below (T58.setTop (mkF mM 87 #[.val (.int av), .val (.int bv), .val (.int sel), .val (.ref b1), .val (.int z10), .unset, .unset] [(.ref b49)])) tg → Steps pP.tables eE below (s₁.setTop (entryFrame mM #[(.int av), (.int bv), (.int sel)] maxLocals)) tg := fun tg kg => pr56 _ (st58.trans kg)
      have c60 := (Exa.keep (Exa.ext E49 E7) K58)
      have c61 := (Fld.keep (Fld.ext E49 F7_0) K58 (ninS ne50 nin0))
      have pr62 : ∀ tg, Steps pP.tables eE below (T58.setTop (mkF mM 92 #[.val (.int av), .val (.int bv), .val (.int sel), .val (.ref b1), .val (.int z10), .val (.ref b49), .unset] [(.ref b49), (.ref b1)])) tg → Steps pP.tables eE below (s₁.setTop (entryFrame mM #[(.int av), (.int bv), (.int sel)] maxLocals)) tg := fun tg kg => pr59 _ (by
        show Steps pP.tables eE below (T58.setTop (mkF mM 87 #[.val (.int av), .val (.int bv), .val (.int sel), .val (.ref b1), .val (.int z10), .unset, .unset] [(.ref b49)])) _
        refine XS.astore X58.here hx rfl (hb hby at_87) rfl rfl (l' := #[.val (.int av), .val (.int bv), .val (.int sel), .val (.ref b1), .val (.int z10), .val (.ref b49), .unset]) rfl ?_
        show Steps pP.tables eE below (T58.setTop (mkF mM 89 #[.val (.int av), .val (.int bv), .val (.int sel), .val (.ref b1), .val (.int z10), .val (.ref b49), .unset] [])) _
        refine XS.aloadN X58.here hx rfl (hb hby at_89) rfl rfl ?_
        show Steps pP.tables eE below (T58.setTop (mkF mM 90 #[.val (.int av), .val (.int bv), .val (.int sel), .val (.ref b1), .val (.int z10), .val (.ref b49), .unset] [(.ref b1)])) _
        refine XS.aload X58.here hx rfl (hb hby at_90) rfl rfl ?_
        exact kg)
      have c63 := (Nat.le_trans c57 K58.1)
      obtain ⟨cq64, kq64, qa64, qb64, qc64⟩ := isOf hZ rfl c60
      obtain ⟨_, _, ⟨T64, L64, kk64, nn64⟩, -, X64, ⟨Lc64, hQ64, l64, y64, z64⟩, st64⟩ := X58.virtualBack hx (y := (⟨"com/example/refine/refine/cspm/Value$Int", "equals", "(Ljava/lang/Object;)Z"⟩ : MethodName)) (z := (⟨"com/example/refine/refine/cspm/Value$Int", "equals", "(Ljava/lang/Object;)Z"⟩ : MethodName)) hown (mvT hZ (hw _ (List.mem_of_getElem? (i := 17) rfl))) (mvT hZ (hw _ (List.mem_of_getElem? (i := 18) rfl))) (notFace_of_selects (args := #[]) (mvT hZ (hw _ (List.mem_of_getElem? (i := 20) rfl)))) (mvT hZ (hw _ (List.mem_of_getElem? (i := 20) rfl))) (mvT hZ (hw _ (List.mem_of_getElem? (i := 19) rfl))) (by decide) (backOf (W := 0) (rm7 l Z a0 hw [] b1 b49 av av T58.heap n0 c63 c60 c61 E58 F58_0) hZ (hw _ (List.mem_of_getElem? (i := 21) rfl)) (hw _ (List.mem_of_getElem? (i := 2) rfl)) (by decide) (by decide)) qa64 qc64 (g := (mkF mM 92 #[.val (.int av), .val (.int bv), .val (.int sel), .val (.ref b1), .val (.int z10), .val (.ref b49), .unset] [(.ref b49), (.ref b1)])) rfl (by rw [hml]; rfl) (Steps.refl _) (argsL := [(.ref b49)]) (rest := []) (lenOf pd_5 rfl) rfl (by show 2 * 0 + _ ≤ _; exact Nat.le_of_eq rfl) (hb hby at_92) (fun _ _ => ⟨rfl, rfl, (by decide : 2 + 0 ≤ _), (by decide : 2 + 0 ≤ _)⟩)
      dsimp only [Pt.U, Pt.locs, Pt.cells, Pt.slots] at X64 l64 y64 z64 st64 hQ64
      subst l64 y64 z64
      obtain ⟨r64, rfl, hr64, Nq64, e64⟩ := hQ64
      have N64 := Fr.app N58 Nq64
      have pr65 : ∀ tg, Steps pP.tables eE below (T64.setTop (mkF mM 95 #[.val (.int av), .val (.int bv), .val (.int sel), .val (.ref b1), .val (.int z10), .val (.ref b49), .unset] [(.int r64)])) tg → Steps pP.tables eE below (s₁.setTop (entryFrame mM #[(.int av), (.int bv), (.int sel)] maxLocals)) tg := fun tg kg => pr62 _ (st64.trans kg)
      rw [if_pos (rfl : av = av)] at hr64
      subst hr64
      have pr66 : ∀ tg, Steps pP.tables eE below (T64.setTop (mkF mM 101 #[.val (.int av), .val (.int bv), .val (.int sel), .val (.ref b1), .val (.int z10), .val (.ref b49), .unset] [(.ref b1), (.ref b49)])) tg → Steps pP.tables eE below (s₁.setTop (entryFrame mM #[(.int av), (.int bv), (.int sel)] maxLocals)) tg := fun tg kg => pr65 _ (by
        show Steps pP.tables eE below (T64.setTop (mkF mM 95 #[.val (.int av), .val (.int bv), .val (.int sel), .val (.ref b1), .val (.int z10), .val (.ref b49), .unset] [(.int (1 : Int32))])) _
        refine XS.ifNo X64.here hx rfl (hb hby at_95) rfl ((if0 _ _).trans (feq (by decide)).1) ?_
        show Steps pP.tables eE below (T64.setTop (mkF mM 98 #[.val (.int av), .val (.int bv), .val (.int sel), .val (.ref b1), .val (.int z10), .val (.ref b49), .unset] [])) _
        refine XS.aload X64.here hx rfl (hb hby at_98) rfl rfl ?_
        show Steps pP.tables eE below (T64.setTop (mkF mM 100 #[.val (.int av), .val (.int bv), .val (.int sel), .val (.ref b1), .val (.int z10), .val (.ref b49), .unset] [(.ref b49)])) _
        refine XS.aloadN X64.here hx rfl (hb hby at_100) rfl rfl ?_
        exact kg)
      obtain ⟨cq67, kq67, qa67, qb67, qc67⟩ := isOf hZ e64 E58
      obtain ⟨_, _, ⟨T67, L67, kk67, nn67⟩, -, X67, ⟨Lc67, hQ67, l67, y67, z67⟩, st67⟩ := X64.virtualBack hx (y := (⟨"com/example/refine/refine/cspm/Value$Int", "equals", "(Ljava/lang/Object;)Z"⟩ : MethodName)) (z := (⟨"com/example/refine/refine/cspm/Value$Int", "equals", "(Ljava/lang/Object;)Z"⟩ : MethodName)) hown (mvT hZ (hw _ (List.mem_of_getElem? (i := 17) rfl))) (mvT hZ (hw _ (List.mem_of_getElem? (i := 18) rfl))) (notFace_of_selects (args := #[]) (mvT hZ (hw _ (List.mem_of_getElem? (i := 20) rfl)))) (mvT hZ (hw _ (List.mem_of_getElem? (i := 20) rfl))) (mvT hZ (hw _ (List.mem_of_getElem? (i := 19) rfl))) (by decide) (backOf (W := 0) (rm7 l Z a0 hw [] b49 b1 av av T58.heap n0 c63 E58 F58_0 c60 c61) hZ (hw _ (List.mem_of_getElem? (i := 21) rfl)) (hw _ (List.mem_of_getElem? (i := 2) rfl)) (by decide) (by decide)) qa67 qc67 (g := (mkF mM 101 #[.val (.int av), .val (.int bv), .val (.int sel), .val (.ref b1), .val (.int z10), .val (.ref b49), .unset] [(.ref b1), (.ref b49)])) rfl (by rw [hml]; rfl) (Steps.refl _) (argsL := [(.ref b1)]) (rest := []) (lenOf pd_5 rfl) rfl (by show 2 * 0 + _ ≤ _; exact Nat.le_of_eq rfl) (hb hby at_101) (fun _ _ => ⟨rfl, e64, (by decide : 2 + 0 ≤ _), (by decide : 2 + 0 ≤ _)⟩)
      dsimp only [Pt.U, Pt.locs, Pt.cells, Pt.slots] at X67 l67 y67 z67 st67 hQ67
      subst l67 y67 z67
      obtain ⟨r67, rfl, hr67, Nq67, e67⟩ := hQ67
      have N67 := Fr.app N64 Nq67
      have pr68 : ∀ tg, Steps pP.tables eE below (T67.setTop (mkF mM 104 #[.val (.int av), .val (.int bv), .val (.int sel), .val (.ref b1), .val (.int z10), .val (.ref b49), .unset] [(.int r67)])) tg → Steps pP.tables eE below (s₁.setTop (entryFrame mM #[(.int av), (.int bv), (.int sel)] maxLocals)) tg := fun tg kg => pr66 _ (st67.trans kg)
      rw [if_pos (rfl : av = av)] at hr67
      subst hr67
      have pr69 : ∀ tg, Steps pP.tables eE below (T67.setTop (mkF mM 112 #[.val (.int av), .val (.int bv), .val (.int sel), .val (.ref b1), .val (.int z10), .val (.ref b49), .unset] [(.int (1 : Int32))])) tg → Steps pP.tables eE below (s₁.setTop (entryFrame mM #[(.int av), (.int bv), (.int sel)] maxLocals)) tg := fun tg kg => pr68 _ (by
        show Steps pP.tables eE below (T67.setTop (mkF mM 104 #[.val (.int av), .val (.int bv), .val (.int sel), .val (.ref b1), .val (.int z10), .val (.ref b49), .unset] [(.int (1 : Int32))])) _
        refine XS.ifNo X67.here hx rfl (hb hby at_104) rfl ((if0 _ _).trans (feq (by decide)).1) ?_
        show Steps pP.tables eE below (T67.setTop (mkF mM 107 #[.val (.int av), .val (.int bv), .val (.int sel), .val (.ref b1), .val (.int z10), .val (.ref b49), .unset] [])) _
        refine XS.iconst X67.here hx rfl (hb hby at_107) ?_
        show Steps pP.tables eE below (T67.setTop (mkF mM 108 #[.val (.int av), .val (.int bv), .val (.int sel), .val (.ref b1), .val (.int z10), .val (.ref b49), .unset] [(.int (1 : Int32))])) _
        refine XS.goto X67.here hx rfl (pc0 := 108) (pc' := 112) rfl (hb hby at_108) (by decide) (by decide) ?_
        exact kg)
      obtain ⟨fs, hr, hrun, hended, hW, hsame⟩ := X67.leave (v := some (.int (1 : Int32))) (fun h => by rw [Bd.returns] at h; cases h)
      refine ⟨_, _, pr69 _ (retOut X67 hx (t := .boolean) Bd.returns rfl (Or.inl ⟨rfl, Or.inr (Or.inl rfl), _, rfl⟩) (hb hby at_112) hr), hrun, hended, _, _, rfl, ?_, ⟨_, rfl⟩, hW, hsame.mono (by decide) (by decide)⟩
      show Q0 Z av bv sel ca cc cs h0 n0 _ T67.heap _
      rw [e67]
      exact ⟨rfl, N67⟩
    ·
      have pr71 : ∀ tg, Steps pP.tables eE below (T7.setTop (mkF mM 116 #[.val (.int av), .val (.int bv), .val (.int sel), .val (.ref b1), .val (.int z10), .unset, .unset] [(.int (2 : Int32)), (.int z10)])) tg → Steps pP.tables eE below (s₁.setTop (entryFrame mM #[(.int av), (.int bv), (.int sel)] maxLocals)) tg := fun tg kg => pr47 _ (by
        show Steps pP.tables eE below (T7.setTop (mkF mM 76 #[.val (.int av), .val (.int bv), .val (.int sel), .val (.ref b1), .val (.int z10), .unset, .unset] [(.int (1 : Int32)), (.int z10)])) _
        refine XS.icmpYes X7.here hx rfl (pc0 := 76) (pc' := 113) rfl (hb hby at_76) rfl (feq hc76_46).2 (by decide) (by decide) ?_
        show Steps pP.tables eE below (T7.setTop (mkF mM 113 #[.val (.int av), .val (.int bv), .val (.int sel), .val (.ref b1), .val (.int z10), .unset, .unset] [])) _
        refine XS.iload X7.here hx rfl (hb hby at_113) rfl ?_
        show Steps pP.tables eE below (T7.setTop (mkF mM 115 #[.val (.int av), .val (.int bv), .val (.int sel), .val (.ref b1), .val (.int z10), .unset, .unset] [(.int z10)])) _
        refine XS.iconst X7.here hx rfl (hb hby at_115) ?_
        exact kg)
      by_cases hc116_70 : z10 = (2 : Int32)
      ·
        have pr72 : ∀ tg, Steps pP.tables eE below (T7.setTop (mkF mM 121 #[.val (.int av), .val (.int bv), .val (.int sel), .val (.ref b1), .val (.int z10), .unset, .unset] [(.ref b1), (.ref b1)])) tg → Steps pP.tables eE below (s₁.setTop (entryFrame mM #[(.int av), (.int bv), (.int sel)] maxLocals)) tg := fun tg kg => pr71 _ (by
          show Steps pP.tables eE below (T7.setTop (mkF mM 116 #[.val (.int av), .val (.int bv), .val (.int sel), .val (.ref b1), .val (.int z10), .unset, .unset] [(.int (2 : Int32)), (.int z10)])) _
          refine XS.icmpNo X7.here hx rfl (hb hby at_116) rfl (teq hc116_70).2 ?_
          show Steps pP.tables eE below (T7.setTop (mkF mM 119 #[.val (.int av), .val (.int bv), .val (.int sel), .val (.ref b1), .val (.int z10), .unset, .unset] [])) _
          refine XS.aloadN X7.here hx rfl (hb hby at_119) rfl rfl ?_
          show Steps pP.tables eE below (T7.setTop (mkF mM 120 #[.val (.int av), .val (.int bv), .val (.int sel), .val (.ref b1), .val (.int z10), .unset, .unset] [(.ref b1)])) _
          refine XS.aloadN X7.here hx rfl (hb hby at_120) rfl rfl ?_
          exact kg)
        have c73 := (Nat.le_trans c6 K7.1)
        obtain ⟨cq74, kq74, qa74, qb74, qc74⟩ := isOf hZ rfl E7
        obtain ⟨_, _, ⟨T74, L74, kk74, nn74⟩, -, X74, ⟨Lc74, hQ74, l74, y74, z74⟩, st74⟩ := X7.virtualBack hx (y := (⟨"com/example/refine/refine/cspm/Value$Int", "equals", "(Ljava/lang/Object;)Z"⟩ : MethodName)) (z := (⟨"com/example/refine/refine/cspm/Value$Int", "equals", "(Ljava/lang/Object;)Z"⟩ : MethodName)) hown (mvT hZ (hw _ (List.mem_of_getElem? (i := 17) rfl))) (mvT hZ (hw _ (List.mem_of_getElem? (i := 18) rfl))) (notFace_of_selects (args := #[]) (mvT hZ (hw _ (List.mem_of_getElem? (i := 20) rfl)))) (mvT hZ (hw _ (List.mem_of_getElem? (i := 20) rfl))) (mvT hZ (hw _ (List.mem_of_getElem? (i := 19) rfl))) (by decide) (backOf (W := 0) (rm7 l Z a0 hw [] b1 b1 av av T7.heap n0 c73 E7 F7_0 E7 F7_0) hZ (hw _ (List.mem_of_getElem? (i := 21) rfl)) (hw _ (List.mem_of_getElem? (i := 2) rfl)) (by decide) (by decide)) qa74 qc74 (g := (mkF mM 121 #[.val (.int av), .val (.int bv), .val (.int sel), .val (.ref b1), .val (.int z10), .unset, .unset] [(.ref b1), (.ref b1)])) rfl (by rw [hml]; rfl) (Steps.refl _) (argsL := [(.ref b1)]) (rest := []) (lenOf pd_5 rfl) rfl (by show 2 * 0 + _ ≤ _; exact Nat.le_of_eq rfl) (hb hby at_121) (fun _ _ => ⟨rfl, rfl, (by decide : 1 + 0 ≤ _), (by decide : 1 + 0 ≤ _)⟩)
        dsimp only [Pt.U, Pt.locs, Pt.cells, Pt.slots] at X74 l74 y74 z74 st74 hQ74
        subst l74 y74 z74
        obtain ⟨r74, rfl, hr74, Nq74, e74⟩ := hQ74
        have N74 := Fr.app N7 Nq74
        have pr75 : ∀ tg, Steps pP.tables eE below (T74.setTop (mkF mM 124 #[.val (.int av), .val (.int bv), .val (.int sel), .val (.ref b1), .val (.int z10), .unset, .unset] [(.int r74)])) tg → Steps pP.tables eE below (s₁.setTop (entryFrame mM #[(.int av), (.int bv), (.int sel)] maxLocals)) tg := fun tg kg => pr72 _ (st74.trans kg)
        rw [if_pos (rfl : av = av)] at hr74
        subst hr74
        obtain ⟨fs, hr, hrun, hended, hW, hsame⟩ := X74.leave (v := some (.int (1 : Int32))) (fun h => by rw [Bd.returns] at h; cases h)
        refine ⟨_, _, pr75 _ (retOut X74 hx (t := .boolean) Bd.returns rfl (Or.inl ⟨rfl, Or.inr (Or.inl rfl), _, rfl⟩) (hb hby at_124) hr), hrun, hended, _, _, rfl, ?_, ⟨_, rfl⟩, hW, hsame.mono (by decide) (by decide)⟩
        show Q0 Z av bv sel ca cc cs h0 n0 _ T74.heap _
        rw [e74]
        exact ⟨rfl, N74⟩
      ·
        have pr77 : ∀ tg, Steps pP.tables eE below (T7.setTop (mkF mM 128 #[.val (.int av), .val (.int bv), .val (.int sel), .val (.ref b1), .val (.int z10), .unset, .unset] [(.int (3 : Int32)), (.int z10)])) tg → Steps pP.tables eE below (s₁.setTop (entryFrame mM #[(.int av), (.int bv), (.int sel)] maxLocals)) tg := fun tg kg => pr71 _ (by
          show Steps pP.tables eE below (T7.setTop (mkF mM 116 #[.val (.int av), .val (.int bv), .val (.int sel), .val (.ref b1), .val (.int z10), .unset, .unset] [(.int (2 : Int32)), (.int z10)])) _
          refine XS.icmpYes X7.here hx rfl (pc0 := 116) (pc' := 125) rfl (hb hby at_116) rfl (feq hc116_70).2 (by decide) (by decide) ?_
          show Steps pP.tables eE below (T7.setTop (mkF mM 125 #[.val (.int av), .val (.int bv), .val (.int sel), .val (.ref b1), .val (.int z10), .unset, .unset] [])) _
          refine XS.iload X7.here hx rfl (hb hby at_125) rfl ?_
          show Steps pP.tables eE below (T7.setTop (mkF mM 127 #[.val (.int av), .val (.int bv), .val (.int sel), .val (.ref b1), .val (.int z10), .unset, .unset] [(.int z10)])) _
          refine XS.iconst X7.here hx rfl (hb hby at_127) ?_
          exact kg)
        by_cases hc128_76 : z10 = (3 : Int32)
        ·
          have pr78 : ∀ tg, Steps pP.tables eE below (T7.setTop (mkF mM 133 #[.val (.int av), .val (.int bv), .val (.int sel), .val (.ref b1), .val (.int z10), .unset, .unset] [.null, (.ref b1)])) tg → Steps pP.tables eE below (s₁.setTop (entryFrame mM #[(.int av), (.int bv), (.int sel)] maxLocals)) tg := fun tg kg => pr77 _ (by
            show Steps pP.tables eE below (T7.setTop (mkF mM 128 #[.val (.int av), .val (.int bv), .val (.int sel), .val (.ref b1), .val (.int z10), .unset, .unset] [(.int (3 : Int32)), (.int z10)])) _
            refine XS.icmpNo X7.here hx rfl (hb hby at_128) rfl (teq hc128_76).2 ?_
            show Steps pP.tables eE below (T7.setTop (mkF mM 131 #[.val (.int av), .val (.int bv), .val (.int sel), .val (.ref b1), .val (.int z10), .unset, .unset] [])) _
            refine XS.aloadN X7.here hx rfl (hb hby at_131) rfl rfl ?_
            show Steps pP.tables eE below (T7.setTop (mkF mM 132 #[.val (.int av), .val (.int bv), .val (.int sel), .val (.ref b1), .val (.int z10), .unset, .unset] [(.ref b1)])) _
            refine XS.aconstNull X7.here hx rfl (hb hby at_132) ?_
            exact kg)
          have c79 := (Nat.le_trans c6 K7.1)
          obtain ⟨cq80, kq80, qa80, qb80, qc80⟩ := isOf hZ rfl E7
          obtain ⟨_, _, ⟨T80, L80, kk80, nn80⟩, -, X80, ⟨Lc80, hQ80, l80, y80, z80⟩, st80⟩ := X7.virtualBack hx (y := (⟨"com/example/refine/refine/cspm/Value$Int", "equals", "(Ljava/lang/Object;)Z"⟩ : MethodName)) (z := (⟨"com/example/refine/refine/cspm/Value$Int", "equals", "(Ljava/lang/Object;)Z"⟩ : MethodName)) hown (mvT hZ (hw _ (List.mem_of_getElem? (i := 17) rfl))) (mvT hZ (hw _ (List.mem_of_getElem? (i := 18) rfl))) (notFace_of_selects (args := #[]) (mvT hZ (hw _ (List.mem_of_getElem? (i := 20) rfl)))) (mvT hZ (hw _ (List.mem_of_getElem? (i := 20) rfl))) (mvT hZ (hw _ (List.mem_of_getElem? (i := 19) rfl))) (by decide) (backOf (W := 0) (rm8 l Z a0 hw [] b1 T7.heap n0 c79) hZ (hw _ (List.mem_of_getElem? (i := 21) rfl)) (hw _ (List.mem_of_getElem? (i := 2) rfl)) (by decide) (by decide)) qa80 qc80 (g := (mkF mM 133 #[.val (.int av), .val (.int bv), .val (.int sel), .val (.ref b1), .val (.int z10), .unset, .unset] [.null, (.ref b1)])) rfl (by rw [hml]; rfl) (Steps.refl _) (argsL := [.null]) (rest := []) (lenOf pd_5 rfl) rfl (by show 2 * 0 + _ ≤ _; exact Nat.le_of_eq rfl) (hb hby at_133) (fun _ _ => ⟨rfl, rfl, (by decide : 1 + 0 ≤ _), (by decide : 1 + 0 ≤ _)⟩)
          dsimp only [Pt.U, Pt.locs, Pt.cells, Pt.slots] at X80 l80 y80 z80 st80 hQ80
          subst l80 y80 z80
          obtain ⟨rfl, Nq80, e80⟩ := hQ80
          have N80 := Fr.app N7 Nq80
          have pr81 : ∀ tg, Steps pP.tables eE below (T80.setTop (mkF mM 136 #[.val (.int av), .val (.int bv), .val (.int sel), .val (.ref b1), .val (.int z10), .unset, .unset] [(.int (0 : Int32))])) tg → Steps pP.tables eE below (s₁.setTop (entryFrame mM #[(.int av), (.int bv), (.int sel)] maxLocals)) tg := fun tg kg => pr78 _ (st80.trans kg)
          have pr82 : ∀ tg, Steps pP.tables eE below (T80.setTop (mkF mM 144 #[.val (.int av), .val (.int bv), .val (.int sel), .val (.ref b1), .val (.int z10), .unset, .unset] [(.int (1 : Int32))])) tg → Steps pP.tables eE below (s₁.setTop (entryFrame mM #[(.int av), (.int bv), (.int sel)] maxLocals)) tg := fun tg kg => pr81 _ (by
            show Steps pP.tables eE below (T80.setTop (mkF mM 136 #[.val (.int av), .val (.int bv), .val (.int sel), .val (.ref b1), .val (.int z10), .unset, .unset] [(.int (0 : Int32))])) _
            refine XS.ifNo X80.here hx rfl (hb hby at_136) rfl ((if0 _ _).trans (teq (by decide)).2) ?_
            show Steps pP.tables eE below (T80.setTop (mkF mM 139 #[.val (.int av), .val (.int bv), .val (.int sel), .val (.ref b1), .val (.int z10), .unset, .unset] [])) _
            refine XS.iconst X80.here hx rfl (hb hby at_139) ?_
            show Steps pP.tables eE below (T80.setTop (mkF mM 140 #[.val (.int av), .val (.int bv), .val (.int sel), .val (.ref b1), .val (.int z10), .unset, .unset] [(.int (1 : Int32))])) _
            refine XS.goto X80.here hx rfl (pc0 := 140) (pc' := 144) rfl (hb hby at_140) (by decide) (by decide) ?_
            exact kg)
          obtain ⟨fs, hr, hrun, hended, hW, hsame⟩ := X80.leave (v := some (.int (1 : Int32))) (fun h => by rw [Bd.returns] at h; cases h)
          refine ⟨_, _, pr82 _ (retOut X80 hx (t := .boolean) Bd.returns rfl (Or.inl ⟨rfl, Or.inr (Or.inl rfl), _, rfl⟩) (hb hby at_144) hr), hrun, hended, _, _, rfl, ?_, ⟨_, rfl⟩, hW, hsame.mono (by decide) (by decide)⟩
          show Q0 Z av bv sel ca cc cs h0 n0 _ T80.heap _
          rw [e80]
          exact ⟨rfl, N80⟩
        ·
          have pr84 : ∀ tg, Steps pP.tables eE below (T7.setTop (mkF mM 148 #[.val (.int av), .val (.int bv), .val (.int sel), .val (.ref b1), .val (.int z10), .unset, .unset] [(.int (4 : Int32)), (.int z10)])) tg → Steps pP.tables eE below (s₁.setTop (entryFrame mM #[(.int av), (.int bv), (.int sel)] maxLocals)) tg := fun tg kg => pr77 _ (by
            show Steps pP.tables eE below (T7.setTop (mkF mM 128 #[.val (.int av), .val (.int bv), .val (.int sel), .val (.ref b1), .val (.int z10), .unset, .unset] [(.int (3 : Int32)), (.int z10)])) _
            refine XS.icmpYes X7.here hx rfl (pc0 := 128) (pc' := 145) rfl (hb hby at_128) rfl (feq hc128_76).2 (by decide) (by decide) ?_
            show Steps pP.tables eE below (T7.setTop (mkF mM 145 #[.val (.int av), .val (.int bv), .val (.int sel), .val (.ref b1), .val (.int z10), .unset, .unset] [])) _
            refine XS.iload X7.here hx rfl (hb hby at_145) rfl ?_
            show Steps pP.tables eE below (T7.setTop (mkF mM 147 #[.val (.int av), .val (.int bv), .val (.int sel), .val (.ref b1), .val (.int z10), .unset, .unset] [(.int z10)])) _
            refine XS.iconst X7.here hx rfl (hb hby at_147) ?_
            exact kg)
          by_cases hc148_83 : z10 = (4 : Int32)
          ·
            have c85 := (Old.keep (Old.ext O E1) K7 (allS gn2 all0))
            have pr86 : ∀ tg, Steps pP.tables eE below (T7.setTop (mkF mM 153 #[.val (.int av), .val (.int bv), .val (.int sel), .val (.ref b1), .val (.int z10), .unset, .unset] [(.int av), (.ref b1)])) tg → Steps pP.tables eE below (s₁.setTop (entryFrame mM #[(.int av), (.int bv), (.int sel)] maxLocals)) tg := fun tg kg => pr84 _ (by
              show Steps pP.tables eE below (T7.setTop (mkF mM 148 #[.val (.int av), .val (.int bv), .val (.int sel), .val (.ref b1), .val (.int z10), .unset, .unset] [(.int (4 : Int32)), (.int z10)])) _
              refine XS.icmpNo X7.here hx rfl (hb hby at_148) rfl (teq hc148_83).2 ?_
              show Steps pP.tables eE below (T7.setTop (mkF mM 151 #[.val (.int av), .val (.int bv), .val (.int sel), .val (.ref b1), .val (.int z10), .unset, .unset] [])) _
              refine XS.aloadN X7.here hx rfl (hb hby at_151) rfl rfl ?_
              show Steps pP.tables eE below (T7.setTop (mkF mM 152 #[.val (.int av), .val (.int bv), .val (.int sel), .val (.ref b1), .val (.int z10), .unset, .unset] [(.ref b1)])) _
              refine XS.iloadN X7.here hx rfl (hb hby at_152) rfl ?_
              exact kg)
            have c87 := (Nat.le_trans c6 K7.1)
            obtain ⟨_, _, ⟨T88, L88, kk88, nn88⟩, -, X88, ⟨Lc88, hQ88, l88, y88, z88⟩, st88⟩ := Jvm.LawKit.callS X7 hx (y := (⟨"java/lang/Integer", "valueOf", "(I)Ljava/lang/Integer;"⟩ : MethodName)) hown (mvT hZ (hw _ (List.mem_of_getElem? (i := 60) rfl))) (mvT hZ (hw _ (List.mem_of_getElem? (i := 61) rfl))) (mvT hZ (hw _ (List.mem_of_getElem? (i := 62) rfl))) (mvT hZ (hw _ (List.mem_of_getElem? (i := 63) rfl))) (by decide) (backOf (W := 1) (rm6 l Z a0 hw [] av ca cc T7.heap n0 c87 c85 S_cache B S_high) hZ (hw _ (List.mem_of_getElem? (i := 63) rfl)) (hw _ (List.mem_of_getElem? (i := 62) rfl)) (by decide) (by decide)) (g := (mkF mM 153 #[.val (.int av), .val (.int bv), .val (.int sel), .val (.ref b1), .val (.int z10), .unset, .unset] [(.int av), (.ref b1)])) rfl (by rw [hml]; rfl) (argsL := [(.int av)]) (rest := [(.ref b1)]) (lenOf pd_6 rfl) rfl (by show 2 * 0 + _ ≤ _; exact Nat.le_of_eq rfl) (hb hby at_153) (fun _ _ => ⟨rfl, rfl, (by decide : 1 + 1 ≤ _), (by decide : 1 + 1 ≤ _)⟩)
            dsimp only [Pt.U, Pt.locs, Pt.cells, Pt.slots] at X88 l88 y88 z88 st88 hQ88
            subst l88 y88 z88
            obtain ⟨bo88, rfl, Nq88, K88, Eb88⟩ := hQ88
            have N88 := Fr.app N7 Nq88
            have pr89 : ∀ tg, Steps pP.tables eE below (T88.setTop (mkF mM 156 #[.val (.int av), .val (.int bv), .val (.int sel), .val (.ref b1), .val (.int z10), .unset, .unset] [(.ref bo88), (.ref b1)])) tg → Steps pP.tables eE below (s₁.setTop (entryFrame mM #[(.int av), (.int bv), (.int sel)] maxLocals)) tg := fun tg kg => pr86 _ (st88 _ kg)
            have c90 := (Nat.le_trans c87 K88.1)
            have c92 := (Exa.keep E7 K88)
            obtain ⟨cq91, kq91, qa91, qb91, qc91⟩ := isOf hZ rfl c92
            obtain ⟨_, _, ⟨T91, L91, kk91, nn91⟩, -, X91, ⟨Lc91, hQ91, l91, y91, z91⟩, st91⟩ := X88.virtualBack hx (y := (⟨"com/example/refine/refine/cspm/Value$Int", "equals", "(Ljava/lang/Object;)Z"⟩ : MethodName)) (z := (⟨"com/example/refine/refine/cspm/Value$Int", "equals", "(Ljava/lang/Object;)Z"⟩ : MethodName)) hown (mvT hZ (hw _ (List.mem_of_getElem? (i := 17) rfl))) (mvT hZ (hw _ (List.mem_of_getElem? (i := 18) rfl))) (notFace_of_selects (args := #[]) (mvT hZ (hw _ (List.mem_of_getElem? (i := 20) rfl)))) (mvT hZ (hw _ (List.mem_of_getElem? (i := 20) rfl))) (mvT hZ (hw _ (List.mem_of_getElem? (i := 19) rfl))) (by decide) (backOf (W := 0) (rm9 l Z a0 hw [] b1 bo88 T88.heap n0 c90 Eb88) hZ (hw _ (List.mem_of_getElem? (i := 21) rfl)) (hw _ (List.mem_of_getElem? (i := 2) rfl)) (by decide) (by decide)) qa91 qc91 (g := (mkF mM 156 #[.val (.int av), .val (.int bv), .val (.int sel), .val (.ref b1), .val (.int z10), .unset, .unset] [(.ref bo88), (.ref b1)])) rfl (by rw [hml]; rfl) (Steps.refl _) (argsL := [(.ref bo88)]) (rest := []) (lenOf pd_5 rfl) rfl (by show 2 * 0 + _ ≤ _; exact Nat.le_of_eq rfl) (hb hby at_156) (fun _ _ => ⟨rfl, rfl, (by decide : 2 + 0 ≤ _), (by decide : 2 + 0 ≤ _)⟩)
            dsimp only [Pt.U, Pt.locs, Pt.cells, Pt.slots] at X91 l91 y91 z91 st91 hQ91
            subst l91 y91 z91
            obtain ⟨rfl, Nq91, e91⟩ := hQ91
            have N91 := Fr.app N88 Nq91
            have pr93 : ∀ tg, Steps pP.tables eE below (T91.setTop (mkF mM 159 #[.val (.int av), .val (.int bv), .val (.int sel), .val (.ref b1), .val (.int z10), .unset, .unset] [(.int (0 : Int32))])) tg → Steps pP.tables eE below (s₁.setTop (entryFrame mM #[(.int av), (.int bv), (.int sel)] maxLocals)) tg := fun tg kg => pr89 _ (st91.trans kg)
            have pr94 : ∀ tg, Steps pP.tables eE below (T91.setTop (mkF mM 167 #[.val (.int av), .val (.int bv), .val (.int sel), .val (.ref b1), .val (.int z10), .unset, .unset] [(.int (1 : Int32))])) tg → Steps pP.tables eE below (s₁.setTop (entryFrame mM #[(.int av), (.int bv), (.int sel)] maxLocals)) tg := fun tg kg => pr93 _ (by
              show Steps pP.tables eE below (T91.setTop (mkF mM 159 #[.val (.int av), .val (.int bv), .val (.int sel), .val (.ref b1), .val (.int z10), .unset, .unset] [(.int (0 : Int32))])) _
              refine XS.ifNo X91.here hx rfl (hb hby at_159) rfl ((if0 _ _).trans (teq (by decide)).2) ?_
              show Steps pP.tables eE below (T91.setTop (mkF mM 162 #[.val (.int av), .val (.int bv), .val (.int sel), .val (.ref b1), .val (.int z10), .unset, .unset] [])) _
              refine XS.iconst X91.here hx rfl (hb hby at_162) ?_
              show Steps pP.tables eE below (T91.setTop (mkF mM 163 #[.val (.int av), .val (.int bv), .val (.int sel), .val (.ref b1), .val (.int z10), .unset, .unset] [(.int (1 : Int32))])) _
              refine XS.goto X91.here hx rfl (pc0 := 163) (pc' := 167) rfl (hb hby at_163) (by decide) (by decide) ?_
              exact kg)
            obtain ⟨fs, hr, hrun, hended, hW, hsame⟩ := X91.leave (v := some (.int (1 : Int32))) (fun h => by rw [Bd.returns] at h; cases h)
            refine ⟨_, _, pr94 _ (retOut X91 hx (t := .boolean) Bd.returns rfl (Or.inl ⟨rfl, Or.inr (Or.inl rfl), _, rfl⟩) (hb hby at_167) hr), hrun, hended, _, _, rfl, ?_, ⟨_, rfl⟩, hW, hsame.mono (by decide) (by decide)⟩
            show Q0 Z av bv sel ca cc cs h0 n0 _ T91.heap _
            rw [e91]
            exact ⟨rfl, N91⟩
          ·
            have pr95 : ∀ tg, Steps pP.tables eE below (T7.setTop (mkF mM 168 #[.val (.int av), .val (.int bv), .val (.int sel), .val (.ref b1), .val (.int z10), .unset, .unset] [])) tg → Steps pP.tables eE below (s₁.setTop (entryFrame mM #[(.int av), (.int bv), (.int sel)] maxLocals)) tg := fun tg kg => pr84 _ (by
              show Steps pP.tables eE below (T7.setTop (mkF mM 148 #[.val (.int av), .val (.int bv), .val (.int sel), .val (.ref b1), .val (.int z10), .unset, .unset] [(.int (4 : Int32)), (.int z10)])) _
              refine XS.icmpYes X7.here hx rfl (pc0 := 148) (pc' := 168) rfl (hb hby at_148) rfl (feq hc148_83).2 (by decide) (by decide) ?_
              exact kg)
            obtain ⟨T96, h96, X96, e96, E96, A96, D96, -, st96⟩ := newO X7 hx hZ hown (hw _ (List.mem_of_getElem? (i := 24) rfl)) (hw _ (List.mem_of_getElem? (i := 25) rfl)) (hw _ (List.mem_of_getElem? (i := 26) rfl)) rfl (g := (mkF mM 168 #[.val (.int av), .val (.int bv), .val (.int sel), .val (.ref b1), .val (.int z10), .unset, .unset] [])) rfl (hb hby at_168) (by decide) (by decide)
            obtain ⟨b96, g96⟩ : ∃ z, z = (T7.heap).size := ⟨_, rfl⟩
            rw [← g96] at A96 D96 st96
            have ne97 : b1 ≠ b96 := Nat.ne_of_lt (Nat.lt_of_lt_of_le (E7).lt (Nat.le_of_eq g96.symm))
            have c99 := (Nat.le_trans c6 K7.1)
            have gn98 : n0 ≤ b96 := Nat.le_trans c99 (Nat.le_of_eq g96.symm)
            have c101 := (Keep.trans (Keep.ext (Keep.refl h0 []) E1) K7 (allS (Or.inr gs3) all0))
            have gs100 : h0.size ≤ b96 := Nat.le_trans c101.1 (Nat.le_of_eq g96.symm)
            have F96_text : Fld Z h96 b96 "com/example/refine/refine/cspm/Value$Text" "text" "Ljava/lang/String;" .null := D96 (Or.inr (hw _ (List.mem_of_getElem? (i := 56) rfl))) (ty := (.object "java/lang/String")) (by decide)
            have pr102 : ∀ tg, Steps pP.tables eE below (T96.setTop (mkF mM 171 #[.val (.int av), .val (.int bv), .val (.int sel), .val (.ref b1), .val (.int z10), .unset, .unset] [(.ref b96)])) tg → Steps pP.tables eE below (s₁.setTop (entryFrame mM #[(.int av), (.int bv), (.int sel)] maxLocals)) tg := fun tg kg => pr95 _ (st96 _ kg)
            have c103 := (Old.ext (Old.keep (Old.ext O E1) K7 (allS gn2 all0)) E96)
            have pr104 : ∀ tg, Steps pP.tables eE below (T96.setTop (mkF mM 178 #[.val (.int av), .val (.int bv), .val (.int sel), .val (.ref b1), .val (.int z10), .unset, .unset] [(.int (bv &&& (255 : Int32)).toUInt32.toUInt16.toUInt32.toInt32), (.ref b96), (.ref b96)])) tg → Steps pP.tables eE below (s₁.setTop (entryFrame mM #[(.int av), (.int bv), (.int sel)] maxLocals)) tg := fun tg kg => pr102 _ (by
              show Steps pP.tables eE below (T96.setTop (mkF mM 171 #[.val (.int av), .val (.int bv), .val (.int sel), .val (.ref b1), .val (.int z10), .unset, .unset] [(.ref b96)])) _
              refine XS.dup X96.here hx rfl (hb hby at_171) rfl rfl ?_
              show Steps pP.tables eE below (T96.setTop (mkF mM 172 #[.val (.int av), .val (.int bv), .val (.int sel), .val (.ref b1), .val (.int z10), .unset, .unset] [(.ref b96), (.ref b96)])) _
              refine XS.iloadN X96.here hx rfl (hb hby at_172) rfl ?_
              show Steps pP.tables eE below (T96.setTop (mkF mM 173 #[.val (.int av), .val (.int bv), .val (.int sel), .val (.ref b1), .val (.int z10), .unset, .unset] [(.int bv), (.ref b96), (.ref b96)])) _
              refine XS.sipush X96.here hx rfl (hb hby at_173) ?_
              show Steps pP.tables eE below (T96.setTop (mkF mM 176 #[.val (.int av), .val (.int bv), .val (.int sel), .val (.ref b1), .val (.int z10), .unset, .unset] [(.int (255 : Int32)), (.int bv), (.ref b96), (.ref b96)])) _
              refine XS.iand X96.here hx rfl (hb hby at_176) rfl ?_
              show Steps pP.tables eE below (T96.setTop (mkF mM 177 #[.val (.int av), .val (.int bv), .val (.int sel), .val (.ref b1), .val (.int z10), .unset, .unset] [(.int (bv &&& (255 : Int32))), (.ref b96), (.ref b96)])) _
              refine XS.i2c X96.here hx rfl (hb hby at_177) rfl ?_
              exact kg)
            have c105 := (Nat.le_trans c99 E96.1)
            obtain ⟨_, _, ⟨T106, L106, kk106, nn106⟩, -, X106, ⟨Lc106, hQ106, l106, y106, z106⟩, st106⟩ := Jvm.LawKit.callS X96 hx (y := (⟨"java/lang/String", "valueOf", "(C)Ljava/lang/String;"⟩ : MethodName)) hown (mvT hZ (hw _ (List.mem_of_getElem? (i := 27) rfl))) (mvT hZ (hw _ (List.mem_of_getElem? (i := 28) rfl))) (mvT hZ (hw _ (List.mem_of_getElem? (i := 29) rfl))) (mvT hZ (hw _ (List.mem_of_getElem? (i := 30) rfl))) (by decide) (backOf (W := 2) (rm14 l Z a0 hw [] (bv &&& (255 : Int32)).toUInt32.toUInt16.toUInt32.toInt32 cs h96 n0 c105 c103 S_cs hcs (own_chr _)) hZ (hw _ (List.mem_of_getElem? (i := 30) rfl)) (hw _ (List.mem_of_getElem? (i := 29) rfl)) (by decide) (by decide)) (g := (mkF mM 178 #[.val (.int av), .val (.int bv), .val (.int sel), .val (.ref b1), .val (.int z10), .unset, .unset] [(.int (bv &&& (255 : Int32)).toUInt32.toUInt16.toUInt32.toInt32), (.ref b96), (.ref b96)])) rfl (by rw [hml]; rfl) (argsL := [(.int (bv &&& (255 : Int32)).toUInt32.toUInt16.toUInt32.toInt32)]) (rest := [(.ref b96), (.ref b96)]) (lenOf pd_7 rfl) rfl (by show 2 * 0 + _ ≤ _; exact Nat.le_of_eq rfl) (hb hby at_178) (fun _ _ => ⟨rfl, e96, (by decide : 2 + 2 ≤ _), (by decide : 2 + 5 ≤ _)⟩)
            dsimp only [Pt.U, Pt.locs, Pt.cells, Pt.slots] at X106 l106 y106 z106 st106 hQ106
            subst l106 y106 z106
            obtain ⟨bs106, rfl, Nq106, K106⟩ := hQ106
            have N106 := Fr.app N7 Nq106
            have pr107 : ∀ tg, Steps pP.tables eE below (T106.setTop (mkF mM 181 #[.val (.int av), .val (.int bv), .val (.int sel), .val (.ref b1), .val (.int z10), .unset, .unset] [(.ref bs106), (.ref b96), (.ref b96)])) tg → Steps pP.tables eE below (s₁.setTop (entryFrame mM #[(.int av), (.int bv), (.int sel)] maxLocals)) tg := fun tg kg => pr104 _ (st106 _ kg)
            have c108 := (Exa.keep A96 K106)
            have c109 := (Fld.keep F96_text K106 nin0)
            have c110 := (Nat.le_trans c105 K106.1)
            obtain ⟨_, _, ⟨T111, L111, kk111, nn111⟩, -, X111, ⟨Lc111, hQ111, l111, y111, z111⟩, st111⟩ := X106.specialBack hx (y := (⟨"com/example/refine/refine/cspm/Value$Text", "<init>", "(Ljava/lang/String;)V"⟩ : MethodName)) rfl hown (mvT hZ (hw _ (List.mem_of_getElem? (i := 51) rfl))) (mvT hZ (hw _ (List.mem_of_getElem? (i := 52) rfl))) (mvT hZ (hw _ (List.mem_of_getElem? (i := 53) rfl))) (by decide) (backOf (W := 1) (rm3 l Z a0 hw [] b96 bs106 T106.heap n0 c110 c108 gn98 c109 ) hZ (hw _ (List.mem_of_getElem? (i := 53) rfl)) (hw _ (List.mem_of_getElem? (i := 26) rfl)) (by decide) (by decide)) (g := (mkF mM 181 #[.val (.int av), .val (.int bv), .val (.int sel), .val (.ref b1), .val (.int z10), .unset, .unset] [(.ref bs106), (.ref b96), (.ref b96)])) rfl (by rw [hml]; rfl) (Steps.refl _) (a := b96) (argsL := [(.ref bs106)]) (rest := [(.ref b96)]) (lenOf pd_8 rfl) rfl (by show 2 * 0 + _ ≤ _; exact Nat.le_of_eq rfl) (hb hby at_181) (fun _ _ => ⟨rfl, rfl, (by decide : 4 + 0 ≤ _), (by decide : 7 + 0 ≤ _)⟩)
            dsimp only [Pt.U, Pt.locs, Pt.cells, Pt.slots] at X111 l111 y111 z111 st111 hQ111
            subst l111 y111 z111
            obtain ⟨rfl, Nq111, K111, E111, F111_0⟩ := hQ111
            have N111 := Fr.app N106 Nq111
            have pr112 : ∀ tg, Steps pP.tables eE below (T111.setTop (mkF mM 184 #[.val (.int av), .val (.int bv), .val (.int sel), .val (.ref b1), .val (.int z10), .unset, .unset] [(.ref b96)])) tg → Steps pP.tables eE below (s₁.setTop (entryFrame mM #[(.int av), (.int bv), (.int sel)] maxLocals)) tg := fun tg kg => pr107 _ (st111.trans kg)
            have pr113 : ∀ tg, Steps pP.tables eE below (T111.setTop (mkF mM 189 #[.val (.int av), .val (.int bv), .val (.int sel), .val (.ref b1), .val (.int z10), .val (.ref b96), .unset] [(.ref b96), (.ref b1)])) tg → Steps pP.tables eE below (s₁.setTop (entryFrame mM #[(.int av), (.int bv), (.int sel)] maxLocals)) tg := fun tg kg => pr112 _ (by
              show Steps pP.tables eE below (T111.setTop (mkF mM 184 #[.val (.int av), .val (.int bv), .val (.int sel), .val (.ref b1), .val (.int z10), .unset, .unset] [(.ref b96)])) _
              refine XS.astore X111.here hx rfl (hb hby at_184) rfl rfl (l' := #[.val (.int av), .val (.int bv), .val (.int sel), .val (.ref b1), .val (.int z10), .val (.ref b96), .unset]) rfl ?_
              show Steps pP.tables eE below (T111.setTop (mkF mM 186 #[.val (.int av), .val (.int bv), .val (.int sel), .val (.ref b1), .val (.int z10), .val (.ref b96), .unset] [])) _
              refine XS.aloadN X111.here hx rfl (hb hby at_186) rfl rfl ?_
              show Steps pP.tables eE below (T111.setTop (mkF mM 187 #[.val (.int av), .val (.int bv), .val (.int sel), .val (.ref b1), .val (.int z10), .val (.ref b96), .unset] [(.ref b1)])) _
              refine XS.aload X111.here hx rfl (hb hby at_187) rfl rfl ?_
              exact kg)
            have c114 := (Nat.le_trans c110 K111.1)
            have c116 := (Exa.keep (Exa.keep (Exa.ext E96 E7) K106) K111)
            obtain ⟨cq115, kq115, qa115, qb115, qc115⟩ := isOf hZ rfl c116
            obtain ⟨_, _, ⟨T115, L115, kk115, nn115⟩, -, X115, ⟨Lc115, hQ115, l115, y115, z115⟩, st115⟩ := X111.virtualBack hx (y := (⟨"com/example/refine/refine/cspm/Value$Int", "equals", "(Ljava/lang/Object;)Z"⟩ : MethodName)) (z := (⟨"com/example/refine/refine/cspm/Value$Int", "equals", "(Ljava/lang/Object;)Z"⟩ : MethodName)) hown (mvT hZ (hw _ (List.mem_of_getElem? (i := 17) rfl))) (mvT hZ (hw _ (List.mem_of_getElem? (i := 18) rfl))) (notFace_of_selects (args := #[]) (mvT hZ (hw _ (List.mem_of_getElem? (i := 20) rfl)))) (mvT hZ (hw _ (List.mem_of_getElem? (i := 20) rfl))) (mvT hZ (hw _ (List.mem_of_getElem? (i := 19) rfl))) (by decide) (backOf (W := 0) (rm10 l Z a0 hw [] b1 b96 T111.heap n0 c114 E111) hZ (hw _ (List.mem_of_getElem? (i := 21) rfl)) (hw _ (List.mem_of_getElem? (i := 2) rfl)) (by decide) (by decide)) qa115 qc115 (g := (mkF mM 189 #[.val (.int av), .val (.int bv), .val (.int sel), .val (.ref b1), .val (.int z10), .val (.ref b96), .unset] [(.ref b96), (.ref b1)])) rfl (by rw [hml]; rfl) (Steps.refl _) (argsL := [(.ref b96)]) (rest := []) (lenOf pd_5 rfl) rfl (by show 2 * 0 + _ ≤ _; exact Nat.le_of_eq rfl) (hb hby at_189) (fun _ _ => ⟨rfl, rfl, (by decide : 4 + 0 ≤ _), (by decide : 7 + 0 ≤ _)⟩)
            dsimp only [Pt.U, Pt.locs, Pt.cells, Pt.slots] at X115 l115 y115 z115 st115 hQ115
            subst l115 y115 z115
            obtain ⟨rfl, Nq115, e115⟩ := hQ115
            have N115 := Fr.app N111 Nq115
            have pr117 : ∀ tg, Steps pP.tables eE below (T115.setTop (mkF mM 192 #[.val (.int av), .val (.int bv), .val (.int sel), .val (.ref b1), .val (.int z10), .val (.ref b96), .unset] [(.int (0 : Int32))])) tg → Steps pP.tables eE below (s₁.setTop (entryFrame mM #[(.int av), (.int bv), (.int sel)] maxLocals)) tg := fun tg kg => pr113 _ (st115.trans kg)
            have pr118 : ∀ tg, Steps pP.tables eE below (T115.setTop (mkF mM 200 #[.val (.int av), .val (.int bv), .val (.int sel), .val (.ref b1), .val (.int z10), .val (.ref b96), .unset] [(.int (1 : Int32))])) tg → Steps pP.tables eE below (s₁.setTop (entryFrame mM #[(.int av), (.int bv), (.int sel)] maxLocals)) tg := fun tg kg => pr117 _ (by
              show Steps pP.tables eE below (T115.setTop (mkF mM 192 #[.val (.int av), .val (.int bv), .val (.int sel), .val (.ref b1), .val (.int z10), .val (.ref b96), .unset] [(.int (0 : Int32))])) _
              refine XS.ifNo X115.here hx rfl (hb hby at_192) rfl ((if0 _ _).trans (teq (by decide)).2) ?_
              show Steps pP.tables eE below (T115.setTop (mkF mM 195 #[.val (.int av), .val (.int bv), .val (.int sel), .val (.ref b1), .val (.int z10), .val (.ref b96), .unset] [])) _
              refine XS.iconst X115.here hx rfl (hb hby at_195) ?_
              show Steps pP.tables eE below (T115.setTop (mkF mM 196 #[.val (.int av), .val (.int bv), .val (.int sel), .val (.ref b1), .val (.int z10), .val (.ref b96), .unset] [(.int (1 : Int32))])) _
              refine XS.goto X115.here hx rfl (pc0 := 196) (pc' := 200) rfl (hb hby at_196) (by decide) (by decide) ?_
              exact kg)
            obtain ⟨fs, hr, hrun, hended, hW, hsame⟩ := X115.leave (v := some (.int (1 : Int32))) (fun h => by rw [Bd.returns] at h; cases h)
            refine ⟨_, _, pr118 _ (retOut X115 hx (t := .boolean) Bd.returns rfl (Or.inl ⟨rfl, Or.inr (Or.inl rfl), _, rfl⟩) (hb hby at_200) hr), hrun, hended, _, _, rfl, ?_, ⟨_, rfl⟩, hW, hsame.mono (by decide) (by decide)⟩
            show Q0 Z av bv sel ca cc cs h0 n0 _ T115.heap _
            rw [e115]
            exact ⟨rfl, N115⟩
set_option maxRecDepth 65536 in
set_option maxHeartbeats 40000000 in
theorem comes_1 {Post : Tables → Env → Array Value → State → Outcome → State → Prop} (hpost : ∀ tb e args s v u, (limb_1_1.after args s (.returned v) u = true ∧ limb_1_2.after args s (.returned v) u = true ∧ True) → FrameEnd s (.returned v) u (Jvm.fieldLocs frame_1_writes args s ++ Jvm.arrayLocs frame_1_arrays args s ++ Jvm.staticLocs frame_1_statics s) 16 128 → Post tb e args s (.returned v) u) :
    ArmFor flags0 classFile x code maxLocals ret World_1 tables_1 room_1 Calls_1 rest_1 Pre_1 Post := by
  intro l hfl _ _ p e ha hc hk s m args below hf hA hF happ hP
  obtain ⟨hcalls, hrest, hpre⟩ := hP
  obtain ⟨-, -, -, hnamed, -, -, -, hat⟩ := (Spec.applies_iff hf).mp happ
  obtain ⟨hg, hn⟩ := and_e (Cond.before_iff.mp (show (Jvm.Cond.and given_1 narrow_1).before args s = true from hpre))
  obtain ⟨n1, n2⟩ := and_e hg
  obtain ⟨n3, n4⟩ := and_e n2
  obtain ⟨n5, n6⟩ := and_e n4
  obtain ⟨w0, w1, w2, rfl⟩ : ∃ w0 w1 w2 : Value, args = #[w0, w1, w2] := by
    have hs : args.size = 3 := by simpa [Cond.value, given_1] using n1
    obtain ⟨L⟩ := args
    match L, hs with
    | [w0, w1, w2], _ => exact ⟨w0, w1, w2, rfl⟩
  have hw := fun d (hd : d ∈ tables_1) => atoms_spec (ws := Jvm.Cond.code x code maxLocals ret :: tables_1) hat d (List.mem_cons_of_mem _ hd)
  have hfit : Fit s := fun {y c} hc i hi => by
    obtain ⟨ha, rfl⟩ := Array.getElem?_eq_some_iff.mp hc
    have q := List.all_eq_true.mp ((Array.all_eq_true_iff_forall_mem.mp hF) _ (Array.getElem_mem ha)) i (List.mem_range.mpr hi)
    simpa [Array.getElem?_eq_getElem hi] using q
  obtain ⟨hsets, hown0⟩ := atoms_of _ (rest_1_c_eq ▸ (show rest_1_c.before _ s = true from hrest))
  have hr0 := Cond.before_iff.mp hown0
  obtain ⟨i0, ei0⟩ := is_v n3
  obtain rfl : w0 = (.int i0) := Option.some.inj ei0
  obtain ⟨i1, ei1⟩ := is_v n5
  obtain rfl : w1 = (.int i1) := Option.some.inj ei1
  obtain ⟨i2, ei2⟩ := is_v n6
  obtain rfl : w2 = (.int i2) := Option.some.inj ei2
  obtain ⟨ca, eca⟩ := arr_v (Cond.before_iff.mp (hsets _ (List.mem_of_getElem? (i := 13) rfl)))
  have S_cache : Sta s s.heap "java/lang/Integer$IntegerCache" "cache" "[Ljava/lang/Integer;" (.ref ca) := Sta.start eca (Or.inr ⟨(hw _ (List.mem_of_getElem? (i := 82) rfl)), (hsets _ (List.mem_of_getElem? (i := 11) rfl))⟩)
  obtain ⟨cc, Acc⟩ := Arr.start eca (Cond.before_iff.mp (hsets _ (List.mem_of_getElem? (i := 13) rfl)))
  obtain ⟨hl1, hl2⟩ := own_len eca Acc (eqv_i (Term.int_eval (256)) (Cond.before_iff.mp (hsets _ (List.mem_of_getElem? (i := 15) rfl))))
  have Bx : Bxs s ca cc "java/lang/Integer" "I" (256 : Int32) (fun j : Int32 => Value.int (j - 128)) := Bxs.start (fun idx => eca) Acc hl1 hl2 (by decide) (Cond.before_iff.mp (hsets _ (List.mem_of_getElem? (i := 16) rfl))) (fun X j hj hq => (eqv_i (Term.sub_int (idx_at hj) (Term.int_eval (128))) hq))
  have S_high : Sta s s.heap "java/lang/Integer$IntegerCache" "high" "I" (.int (127 : Int32)) := Sta.start (eqv_i (Term.int_eval (127)) (Cond.before_iff.mp (hsets _ (List.mem_of_getElem? (i := 12) rfl)))) (Or.inl (hsets _ (List.mem_of_getElem? (i := 10) rfl)))
  obtain ⟨cs, ecs⟩ := is_v (Cond.before_iff.mp (hsets _ (List.mem_of_getElem? (i := 1) rfl)))
  have S_cs : Sta s s.heap "java/lang/String" "COMPACT_STRINGS" "Z" (.int cs) := Sta.start ecs (Or.inl (hsets _ (List.mem_of_getElem? (i := 0) rfl)))
  have hcs : ¬ (cs = (0 : Int32)) := gotF (Cond.eq_ints ecs (Term.int_eval (0))) (not_v (Cond.before_iff.mp (hsets _ (List.mem_of_getElem? (i := 2) rfl))))
  obtain ⟨n, o, h1, h2, h3, _, L, rfl, ⟨rfl, N⟩, hq⟩ := rm0 l s _ hw tables_1 i0 i1 i2 ca cc cs s.heap s.heap.size (Nat.le_refl _) (Old.start s) S_cache Bx S_high S_cs hcs p e ha hc hk s m _ below hf ((Spec.applies_iff_loose hf).mp happ).1 ⟨rfl, State.Warmed39.refl s, rfl⟩ trivial
  refine ⟨n, _, h1, h2, h3, hpost _ _ _ _ _ _ ⟨Cond.after_iff.mpr rfl, Cond.after_iff.mpr (eq_i res_at (Term.int_eval (1)) rfl), trivial⟩ ⟨hq.1, hq.2.1, (hq.2.2.sift fun y hy => Or.inr (N y hy)).mono (by decide) (by decide)⟩⟩
theorem main_1_1 : Claimed_1_1 := comes_1 fun _ _ _ _ _ _ h hF => ⟨h.1, hF⟩
theorem main_1_2 : Claimed_1_2 := comes_1 fun _ _ _ _ _ _ h hF => ⟨h.2.1, hF⟩
end Jvm.Pilot.@@N@@
namespace Jvm.Pilot.@@N@@
open Jvm Jvm.ClassFile Sem Op Lib Jvm.Free Jvm.Stand Jvm.Pilot.@@N@@.Jvm.D
/-! MADE BY PROGRAM (witnessworld.py) out of the Statement's table words and the real class files: 23 classes; the members and pool entries that the words name. The judged class is class 1, her method 1. -/
namespace start1
open Jvm.ClassFile
def u (s : String) : CpInfo := .utf8 (stringToUtf16 s)
/-- a pool by its gaps: so many unusable entries, then the entry; so many at the end -/
def gap : Nat → List CpInfo → List CpInfo
  | 0, r => r
  | n + 1, r => .unusable :: gap n r
def poolList (es : List (Nat × CpInfo)) (last : Nat) : List CpInfo := es.foldr (fun e r => gap e.1 (e.2 :: r)) (gap last [])
def pool (es : List (Nat × CpInfo)) (last : Nat) : Array CpInfo := ⟨poolList es last⟩
def fileOf (pool : Array CpInfo) (this : Nat) (attrs : Array Attribute := #[]) (ms : Array MethodInfo := #[]) (fl : Nat := 33) (sup : Nat := 0) (ifs : Array Nat := #[]) (fds : Array FieldInfo := #[]) : ClassFile where
  minorVersion := 0
  majorVersion := 65
  constantPool := pool
  accessFlags := fl
  thisClass := this
  superClass := sup
  interfaces := ifs
  fields := fds
  methods := ms
  attributes := attrs
def plain (name : String) (sup : Option ClassId) : Class where
  name := name
  kind := .ordinary
  loader := none
  accessFlags := 33
  super := sup
  interfaces := #[]
  cf := none
  fields := #[]
  methods := #[]
  instanceTypes := #[]
  staticTypes := #[]
  resolved := #[]
  callSites := []
  init := .initialized
  statics := none
  mirror := none

def pool0 : Array CpInfo := pool [(5, u "<init>"), (0, u "()V"), (1, .class_ 10), (1, u "java/lang/Object")] 113

def k0c0 : Code := { maxStack := 0, maxLocals := 1, code := object_method_1_code, exceptionTable := #[], attributes := #[] }
def k0m0 : Method := { name := "<init>", desc := "()V", sig := { parameters := [], returnType := none }, accessFlags := 1, code := some k0c0 }
/-- java/lang/Object -/
def k0 : Class := { plain "java/lang/Object" none with
  accessFlags := 33
  interfaces := #[]
  cf := some (fileOf pool0 8 #[] #[{ accessFlags := 1, nameIndex := 5, descriptorIndex := 6, attributes := #[] }] 33 0 #[] #[])
  fields := #[]
  methods := #[k0m0]
  instanceTypes := #[]
  staticTypes := #[]
  resolved := Array.replicate 124 none
  statics := none }

def pool1 : Array CpInfo := pool [(2, .class_ 4), (1, u "java/lang/Object"), (0, u "<init>"), (0, u "()V"), (0, .class_ 8), (0, u "com/example/refine/refine/cspm/Value$Int"), (0, .methodref 7 10), (0, .nameAndType 5 11), (0, u "(I)V"), (0, .integer 2147483647), (0, .methodref 7 14), (0, .nameAndType 15 16), (0, u "equals"), (0, u "(Ljava/lang/Object;)Z"), (0, .methodref 18 19), (0, .class_ 20), (0, .nameAndType 21 22), (0, u "java/lang/Integer"), (0, u "valueOf"), (0, u "(I)Ljava/lang/Integer;"), (0, .class_ 24), (0, u "com/example/refine/refine/cspm/Value$Text"), (0, .methodref 26 27), (0, .class_ 28), (0, .nameAndType 21 29), (0, u "java/lang/String"), (0, u "(C)Ljava/lang/String;"), (0, .methodref 23 31), (0, .nameAndType 5 32), (0, u "(Ljava/lang/String;)V"), (0, .class_ 34), (0, u "com/example/refine/refine/cspm/IntEqualsPinLaw"), (2, u "law"), (0, u "(III)Z")] 8

def k1m0 : Method := { name := "<init>", desc := "()V", sig := { parameters := [], returnType := none }, accessFlags := 1, code := none }
def k1c1 : Code := { maxStack := 4, maxLocals := 7, code := code, exceptionTable := #[], attributes := #[] }
def k1m1 : Method := { name := "law", desc := "(III)Z", sig := { parameters := [.int, .int, .int], returnType := some .boolean }, accessFlags := 9, code := some k1c1 }
/-- com/example/refine/refine/cspm/IntEqualsPinLaw -/
def k1 : Class := { plain "com/example/refine/refine/cspm/IntEqualsPinLaw" (some 0) with
  accessFlags := 49
  interfaces := #[]
  cf := some (fileOf pool1 33 #[] #[{ accessFlags := 1, nameIndex := 5, descriptorIndex := 6, attributes := #[] }, { accessFlags := 9, nameIndex := 37, descriptorIndex := 38, attributes := #[] }] 49 2 #[] #[])
  fields := #[]
  methods := #[k1m0, k1m1]
  instanceTypes := #[]
  staticTypes := #[]
  resolved := Array.replicate 47 none
  statics := none }

def pool2 : Array CpInfo := pool [(1, .methodref 2 3), (0, .class_ 4), (0, .nameAndType 5 6), (0, u "java/lang/Object"), (0, u "<init>"), (0, u "()V"), (1, .class_ 10), (1, u "com/example/refine/refine/cspm/Value"), (0, u "TRUE"), (0, u "Lcom/example/refine/refine/cspm/Value;"), (2, u "FALSE"), (59, .class_ 76), (0, u "com/example/refine/refine/cspm/Value$Tuple"), (0, .class_ 78), (0, u "com/example/refine/refine/cspm/Value$Text"), (0, .class_ 80), (0, u "com/example/refine/refine/cspm/Value$Int")] 4

def k2c0 : Code := { maxStack := 1, maxLocals := 1, code := prog_99_method_1_code, exceptionTable := #[], attributes := #[] }
def k2m0 : Method := { name := "<init>", desc := "()V", sig := { parameters := [], returnType := none }, accessFlags := 0, code := some k2c0 }
/-- com/example/refine/refine/cspm/Value -/
def k2 : Class := { plain "com/example/refine/refine/cspm/Value" (some 0) with
  accessFlags := 1056
  interfaces := #[]
  cf := some (fileOf pool2 8 #[.nestMembers #[75, 77, 79]] #[{ accessFlags := 0, nameIndex := 5, descriptorIndex := 6, attributes := #[] }] 1056 2 #[] #[{ accessFlags := 24, nameIndex := 15, descriptorIndex := 12, attributes := #[] }, { accessFlags := 24, nameIndex := 11, descriptorIndex := 12, attributes := #[] }])
  fields := #[{ name := "FALSE", type := (.object "com/example/refine/refine/cspm/Value"), accessFlags := 24, slot := 0, constantValue := 0 }, { name := "TRUE", type := (.object "com/example/refine/refine/cspm/Value"), accessFlags := 24, slot := 1, constantValue := 0 }]
  methods := #[k2m0]
  instanceTypes := #[]
  staticTypes := #[(.object "com/example/refine/refine/cspm/Value"), (.object "com/example/refine/refine/cspm/Value")]
  resolved := Array.replicate 85 none
  statics := none }

def pool3 : Array CpInfo := pool [(1, .methodref 2 3), (0, .class_ 4), (0, .nameAndType 5 6), (0, u "com/example/refine/refine/cspm/Value"), (0, u "<init>"), (0, u "()V"), (0, .fieldref 8 9), (0, .class_ 10), (0, .nameAndType 11 12), (0, u "com/example/refine/refine/cspm/Value$Int"), (0, u "number"), (0, u "I"), (22, u "TOO_LARGE"), (0, u "Ljava/lang/String;"), (3, u "(I)V"), (10, u "equals"), (0, u "(Ljava/lang/Object;)Z")] 6

def k3c0 : Code := { maxStack := 2, maxLocals := 2, code := prog_100_method_1_code, exceptionTable := #[], attributes := #[] }
def k3m0 : Method := { name := "<init>", desc := "(I)V", sig := { parameters := [.int], returnType := none }, accessFlags := 0, code := some k3c0 }
def k3c1 : Code := { maxStack := 2, maxLocals := 3, code := prog_100_method_6_code, exceptionTable := #[], attributes := #[] }
def k3m1 : Method := { name := "equals", desc := "(Ljava/lang/Object;)Z", sig := { parameters := [(.object "java/lang/Object")], returnType := some .boolean }, accessFlags := 1, code := some k3c1 }
/-- com/example/refine/refine/cspm/Value$Int -/
def k3 : Class := { plain "com/example/refine/refine/cspm/Value$Int" (some 2) with
  accessFlags := 48
  interfaces := #[]
  cf := some (fileOf pool3 8 #[.nestHost 2] #[{ accessFlags := 0, nameIndex := 5, descriptorIndex := 40, attributes := #[] }, { accessFlags := 1, nameIndex := 51, descriptorIndex := 52, attributes := #[] }] 48 2 #[] #[{ accessFlags := 24, nameIndex := 35, descriptorIndex := 36, attributes := #[] }, { accessFlags := 18, nameIndex := 11, descriptorIndex := 12, attributes := #[] }])
  fields := #[{ name := "TOO_LARGE", type := (.object "java/lang/String"), accessFlags := 24, slot := 0, constantValue := 0 }, { name := "number", type := .int, accessFlags := 18, slot := 0, constantValue := 0 }]
  methods := #[k3m0, k3m1]
  instanceTypes := #[.int]
  staticTypes := #[(.object "java/lang/String")]
  resolved := Array.replicate 59 none
  statics := none }

def pool4 : Array CpInfo := pool [(1, .methodref 2 3), (0, .class_ 4), (0, .nameAndType 5 6), (0, u "com/example/refine/refine/cspm/Value"), (0, u "<init>"), (0, u "()V"), (0, .fieldref 8 9), (0, .class_ 10), (0, .nameAndType 11 12), (0, u "com/example/refine/refine/cspm/Value$Text"), (0, u "text"), (0, u "Ljava/lang/String;"), (38, u "(Ljava/lang/String;)V")] 29

def k4c0 : Code := { maxStack := 2, maxLocals := 2, code := prog_101_method_1_code, exceptionTable := #[], attributes := #[] }
def k4m0 : Method := { name := "<init>", desc := "(Ljava/lang/String;)V", sig := { parameters := [(.object "java/lang/String")], returnType := none }, accessFlags := 0, code := some k4c0 }
/-- com/example/refine/refine/cspm/Value$Text -/
def k4 : Class := { plain "com/example/refine/refine/cspm/Value$Text" (some 2) with
  accessFlags := 48
  interfaces := #[]
  cf := some (fileOf pool4 8 #[.nestHost 2] #[{ accessFlags := 0, nameIndex := 5, descriptorIndex := 51, attributes := #[] }] 48 2 #[] #[{ accessFlags := 18, nameIndex := 11, descriptorIndex := 12, attributes := #[] }])
  fields := #[{ name := "text", type := (.object "java/lang/String"), accessFlags := 18, slot := 0, constantValue := 0 }]
  methods := #[k4m0]
  instanceTypes := #[(.object "java/lang/String")]
  staticTypes := #[]
  resolved := Array.replicate 81 none
  statics := none }

def pool5 : Array CpInfo := pool [(1, .class_ 2), (0, u "java/io/Serializable"), (0, .class_ 4), (0, u "java/lang/Object")] 2

/-- java/io/Serializable -/
def k5 : Class := { plain "java/io/Serializable" (some 0) with
  accessFlags := 1537
  interfaces := #[]
  cf := some (fileOf pool5 1 #[] #[] 1537 3 #[] #[])
  fields := #[]
  methods := #[]
  instanceTypes := #[]
  staticTypes := #[]
  resolved := Array.replicate 7 none
  statics := none }

def pool6 : Array CpInfo := pool [(1, .class_ 2), (0, u "java/lang/Comparable"), (0, .class_ 4), (0, u "java/lang/Object")] 7

/-- java/lang/Comparable -/
def k6 : Class := { plain "java/lang/Comparable" (some 0) with
  accessFlags := 1537
  interfaces := #[]
  cf := some (fileOf pool6 1 #[] #[] 1537 3 #[] #[])
  fields := #[]
  methods := #[]
  instanceTypes := #[]
  staticTypes := #[]
  resolved := Array.replicate 12 none
  statics := none }

def pool7 : Array CpInfo := pool [(2, .class_ 4), (1, u "java/lang/CharSequence"), (42, .class_ 48), (0, u "java/lang/CharSequence$1CodePointIterator"), (10, .class_ 60), (0, u "java/lang/CharSequence$1CharIterator"), (5, .class_ 67), (0, u "java/lang/Object")] 63

/-- java/lang/CharSequence -/
def k7 : Class := { plain "java/lang/CharSequence" (some 0) with
  accessFlags := 1537
  interfaces := #[]
  cf := some (fileOf pool7 2 #[.nestMembers #[47, 59]] #[] 1537 66 #[] #[])
  fields := #[]
  methods := #[]
  instanceTypes := #[]
  staticTypes := #[]
  resolved := Array.replicate 131 none
  statics := none }

def pool8 : Array CpInfo := pool [(1, .class_ 2), (0, u "java/lang/constant/Constable"), (0, .class_ 4), (0, u "java/lang/Object")] 6

/-- java/lang/constant/Constable -/
def k8 : Class := { plain "java/lang/constant/Constable" (some 0) with
  accessFlags := 1537
  interfaces := #[]
  cf := some (fileOf pool8 1 #[] #[] 1537 3 #[] #[])
  fields := #[]
  methods := #[]
  instanceTypes := #[]
  staticTypes := #[]
  resolved := Array.replicate 11 none
  statics := none }

def pool9 : Array CpInfo := pool [(1, .class_ 2), (0, u "java/lang/constant/ConstantDesc"), (0, .class_ 4), (0, u "java/lang/Object")] 32

/-- java/lang/constant/ConstantDesc -/
def k9 : Class := { plain "java/lang/constant/ConstantDesc" (some 0) with
  accessFlags := 1537
  interfaces := #[]
  cf := some (fileOf pool9 1 #[] #[] 1537 3 #[] #[])
  fields := #[]
  methods := #[]
  instanceTypes := #[]
  staticTypes := #[]
  resolved := Array.replicate 37 none
  statics := none }

def pool10 : Array CpInfo := pool [(1, .methodref 2 3), (0, .class_ 4), (0, .nameAndType 5 6), (0, u "java/lang/Object"), (0, u "<init>"), (0, u "()V"), (2, .fieldref 10 11), (0, .class_ 12), (0, .nameAndType 13 14), (0, u "java/lang/String"), (0, u "value"), (0, u "[B"), (0, .fieldref 10 16), (0, .nameAndType 17 18), (0, u "coder"), (0, u "B"), (2, u "hash"), (0, u "I"), (2, u "hashIsZero"), (0, u "Z"), (11, .fieldref 10 39), (0, .nameAndType 40 26), (0, u "COMPACT_STRINGS"), (12, u "toBytes"), (53, .class_ 109), (1, u "java/lang/StringLatin1"), (99, .methodref 10 210), (0, .nameAndType 5 211), (0, u "([BB)V"), (157, u "(C)Z"), (205, .class_ 576), (0, u "java/lang/CharSequence"), (22, u "CASE_INSENSITIVE_ORDER"), (0, u "Ljava/util/Comparator;"), (181, u "valueOf"), (0, u "(C)Ljava/lang/String;"), (231, .methodref 107 1016), (0, .nameAndType 1017 369), (0, u "canEncode"), (0, .methodref 107 1019), (0, .nameAndType 53 1020), (0, u "(C)[B"), (80, u "serialPersistentFields"), (0, u "[Ljava/io/ObjectStreamField;"), (0, .class_ 1104), (0, u "java/lang/String$CaseInsensitiveComparator"), (1, .class_ 1107), (0, u "java/io/Serializable"), (0, .class_ 1109), (0, u "java/lang/Comparable"), (0, .class_ 1111), (0, u "java/lang/constant/Constable"), (0, .class_ 1113), (0, u "java/lang/constant/ConstantDesc"), (2, u "serialVersionUID"), (0, u "J"), (3, u "REPL"), (0, u "C"), (2, u "LATIN1"), (1, u "UTF16")] 323

def k10m0 : Method := { name := "<init>", desc := "()V", sig := { parameters := [], returnType := none }, accessFlags := 1, code := none }
def k10c1 : Code := { maxStack := 4, maxLocals := 1, code := jdk_42_method_139_code, exceptionTable := #[], attributes := #[] }
def k10m1 : Method := { name := "valueOf", desc := "(C)Ljava/lang/String;", sig := { parameters := [.char], returnType := some (.object "java/lang/String") }, accessFlags := 9, code := some k10c1 }
def k10c2 : Code := { maxStack := 2, maxLocals := 3, code := jdk_42_method_151_code, exceptionTable := #[], attributes := #[] }
def k10m2 : Method := { name := "<init>", desc := "([BB)V", sig := { parameters := [(.array .byte), .byte], returnType := none }, accessFlags := 0, code := some k10c2 }
/-- java/lang/String -/
def k10 : Class := { plain "java/lang/String" (some 0) with
  accessFlags := 49
  interfaces := #[5, 6, 7, 8, 9]
  cf := some (fileOf pool10 10 #[.nestMembers #[1103]] #[{ accessFlags := 1, nameIndex := 5, descriptorIndex := 6, attributes := #[] }, { accessFlags := 9, nameIndex := 782, descriptorIndex := 783, attributes := #[] }, { accessFlags := 0, nameIndex := 5, descriptorIndex := 211, attributes := #[] }] 49 2 #[1106, 1108, 575, 1110, 1112] #[{ accessFlags := 18, nameIndex := 13, descriptorIndex := 14, attributes := #[] }, { accessFlags := 18, nameIndex := 17, descriptorIndex := 18, attributes := #[] }, { accessFlags := 2, nameIndex := 21, descriptorIndex := 22, attributes := #[] }, { accessFlags := 2, nameIndex := 25, descriptorIndex := 26, attributes := #[] }, { accessFlags := 26, nameIndex := 1116, descriptorIndex := 1117, attributes := #[] }, { accessFlags := 24, nameIndex := 40, descriptorIndex := 26, attributes := #[] }, { accessFlags := 26, nameIndex := 1101, descriptorIndex := 1102, attributes := #[] }, { accessFlags := 26, nameIndex := 1121, descriptorIndex := 1122, attributes := #[] }, { accessFlags := 25, nameIndex := 599, descriptorIndex := 600, attributes := #[] }, { accessFlags := 24, nameIndex := 1125, descriptorIndex := 18, attributes := #[] }, { accessFlags := 24, nameIndex := 1127, descriptorIndex := 18, attributes := #[] }])
  fields := #[{ name := "value", type := (.array .byte), accessFlags := 18, slot := 0, constantValue := 0 }, { name := "coder", type := .byte, accessFlags := 18, slot := 1, constantValue := 0 }, { name := "hash", type := .int, accessFlags := 2, slot := 2, constantValue := 0 }, { name := "hashIsZero", type := .boolean, accessFlags := 2, slot := 3, constantValue := 0 }, { name := "serialVersionUID", type := .long, accessFlags := 26, slot := 0, constantValue := 0 }, { name := "COMPACT_STRINGS", type := .boolean, accessFlags := 24, slot := 1, constantValue := 0 }, { name := "serialPersistentFields", type := (.array (.object "java/io/ObjectStreamField")), accessFlags := 26, slot := 2, constantValue := 0 }, { name := "REPL", type := .char, accessFlags := 26, slot := 3, constantValue := 0 }, { name := "CASE_INSENSITIVE_ORDER", type := (.object "java/util/Comparator"), accessFlags := 25, slot := 4, constantValue := 0 }, { name := "LATIN1", type := .byte, accessFlags := 24, slot := 5, constantValue := 0 }, { name := "UTF16", type := .byte, accessFlags := 24, slot := 6, constantValue := 0 }]
  methods := #[k10m0, k10m1, k10m2]
  instanceTypes := #[(.array .byte), .byte, .int, .boolean]
  staticTypes := #[.long, .boolean, (.array (.object "java/io/ObjectStreamField")), .char, (.object "java/util/Comparator"), .byte, .byte]
  resolved := Array.replicate 1451 none
  statics := some 0 }

def pool11 : Array CpInfo := pool [(4, .class_ 6), (1, u "java/lang/Object"), (0, u "<init>"), (0, u "()V"), (5, .class_ 16), (1, u "java/lang/StringLatin1"), (73, u "canEncode"), (14, u "(C)Z"), (15, u "$assertionsDisabled"), (0, u "Z"), (98, .class_ 223), (1, u "java/lang/StringLatin1$LinesSpliterator"), (156, u "toBytes"), (1, u "(C)[B"), (7, .class_ 391), (0, u "java/lang/StringLatin1$CharsSpliterator")] 3

def k11m0 : Method := { name := "<init>", desc := "()V", sig := { parameters := [], returnType := none }, accessFlags := 0, code := none }
def k11c1 : Code := { maxStack := 2, maxLocals := 1, code := jdk_43_method_3_code, exceptionTable := #[], attributes := #[] }
def k11m1 : Method := { name := "canEncode", desc := "(C)Z", sig := { parameters := [.char], returnType := some .boolean }, accessFlags := 9, code := some k11c1 }
def k11c2 : Code := { maxStack := 4, maxLocals := 1, code := jdk_43_method_46_code, exceptionTable := #[], attributes := #[] }
def k11m2 : Method := { name := "toBytes", desc := "(C)[B", sig := { parameters := [.char], returnType := some (.array .byte) }, accessFlags := 9, code := some k11c2 }
/-- java/lang/StringLatin1 -/
def k11 : Class := { plain "java/lang/StringLatin1" (some 0) with
  accessFlags := 48
  interfaces := #[]
  cf := some (fileOf pool11 14 #[.nestMembers #[390, 221]] #[{ accessFlags := 0, nameIndex := 7, descriptorIndex := 8, attributes := #[] }, { accessFlags := 9, nameIndex := 90, descriptorIndex := 105, attributes := #[] }, { accessFlags := 9, nameIndex := 380, descriptorIndex := 382, attributes := #[] }] 48 4 #[] #[{ accessFlags := 4120, nameIndex := 121, descriptorIndex := 122, attributes := #[] }])
  fields := #[{ name := "$assertionsDisabled", type := .boolean, accessFlags := 4120, slot := 0, constantValue := 0 }]
  methods := #[k11m0, k11m1, k11m2]
  instanceTypes := #[]
  staticTypes := #[.boolean]
  resolved := Array.replicate 395 none
  statics := none }

def pool12 : Array CpInfo := pool [(1, .methodref 2 3), (0, .class_ 4), (0, .nameAndType 5 6), (0, u "java/lang/Object"), (0, u "<init>"), (0, u "()V"), (1, .class_ 10), (1, u "java/lang/Number"), (2, .class_ 14), (0, u "java/io/Serializable"), (0, u "serialVersionUID"), (0, u "J")] 20

def k12c0 : Code := { maxStack := 1, maxLocals := 1, code := jdk_18_method_1_code, exceptionTable := #[], attributes := #[] }
def k12m0 : Method := { name := "<init>", desc := "()V", sig := { parameters := [], returnType := none }, accessFlags := 1, code := some k12c0 }
/-- java/lang/Number -/
def k12 : Class := { plain "java/lang/Number" (some 0) with
  accessFlags := 1057
  interfaces := #[5]
  cf := some (fileOf pool12 8 #[] #[{ accessFlags := 1, nameIndex := 5, descriptorIndex := 6, attributes := #[] }] 1057 2 #[13] #[{ accessFlags := 26, nameIndex := 15, descriptorIndex := 16, attributes := #[] }])
  fields := #[{ name := "serialVersionUID", type := .long, accessFlags := 26, slot := 0, constantValue := 0 }]
  methods := #[k12m0]
  instanceTypes := #[]
  staticTypes := #[.long]
  resolved := Array.replicate 37 none
  statics := none }

def pool13 : Array CpInfo := pool [(1, .class_ 2), (0, u "java/lang/Integer"), (16, u "digits"), (0, u "[C"), (46, u "<init>"), (17, u "DigitOnes"), (0, u "[B"), (2, u "DigitTens"), (10, .nameAndType 67 101), (0, u "()V"), (85, u "valueOf"), (0, u "(I)Ljava/lang/Integer;"), (0, .class_ 190), (0, u "java/lang/Integer$IntegerCache"), (0, .fieldref 189 192), (0, .nameAndType 193 194), (0, u "high"), (0, u "I"), (0, .fieldref 189 196), (0, .nameAndType 197 198), (0, u "cache"), (0, u "[Ljava/lang/Integer;"), (0, .methodref 1 200), (0, .nameAndType 67 201), (0, u "(I)V"), (0, .methodref 203 100), (0, .class_ 204), (0, u "java/lang/Number"), (0, .fieldref 1 206), (0, .nameAndType 207 194), (0, u "value"), (94, u "TYPE"), (0, u "Ljava/lang/Class;"), (0, .class_ 305), (0, u "java/lang/Comparable"), (0, .class_ 307), (0, u "java/lang/constant/Constable"), (0, .class_ 309), (0, u "java/lang/constant/ConstantDesc"), (0, u "MIN_VALUE"), (1, u "MAX_VALUE"), (3, u "SIZE"), (1, u "BYTES"), (1, u "serialVersionUID"), (0, u "J")] 131

def k13c0 : Code := { maxStack := 3, maxLocals := 1, code := jdk_33_method_22_code, exceptionTable := #[], attributes := #[] }
def k13m0 : Method := { name := "valueOf", desc := "(I)Ljava/lang/Integer;", sig := { parameters := [.int], returnType := some (.object "java/lang/Integer") }, accessFlags := 9, code := some k13c0 }
def k13c1 : Code := { maxStack := 2, maxLocals := 2, code := jdk_33_method_23_code, exceptionTable := #[], attributes := #[] }
def k13m1 : Method := { name := "<init>", desc := "(I)V", sig := { parameters := [.int], returnType := none }, accessFlags := 1, code := some k13c1 }
/-- java/lang/Integer -/
def k13 : Class := { plain "java/lang/Integer" (some 12) with
  accessFlags := 49
  interfaces := #[6, 8, 9]
  cf := some (fileOf pool13 1 #[.nestMembers #[189]] #[{ accessFlags := 9, nameIndex := 187, descriptorIndex := 188, attributes := #[] }, { accessFlags := 1, nameIndex := 67, descriptorIndex := 201, attributes := #[] }] 49 203 #[304, 306, 308] #[{ accessFlags := 25, nameIndex := 310, descriptorIndex := 194, attributes := #[] }, { accessFlags := 25, nameIndex := 312, descriptorIndex := 194, attributes := #[] }, { accessFlags := 25, nameIndex := 302, descriptorIndex := 303, attributes := #[] }, { accessFlags := 24, nameIndex := 19, descriptorIndex := 20, attributes := #[] }, { accessFlags := 24, nameIndex := 89, descriptorIndex := 86, attributes := #[] }, { accessFlags := 24, nameIndex := 85, descriptorIndex := 86, attributes := #[] }, { accessFlags := 18, nameIndex := 207, descriptorIndex := 194, attributes := #[] }, { accessFlags := 25, nameIndex := 316, descriptorIndex := 194, attributes := #[] }, { accessFlags := 25, nameIndex := 318, descriptorIndex := 194, attributes := #[] }, { accessFlags := 26, nameIndex := 320, descriptorIndex := 321, attributes := #[] }])
  fields := #[{ name := "MIN_VALUE", type := .int, accessFlags := 25, slot := 0, constantValue := 0 }, { name := "MAX_VALUE", type := .int, accessFlags := 25, slot := 1, constantValue := 0 }, { name := "TYPE", type := (.object "java/lang/Class"), accessFlags := 25, slot := 2, constantValue := 0 }, { name := "digits", type := (.array .char), accessFlags := 24, slot := 3, constantValue := 0 }, { name := "DigitTens", type := (.array .byte), accessFlags := 24, slot := 4, constantValue := 0 }, { name := "DigitOnes", type := (.array .byte), accessFlags := 24, slot := 5, constantValue := 0 }, { name := "value", type := .int, accessFlags := 18, slot := 0, constantValue := 0 }, { name := "SIZE", type := .int, accessFlags := 25, slot := 6, constantValue := 0 }, { name := "BYTES", type := .int, accessFlags := 25, slot := 7, constantValue := 0 }, { name := "serialVersionUID", type := .long, accessFlags := 26, slot := 8, constantValue := 0 }]
  methods := #[k13m0, k13m1]
  instanceTypes := #[.int]
  staticTypes := #[.int, .int, (.object "java/lang/Class"), (.array .char), (.array .byte), (.array .byte), .int, .int, .long]
  resolved := Array.replicate 453 none
  statics := none }

def pool14 : Array CpInfo := pool [(2, .class_ 4), (1, u "java/lang/Object"), (0, u "<init>"), (0, u "()V"), (0, .class_ 8), (0, u "java/lang/Integer"), (7, .class_ 18), (1, u "java/lang/Integer$IntegerCache"), (0, u "$assertionsDisabled"), (0, u "Z"), (26, u "high"), (0, u "I"), (8, u "archivedCache"), (0, u "[Ljava/lang/Integer;"), (12, u "cache"), (0, u "low")] 27

def k14m0 : Method := { name := "<init>", desc := "()V", sig := { parameters := [], returnType := none }, accessFlags := 2, code := none }
/-- java/lang/Integer$IntegerCache -/
def k14 : Class := { plain "java/lang/Integer$IntegerCache" (some 0) with
  accessFlags := 48
  interfaces := #[]
  cf := some (fileOf pool14 16 #[.nestHost 7] #[{ accessFlags := 2, nameIndex := 5, descriptorIndex := 6, attributes := #[] }] 48 2 #[] #[{ accessFlags := 24, nameIndex := 72, descriptorIndex := 48, attributes := #[] }, { accessFlags := 24, nameIndex := 47, descriptorIndex := 48, attributes := #[] }, { accessFlags := 24, nameIndex := 71, descriptorIndex := 58, attributes := #[] }, { accessFlags := 8, nameIndex := 57, descriptorIndex := 58, attributes := #[] }, { accessFlags := 4120, nameIndex := 19, descriptorIndex := 20, attributes := #[] }])
  fields := #[{ name := "low", type := .int, accessFlags := 24, slot := 0, constantValue := 0 }, { name := "high", type := .int, accessFlags := 24, slot := 1, constantValue := 0 }, { name := "cache", type := (.array (.object "java/lang/Integer")), accessFlags := 24, slot := 2, constantValue := 0 }, { name := "archivedCache", type := (.array (.object "java/lang/Integer")), accessFlags := 8, slot := 3, constantValue := 0 }, { name := "$assertionsDisabled", type := .boolean, accessFlags := 4120, slot := 4, constantValue := 0 }]
  methods := #[k14m0]
  instanceTypes := #[]
  staticTypes := #[.int, .int, (.array (.object "java/lang/Integer")), (.array (.object "java/lang/Integer")), .boolean]
  resolved := Array.replicate 100 none
  statics := some 1 }

def pool15 : Array CpInfo := pool [(2, .class_ 4), (1, u "java/lang/Object"), (0, u "<init>"), (0, u "()V"), (17, .class_ 26), (1, u "jdk/internal/util/Preconditions"), (28, .class_ 56), (0, u "jdk/internal/util/Preconditions$4"), (57, .class_ 115), (0, u "jdk/internal/util/Preconditions$1"), (7, u "SIOOBE_FORMATTER"), (0, u "Ljava/util/function/BiFunction;"), (0, .class_ 126), (0, u "jdk/internal/util/Preconditions$2"), (3, u "AIOOBE_FORMATTER"), (0, .class_ 132), (0, u "jdk/internal/util/Preconditions$3"), (3, u "IOOBE_FORMATTER")] 57

def k15m0 : Method := { name := "<init>", desc := "()V", sig := { parameters := [], returnType := none }, accessFlags := 1, code := none }
/-- jdk/internal/util/Preconditions -/
def k15 : Class := { plain "jdk/internal/util/Preconditions" (some 0) with
  accessFlags := 33
  interfaces := #[]
  cf := some (fileOf pool15 24 #[.nestMembers #[55, 131, 125, 114]] #[{ accessFlags := 1, nameIndex := 5, descriptorIndex := 6, attributes := #[] }] 33 2 #[] #[{ accessFlags := 25, nameIndex := 123, descriptorIndex := 124, attributes := #[] }, { accessFlags := 25, nameIndex := 130, descriptorIndex := 124, attributes := #[] }, { accessFlags := 25, nameIndex := 136, descriptorIndex := 124, attributes := #[] }])
  fields := #[{ name := "SIOOBE_FORMATTER", type := (.object "java/util/function/BiFunction"), accessFlags := 25, slot := 0, constantValue := 0 }, { name := "AIOOBE_FORMATTER", type := (.object "java/util/function/BiFunction"), accessFlags := 25, slot := 1, constantValue := 0 }, { name := "IOOBE_FORMATTER", type := (.object "java/util/function/BiFunction"), accessFlags := 25, slot := 2, constantValue := 0 }]
  methods := #[k15m0]
  instanceTypes := #[]
  staticTypes := #[(.object "java/util/function/BiFunction"), (.object "java/util/function/BiFunction"), (.object "java/util/function/BiFunction")]
  resolved := Array.replicate 194 none
  statics := some 2 }

def pool16 : Array CpInfo := pool [(9, u "<init>"), (6, .class_ 18), (1, u "java/lang/Object"), (0, u "()V"), (1, .class_ 23), (1, u "jdk/internal/util/ArraysSupport"), (0, u "LOG2_ARRAY_LONG_INDEX_SCALE"), (0, u "I"), (2, u "U"), (0, u "Ljdk/internal/misc/Unsafe;"), (8, u "BIG_ENDIAN"), (0, u "Z"), (8, u "LOG2_BYTE_BIT_SIZE"), (4, u "LOG2_ARRAY_INT_INDEX_SCALE"), (54, u "JLA"), (0, u "Ljdk/internal/access/JavaLangAccess;"), (11, u "LOG2_ARRAY_BOOLEAN_INDEX_SCALE"), (9, u "LOG2_ARRAY_BYTE_INDEX_SCALE"), (5, u "LOG2_ARRAY_CHAR_INDEX_SCALE"), (5, u "LOG2_ARRAY_SHORT_INDEX_SCALE"), (18, u "LOG2_ARRAY_FLOAT_INDEX_SCALE"), (24, u "LOG2_ARRAY_DOUBLE_INDEX_SCALE"), (89, u "T_BOOLEAN"), (2, u "T_CHAR"), (1, u "T_FLOAT"), (1, u "T_DOUBLE"), (1, u "T_BYTE"), (1, u "T_SHORT"), (1, u "T_INT"), (1, u "T_LONG"), (1, u "SOFT_MAX_ARRAY_LENGTH")] 83

def k16m0 : Method := { name := "<init>", desc := "()V", sig := { parameters := [], returnType := none }, accessFlags := 2, code := none }
/-- jdk/internal/util/ArraysSupport -/
def k16 : Class := { plain "jdk/internal/util/ArraysSupport" (some 0) with
  accessFlags := 33
  interfaces := #[]
  cf := some (fileOf pool16 21 #[] #[{ accessFlags := 2, nameIndex := 9, descriptorIndex := 19, attributes := #[] }] 33 16 #[] #[{ accessFlags := 24, nameIndex := 28, descriptorIndex := 29, attributes := #[] }, { accessFlags := 26, nameIndex := 38, descriptorIndex := 39, attributes := #[] }, { accessFlags := 25, nameIndex := 121, descriptorIndex := 25, attributes := #[] }, { accessFlags := 25, nameIndex := 131, descriptorIndex := 25, attributes := #[] }, { accessFlags := 25, nameIndex := 137, descriptorIndex := 25, attributes := #[] }, { accessFlags := 25, nameIndex := 143, descriptorIndex := 25, attributes := #[] }, { accessFlags := 25, nameIndex := 53, descriptorIndex := 25, attributes := #[] }, { accessFlags := 25, nameIndex := 24, descriptorIndex := 25, attributes := #[] }, { accessFlags := 25, nameIndex := 162, descriptorIndex := 25, attributes := #[] }, { accessFlags := 25, nameIndex := 187, descriptorIndex := 25, attributes := #[] }, { accessFlags := 26, nameIndex := 48, descriptorIndex := 25, attributes := #[] }, { accessFlags := 25, nameIndex := 277, descriptorIndex := 25, attributes := #[] }, { accessFlags := 25, nameIndex := 280, descriptorIndex := 25, attributes := #[] }, { accessFlags := 25, nameIndex := 282, descriptorIndex := 25, attributes := #[] }, { accessFlags := 25, nameIndex := 284, descriptorIndex := 25, attributes := #[] }, { accessFlags := 25, nameIndex := 286, descriptorIndex := 25, attributes := #[] }, { accessFlags := 25, nameIndex := 288, descriptorIndex := 25, attributes := #[] }, { accessFlags := 25, nameIndex := 290, descriptorIndex := 25, attributes := #[] }, { accessFlags := 25, nameIndex := 292, descriptorIndex := 25, attributes := #[] }, { accessFlags := 26, nameIndex := 108, descriptorIndex := 109, attributes := #[] }, { accessFlags := 25, nameIndex := 294, descriptorIndex := 25, attributes := #[] }])
  fields := #[{ name := "U", type := (.object "jdk/internal/misc/Unsafe"), accessFlags := 24, slot := 0, constantValue := 0 }, { name := "BIG_ENDIAN", type := .boolean, accessFlags := 26, slot := 1, constantValue := 0 }, { name := "LOG2_ARRAY_BOOLEAN_INDEX_SCALE", type := .int, accessFlags := 25, slot := 2, constantValue := 0 }, { name := "LOG2_ARRAY_BYTE_INDEX_SCALE", type := .int, accessFlags := 25, slot := 3, constantValue := 0 }, { name := "LOG2_ARRAY_CHAR_INDEX_SCALE", type := .int, accessFlags := 25, slot := 4, constantValue := 0 }, { name := "LOG2_ARRAY_SHORT_INDEX_SCALE", type := .int, accessFlags := 25, slot := 5, constantValue := 0 }, { name := "LOG2_ARRAY_INT_INDEX_SCALE", type := .int, accessFlags := 25, slot := 6, constantValue := 0 }, { name := "LOG2_ARRAY_LONG_INDEX_SCALE", type := .int, accessFlags := 25, slot := 7, constantValue := 0 }, { name := "LOG2_ARRAY_FLOAT_INDEX_SCALE", type := .int, accessFlags := 25, slot := 8, constantValue := 0 }, { name := "LOG2_ARRAY_DOUBLE_INDEX_SCALE", type := .int, accessFlags := 25, slot := 9, constantValue := 0 }, { name := "LOG2_BYTE_BIT_SIZE", type := .int, accessFlags := 26, slot := 10, constantValue := 0 }, { name := "T_BOOLEAN", type := .int, accessFlags := 25, slot := 11, constantValue := 0 }, { name := "T_CHAR", type := .int, accessFlags := 25, slot := 12, constantValue := 0 }, { name := "T_FLOAT", type := .int, accessFlags := 25, slot := 13, constantValue := 0 }, { name := "T_DOUBLE", type := .int, accessFlags := 25, slot := 14, constantValue := 0 }, { name := "T_BYTE", type := .int, accessFlags := 25, slot := 15, constantValue := 0 }, { name := "T_SHORT", type := .int, accessFlags := 25, slot := 16, constantValue := 0 }, { name := "T_INT", type := .int, accessFlags := 25, slot := 17, constantValue := 0 }, { name := "T_LONG", type := .int, accessFlags := 25, slot := 18, constantValue := 0 }, { name := "JLA", type := (.object "jdk/internal/access/JavaLangAccess"), accessFlags := 26, slot := 19, constantValue := 0 }, { name := "SOFT_MAX_ARRAY_LENGTH", type := .int, accessFlags := 25, slot := 20, constantValue := 0 }]
  methods := #[k16m0]
  instanceTypes := #[]
  staticTypes := #[(.object "jdk/internal/misc/Unsafe"), .boolean, .int, .int, .int, .int, .int, .int, .int, .int, .int, .int, .int, .int, .int, .int, .int, .int, .int, (.object "jdk/internal/access/JavaLangAccess"), .int]
  resolved := Array.replicate 378 none
  statics := none }

def pool17 : Array CpInfo := pool [(1, u "java/lang/Cloneable"), (0, .class_ 1), (0, u "java/lang/Object"), (0, .class_ 3)] 3

/-- java/lang/Cloneable -/
def k17 : Class := { plain "java/lang/Cloneable" (some 0) with
  accessFlags := 1537
  interfaces := #[]
  cf := some (fileOf pool17 2 #[] #[] 1537 4 #[] #[])
  fields := #[]
  methods := #[]
  instanceTypes := #[]
  staticTypes := #[]
  resolved := Array.replicate 8 none
  statics := none }

/-- the primitive byte -/
def k18 : Class := { plain "byte" none with kind := .primitive 'B', accessFlags := 0x411 }
/-- [B -/
def k19 : Class := { plain "[B" (some 0) with kind := .array 18 .byte, interfaces := #[17, 5], accessFlags := 1041 }

/-- the primitive int -/
def k20 : Class := { plain "int" none with kind := .primitive 'I', accessFlags := 0x411 }
/-- [I -/
def k21 : Class := { plain "[I" (some 0) with kind := .array 20 .int, interfaces := #[17, 5], accessFlags := 1041 }

/-- [Ljava/lang/Integer; -/
def k22 : Class := { plain "[Ljava/lang/Integer;" (some 0) with kind := .array 13 (.object "java/lang/Integer"), interfaces := #[17, 5], accessFlags := 1041 }

def heap : Heap := #[{ cls := 10, slots := #[.long 0, .int 1, .null, .int 0, .null, .int 0, .int 0], vm := .statics 10 },
  { cls := 14, slots := #[.int 0, .int 127, .ref 3, .null, .int 0], vm := .statics 14 },
  { cls := 15, slots := #[.null, .null, .null], vm := .statics 15 },
  { cls := 22, slots := #[.ref 4, .ref 5, .ref 6, .ref 7, .ref 8, .ref 9, .ref 10, .ref 11, .ref 12, .ref 13, .ref 14, .ref 15, .ref 16, .ref 17, .ref 18, .ref 19, .ref 20, .ref 21, .ref 22, .ref 23, .ref 24, .ref 25, .ref 26, .ref 27, .ref 28, .ref 29, .ref 30, .ref 31, .ref 32, .ref 33, .ref 34, .ref 35, .ref 36, .ref 37, .ref 38, .ref 39, .ref 40, .ref 41, .ref 42, .ref 43, .ref 44, .ref 45, .ref 46, .ref 47, .ref 48, .ref 49, .ref 50, .ref 51, .ref 52, .ref 53, .ref 54, .ref 55, .ref 56, .ref 57, .ref 58, .ref 59, .ref 60, .ref 61, .ref 62, .ref 63, .ref 64, .ref 65, .ref 66, .ref 67, .ref 68, .ref 69, .ref 70, .ref 71, .ref 72, .ref 73, .ref 74, .ref 75, .ref 76, .ref 77, .ref 78, .ref 79, .ref 80, .ref 81, .ref 82, .ref 83, .ref 84, .ref 85, .ref 86, .ref 87, .ref 88, .ref 89, .ref 90, .ref 91, .ref 92, .ref 93, .ref 94, .ref 95, .ref 96, .ref 97, .ref 98, .ref 99, .ref 100, .ref 101, .ref 102, .ref 103, .ref 104, .ref 105, .ref 106, .ref 107, .ref 108, .ref 109, .ref 110, .ref 111, .ref 112, .ref 113, .ref 114, .ref 115, .ref 116, .ref 117, .ref 118, .ref 119, .ref 120, .ref 121, .ref 122, .ref 123, .ref 124, .ref 125, .ref 126, .ref 127, .ref 128, .ref 129, .ref 130, .ref 131, .ref 132, .ref 133, .ref 134, .ref 135, .ref 136, .ref 137, .ref 138, .ref 139, .ref 140, .ref 141, .ref 142, .ref 143, .ref 144, .ref 145, .ref 146, .ref 147, .ref 148, .ref 149, .ref 150, .ref 151, .ref 152, .ref 153, .ref 154, .ref 155, .ref 156, .ref 157, .ref 158, .ref 159, .ref 160, .ref 161, .ref 162, .ref 163, .ref 164, .ref 165, .ref 166, .ref 167, .ref 168, .ref 169, .ref 170, .ref 171, .ref 172, .ref 173, .ref 174, .ref 175, .ref 176, .ref 177, .ref 178, .ref 179, .ref 180, .ref 181, .ref 182, .ref 183, .ref 184, .ref 185, .ref 186, .ref 187, .ref 188, .ref 189, .ref 190, .ref 191, .ref 192, .ref 193, .ref 194, .ref 195, .ref 196, .ref 197, .ref 198, .ref 199, .ref 200, .ref 201, .ref 202, .ref 203, .ref 204, .ref 205, .ref 206, .ref 207, .ref 208, .ref 209, .ref 210, .ref 211, .ref 212, .ref 213, .ref 214, .ref 215, .ref 216, .ref 217, .ref 218, .ref 219, .ref 220, .ref 221, .ref 222, .ref 223, .ref 224, .ref 225, .ref 226, .ref 227, .ref 228, .ref 229, .ref 230, .ref 231, .ref 232, .ref 233, .ref 234, .ref 235, .ref 236, .ref 237, .ref 238, .ref 239, .ref 240, .ref 241, .ref 242, .ref 243, .ref 244, .ref 245, .ref 246, .ref 247, .ref 248, .ref 249, .ref 250, .ref 251, .ref 252, .ref 253, .ref 254, .ref 255, .ref 256, .ref 257, .ref 258, .ref 259], vm := .none },
  { cls := 13, slots := #[.int (-128)], vm := .none },
  { cls := 13, slots := #[.int (-127)], vm := .none },
  { cls := 13, slots := #[.int (-126)], vm := .none },
  { cls := 13, slots := #[.int (-125)], vm := .none },
  { cls := 13, slots := #[.int (-124)], vm := .none },
  { cls := 13, slots := #[.int (-123)], vm := .none },
  { cls := 13, slots := #[.int (-122)], vm := .none },
  { cls := 13, slots := #[.int (-121)], vm := .none },
  { cls := 13, slots := #[.int (-120)], vm := .none },
  { cls := 13, slots := #[.int (-119)], vm := .none },
  { cls := 13, slots := #[.int (-118)], vm := .none },
  { cls := 13, slots := #[.int (-117)], vm := .none },
  { cls := 13, slots := #[.int (-116)], vm := .none },
  { cls := 13, slots := #[.int (-115)], vm := .none },
  { cls := 13, slots := #[.int (-114)], vm := .none },
  { cls := 13, slots := #[.int (-113)], vm := .none },
  { cls := 13, slots := #[.int (-112)], vm := .none },
  { cls := 13, slots := #[.int (-111)], vm := .none },
  { cls := 13, slots := #[.int (-110)], vm := .none },
  { cls := 13, slots := #[.int (-109)], vm := .none },
  { cls := 13, slots := #[.int (-108)], vm := .none },
  { cls := 13, slots := #[.int (-107)], vm := .none },
  { cls := 13, slots := #[.int (-106)], vm := .none },
  { cls := 13, slots := #[.int (-105)], vm := .none },
  { cls := 13, slots := #[.int (-104)], vm := .none },
  { cls := 13, slots := #[.int (-103)], vm := .none },
  { cls := 13, slots := #[.int (-102)], vm := .none },
  { cls := 13, slots := #[.int (-101)], vm := .none },
  { cls := 13, slots := #[.int (-100)], vm := .none },
  { cls := 13, slots := #[.int (-99)], vm := .none },
  { cls := 13, slots := #[.int (-98)], vm := .none },
  { cls := 13, slots := #[.int (-97)], vm := .none },
  { cls := 13, slots := #[.int (-96)], vm := .none },
  { cls := 13, slots := #[.int (-95)], vm := .none },
  { cls := 13, slots := #[.int (-94)], vm := .none },
  { cls := 13, slots := #[.int (-93)], vm := .none },
  { cls := 13, slots := #[.int (-92)], vm := .none },
  { cls := 13, slots := #[.int (-91)], vm := .none },
  { cls := 13, slots := #[.int (-90)], vm := .none },
  { cls := 13, slots := #[.int (-89)], vm := .none },
  { cls := 13, slots := #[.int (-88)], vm := .none },
  { cls := 13, slots := #[.int (-87)], vm := .none },
  { cls := 13, slots := #[.int (-86)], vm := .none },
  { cls := 13, slots := #[.int (-85)], vm := .none },
  { cls := 13, slots := #[.int (-84)], vm := .none },
  { cls := 13, slots := #[.int (-83)], vm := .none },
  { cls := 13, slots := #[.int (-82)], vm := .none },
  { cls := 13, slots := #[.int (-81)], vm := .none },
  { cls := 13, slots := #[.int (-80)], vm := .none },
  { cls := 13, slots := #[.int (-79)], vm := .none },
  { cls := 13, slots := #[.int (-78)], vm := .none },
  { cls := 13, slots := #[.int (-77)], vm := .none },
  { cls := 13, slots := #[.int (-76)], vm := .none },
  { cls := 13, slots := #[.int (-75)], vm := .none },
  { cls := 13, slots := #[.int (-74)], vm := .none },
  { cls := 13, slots := #[.int (-73)], vm := .none },
  { cls := 13, slots := #[.int (-72)], vm := .none },
  { cls := 13, slots := #[.int (-71)], vm := .none },
  { cls := 13, slots := #[.int (-70)], vm := .none },
  { cls := 13, slots := #[.int (-69)], vm := .none },
  { cls := 13, slots := #[.int (-68)], vm := .none },
  { cls := 13, slots := #[.int (-67)], vm := .none },
  { cls := 13, slots := #[.int (-66)], vm := .none },
  { cls := 13, slots := #[.int (-65)], vm := .none },
  { cls := 13, slots := #[.int (-64)], vm := .none },
  { cls := 13, slots := #[.int (-63)], vm := .none },
  { cls := 13, slots := #[.int (-62)], vm := .none },
  { cls := 13, slots := #[.int (-61)], vm := .none },
  { cls := 13, slots := #[.int (-60)], vm := .none },
  { cls := 13, slots := #[.int (-59)], vm := .none },
  { cls := 13, slots := #[.int (-58)], vm := .none },
  { cls := 13, slots := #[.int (-57)], vm := .none },
  { cls := 13, slots := #[.int (-56)], vm := .none },
  { cls := 13, slots := #[.int (-55)], vm := .none },
  { cls := 13, slots := #[.int (-54)], vm := .none },
  { cls := 13, slots := #[.int (-53)], vm := .none },
  { cls := 13, slots := #[.int (-52)], vm := .none },
  { cls := 13, slots := #[.int (-51)], vm := .none },
  { cls := 13, slots := #[.int (-50)], vm := .none },
  { cls := 13, slots := #[.int (-49)], vm := .none },
  { cls := 13, slots := #[.int (-48)], vm := .none },
  { cls := 13, slots := #[.int (-47)], vm := .none },
  { cls := 13, slots := #[.int (-46)], vm := .none },
  { cls := 13, slots := #[.int (-45)], vm := .none },
  { cls := 13, slots := #[.int (-44)], vm := .none },
  { cls := 13, slots := #[.int (-43)], vm := .none },
  { cls := 13, slots := #[.int (-42)], vm := .none },
  { cls := 13, slots := #[.int (-41)], vm := .none },
  { cls := 13, slots := #[.int (-40)], vm := .none },
  { cls := 13, slots := #[.int (-39)], vm := .none },
  { cls := 13, slots := #[.int (-38)], vm := .none },
  { cls := 13, slots := #[.int (-37)], vm := .none },
  { cls := 13, slots := #[.int (-36)], vm := .none },
  { cls := 13, slots := #[.int (-35)], vm := .none },
  { cls := 13, slots := #[.int (-34)], vm := .none },
  { cls := 13, slots := #[.int (-33)], vm := .none },
  { cls := 13, slots := #[.int (-32)], vm := .none },
  { cls := 13, slots := #[.int (-31)], vm := .none },
  { cls := 13, slots := #[.int (-30)], vm := .none },
  { cls := 13, slots := #[.int (-29)], vm := .none },
  { cls := 13, slots := #[.int (-28)], vm := .none },
  { cls := 13, slots := #[.int (-27)], vm := .none },
  { cls := 13, slots := #[.int (-26)], vm := .none },
  { cls := 13, slots := #[.int (-25)], vm := .none },
  { cls := 13, slots := #[.int (-24)], vm := .none },
  { cls := 13, slots := #[.int (-23)], vm := .none },
  { cls := 13, slots := #[.int (-22)], vm := .none },
  { cls := 13, slots := #[.int (-21)], vm := .none },
  { cls := 13, slots := #[.int (-20)], vm := .none },
  { cls := 13, slots := #[.int (-19)], vm := .none },
  { cls := 13, slots := #[.int (-18)], vm := .none },
  { cls := 13, slots := #[.int (-17)], vm := .none },
  { cls := 13, slots := #[.int (-16)], vm := .none },
  { cls := 13, slots := #[.int (-15)], vm := .none },
  { cls := 13, slots := #[.int (-14)], vm := .none },
  { cls := 13, slots := #[.int (-13)], vm := .none },
  { cls := 13, slots := #[.int (-12)], vm := .none },
  { cls := 13, slots := #[.int (-11)], vm := .none },
  { cls := 13, slots := #[.int (-10)], vm := .none },
  { cls := 13, slots := #[.int (-9)], vm := .none },
  { cls := 13, slots := #[.int (-8)], vm := .none },
  { cls := 13, slots := #[.int (-7)], vm := .none },
  { cls := 13, slots := #[.int (-6)], vm := .none },
  { cls := 13, slots := #[.int (-5)], vm := .none },
  { cls := 13, slots := #[.int (-4)], vm := .none },
  { cls := 13, slots := #[.int (-3)], vm := .none },
  { cls := 13, slots := #[.int (-2)], vm := .none },
  { cls := 13, slots := #[.int (-1)], vm := .none },
  { cls := 13, slots := #[.int 0], vm := .none },
  { cls := 13, slots := #[.int 1], vm := .none },
  { cls := 13, slots := #[.int 2], vm := .none },
  { cls := 13, slots := #[.int 3], vm := .none },
  { cls := 13, slots := #[.int 4], vm := .none },
  { cls := 13, slots := #[.int 5], vm := .none },
  { cls := 13, slots := #[.int 6], vm := .none },
  { cls := 13, slots := #[.int 7], vm := .none },
  { cls := 13, slots := #[.int 8], vm := .none },
  { cls := 13, slots := #[.int 9], vm := .none },
  { cls := 13, slots := #[.int 10], vm := .none },
  { cls := 13, slots := #[.int 11], vm := .none },
  { cls := 13, slots := #[.int 12], vm := .none },
  { cls := 13, slots := #[.int 13], vm := .none },
  { cls := 13, slots := #[.int 14], vm := .none },
  { cls := 13, slots := #[.int 15], vm := .none },
  { cls := 13, slots := #[.int 16], vm := .none },
  { cls := 13, slots := #[.int 17], vm := .none },
  { cls := 13, slots := #[.int 18], vm := .none },
  { cls := 13, slots := #[.int 19], vm := .none },
  { cls := 13, slots := #[.int 20], vm := .none },
  { cls := 13, slots := #[.int 21], vm := .none },
  { cls := 13, slots := #[.int 22], vm := .none },
  { cls := 13, slots := #[.int 23], vm := .none },
  { cls := 13, slots := #[.int 24], vm := .none },
  { cls := 13, slots := #[.int 25], vm := .none },
  { cls := 13, slots := #[.int 26], vm := .none },
  { cls := 13, slots := #[.int 27], vm := .none },
  { cls := 13, slots := #[.int 28], vm := .none },
  { cls := 13, slots := #[.int 29], vm := .none },
  { cls := 13, slots := #[.int 30], vm := .none },
  { cls := 13, slots := #[.int 31], vm := .none },
  { cls := 13, slots := #[.int 32], vm := .none },
  { cls := 13, slots := #[.int 33], vm := .none },
  { cls := 13, slots := #[.int 34], vm := .none },
  { cls := 13, slots := #[.int 35], vm := .none },
  { cls := 13, slots := #[.int 36], vm := .none },
  { cls := 13, slots := #[.int 37], vm := .none },
  { cls := 13, slots := #[.int 38], vm := .none },
  { cls := 13, slots := #[.int 39], vm := .none },
  { cls := 13, slots := #[.int 40], vm := .none },
  { cls := 13, slots := #[.int 41], vm := .none },
  { cls := 13, slots := #[.int 42], vm := .none },
  { cls := 13, slots := #[.int 43], vm := .none },
  { cls := 13, slots := #[.int 44], vm := .none },
  { cls := 13, slots := #[.int 45], vm := .none },
  { cls := 13, slots := #[.int 46], vm := .none },
  { cls := 13, slots := #[.int 47], vm := .none },
  { cls := 13, slots := #[.int 48], vm := .none },
  { cls := 13, slots := #[.int 49], vm := .none },
  { cls := 13, slots := #[.int 50], vm := .none },
  { cls := 13, slots := #[.int 51], vm := .none },
  { cls := 13, slots := #[.int 52], vm := .none },
  { cls := 13, slots := #[.int 53], vm := .none },
  { cls := 13, slots := #[.int 54], vm := .none },
  { cls := 13, slots := #[.int 55], vm := .none },
  { cls := 13, slots := #[.int 56], vm := .none },
  { cls := 13, slots := #[.int 57], vm := .none },
  { cls := 13, slots := #[.int 58], vm := .none },
  { cls := 13, slots := #[.int 59], vm := .none },
  { cls := 13, slots := #[.int 60], vm := .none },
  { cls := 13, slots := #[.int 61], vm := .none },
  { cls := 13, slots := #[.int 62], vm := .none },
  { cls := 13, slots := #[.int 63], vm := .none },
  { cls := 13, slots := #[.int 64], vm := .none },
  { cls := 13, slots := #[.int 65], vm := .none },
  { cls := 13, slots := #[.int 66], vm := .none },
  { cls := 13, slots := #[.int 67], vm := .none },
  { cls := 13, slots := #[.int 68], vm := .none },
  { cls := 13, slots := #[.int 69], vm := .none },
  { cls := 13, slots := #[.int 70], vm := .none },
  { cls := 13, slots := #[.int 71], vm := .none },
  { cls := 13, slots := #[.int 72], vm := .none },
  { cls := 13, slots := #[.int 73], vm := .none },
  { cls := 13, slots := #[.int 74], vm := .none },
  { cls := 13, slots := #[.int 75], vm := .none },
  { cls := 13, slots := #[.int 76], vm := .none },
  { cls := 13, slots := #[.int 77], vm := .none },
  { cls := 13, slots := #[.int 78], vm := .none },
  { cls := 13, slots := #[.int 79], vm := .none },
  { cls := 13, slots := #[.int 80], vm := .none },
  { cls := 13, slots := #[.int 81], vm := .none },
  { cls := 13, slots := #[.int 82], vm := .none },
  { cls := 13, slots := #[.int 83], vm := .none },
  { cls := 13, slots := #[.int 84], vm := .none },
  { cls := 13, slots := #[.int 85], vm := .none },
  { cls := 13, slots := #[.int 86], vm := .none },
  { cls := 13, slots := #[.int 87], vm := .none },
  { cls := 13, slots := #[.int 88], vm := .none },
  { cls := 13, slots := #[.int 89], vm := .none },
  { cls := 13, slots := #[.int 90], vm := .none },
  { cls := 13, slots := #[.int 91], vm := .none },
  { cls := 13, slots := #[.int 92], vm := .none },
  { cls := 13, slots := #[.int 93], vm := .none },
  { cls := 13, slots := #[.int 94], vm := .none },
  { cls := 13, slots := #[.int 95], vm := .none },
  { cls := 13, slots := #[.int 96], vm := .none },
  { cls := 13, slots := #[.int 97], vm := .none },
  { cls := 13, slots := #[.int 98], vm := .none },
  { cls := 13, slots := #[.int 99], vm := .none },
  { cls := 13, slots := #[.int 100], vm := .none },
  { cls := 13, slots := #[.int 101], vm := .none },
  { cls := 13, slots := #[.int 102], vm := .none },
  { cls := 13, slots := #[.int 103], vm := .none },
  { cls := 13, slots := #[.int 104], vm := .none },
  { cls := 13, slots := #[.int 105], vm := .none },
  { cls := 13, slots := #[.int 106], vm := .none },
  { cls := 13, slots := #[.int 107], vm := .none },
  { cls := 13, slots := #[.int 108], vm := .none },
  { cls := 13, slots := #[.int 109], vm := .none },
  { cls := 13, slots := #[.int 110], vm := .none },
  { cls := 13, slots := #[.int 111], vm := .none },
  { cls := 13, slots := #[.int 112], vm := .none },
  { cls := 13, slots := #[.int 113], vm := .none },
  { cls := 13, slots := #[.int 114], vm := .none },
  { cls := 13, slots := #[.int 115], vm := .none },
  { cls := 13, slots := #[.int 116], vm := .none },
  { cls := 13, slots := #[.int 117], vm := .none },
  { cls := 13, slots := #[.int 118], vm := .none },
  { cls := 13, slots := #[.int 119], vm := .none },
  { cls := 13, slots := #[.int 120], vm := .none },
  { cls := 13, slots := #[.int 121], vm := .none },
  { cls := 13, slots := #[.int 122], vm := .none },
  { cls := 13, slots := #[.int 123], vm := .none },
  { cls := 13, slots := #[.int 124], vm := .none },
  { cls := 13, slots := #[.int 125], vm := .none },
  { cls := 13, slots := #[.int 126], vm := .none },
  { cls := 13, slots := #[.int 127], vm := .none }]
def classes : Array Class := #[k0, k1, k2, k3, k4, k5, k6, k7, k8, k9, k10, k11, k12, k13, k14, k15, k16, k17, k18, k19, k20, k21, k22]
def interned : List (Array UInt16 × Addr) := []
def slotsUsed : Nat := 527
def theMethod : MethodId := ⟨1, 1⟩
def args0 : Array Value := #[.int 5, .int 9, .int 0]
def aboutOver (below : List Frame) : State where
  vm := { classes := classes, interned := interned.toArray }
  heap := heap
  slotsUsed := slotsUsed
  threads := #[{ frames := .invoking theMethod args0 :: below }]
def below0 : List Frame := [.native { method := ⟨0, 0⟩, args := #[] }]
def about1 : State := aboutOver below0
def p0 : Program := .bare "" "" ""
def e0 : Env := launch0.env 0 0 0
theorem w_frames : about1.frames = Frame.invoking theMethod args0 :: below0 := rfl
set_option maxRecDepth 65536 in
theorem w_args : argsFit about1.vm theMethod args0 = true := by decide +kernel
set_option maxRecDepth 65536 in
theorem w_heap : heapFits about1 = true := by decide +kernel
set_option maxRecDepth 65536 in
theorem w_runnable : about1.curStatus? = some .runnable := by decide +kernel
set_option maxRecDepth 65536 in
theorem w_alone : about1.alone = true := by decide +kernel
set_option maxRecDepth 65536 in
theorem w_named : about1.methodNamed? x = some theMethod := by decide +kernel
set_option maxRecDepth 65536 in
theorem w_hears : about1.hears theMethod below0 = true := by decide +kernel
set_option maxRecDepth 65536 in
theorem w_ripe : about1.ripe theMethod args0 below0 = true := by decide +kernel
theorem w_running : about1.status = .running := rfl
set_option maxRecDepth 65536 in
theorem w_room : about1.hasRoom e0.platform room_1 = true :=
  launch0.hasRoom_least _ room_1 (by decide +kernel) (by decide +kernel) (by decide +kernel) (by decide +kernel) (by decide +kernel) (by decide +kernel)
theorem allAtoms_all (ts : List Jvm.Cond) (a : Array Jvm.Value) (st : Jvm.State) : (allAtoms ts).before a st = ts.all (fun c => c.before a st) := by
  induction ts with
  | nil => rfl
  | cons c t ih =>
    show (Jvm.Cond.and c (allAtoms t)).before a st = _
    rw [Jvm.Cond.before_and, ih, List.all_cons]
def words1 : List Jvm.Cond := Jvm.Cond.code x code maxLocals ret :: tables_1
/-- a 'code' word, met by the world's own term for the bytes: nothing is compared byte by byte -/
theorem code_word {y : MethodName} {bytes : ByteArray} {mx : Nat} {rt : Option FieldType} {a : Array Value} {s : State} {m : MethodId} {meth : Method} {c : Code} (h1 : s.methodNamed? y = some m) (h2 : s.vm.method? m = some meth) (h3 : meth.code = some c) (h4 : c.code = bytes)
    (h5 : (c.maxLocals == mx && c.exceptionTable.isEmpty && decide (c.maxStack ≤ mostOperands) && decide (meth.sig.returnType = rt) && !meth.locks && decide (parseMethodDescriptor y.desc = some meth.sig)) = true) : (Jvm.Cond.code y bytes mx rt).before a s = true := by
  simp only [Bool.and_eq_true, beq_iff_eq, Bool.not_eq_true', decide_eq_true_eq] at h5
  obtain ⟨⟨⟨⟨⟨g1, g2⟩, g3⟩, g4⟩, g5⟩, g6⟩ := h5
  simp [Cond.before, Cond.holds, Cond.value, h1, h2, h3, h4, g1, g2, g3, g4, g5, g6]
def isCode : Jvm.Cond → Bool
  | .code _ _ _ _ => true
  | _ => false
theorem all_split {L : List Jvm.Cond} {P : Jvm.Cond → Bool} (h1 : L.all (fun c => isCode c || P c) = true) (h2 : ∀ c ∈ L.filter isCode, P c = true) : L.all P = true := by
  refine List.all_eq_true.mpr fun c hc => ?_
  have h := List.all_eq_true.mp h1 c hc
  rcases Bool.eq_false_or_eq_true (isCode c) with hi | hi
  · exact h2 c (List.mem_filter.mpr ⟨hc, hi⟩)
  · simpa [hi] using h
set_option maxRecDepth 65536 in
theorem w_c0 : (Jvm.Cond.code x code maxLocals ret).before args0 about1 = true := code_word (m := ⟨1, 1⟩) (meth := k1m1) (c := k1c1) (by decide +kernel) rfl rfl rfl (by decide +kernel)
set_option maxRecDepth 65536 in
theorem w_c1 : (Jvm.Cond.code ({ cls := "com/example/refine/refine/cspm/Value$Int", name := "<init>", desc := "(I)V" } : Jvm.MethodName) prog_100_method_1_code (2 : Nat) (Option.none : Option Jvm.ClassFile.FieldType)).before args0 about1 = true := code_word (m := ⟨3, 0⟩) (meth := k3m0) (c := k3c0) (by decide +kernel) rfl rfl rfl (by decide +kernel)
set_option maxRecDepth 65536 in
theorem w_c2 : (Jvm.Cond.code ({ cls := "com/example/refine/refine/cspm/Value", name := "<init>", desc := "()V" } : Jvm.MethodName) prog_99_method_1_code (1 : Nat) (Option.none : Option Jvm.ClassFile.FieldType)).before args0 about1 = true := code_word (m := ⟨2, 0⟩) (meth := k2m0) (c := k2c0) (by decide +kernel) rfl rfl rfl (by decide +kernel)
set_option maxRecDepth 65536 in
theorem w_c3 : (Jvm.Cond.code ({ cls := "java/lang/Object", name := "<init>", desc := "()V" } : Jvm.MethodName) object_method_1_code (1 : Nat) (Option.none : Option Jvm.ClassFile.FieldType)).before args0 about1 = true := code_word (m := ⟨0, 0⟩) (meth := k0m0) (c := k0c0) (by decide +kernel) rfl rfl rfl (by decide +kernel)
set_option maxRecDepth 65536 in
theorem w_c4 : (Jvm.Cond.code ({ cls := "com/example/refine/refine/cspm/Value$Int", name := "equals", desc := "(Ljava/lang/Object;)Z" } : Jvm.MethodName) prog_100_method_6_code (3 : Nat) (Option.some Jvm.ClassFile.FieldType.boolean)).before args0 about1 = true := code_word (m := ⟨3, 1⟩) (meth := k3m1) (c := k3c1) (by decide +kernel) rfl rfl rfl (by decide +kernel)
set_option maxRecDepth 65536 in
theorem w_c5 : (Jvm.Cond.code ({ cls := "java/lang/String", name := "valueOf", desc := "(C)Ljava/lang/String;" } : Jvm.MethodName) jdk_42_method_139_code (1 : Nat) (Option.some (Jvm.ClassFile.FieldType.object "java/lang/String"))).before args0 about1 = true := code_word (m := ⟨10, 1⟩) (meth := k10m1) (c := k10c1) (by decide +kernel) rfl rfl rfl (by decide +kernel)
set_option maxRecDepth 65536 in
theorem w_c6 : (Jvm.Cond.code ({ cls := "java/lang/StringLatin1", name := "canEncode", desc := "(C)Z" } : Jvm.MethodName) jdk_43_method_3_code (1 : Nat) (Option.some Jvm.ClassFile.FieldType.boolean)).before args0 about1 = true := code_word (m := ⟨11, 1⟩) (meth := k11m1) (c := k11c1) (by decide +kernel) rfl rfl rfl (by decide +kernel)
set_option maxRecDepth 65536 in
theorem w_c7 : (Jvm.Cond.code ({ cls := "java/lang/StringLatin1", name := "toBytes", desc := "(C)[B" } : Jvm.MethodName) jdk_43_method_46_code (1 : Nat) (Option.some (Jvm.ClassFile.FieldType.array Jvm.ClassFile.FieldType.byte))).before args0 about1 = true := code_word (m := ⟨11, 2⟩) (meth := k11m2) (c := k11c2) (by decide +kernel) rfl rfl rfl (by decide +kernel)
set_option maxRecDepth 65536 in
theorem w_c8 : (Jvm.Cond.code ({ cls := "java/lang/String", name := "<init>", desc := "([BB)V" } : Jvm.MethodName) jdk_42_method_151_code (3 : Nat) (Option.none : Option Jvm.ClassFile.FieldType)).before args0 about1 = true := code_word (m := ⟨10, 2⟩) (meth := k10m2) (c := k10c2) (by decide +kernel) rfl rfl rfl (by decide +kernel)
set_option maxRecDepth 65536 in
theorem w_c9 : (Jvm.Cond.code ({ cls := "com/example/refine/refine/cspm/Value$Text", name := "<init>", desc := "(Ljava/lang/String;)V" } : Jvm.MethodName) prog_101_method_1_code (2 : Nat) (Option.none : Option Jvm.ClassFile.FieldType)).before args0 about1 = true := code_word (m := ⟨4, 0⟩) (meth := k4m0) (c := k4c0) (by decide +kernel) rfl rfl rfl (by decide +kernel)
set_option maxRecDepth 65536 in
theorem w_c10 : (Jvm.Cond.code ({ cls := "java/lang/Integer", name := "valueOf", desc := "(I)Ljava/lang/Integer;" } : Jvm.MethodName) jdk_33_method_22_code (1 : Nat) (Option.some (Jvm.ClassFile.FieldType.object "java/lang/Integer"))).before args0 about1 = true := code_word (m := ⟨13, 0⟩) (meth := k13m0) (c := k13c0) (by decide +kernel) rfl rfl rfl (by decide +kernel)
set_option maxRecDepth 65536 in
theorem w_c11 : (Jvm.Cond.code ({ cls := "java/lang/Integer", name := "<init>", desc := "(I)V" } : Jvm.MethodName) jdk_33_method_23_code (2 : Nat) (Option.none : Option Jvm.ClassFile.FieldType)).before args0 about1 = true := code_word (m := ⟨13, 1⟩) (meth := k13m1) (c := k13c1) (by decide +kernel) rfl rfl rfl (by decide +kernel)
set_option maxRecDepth 65536 in
theorem w_c12 : (Jvm.Cond.code ({ cls := "java/lang/Number", name := "<init>", desc := "()V" } : Jvm.MethodName) jdk_18_method_1_code (1 : Nat) (Option.none : Option Jvm.ClassFile.FieldType)).before args0 about1 = true := code_word (m := ⟨12, 0⟩) (meth := k12m0) (c := k12c0) (by decide +kernel) rfl rfl rfl (by decide +kernel)
def codes1 : List Jvm.Cond := [Jvm.Cond.code x code maxLocals ret, Jvm.Cond.code ({ cls := "com/example/refine/refine/cspm/Value$Int", name := "<init>", desc := "(I)V" } : Jvm.MethodName) prog_100_method_1_code (2 : Nat) (Option.none : Option Jvm.ClassFile.FieldType), Jvm.Cond.code ({ cls := "com/example/refine/refine/cspm/Value", name := "<init>", desc := "()V" } : Jvm.MethodName) prog_99_method_1_code (1 : Nat) (Option.none : Option Jvm.ClassFile.FieldType), Jvm.Cond.code ({ cls := "java/lang/Object", name := "<init>", desc := "()V" } : Jvm.MethodName) object_method_1_code (1 : Nat) (Option.none : Option Jvm.ClassFile.FieldType), Jvm.Cond.code ({ cls := "com/example/refine/refine/cspm/Value$Int", name := "equals", desc := "(Ljava/lang/Object;)Z" } : Jvm.MethodName) prog_100_method_6_code (3 : Nat) (Option.some Jvm.ClassFile.FieldType.boolean), Jvm.Cond.code ({ cls := "java/lang/String", name := "valueOf", desc := "(C)Ljava/lang/String;" } : Jvm.MethodName) jdk_42_method_139_code (1 : Nat) (Option.some (Jvm.ClassFile.FieldType.object "java/lang/String")), Jvm.Cond.code ({ cls := "java/lang/StringLatin1", name := "canEncode", desc := "(C)Z" } : Jvm.MethodName) jdk_43_method_3_code (1 : Nat) (Option.some Jvm.ClassFile.FieldType.boolean), Jvm.Cond.code ({ cls := "java/lang/StringLatin1", name := "toBytes", desc := "(C)[B" } : Jvm.MethodName) jdk_43_method_46_code (1 : Nat) (Option.some (Jvm.ClassFile.FieldType.array Jvm.ClassFile.FieldType.byte)), Jvm.Cond.code ({ cls := "java/lang/String", name := "<init>", desc := "([BB)V" } : Jvm.MethodName) jdk_42_method_151_code (3 : Nat) (Option.none : Option Jvm.ClassFile.FieldType), Jvm.Cond.code ({ cls := "com/example/refine/refine/cspm/Value$Text", name := "<init>", desc := "(Ljava/lang/String;)V" } : Jvm.MethodName) prog_101_method_1_code (2 : Nat) (Option.none : Option Jvm.ClassFile.FieldType), Jvm.Cond.code ({ cls := "java/lang/Integer", name := "valueOf", desc := "(I)Ljava/lang/Integer;" } : Jvm.MethodName) jdk_33_method_22_code (1 : Nat) (Option.some (Jvm.ClassFile.FieldType.object "java/lang/Integer")), Jvm.Cond.code ({ cls := "java/lang/Integer", name := "<init>", desc := "(I)V" } : Jvm.MethodName) jdk_33_method_23_code (2 : Nat) (Option.none : Option Jvm.ClassFile.FieldType), Jvm.Cond.code ({ cls := "java/lang/Number", name := "<init>", desc := "()V" } : Jvm.MethodName) jdk_18_method_1_code (1 : Nat) (Option.none : Option Jvm.ClassFile.FieldType)]
set_option maxRecDepth 65536 in
theorem codes_eq : words1.filter isCode = codes1 := rfl
theorem w_codes : ∀ c ∈ words1.filter isCode, c.before args0 about1 = true := by
  rw [codes_eq]
  intro c hc
  simp only [codes1, List.mem_cons, List.not_mem_nil, or_false] at hc
  rcases hc with rfl | rfl | rfl | rfl | rfl | rfl | rfl | rfl | rfl | rfl | rfl | rfl | rfl
  · exact w_c0
  · exact w_c1
  · exact w_c2
  · exact w_c3
  · exact w_c4
  · exact w_c5
  · exact w_c6
  · exact w_c7
  · exact w_c8
  · exact w_c9
  · exact w_c10
  · exact w_c11
  · exact w_c12
set_option maxRecDepth 65536 in
theorem w_t1 : (words1.take 24).all (fun c => isCode c || c.before args0 about1) = true := by decide +kernel
set_option maxRecDepth 65536 in
theorem w_t2 : ((words1.drop 24).take 24).all (fun c => isCode c || c.before args0 about1) = true := by decide +kernel
set_option maxRecDepth 65536 in
theorem w_t3 : (((words1.drop 24).drop 24).take 24).all (fun c => isCode c || c.before args0 about1) = true := by decide +kernel
set_option maxRecDepth 65536 in
theorem w_t4 : (((words1.drop 24).drop 24).drop 24).all (fun c => isCode c || c.before args0 about1) = true := by decide +kernel
theorem w_tables : (allAtoms (Jvm.Cond.code x code maxLocals ret :: tables_1)).before args0 about1 = true := by
  rw [allAtoms_all]
  show words1.all (fun c => c.before args0 about1) = true
  refine all_split ?_ w_codes
  rw [← List.take_append_drop 24 words1, List.all_append, w_t1, ← List.take_append_drop 24 (words1.drop 24), List.all_append, w_t2, ← List.take_append_drop 24 ((words1.drop 24).drop 24), List.all_append, w_t3, w_t4]
  rfl
set_option maxRecDepth 65536 in
theorem w_rest : rest_1_c.before args0 about1 = true := by decide +kernel
set_option maxRecDepth 65536 in
theorem w_case : (Jvm.Cond.and given_1 narrow_1).before args0 about1 = true := by decide +kernel
theorem w_applies : (headSpec (Jvm.Cond.code x code maxLocals ret :: tables_1) room_1).applies x e0.platform about1 = true :=
  (Spec.applies_iff w_frames).mpr ⟨w_running, w_runnable, w_alone, w_named, w_hears, w_ripe, w_room, w_tables⟩
theorem atStart : AtStart classFile x code maxLocals ret World_1 tables_1 room_1 Calls_1 rest_1 Pre_1 launch0 p0 e0 about1 theMethod args0 below0 :=
  ⟨lists_1, trivial, launch0.admits_env _ _ _, launch0.least_env, fairChoices_fair.cas, fairChoices_fair.clock, w_frames, w_args, w_heap, w_applies, trivial, w_rest, w_case⟩
end start1
theorem witness_1 : WitnessClaimed_1 := ⟨start1.p0, start1.e0, start1.about1, start1.theMethod, start1.args0, start1.below0, start1.atStart⟩
end Jvm.Pilot.@@N@@
