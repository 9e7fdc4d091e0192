import JvmDerived
import JvmDerived.Pilot.@@N@@Statement
import JvmDerived.Pilot.@@N@@Code
set_option linter.unusedVariables false
set_option linter.unusedSimpArgs false
@@BLOCK:NumsL.lean.txt@@
namespace Jvm.Pilot.@@N@@
open Jvm Jvm.ClassFile Sem Op Lib Jvm.Free Jvm.Stand Jvm.LawKit Jvm.RoadKit Bundle Jvm.Pilot.@@N@@.Jvm.D
theorem d1_0 : decode jdk_30_method_1_code 0 = .ok (.aload_n 0, 1) := by decide +kernel
theorem d1_1 : decode jdk_30_method_1_code 1 = .ok (.invokespecial 1, 3) := by decide +kernel
theorem d1_4 : decode jdk_30_method_1_code 4 = .ok (.return_, 1) := by decide +kernel
theorem pn_0 : plainName "java/lang/Record" = true := by first | (simp [plainName, overriddenIn]; done) | decide +kernel
theorem ef_1 (mM : MethodId) (x0 : Addr) : entryFrame mM #[(.ref x0)] 1 = mkF mM 0 #[.val (.ref x0)] [] := by first | (simp [entryFrame, mkF, argsToLocals, Value.category]; done) | rfl
def Q1 (Z : State) (a : Addr) (h0 : Heap) (n0 : Nat) (v : Option Value) (h : Heap) (L : List Loc) : Prop := v = none ∧ Fr n0 L ∧ h = h0
set_option maxRecDepth 65536 in
set_option maxHeartbeats 40000000 in
theorem rm1 (l : Launch) (Z : State) (a0 : Array Value) (hw : ∀ d ∈ tables_1, d.before a0 Z = true) (ws : List Jvm.Cond) (a : Addr) (h0 : Heap) (n0 : Nat) (Z0 : n0 ≤ h0.size) :
    MetFree l (⟨"java/lang/Record", "<init>", "()V"⟩ : MethodName) (head1 (Jvm.Cond.code (⟨"java/lang/Record", "<init>", "()V"⟩ : MethodName) jdk_30_method_1_code 1 none :: ws) ({ frames := 1, cells := 0, slots := 0, locals := 12 } : Room)) (fun aA uU => aA = #[(.ref a)] ∧ Z.Warmed39 uU.vm ∧ uU.heap = h0) (fun _ _ _ _ _ => True) (fun _ uU oO uU' => ∃ vV lL, oO = .returned vV ∧ Q1 Z a h0 n0 vV uU'.heap lL ∧ FrameEnd uU oO uU' lL ({ frames := 1, cells := 0, slots := 0, locals := 12 } : Room).cells ({ frames := 1, cells := 0, slots := 0, locals := 12 } : Room).slots) := by
  refine MetFree.of_bodySF (plainFor_of_name pn_0) hisR ?_
  intro pP eE sS mM args below meth cC s₁ Bd hml0 hP hK
  obtain ⟨rfl, hZ, hh⟩ := hP
  have hx := Bd.exec
  have hby := Bd.bytes
  have hml : cC.maxLocals = 1 := hml0
  have hown : sS.vm.findClass "java/lang/Record" = some mM.cls := findClass_of_methodNamed Bd.named
  have hnm := (name_of_methodNamed Bd.named Bd.method).1
  have X0 : Stand pP l eE ({ frames := 1, cells := 0, slots := 0, locals := 12 } : Room) sS mM #[(.ref a)] below meth cC s₁ [] 0 0 := Stand.of_body Bd
  have e0 : s₁.heap = h0 := by rw [← hh, Bd.state]; rfl
  have N0 := Fr.nil n0
  have pre0 : ∀ tg, Steps pP.tables eE below (s₁.setTop (mkF mM 0 #[.val (.ref a)] [])) tg → Steps pP.tables eE below (s₁.setTop (entryFrame mM #[(.ref a)] 1)) tg := fun tg kg => castTop (ef_1 mM a) kg
  have pr1 : ∀ tg, Steps pP.tables eE below (s₁.setTop (mkF mM 1 #[.val (.ref a)] [(.ref a)])) tg → Steps pP.tables eE below (s₁.setTop (entryFrame mM #[(.ref a)] 1)) tg := fun tg kg => pre0 _ (by
    show Steps pP.tables eE below (s₁.setTop (mkF mM 0 #[.val (.ref a)] [])) _
    refine XS.aloadN X0.here hx rfl (hb hby d1_0) rfl rfl ?_
    exact kg)
  obtain ⟨T2, X2, e2, st2⟩ := initO X0 hx hZ hown (hw _ (List.mem_of_getElem? (i := 13) rfl)) (hw _ (List.mem_of_getElem? (i := 14) rfl)) (hw _ (List.mem_of_getElem? (i := 15) rfl)) e0 (g := (mkF mM 1 #[.val (.ref a)] [(.ref a)])) rfl (by rw [hml]; rfl) rfl (hb hby d1_1) (by decide) (W := 0) (by show 2 * 0 + _ ≤ _; exact Nat.le_of_eq rfl) (by decide)
  have pr3 : ∀ tg, Steps pP.tables eE below (T2.setTop (mkF mM 4 #[.val (.ref a)] [])) tg → Steps pP.tables eE below (s₁.setTop (entryFrame mM #[(.ref a)] 1)) tg := fun tg kg => pr1 _ (st2 _ kg)
  obtain ⟨fs, hr, hrun, hended, hW, hsame⟩ := X2.leave (v := none) (fun _ => rfl)
  refine ⟨_, _, pr3 _ (X2.returnOut hx Bd.returns (hb hby d1_4) hr), hrun, hended, _, _, rfl, ?_, ⟨_, rfl⟩, hW, hsame.mono (by decide) (by decide)⟩
  show Q1 Z a h0 n0 _ T2.heap _
  rw [e2]
  exact ⟨rfl, N0, rfl⟩
theorem d2_0 : decode prog_42_method_3_code 0 = .ok (.iload_n 0, 1) := by decide +kernel
theorem d2_1 : decode prog_42_method_3_code 1 = .ok (.ifCond .lt 9, 3) := by decide +kernel
theorem d2_4 : decode prog_42_method_3_code 4 = .ok (.iload_n 0, 1) := by decide +kernel
theorem d2_5 : decode prog_42_method_3_code 5 = .ok (.ldc 1, 2) := by decide +kernel
theorem d2_7 : decode prog_42_method_3_code 7 = .ok (.if_icmp .le 17, 3) := by decide +kernel
theorem d2_24 : decode prog_42_method_3_code 24 = .ok (.iload_n 0, 1) := by decide +kernel
theorem d2_25 : decode prog_42_method_3_code 25 = .ok (.ireturn, 1) := by decide +kernel
theorem pn_1 : plainName "com/example/thawline/thawline/stun/StunAttribute" = true := by first | (simp [plainName, overriddenIn]; done) | decide +kernel
theorem ef_2 (mM : MethodId) (x0 : Int32) : entryFrame mM #[(.int x0)] 1 = mkF mM 0 #[.val (.int x0)] [] := by first | (simp [entryFrame, mkF, argsToLocals, Value.category]; done) | rfl
def Q2 (Z : State) (p : Int32) (h0 : Heap) (n0 : Nat) (v : Option Value) (h : Heap) (L : List Loc) : Prop := v = some (.int p) ∧ Fr n0 L ∧ h = h0
set_option maxRecDepth 65536 in
set_option maxHeartbeats 40000000 in
theorem rm2 (l : Launch) (Z : State) (a0 : Array Value) (hw : ∀ d ∈ tables_1, d.before a0 Z = true) (ws : List Jvm.Cond) (p : Int32) (h0 : Heap) (n0 : Nat) (Z0 : n0 ≤ h0.size) (h1 : ¬ p < (0 : Int32)) (h2 : ¬ (65535 : Int32) < p) :
    MetFree l (⟨"com/example/thawline/thawline/stun/StunAttribute", "requireType", "(I)I"⟩ : MethodName) (head1 (Jvm.Cond.code (⟨"com/example/thawline/thawline/stun/StunAttribute", "requireType", "(I)I"⟩ : MethodName) prog_42_method_3_code 1 (some .int) :: ws) ({ frames := 0, cells := 0, slots := 0, locals := 0 } : Room)) (fun aA uU => aA = #[(.int p)] ∧ Z.Warmed39 uU.vm ∧ uU.heap = h0) (fun _ _ _ _ _ => True) (fun _ uU oO uU' => ∃ vV lL, oO = .returned vV ∧ Q2 Z p h0 n0 vV uU'.heap lL ∧ FrameEnd uU oO uU' lL ({ frames := 0, cells := 0, slots := 0, locals := 0 } : Room).cells ({ frames := 0, cells := 0, slots := 0, locals := 0 } : Room).slots) := by
  refine MetFree.of_bodySF (plainFor_of_name pn_1) hisR ?_
  intro pP eE sS mM args below meth cC s₁ Bd hml0 hP hK
  obtain ⟨rfl, hZ, hh⟩ := hP
  have hx := Bd.exec
  have hby := Bd.bytes
  have hml : cC.maxLocals = 1 := hml0
  have hown : sS.vm.findClass "com/example/thawline/thawline/stun/StunAttribute" = some mM.cls := findClass_of_methodNamed Bd.named
  have hnm := (name_of_methodNamed Bd.named Bd.method).1
  have X0 : Stand pP l eE ({ frames := 0, cells := 0, slots := 0, locals := 0 } : Room) sS mM #[(.int p)] below meth cC s₁ [] 0 0 := Stand.of_body Bd
  have e0 : s₁.heap = h0 := by rw [← hh, Bd.state]; rfl
  have N0 := Fr.nil n0
  have pre0 : ∀ tg, Steps pP.tables eE below (s₁.setTop (mkF mM 0 #[.val (.int p)] [])) tg → Steps pP.tables eE below (s₁.setTop (entryFrame mM #[(.int p)] 1)) tg := fun tg kg => castTop (ef_2 mM p) kg
  have pr1 : ∀ tg, Steps pP.tables eE below (s₁.setTop (mkF mM 25 #[.val (.int p)] [(.int p)])) tg → Steps pP.tables eE below (s₁.setTop (entryFrame mM #[(.int p)] 1)) tg := fun tg kg => pre0 _ (by
    show Steps pP.tables eE below (s₁.setTop (mkF mM 0 #[.val (.int p)] [])) _
    refine XS.iloadN X0.here hx rfl (hb hby d2_0) rfl ?_
    show Steps pP.tables eE below (s₁.setTop (mkF mM 1 #[.val (.int p)] [(.int p)])) _
    refine XS.ifNo X0.here hx rfl (hb hby d2_1) rfl ((if0 _ _).trans (flt h1).1) ?_
    show Steps pP.tables eE below (s₁.setTop (mkF mM 4 #[.val (.int p)] [])) _
    refine XS.iloadN X0.here hx rfl (hb hby d2_4) rfl ?_
    show Steps pP.tables eE below (s₁.setTop (mkF mM 5 #[.val (.int p)] [(.int p)])) _
    refine Jvm.Stand.ldcI X0 hx hown (v := (65535 : Int32)) (mvT hZ (hw _ (List.mem_of_getElem? (i := 20) rfl))) rfl (hb hby d2_5) ?_
    show Steps pP.tables eE below (s₁.setTop (mkF mM 7 #[.val (.int p)] [(.int (65535 : Int32)), (.int p)])) _
    refine XS.icmpYes X0.here hx rfl (pc0 := 7) (pc' := 24) rfl (hb hby d2_7) rfl (flt h2).2.2.2 (by decide) (by decide) ?_
    show Steps pP.tables eE below (s₁.setTop (mkF mM 24 #[.val (.int p)] [])) _
    refine XS.iloadN X0.here hx rfl (hb hby d2_24) rfl ?_
    exact kg)
  obtain ⟨fs, hr, hrun, hended, hW, hsame⟩ := X0.leave (v := some (.int p)) (fun h => by rw [Bd.returns] at h; cases h)
  refine ⟨_, _, pr1 _ (retOut X0 hx (t := .int) Bd.returns rfl (Or.inl ⟨rfl, Or.inl rfl, _, rfl⟩) (hb hby d2_25) hr), hrun, hended, _, _, rfl, ?_, ⟨_, rfl⟩, hW, hsame.mono (by decide) (by decide)⟩
  show Q2 Z p h0 n0 _ s₁.heap _
  rw [e0]
  exact ⟨rfl, N0, rfl⟩
theorem d3_0 : decode jdk_65_method_121_code 0 = .ok (.iload_n 1, 1) := by decide +kernel
theorem d3_1 : decode jdk_65_method_121_code 1 = .ok (.aload_n 0, 1) := by decide +kernel
theorem d3_2 : decode jdk_65_method_121_code 2 = .ok (.arraylength, 1) := by decide +kernel
theorem d3_3 : decode jdk_65_method_121_code 3 = .ok (.if_icmp .ne 11, 3) := by decide +kernel
theorem d3_6 : decode jdk_65_method_121_code 6 = .ok (.aload_n 0, 1) := by decide +kernel
theorem d3_7 : decode jdk_65_method_121_code 7 = .ok (.invokevirtual 310, 3) := by decide +kernel
theorem d3_10 : decode jdk_65_method_121_code 10 = .ok (.checkcast 311, 3) := by decide +kernel
theorem d3_13 : decode jdk_65_method_121_code 13 = .ok (.areturn, 1) := by decide +kernel
theorem pn_2 : plainName "java/util/Arrays" = true := by first | (simp [plainName, overriddenIn]; done) | decide +kernel
theorem ef_3 (mM : MethodId) (x0 : Addr) (x1 : Int32) : entryFrame mM #[(.ref x0), (.int x1)] 3 = mkF mM 0 #[.val (.ref x0), .val (.int x1), .unset] [] := by first | (simp [entryFrame, mkF, argsToLocals, Value.category]; done) | rfl
def Q3 (Z : State) (x : Addr) (kx : ClassId) (u : Int32) (h0 : Heap) (n0 : Nat) (v : Option Value) (h : Heap) (L : List Loc) : Prop := ∃ b : Addr, v = some (.ref b) ∧ Fr n0 L ∧ Keep h0 h []
set_option maxRecDepth 65536 in
set_option maxHeartbeats 40000000 in
theorem rm3 (l : Launch) (Z : State) (a0 : Array Value) (hw : ∀ d ∈ tables_1, d.before a0 Z = true) (ws : List Jvm.Cond) (x : Addr) (kx : ClassId) (u : Int32) (h0 : Heap) (n0 : Nat) (Z0 : n0 ≤ h0.size) (V_x : Arv Z h0 x kx .byte (1 : Int32) [.int u] (.int (0 : Int32))) (E_x : Exa Z h0 x "[B") :
    MetFree l (⟨"java/util/Arrays", "copyOf", "([BI)[B"⟩ : MethodName) (head1 (Jvm.Cond.code (⟨"java/util/Arrays", "copyOf", "([BI)[B"⟩ : MethodName) jdk_65_method_121_code 3 (some (.array .byte)) :: ws) ({ frames := 1, cells := 1, slots := 1, locals := 14 } : Room)) (fun aA uU => aA = #[(.ref x), (.int (1 : Int32))] ∧ Z.Warmed39 uU.vm ∧ uU.heap = h0) (fun _ _ _ _ _ => True) (fun _ uU oO uU' => ∃ vV lL, oO = .returned vV ∧ Q3 Z x kx u h0 n0 vV uU'.heap lL ∧ FrameEnd uU oO uU' lL ({ frames := 1, cells := 1, slots := 1, locals := 14 } : Room).cells ({ frames := 1, cells := 1, slots := 1, locals := 14 } : Room).slots) := by
  refine MetFree.of_bodySF (plainFor_of_name pn_2) hisR ?_
  intro pP eE sS mM args below meth cC s₁ Bd hml0 hP hK
  obtain ⟨rfl, hZ, hh⟩ := hP
  have hx := Bd.exec
  have hby := Bd.bytes
  have hml : cC.maxLocals = 3 := hml0
  have hown : sS.vm.findClass "java/util/Arrays" = some mM.cls := findClass_of_methodNamed Bd.named
  have hnm := (name_of_methodNamed Bd.named Bd.method).1
  have X0 : Stand pP l eE ({ frames := 1, cells := 1, slots := 1, locals := 14 } : Room) sS mM #[(.ref x), (.int (1 : Int32))] below meth cC s₁ [] 0 0 := Stand.of_body Bd
  have e0 : s₁.heap = h0 := by rw [← hh, Bd.state]; rfl
  have N0 := Fr.nil n0
  have pre0 : ∀ tg, Steps pP.tables eE below (s₁.setTop (mkF mM 0 #[.val (.ref x), .val (.int (1 : Int32)), .unset] [])) tg → Steps pP.tables eE below (s₁.setTop (entryFrame mM #[(.ref x), (.int (1 : Int32))] 3)) tg := fun tg kg => castTop (ef_3 mM x (1 : Int32)) kg
  obtain ⟨cla1, Ara1, qa1, Sa1, Ma1, Ha1, Ga1⟩ := id V_x
  have pr2 : ∀ tg, Steps pP.tables eE below (s₁.setTop (mkF mM 7 #[.val (.ref x), .val (.int (1 : Int32)), .unset] [(.ref x)])) tg → Steps pP.tables eE below (s₁.setTop (entryFrame mM #[(.ref x), (.int (1 : Int32))] 3)) tg := fun tg kg => pre0 _ (by
    show Steps pP.tables eE below (s₁.setTop (mkF mM 0 #[.val (.ref x), .val (.int (1 : Int32)), .unset] [])) _
    refine XS.iloadN X0.here hx rfl (hb hby d3_0) rfl ?_
    show Steps pP.tables eE below (s₁.setTop (mkF mM 1 #[.val (.ref x), .val (.int (1 : Int32)), .unset] [(.int (1 : Int32))])) _
    refine XS.aloadN X0.here hx rfl (hb hby d3_1) rfl rfl ?_
    show Steps pP.tables eE below (s₁.setTop (mkF mM 2 #[.val (.ref x), .val (.int (1 : Int32)), .unset] [(.ref x), (.int (1 : Int32))])) _
    refine X0.arraylength hx (by rw [e0]; exact Ara1.1) (State.isArrayOf_alike hZ.alike Ara1.2.1) (g := (mkF mM 2 #[.val (.ref x), .val (.int (1 : Int32)), .unset] [(.ref x), (.int (1 : Int32))])) rfl rfl (hb hby d3_2) _ ?_
    rw [len_of Sa1 Ma1]
    show Steps pP.tables eE below (s₁.setTop (mkF mM 3 #[.val (.ref x), .val (.int (1 : Int32)), .unset] [(.int (1 : Int32)), (.int (1 : Int32))])) _
    refine XS.icmpNo X0.here hx rfl (hb hby d3_3) rfl (teq (by decide)).2 ?_
    show Steps pP.tables eE below (s₁.setTop (mkF mM 6 #[.val (.ref x), .val (.int (1 : Int32)), .unset] [])) _
    refine XS.aloadN X0.here hx rfl (hb hby d3_6) rfl rfl ?_
    exact kg)
  obtain ⟨T3, h3, X3, e3, E3, A3, Ex3, st3⟩ := cloneH X0 hx hZ hown (hw _ (List.mem_of_getElem? (i := 27) rfl)) (hw _ (List.mem_of_getElem? (i := 28) rfl)) (hw _ (List.mem_of_getElem? (i := 32) rfl)) (hw _ (List.mem_of_getElem? (i := 30) rfl)) (hw _ (List.mem_of_getElem? (i := 31) rfl)) (hw _ (List.mem_of_getElem? (i := 33) rfl)) e0 (Arv.arh V_x) E_x (g := (mkF mM 7 #[.val (.ref x), .val (.int (1 : Int32)), .unset] [(.ref x)])) rfl (by rw [hml]; rfl) rfl (hb hby d3_7) (by decide) (W := 0) (cap := 1) (by show 2 * 0 + _ ≤ _; exact Nat.le_of_eq rfl) (by decide) (by decide) (by decide) (by decide)
  obtain ⟨b3, g3⟩ : ∃ z, z = (h0).size := ⟨_, rfl⟩
  rw [← g3] at A3 Ex3 st3
  have ne4 : x ≠ b3 := Nat.ne_of_lt (Nat.lt_of_lt_of_le (V_x).lt (Nat.le_of_eq g3.symm))
  have gn5 : n0 ≤ b3 := Nat.le_trans Z0 (Nat.le_of_eq g3.symm)
  have gs6 : h0.size ≤ b3 := Nat.le_trans (Keep.refl h0 []).1 (Nat.le_of_eq g3.symm)
  have V3 : Arv Z h3 b3 kx .byte (1 : Int32) [(.int u)] (.int (0 : Int32)) := A3
  have pr7 : ∀ tg, Steps pP.tables eE below (T3.setTop (mkF mM 10 #[.val (.ref x), .val (.int (1 : Int32)), .unset] [(.ref b3)])) tg → Steps pP.tables eE below (s₁.setTop (entryFrame mM #[(.ref x), (.int (1 : Int32))] 3)) tg := fun tg kg => pr2 _ (st3 _ kg)
  obtain ⟨T8, X8, e8, st8⟩ := castY X3 hx hZ hown (hw _ (List.mem_of_getElem? (i := 34) rfl)) e3 (Ins.self Ex3) (g := (mkF mM 10 #[.val (.ref x), .val (.int (1 : Int32)), .unset] [(.ref b3)])) rfl rfl (hb hby d3_10)
  have pr9 : ∀ tg, Steps pP.tables eE below (T8.setTop (mkF mM 13 #[.val (.ref x), .val (.int (1 : Int32)), .unset] [(.ref b3)])) tg → Steps pP.tables eE below (s₁.setTop (entryFrame mM #[(.ref x), (.int (1 : Int32))] 3)) tg := fun tg kg => pr7 _ (st8 _ kg)
  have c10 := (Keep.ext (Keep.refl h0 []) E3)
  obtain ⟨fs, hr, hrun, hended, hW, hsame⟩ := X8.leave (v := some (.ref b3)) (fun h => by rw [Bd.returns] at h; cases h)
  refine ⟨_, _, pr9 _ (retOut X8 hx (t := (.array .byte)) Bd.returns rfl (Or.inr (Or.inr (Or.inr (Or.inr ⟨rfl, rfl, rfl⟩)))) (hb hby d3_13) hr), hrun, hended, _, _, rfl, ?_, ⟨_, rfl⟩, hW, hsame.mono (by decide) (by decide)⟩
  show Q3 Z x kx u h0 n0 _ T8.heap _
  rw [e8]
  exact ⟨_, rfl, N0, c10⟩
theorem pd_0 : parseMethodDescriptor "()V" = some ⟨[], none⟩ := by decide +kernel
theorem pd_1 : parseMethodDescriptor "(I)I" = some ⟨[.int], some .int⟩ := by decide +kernel
theorem pd_2 : parseMethodDescriptor "([BI)[B" = some ⟨[(.array .byte), .int], some (.array .byte)⟩ := by decide +kernel
theorem d4_0 : decode prog_57_method_1_code 0 = .ok (.aload_n 0, 1) := by decide +kernel
theorem d4_1 : decode prog_57_method_1_code 1 = .ok (.invokespecial 1, 3) := by decide +kernel
theorem d4_4 : decode prog_57_method_1_code 4 = .ok (.aload_n 0, 1) := by decide +kernel
theorem d4_5 : decode prog_57_method_1_code 5 = .ok (.iload_n 1, 1) := by decide +kernel
theorem d4_6 : decode prog_57_method_1_code 6 = .ok (.invokestatic 7, 3) := by decide +kernel
theorem d4_9 : decode prog_57_method_1_code 9 = .ok (.putfield 13, 3) := by decide +kernel
theorem d4_12 : decode prog_57_method_1_code 12 = .ok (.aload_n 0, 1) := by decide +kernel
theorem d4_13 : decode prog_57_method_1_code 13 = .ok (.aload_n 2, 1) := by decide +kernel
theorem d4_14 : decode prog_57_method_1_code 14 = .ok (.aload_n 2, 1) := by decide +kernel
theorem d4_15 : decode prog_57_method_1_code 15 = .ok (.arraylength, 1) := by decide +kernel
theorem d4_16 : decode prog_57_method_1_code 16 = .ok (.invokestatic 19, 3) := by decide +kernel
theorem d4_19 : decode prog_57_method_1_code 19 = .ok (.putfield 25, 3) := by decide +kernel
theorem d4_22 : decode prog_57_method_1_code 22 = .ok (.return_, 1) := by decide +kernel
theorem pn_3 : plainName "com/example/thawline/thawline/stun/StunAttribute$Unknown" = true := by first | (simp [plainName, overriddenIn]; done) | decide +kernel
theorem ef_4 (mM : MethodId) (x0 : Addr) (x1 : Int32) (x2 : Addr) : entryFrame mM #[(.ref x0), (.int x1), (.ref x2)] 3 = mkF mM 0 #[.val (.ref x0), .val (.int x1), .val (.ref x2)] [] := by first | (simp [entryFrame, mkF, argsToLocals, Value.category]; done) | rfl
def Q4 (Z : State) (a : Addr) (p : Int32) (x : Addr) (kx : ClassId) (u : Int32) (h0 : Heap) (n0 : Nat) (v : Option Value) (h : Heap) (L : List Loc) : Prop := v = none ∧ Fr n0 L ∧ Keep h0 h [a] ∧ Exa Z h a "com/example/thawline/thawline/stun/StunAttribute$Unknown" ∧ Fld Z h a "com/example/thawline/thawline/stun/StunAttribute$Unknown" "type" "I" (.int p)
set_option maxRecDepth 65536 in
set_option maxHeartbeats 40000000 in
theorem rm4 (l : Launch) (Z : State) (a0 : Array Value) (hw : ∀ d ∈ tables_1, d.before a0 Z = true) (ws : List Jvm.Cond) (a : Addr) (p : Int32) (x : Addr) (kx : ClassId) (u : Int32) (h0 : Heap) (n0 : Nat) (Z0 : n0 ≤ h0.size) (E_a : Exa Z h0 a "com/example/thawline/thawline/stun/StunAttribute$Unknown") (g_a : n0 ≤ a) (F_type : Fld Z h0 a "com/example/thawline/thawline/stun/StunAttribute$Unknown" "type" "I" (.int (0 : Int32))) (F_value : Fld Z h0 a "com/example/thawline/thawline/stun/StunAttribute$Unknown" "value" "[B" .null) (V_x : Arv Z h0 x kx .byte (1 : Int32) [.int u] (.int (0 : Int32))) (E_x : Exa Z h0 x "[B") (hax : a ≠ x) (h1 : ¬ p < (0 : Int32)) (h2 : ¬ (65535 : Int32) < p) :
    MetFree l (⟨"com/example/thawline/thawline/stun/StunAttribute$Unknown", "<init>", "(I[B)V"⟩ : MethodName) (head1 (Jvm.Cond.code (⟨"com/example/thawline/thawline/stun/StunAttribute$Unknown", "<init>", "(I[B)V"⟩ : MethodName) prog_57_method_1_code 3 none :: ws) ({ frames := 2, cells := 1, slots := 1, locals := 29 } : Room)) (fun aA uU => aA = #[(.ref a), (.int p), (.ref x)] ∧ Z.Warmed39 uU.vm ∧ uU.heap = h0) (fun _ _ _ _ _ => True) (fun _ uU oO uU' => ∃ vV lL, oO = .returned vV ∧ Q4 Z a p x kx u h0 n0 vV uU'.heap lL ∧ FrameEnd uU oO uU' lL ({ frames := 2, cells := 1, slots := 1, locals := 29 } : Room).cells ({ frames := 2, cells := 1, slots := 1, locals := 29 } : Room).slots) := by
  refine MetFree.of_bodySF (plainFor_of_name pn_3) hisR ?_
  intro pP eE sS mM args below meth cC s₁ Bd hml0 hP hK
  obtain ⟨rfl, hZ, hh⟩ := hP
  have hx := Bd.exec
  have hby := Bd.bytes
  have hml : cC.maxLocals = 3 := hml0
  have hown : sS.vm.findClass "com/example/thawline/thawline/stun/StunAttribute$Unknown" = some mM.cls := findClass_of_methodNamed Bd.named
  have hnm := (name_of_methodNamed Bd.named Bd.method).1
  have X0 : Stand pP l eE ({ frames := 2, cells := 1, slots := 1, locals := 29 } : Room) sS mM #[(.ref a), (.int p), (.ref x)] below meth cC s₁ [] 0 0 := Stand.of_body Bd
  have e0 : s₁.heap = h0 := by rw [← hh, Bd.state]; rfl
  have N0 := Fr.nil n0
  have pre0 : ∀ tg, Steps pP.tables eE below (s₁.setTop (mkF mM 0 #[.val (.ref a), .val (.int p), .val (.ref x)] [])) tg → Steps pP.tables eE below (s₁.setTop (entryFrame mM #[(.ref a), (.int p), (.ref x)] 3)) tg := fun tg kg => castTop (ef_4 mM a p x) kg
  have pr1 : ∀ tg, Steps pP.tables eE below (s₁.setTop (mkF mM 1 #[.val (.ref a), .val (.int p), .val (.ref x)] [(.ref a)])) tg → Steps pP.tables eE below (s₁.setTop (entryFrame mM #[(.ref a), (.int p), (.ref x)] 3)) tg := fun tg kg => pre0 _ (by
    show Steps pP.tables eE below (s₁.setTop (mkF mM 0 #[.val (.ref a), .val (.int p), .val (.ref x)] [])) _
    refine XS.aloadN X0.here hx rfl (hb hby d4_0) rfl rfl ?_
    exact kg)
  obtain ⟨_, _, ⟨T2, L2, kk2, nn2⟩, -, X2, ⟨Lc2, hQ2, l2, y2, z2⟩, st2⟩ := X0.specialBack hx (y := (⟨"java/lang/Record", "<init>", "()V"⟩ : MethodName)) rfl hown (mvT hZ (hw _ (List.mem_of_getElem? (i := 8) rfl))) (mvT hZ (hw _ (List.mem_of_getElem? (i := 9) rfl))) (mvT hZ (hw _ (List.mem_of_getElem? (i := 12) rfl))) (by decide) (backOf (W := 0) (rm1 l Z a0 hw [] a h0 n0 Z0) hZ (hw _ (List.mem_of_getElem? (i := 12) rfl)) (hw _ (List.mem_of_getElem? (i := 11) rfl)) (by decide) (by decide)) (g := (mkF mM 1 #[.val (.ref a), .val (.int p), .val (.ref x)] [(.ref a)])) rfl (by rw [hml]; rfl) (Steps.refl _) (a := a) (argsL := []) (rest := []) (lenOf pd_0 rfl) rfl (by show 2 * 0 + _ ≤ _; exact Nat.le_of_eq rfl) (hb hby d4_1) (fun _ _ => ⟨rfl, e0, (by decide : 0 + 0 ≤ _), (by decide : 0 + 0 ≤ _)⟩)
  dsimp only [Pt.U, Pt.locs, Pt.cells, Pt.slots] at X2 l2 y2 z2 st2 hQ2
  subst l2 y2 z2
  obtain ⟨rfl, Nq2, e2⟩ := hQ2
  have N2 := Fr.app N0 Nq2
  have pr3 : ∀ tg, Steps pP.tables eE below (T2.setTop (mkF mM 4 #[.val (.ref a), .val (.int p), .val (.ref x)] [])) tg → Steps pP.tables eE below (s₁.setTop (entryFrame mM #[(.ref a), (.int p), (.ref x)] 3)) tg := fun tg kg => pr1 _ (st2.trans kg)
  have pr4 : ∀ tg, Steps pP.tables eE below (T2.setTop (mkF mM 6 #[.val (.ref a), .val (.int p), .val (.ref x)] [(.int p), (.ref a)])) tg → Steps pP.tables eE below (s₁.setTop (entryFrame mM #[(.ref a), (.int p), (.ref x)] 3)) tg := fun tg kg => pr3 _ (by
    show Steps pP.tables eE below (T2.setTop (mkF mM 4 #[.val (.ref a), .val (.int p), .val (.ref x)] [])) _
    refine XS.aloadN X2.here hx rfl (hb hby d4_4) rfl rfl ?_
    show Steps pP.tables eE below (T2.setTop (mkF mM 5 #[.val (.ref a), .val (.int p), .val (.ref x)] [(.ref a)])) _
    refine XS.iloadN X2.here hx rfl (hb hby d4_5) rfl ?_
    exact kg)
  obtain ⟨_, _, ⟨T5, L5, kk5, nn5⟩, -, X5, ⟨Lc5, hQ5, l5, y5, z5⟩, st5⟩ := callSN X2 hx (y := (⟨"com/example/thawline/thawline/stun/StunAttribute", "requireType", "(I)I"⟩ : MethodName)) hown (Cond.methodLinkNest_wide hZ (hw _ (List.mem_of_getElem? (i := 16) rfl)) :) (mvT hZ (hw _ (List.mem_of_getElem? (i := 17) rfl))) (mvT hZ (hw _ (List.mem_of_getElem? (i := 18) rfl))) (mvT hZ (hw _ (List.mem_of_getElem? (i := 19) rfl))) (by decide) (backOf (W := 1) (rm2 l Z a0 hw [] p h0 n0 Z0 h1 h2) hZ (hw _ (List.mem_of_getElem? (i := 19) rfl)) (hw _ (List.mem_of_getElem? (i := 18) rfl)) (by decide) (by decide)) (g := (mkF mM 6 #[.val (.ref a), .val (.int p), .val (.ref x)] [(.int p), (.ref a)])) rfl (by rw [hml]; rfl) (argsL := [(.int p)]) (rest := [(.ref a)]) (lenOf pd_1 rfl) rfl (by show 2 * 0 + _ ≤ _; exact Nat.le_of_eq rfl) (hb hby d4_6) (fun _ _ => ⟨rfl, e2, (by decide : 0 + 0 ≤ _), (by decide : 0 + 0 ≤ _)⟩)
  dsimp only [Pt.U, Pt.locs, Pt.cells, Pt.slots] at X5 l5 y5 z5 st5 hQ5
  subst l5 y5 z5
  obtain ⟨rfl, Nq5, e5⟩ := hQ5
  have N5 := Fr.app N2 Nq5
  have pr6 : ∀ tg, Steps pP.tables eE below (T5.setTop (mkF mM 9 #[.val (.ref a), .val (.int p), .val (.ref x)] [(.int p), (.ref a)])) tg → Steps pP.tables eE below (s₁.setTop (entryFrame mM #[(.ref a), (.int p), (.ref x)] 3)) tg := fun tg kg => pr4 _ (st5.trans kg)
  obtain ⟨T7, h7, X7, e7, W7, st7⟩ := putF X5 hx hZ hown (host := "") (Or.inl (hw _ (List.mem_of_getElem? (i := 21) rfl))) Via.refl e5 F_type E_a (Or.inr ⟨(hw _ (List.mem_of_getElem? (i := 22) rfl)), rfl, hnm⟩) (hw _ (List.mem_of_getElem? (i := 3) rfl)) (ty := .int) (by decide) rfl rfl (g := (mkF mM 9 #[.val (.ref a), .val (.int p), .val (.ref x)] [(.int p), (.ref a)])) rfl rfl (hb hby d4_9)
  have Fw7 := Fld.same W7 F_type
  have N7 := Fr.snoc X7 N5 g_a
  have pr8 : ∀ tg, Steps pP.tables eE below (T7.setTop (mkF mM 12 #[.val (.ref a), .val (.int p), .val (.ref x)] [])) tg → Steps pP.tables eE below (s₁.setTop (entryFrame mM #[(.ref a), (.int p), (.ref x)] 3)) tg := fun tg kg => pr6 _ (st7 _ kg)
  have c9 := (Arv.other V_x W7 (Ne.symm hax))
  obtain ⟨cla10, Ara10, qa10, Sa10, Ma10, Ha10, Ga10⟩ := id c9
  have c11 := (Exa.wr W7 E_x)
  have pr12 : ∀ tg, Steps pP.tables eE below (T7.setTop (mkF mM 16 #[.val (.ref a), .val (.int p), .val (.ref x)] [(.int (1 : Int32)), (.ref x), (.ref a)])) tg → Steps pP.tables eE below (s₁.setTop (entryFrame mM #[(.ref a), (.int p), (.ref x)] 3)) tg := fun tg kg => pr8 _ (by
    show Steps pP.tables eE below (T7.setTop (mkF mM 12 #[.val (.ref a), .val (.int p), .val (.ref x)] [])) _
    refine XS.aloadN X7.here hx rfl (hb hby d4_12) rfl rfl ?_
    show Steps pP.tables eE below (T7.setTop (mkF mM 13 #[.val (.ref a), .val (.int p), .val (.ref x)] [(.ref a)])) _
    refine XS.aloadN X7.here hx rfl (hb hby d4_13) rfl rfl ?_
    show Steps pP.tables eE below (T7.setTop (mkF mM 14 #[.val (.ref a), .val (.int p), .val (.ref x)] [(.ref x), (.ref a)])) _
    refine XS.aloadN X7.here hx rfl (hb hby d4_14) rfl rfl ?_
    show Steps pP.tables eE below (T7.setTop (mkF mM 15 #[.val (.ref a), .val (.int p), .val (.ref x)] [(.ref x), (.ref x), (.ref a)])) _
    refine X7.arraylength hx (by rw [e7]; exact Ara10.1) (State.isArrayOf_alike hZ.alike Ara10.2.1) (g := (mkF mM 15 #[.val (.ref a), .val (.int p), .val (.ref x)] [(.ref x), (.ref x), (.ref a)])) rfl rfl (hb hby d4_15) _ ?_
    rw [len_of Sa10 Ma10]
    exact kg)
  have c13 := (Nat.le_trans Z0 (Keep.of_wr W7).1)
  obtain ⟨_, _, ⟨T14, L14, kk14, nn14⟩, -, X14, ⟨Lc14, hQ14, l14, y14, z14⟩, st14⟩ := Jvm.LawKit.callS X7 hx (y := (⟨"java/util/Arrays", "copyOf", "([BI)[B"⟩ : MethodName)) hown (mvT hZ (hw _ (List.mem_of_getElem? (i := 23) rfl))) (mvT hZ (hw _ (List.mem_of_getElem? (i := 24) rfl))) (mvT hZ (hw _ (List.mem_of_getElem? (i := 25) rfl))) (mvT hZ (hw _ (List.mem_of_getElem? (i := 26) rfl))) (by decide) (backOf (W := 1) (rm3 l Z a0 hw [] x kx u h7 n0 c13 c9 c11) hZ (hw _ (List.mem_of_getElem? (i := 26) rfl)) (hw _ (List.mem_of_getElem? (i := 25) rfl)) (by decide) (by decide)) (g := (mkF mM 16 #[.val (.ref a), .val (.int p), .val (.ref x)] [(.int (1 : Int32)), (.ref x), (.ref a)])) rfl (by rw [hml]; rfl) (argsL := [(.ref x), (.int (1 : Int32))]) (rest := [(.ref a)]) (lenOf pd_2 rfl) rfl (by show 2 * 0 + _ ≤ _; exact Nat.le_of_eq rfl) (hb hby d4_16) (fun _ _ => ⟨rfl, e7, (by decide : 0 + 1 ≤ _), (by decide : 0 + 1 ≤ _)⟩)
  dsimp only [Pt.U, Pt.locs, Pt.cells, Pt.slots] at X14 l14 y14 z14 st14 hQ14
  subst l14 y14 z14
  obtain ⟨bc14, rfl, Nq14, K14⟩ := hQ14
  have N14 := Fr.app N7 Nq14
  have pr15 : ∀ tg, Steps pP.tables eE below (T14.setTop (mkF mM 19 #[.val (.ref a), .val (.int p), .val (.ref x)] [(.ref bc14), (.ref a)])) tg → Steps pP.tables eE below (s₁.setTop (entryFrame mM #[(.ref a), (.int p), (.ref x)] 3)) tg := fun tg kg => pr12 _ (st14 _ kg)
  have c16 := (Fld.keep (Fld.other W7 F_value (Or.inr (slot_ne (C := "com/example/thawline/thawline/stun/StunAttribute$Unknown") (Or.inr (hw _ (List.mem_of_getElem? (i := 37) rfl))) (Or.inr (hw _ (List.mem_of_getElem? (i := 22) rfl))) (by decide) (t := (.array .byte)) (t' := .int) (by decide) (by decide)))) K14 nin0)
  have c17 := (Exa.keep (Exa.wr W7 E_a) K14)
  obtain ⟨T18, h18, X18, e18, W18, st18⟩ := putF X14 hx hZ hown (host := "") (Or.inl (hw _ (List.mem_of_getElem? (i := 36) rfl))) Via.refl rfl c16 c17 (Or.inr ⟨(hw _ (List.mem_of_getElem? (i := 37) rfl)), rfl, hnm⟩) (hw _ (List.mem_of_getElem? (i := 3) rfl)) (ty := (.array .byte)) (by decide) rfl rfl (g := (mkF mM 19 #[.val (.ref a), .val (.int p), .val (.ref x)] [(.ref bc14), (.ref a)])) rfl rfl (hb hby d4_19)
  have Fw18 := Fld.same W18 c16
  have N18 := Fr.snoc X18 N14 g_a
  have pr19 : ∀ tg, Steps pP.tables eE below (T18.setTop (mkF mM 22 #[.val (.ref a), .val (.int p), .val (.ref x)] [])) tg → Steps pP.tables eE below (s₁.setTop (entryFrame mM #[(.ref a), (.int p), (.ref x)] 3)) tg := fun tg kg => pr15 _ (st18 _ kg)
  have c20 := (Keep.wr (Keep.trans (Keep.wr (Keep.refl h0 [a]) W7 (Or.inl (List.mem_of_getElem? (i := 0) rfl))) K14 all0) W18 (Or.inl (List.mem_of_getElem? (i := 0) rfl)))
  have c21 := (Exa.wr W18 c17)
  have c22 := (Fld.other W18 (Fld.keep Fw7 K14 nin0) (Or.inr (slot_ne (C := "com/example/thawline/thawline/stun/StunAttribute$Unknown") (Or.inr (hw _ (List.mem_of_getElem? (i := 22) rfl))) (Or.inr (hw _ (List.mem_of_getElem? (i := 37) rfl))) (by decide) (t := .int) (t' := (.array .byte)) (by decide) (by decide))))
  obtain ⟨fs, hr, hrun, hended, hW, hsame⟩ := X18.leave (v := none) (fun _ => rfl)
  refine ⟨_, _, pr19 _ (X18.returnOut hx Bd.returns (hb hby d4_22) hr), hrun, hended, _, _, rfl, ?_, ⟨_, rfl⟩, hW, hsame.mono (by decide) (by decide)⟩
  show Q4 Z a p x kx u h0 n0 _ T18.heap _
  rw [e18]
  exact ⟨rfl, N18, c20, c21, c22⟩
theorem d5_0 : decode prog_57_method_3_code 0 = .ok (.aload_n 0, 1) := by decide +kernel
theorem d5_1 : decode prog_57_method_3_code 1 = .ok (.getfield 13, 3) := by decide +kernel
theorem d5_4 : decode prog_57_method_3_code 4 = .ok (.ldc 29, 2) := by decide +kernel
theorem d5_6 : decode prog_57_method_3_code 6 = .ok (.if_icmp .ge 7, 3) := by decide +kernel
theorem d5_9 : decode prog_57_method_3_code 9 = .ok (.iconst 1, 1) := by decide +kernel
theorem d5_10 : decode prog_57_method_3_code 10 = .ok (.goto 4, 3) := by decide +kernel
theorem d5_13 : decode prog_57_method_3_code 13 = .ok (.iconst 0, 1) := by decide +kernel
theorem d5_14 : decode prog_57_method_3_code 14 = .ok (.ireturn, 1) := by decide +kernel
theorem ef_5 (mM : MethodId) (x0 : Addr) : entryFrame mM #[(.ref x0)] 1 = mkF mM 0 #[.val (.ref x0)] [] := by first | (simp [entryFrame, mkF, argsToLocals, Value.category]; done) | rfl
def Q5 (Z : State) (a : Addr) (p : Int32) (h0 : Heap) (n0 : Nat) (v : Option Value) (h : Heap) (L : List Loc) : Prop := ∃ r : Int32, v = some (.int r) ∧ r = (if p < (32768 : Int32) then (1 : Int32) else (0 : Int32)) ∧ Fr n0 L ∧ h = h0
set_option maxRecDepth 65536 in
set_option maxHeartbeats 40000000 in
theorem rm5 (l : Launch) (Z : State) (a0 : Array Value) (hw : ∀ d ∈ tables_1, d.before a0 Z = true) (ws : List Jvm.Cond) (a : Addr) (p : Int32) (h0 : Heap) (n0 : Nat) (Z0 : n0 ≤ h0.size) (E_a : Exa Z h0 a "com/example/thawline/thawline/stun/StunAttribute$Unknown") (F_type : Fld Z h0 a "com/example/thawline/thawline/stun/StunAttribute$Unknown" "type" "I" (.int p)) :
    MetFree l (⟨"com/example/thawline/thawline/stun/StunAttribute$Unknown", "comprehensionRequired", "()Z"⟩ : MethodName) (head1 (Jvm.Cond.code (⟨"com/example/thawline/thawline/stun/StunAttribute$Unknown", "comprehensionRequired", "()Z"⟩ : MethodName) prog_57_method_3_code 1 (some .boolean) :: ws) ({ frames := 0, cells := 0, slots := 0, locals := 0 } : Room)) (fun aA uU => aA = #[(.ref a)] ∧ Z.Warmed39 uU.vm ∧ uU.heap = h0) (fun _ _ _ _ _ => True) (fun _ uU oO uU' => ∃ vV lL, oO = .returned vV ∧ Q5 Z a p h0 n0 vV uU'.heap lL ∧ FrameEnd uU oO uU' lL ({ frames := 0, cells := 0, slots := 0, locals := 0 } : Room).cells ({ frames := 0, cells := 0, slots := 0, locals := 0 } : Room).slots) := by
  refine MetFree.of_bodySF (plainFor_of_name pn_3) hisR ?_
  intro pP eE sS mM args below meth cC s₁ Bd hml0 hP hK
  obtain ⟨rfl, hZ, hh⟩ := hP
  have hx := Bd.exec
  have hby := Bd.bytes
  have hml : cC.maxLocals = 1 := hml0
  have hown : sS.vm.findClass "com/example/thawline/thawline/stun/StunAttribute$Unknown" = some mM.cls := findClass_of_methodNamed Bd.named
  have hnm := (name_of_methodNamed Bd.named Bd.method).1
  have X0 : Stand pP l eE ({ frames := 0, cells := 0, slots := 0, locals := 0 } : Room) sS mM #[(.ref a)] below meth cC s₁ [] 0 0 := Stand.of_body Bd
  have e0 : s₁.heap = h0 := by rw [← hh, Bd.state]; rfl
  have N0 := Fr.nil n0
  have pre0 : ∀ tg, Steps pP.tables eE below (s₁.setTop (mkF mM 0 #[.val (.ref a)] [])) tg → Steps pP.tables eE below (s₁.setTop (entryFrame mM #[(.ref a)] 1)) tg := fun tg kg => castTop (ef_5 mM a) kg
  have pr1 : ∀ tg, Steps pP.tables eE below (s₁.setTop (mkF mM 1 #[.val (.ref a)] [(.ref a)])) tg → Steps pP.tables eE below (s₁.setTop (entryFrame mM #[(.ref a)] 1)) tg := fun tg kg => pre0 _ (by
    show Steps pP.tables eE below (s₁.setTop (mkF mM 0 #[.val (.ref a)] [])) _
    refine XS.aloadN X0.here hx rfl (hb hby d5_0) rfl rfl ?_
    exact kg)
  obtain ⟨T2, X2, e2, st2⟩ := getF X0 hx hZ hown (host := "") (Or.inl (hw _ (List.mem_of_getElem? (i := 21) rfl))) Via.refl e0 F_type (g := (mkF mM 1 #[.val (.ref a)] [(.ref a)])) rfl rfl (hb hby d5_1)
  have pr3 : ∀ tg, Steps pP.tables eE below (T2.setTop (mkF mM 4 #[.val (.ref a)] [(.int p)])) tg → Steps pP.tables eE below (s₁.setTop (entryFrame mM #[(.ref a)] 1)) tg := fun tg kg => pr1 _ (st2 _ kg)
  have pr5 : ∀ tg, Steps pP.tables eE below (T2.setTop (mkF mM 6 #[.val (.ref a)] [(.int (32768 : Int32)), (.int p)])) tg → Steps pP.tables eE below (s₁.setTop (entryFrame mM #[(.ref a)] 1)) tg := fun tg kg => pr3 _ (by
    show Steps pP.tables eE below (T2.setTop (mkF mM 4 #[.val (.ref a)] [(.int p)])) _
    refine Jvm.Stand.ldcI X2 hx hown (v := (32768 : Int32)) (mvT hZ (hw _ (List.mem_of_getElem? (i := 44) rfl))) rfl (hb hby d5_4) ?_
    exact kg)
  by_cases hc6_4 : p < (32768 : Int32)
  ·
    have pr6 : ∀ tg, Steps pP.tables eE below (T2.setTop (mkF mM 14 #[.val (.ref a)] [(.int (1 : Int32))])) tg → Steps pP.tables eE below (s₁.setTop (entryFrame mM #[(.ref a)] 1)) tg := fun tg kg => pr5 _ (by
      show Steps pP.tables eE below (T2.setTop (mkF mM 6 #[.val (.ref a)] [(.int (32768 : Int32)), (.int p)])) _
      refine XS.icmpNo X2.here hx rfl (hb hby d5_6) rfl (tlt hc6_4).2.1 ?_
      show Steps pP.tables eE below (T2.setTop (mkF mM 9 #[.val (.ref a)] [])) _
      refine XS.iconst X2.here hx rfl (hb hby d5_9) ?_
      show Steps pP.tables eE below (T2.setTop (mkF mM 10 #[.val (.ref a)] [(.int (1 : Int32))])) _
      refine XS.goto X2.here hx rfl (pc0 := 10) (pc' := 14) rfl (hb hby d5_10) (by decide) (by decide) ?_
      exact kg)
    obtain ⟨fs, hr, hrun, hended, hW, hsame⟩ := X2.leave (v := some (.int (1 : Int32))) (fun h => by rw [Bd.returns] at h; cases h)
    refine ⟨_, _, pr6 _ (retOut X2 hx (t := .boolean) Bd.returns rfl (Or.inl ⟨rfl, Or.inr (Or.inl rfl), _, rfl⟩) (hb hby d5_14) hr), hrun, hended, _, _, rfl, ?_, ⟨_, rfl⟩, hW, hsame.mono (by decide) (by decide)⟩
    show Q5 Z a p h0 n0 _ T2.heap _
    rw [e2]
    exact ⟨_, rfl, by rw [if_pos hc6_4], N0, rfl⟩
  ·
    have pr7 : ∀ tg, Steps pP.tables eE below (T2.setTop (mkF mM 14 #[.val (.ref a)] [(.int (0 : Int32))])) tg → Steps pP.tables eE below (s₁.setTop (entryFrame mM #[(.ref a)] 1)) tg := fun tg kg => pr5 _ (by
      show Steps pP.tables eE below (T2.setTop (mkF mM 6 #[.val (.ref a)] [(.int (32768 : Int32)), (.int p)])) _
      refine XS.icmpYes X2.here hx rfl (pc0 := 6) (pc' := 13) rfl (hb hby d5_6) rfl (flt hc6_4).2.1 (by decide) (by decide) ?_
      show Steps pP.tables eE below (T2.setTop (mkF mM 13 #[.val (.ref a)] [])) _
      refine XS.iconst X2.here hx rfl (hb hby d5_13) ?_
      exact kg)
    obtain ⟨fs, hr, hrun, hended, hW, hsame⟩ := X2.leave (v := some (.int (0 : Int32))) (fun h => by rw [Bd.returns] at h; cases h)
    refine ⟨_, _, pr7 _ (retOut X2 hx (t := .boolean) Bd.returns rfl (Or.inl ⟨rfl, Or.inr (Or.inl rfl), _, rfl⟩) (hb hby d5_14) hr), hrun, hended, _, _, rfl, ?_, ⟨_, rfl⟩, hW, hsame.mono (by decide) (by decide)⟩
    show Q5 Z a p h0 n0 _ T2.heap _
    rw [e2]
    exact ⟨_, rfl, by rw [if_neg hc6_4], N0, rfl⟩
theorem d6_0 : decode prog_57_method_9_code 0 = .ok (.aload_n 0, 1) := by decide +kernel
theorem d6_1 : decode prog_57_method_9_code 1 = .ok (.getfield 13, 3) := by decide +kernel
theorem d6_4 : decode prog_57_method_9_code 4 = .ok (.ireturn, 1) := by decide +kernel
theorem ef_6 (mM : MethodId) (x0 : Addr) : entryFrame mM #[(.ref x0)] 1 = mkF mM 0 #[.val (.ref x0)] [] := by first | (simp [entryFrame, mkF, argsToLocals, Value.category]; done) | rfl
def Q6 (Z : State) (a : Addr) (p : Int32) (h0 : Heap) (n0 : Nat) (v : Option Value) (h : Heap) (L : List Loc) : Prop := v = some (.int p) ∧ Fr n0 L ∧ h = h0
set_option maxRecDepth 65536 in
set_option maxHeartbeats 40000000 in
theorem rm6 (l : Launch) (Z : State) (a0 : Array Value) (hw : ∀ d ∈ tables_1, d.before a0 Z = true) (ws : List Jvm.Cond) (a : Addr) (p : Int32) (h0 : Heap) (n0 : Nat) (Z0 : n0 ≤ h0.size) (E_a : Exa Z h0 a "com/example/thawline/thawline/stun/StunAttribute$Unknown") (F_type : Fld Z h0 a "com/example/thawline/thawline/stun/StunAttribute$Unknown" "type" "I" (.int p)) :
    MetFree l (⟨"com/example/thawline/thawline/stun/StunAttribute$Unknown", "type", "()I"⟩ : MethodName) (head1 (Jvm.Cond.code (⟨"com/example/thawline/thawline/stun/StunAttribute$Unknown", "type", "()I"⟩ : MethodName) prog_57_method_9_code 1 (some .int) :: ws) ({ frames := 0, cells := 0, slots := 0, locals := 0 } : Room)) (fun aA uU => aA = #[(.ref a)] ∧ Z.Warmed39 uU.vm ∧ uU.heap = h0) (fun _ _ _ _ _ => True) (fun _ uU oO uU' => ∃ vV lL, oO = .returned vV ∧ Q6 Z a p h0 n0 vV uU'.heap lL ∧ FrameEnd uU oO uU' lL ({ frames := 0, cells := 0, slots := 0, locals := 0 } : Room).cells ({ frames := 0, cells := 0, slots := 0, locals := 0 } : Room).slots) := by
  refine MetFree.of_bodySF (plainFor_of_name pn_3) hisR ?_
  intro pP eE sS mM args below meth cC s₁ Bd hml0 hP hK
  obtain ⟨rfl, hZ, hh⟩ := hP
  have hx := Bd.exec
  have hby := Bd.bytes
  have hml : cC.maxLocals = 1 := hml0
  have hown : sS.vm.findClass "com/example/thawline/thawline/stun/StunAttribute$Unknown" = some mM.cls := findClass_of_methodNamed Bd.named
  have hnm := (name_of_methodNamed Bd.named Bd.method).1
  have X0 : Stand pP l eE ({ frames := 0, cells := 0, slots := 0, locals := 0 } : Room) sS mM #[(.ref a)] below meth cC s₁ [] 0 0 := Stand.of_body Bd
  have e0 : s₁.heap = h0 := by rw [← hh, Bd.state]; rfl
  have N0 := Fr.nil n0
  have pre0 : ∀ tg, Steps pP.tables eE below (s₁.setTop (mkF mM 0 #[.val (.ref a)] [])) tg → Steps pP.tables eE below (s₁.setTop (entryFrame mM #[(.ref a)] 1)) tg := fun tg kg => castTop (ef_6 mM a) kg
  have pr1 : ∀ tg, Steps pP.tables eE below (s₁.setTop (mkF mM 1 #[.val (.ref a)] [(.ref a)])) tg → Steps pP.tables eE below (s₁.setTop (entryFrame mM #[(.ref a)] 1)) tg := fun tg kg => pre0 _ (by
    show Steps pP.tables eE below (s₁.setTop (mkF mM 0 #[.val (.ref a)] [])) _
    refine XS.aloadN X0.here hx rfl (hb hby d6_0) rfl rfl ?_
    exact kg)
  obtain ⟨T2, X2, e2, st2⟩ := getF X0 hx hZ hown (host := "") (Or.inl (hw _ (List.mem_of_getElem? (i := 21) rfl))) Via.refl e0 F_type (g := (mkF mM 1 #[.val (.ref a)] [(.ref a)])) rfl rfl (hb hby d6_1)
  have pr3 : ∀ tg, Steps pP.tables eE below (T2.setTop (mkF mM 4 #[.val (.ref a)] [(.int p)])) tg → Steps pP.tables eE below (s₁.setTop (entryFrame mM #[(.ref a)] 1)) tg := fun tg kg => pr1 _ (st2 _ kg)
  obtain ⟨fs, hr, hrun, hended, hW, hsame⟩ := X2.leave (v := some (.int p)) (fun h => by rw [Bd.returns] at h; cases h)
  refine ⟨_, _, pr3 _ (retOut X2 hx (t := .int) Bd.returns rfl (Or.inl ⟨rfl, Or.inl rfl, _, rfl⟩) (hb hby d6_4) hr), hrun, hended, _, _, rfl, ?_, ⟨_, rfl⟩, hW, hsame.mono (by decide) (by decide)⟩
  show Q6 Z a p h0 n0 _ T2.heap _
  rw [e2]
  exact ⟨rfl, N0, rfl⟩
theorem own_m (t : Int32) : 0 ≤ (t &&& (65535 : Int32)).toInt ∧ (t &&& (65535 : Int32)).toInt < 65536 := by
  have e1 : (t &&& 65535).toInt = t.toInt % 2 ^ 16 := Jvm.Kit.i32_mask t 65535 (k := 16) (by decide) (by decide)
  omega
theorem own_bit {z : Int32} (h1 : 0 ≤ z.toInt) (h2 : z.toInt < 65536) : z &&& (32768 : Int32) = (0 : Int32) ↔ z < (32768 : Int32) := by
  have c : (32768 : Int32).toInt = 32768 := rfl
  rw [Int32.lt_iff_toInt_lt, c]
  have e7 : (z &&& 32767).toInt = z.toInt % 2 ^ 15 := Jvm.Kit.i32_mask z 32767 (k := 15) (by decide) (by decide)
  have e8 : (z &&& 65535).toInt = z.toInt % 2 ^ 16 := Jvm.Kit.i32_mask z 65535 (k := 16) (by decide) (by decide)
  have e9 : z &&& 65535 = z := Int32.toInt_inj.mp (by omega)
  constructor
  · intro h
    have d : (65535 : Int32) = 32767 ||| 32768 := by decide
    have q0 : z &&& (32767 ||| 32768) = (z &&& 32767) ||| (z &&& 32768) := Int32.toBitVec_inj.mp BitVec.and_or_distrib_left
    have q : z = z &&& 32767 := by
      rw [← d, e9, h] at q0
      exact q0.trans (by simp)
    rw [q, e7]; omega
  · intro h
    have q : z &&& 32767 = z := Int32.toInt_inj.mp (by omega)
    rw [← q, Int32.and_assoc]
    have d : (32767 : Int32) &&& 32768 = 0 := by decide
    rw [d]; simp
theorem pd_3 : parseMethodDescriptor "(I[B)V" = some ⟨[.int, (.array .byte)], none⟩ := by decide +kernel
theorem pd_4 : parseMethodDescriptor "()Z" = some ⟨[], some .boolean⟩ := by decide +kernel
theorem pd_5 : parseMethodDescriptor "()I" = some ⟨[], some .int⟩ := by decide +kernel
theorem pn_4 : plainName "com/example/thawline/thawline/stun/UnknownComprehensionRequiredPinLaw" = true := by first | (simp [plainName, overriddenIn]; done) | decide +kernel
theorem ef_0 (mM : MethodId) (x0 : Int32) (x1 : Int32) : entryFrame mM #[(.int x0), (.int x1)] maxLocals = mkF mM 0 #[.val (.int x0), .val (.int x1), .unset, .unset, .unset, .unset] [] := by first | (simp [entryFrame, mkF, argsToLocals, Value.category, maxLocals]; done) | rfl
def Q0 (Z : State) (p1 : Int32) (p2 : Int32) (h0 : Heap) (n0 : Nat) (v : Option Value) (h : Heap) (L : List Loc) : Prop := v = some (.int (1 : Int32)) ∧ Fr n0 L
set_option maxRecDepth 65536 in
set_option maxHeartbeats 40000000 in
theorem rm0 (l : Launch) (Z : State) (a0 : Array Value) (hw : ∀ d ∈ tables_1, d.before a0 Z = true) (ws : List Jvm.Cond) (p1 : Int32) (p2 : Int32) (h0 : Heap) (n0 : Nat) (Z0 : n0 ≤ h0.size) :
    MetFree l x (head1 (Jvm.Cond.code x code maxLocals ret :: ws) room_1) (fun aA uU => aA = #[(.int p1), (.int p2)] ∧ Z.Warmed39 uU.vm ∧ uU.heap = h0) (fun _ _ _ _ _ => True) (fun _ uU oO uU' => ∃ vV lL, oO = .returned vV ∧ Q0 Z p1 p2 h0 n0 vV uU'.heap lL ∧ FrameEnd uU oO uU' lL room_1.cells room_1.slots) := by
  refine MetFree.of_bodySF (plainFor_of_name pn_4) hisR ?_
  intro pP eE sS mM args below meth cC s₁ Bd hml0 hP hK
  obtain ⟨rfl, hZ, hh⟩ := hP
  have hx := Bd.exec
  have hby := Bd.bytes
  have hml : cC.maxLocals = 6 := hml0
  have hown : sS.vm.findClass "com/example/thawline/thawline/stun/UnknownComprehensionRequiredPinLaw" = some mM.cls := findClass_of_methodNamed Bd.named
  have hnm := (name_of_methodNamed Bd.named Bd.method).1
  have X0 : Stand pP l eE room_1 sS mM #[(.int p1), (.int p2)] below meth cC s₁ [] 0 0 := Stand.of_body Bd
  have e0 : s₁.heap = h0 := by rw [← hh, Bd.state]; rfl
  have N0 := Fr.nil n0
  have pre0 : ∀ tg, Steps pP.tables eE below (s₁.setTop (mkF mM 0 #[.val (.int p1), .val (.int p2), .unset, .unset, .unset, .unset] [])) tg → Steps pP.tables eE below (s₁.setTop (entryFrame mM #[(.int p1), (.int p2)] maxLocals)) tg := fun tg kg => castTop (ef_0 mM p1 p2) kg
  have pr1 : ∀ tg, Steps pP.tables eE below (s₁.setTop (mkF mM 5 #[.val (.int p1), .val (.int p2), .val (.int (p1 &&& (65535 : Int32))), .unset, .unset, .unset] [])) tg → Steps pP.tables eE below (s₁.setTop (entryFrame mM #[(.int p1), (.int p2)] maxLocals)) tg := fun tg kg => pre0 _ (by
    show Steps pP.tables eE below (s₁.setTop (mkF mM 0 #[.val (.int p1), .val (.int p2), .unset, .unset, .unset, .unset] [])) _
    refine XS.iloadN X0.here hx rfl (hb hby at_0) rfl ?_
    show Steps pP.tables eE below (s₁.setTop (mkF mM 1 #[.val (.int p1), .val (.int p2), .unset, .unset, .unset, .unset] [(.int p1)])) _
    refine Jvm.Stand.ldcI X0 hx hown (v := (65535 : Int32)) (mvT hZ (hw _ (List.mem_of_getElem? (i := 0) rfl))) rfl (hb hby at_1) ?_
    show Steps pP.tables eE below (s₁.setTop (mkF mM 3 #[.val (.int p1), .val (.int p2), .unset, .unset, .unset, .unset] [(.int (65535 : Int32)), (.int p1)])) _
    refine XS.iand X0.here hx rfl (hb hby at_3) rfl ?_
    show Steps pP.tables eE below (s₁.setTop (mkF mM 4 #[.val (.int p1), .val (.int p2), .unset, .unset, .unset, .unset] [(.int (p1 &&& (65535 : Int32)))])) _
    refine XS.istoreN X0.here hx rfl (hb hby at_4) rfl (l' := #[.val (.int p1), .val (.int p2), .val (.int (p1 &&& (65535 : Int32))), .unset, .unset, .unset]) rfl ?_
    exact kg)
  obtain ⟨z2, hz2⟩ : ∃ z, z = (p1 &&& (65535 : Int32)) := ⟨_, rfl⟩
  have pr3 : ∀ tg, Steps pP.tables eE below (s₁.setTop (mkF mM 5 #[.val (.int p1), .val (.int p2), .val (.int z2), .unset, .unset, .unset] [])) tg → Steps pP.tables eE below (s₁.setTop (entryFrame mM #[(.int p1), (.int p2)] maxLocals)) tg := by
    rw [hz2]; exact pr1
  have pr4 : ∀ tg, Steps pP.tables eE below (s₁.setTop (mkF mM 6 #[.val (.int p1), .val (.int p2), .val (.int z2), .unset, .unset, .unset] [(.int (1 : Int32))])) tg → Steps pP.tables eE below (s₁.setTop (entryFrame mM #[(.int p1), (.int p2)] maxLocals)) tg := fun tg kg => pr3 _ (by
    show Steps pP.tables eE below (s₁.setTop (mkF mM 5 #[.val (.int p1), .val (.int p2), .val (.int z2), .unset, .unset, .unset] [])) _
    refine XS.iconst X0.here hx rfl (hb hby at_5) ?_
    exact kg)
  obtain ⟨T5, h5, k5, X5, e5, E5, A5, Ex5, st5⟩ := newPE X0 hx hZ (hw _ (List.mem_of_getElem? (i := 1) rfl)) e0 (g := (mkF mM 6 #[.val (.int p1), .val (.int p2), .val (.int z2), .unset, .unset, .unset] [(.int (1 : Int32))])) rfl (hb hby at_6) rfl (by decide) (cap := 1) (by decide) (by decide) (by decide) (by decide) (ad := "[B") rfl
  obtain ⟨b5, g5⟩ : ∃ z, z = (h0).size := ⟨_, rfl⟩
  rw [← g5] at A5 Ex5 st5
  have gn6 : n0 ≤ b5 := Nat.le_trans Z0 (Nat.le_of_eq g5.symm)
  have gs7 : h0.size ≤ b5 := Nat.le_trans (Keep.refl h0 []).1 (Nat.le_of_eq g5.symm)
  have V5 : Arv Z h5 b5 k5 .byte (1 : Int32) [(.int (0 : Int32))] (.int (0 : Int32)) := (Arv.new A5 (by decide)).pad (pad_rep [] (.int (0 : Int32)) 1)
  have pr8 : ∀ tg, Steps pP.tables eE below (T5.setTop (mkF mM 8 #[.val (.int p1), .val (.int p2), .val (.int z2), .unset, .unset, .unset] [(.ref b5)])) tg → Steps pP.tables eE below (s₁.setTop (entryFrame mM #[(.int p1), (.int p2)] maxLocals)) tg := fun tg kg => pr4 _ (st5 _ kg)
  have pr9 : ∀ tg, Steps pP.tables eE below (T5.setTop (mkF mM 12 #[.val (.int p1), .val (.int p2), .val (.int z2), .unset, .unset, .unset] [(.int p2.toInt8.toInt32), (.int (0 : Int32)), (.ref b5), (.ref b5)])) tg → Steps pP.tables eE below (s₁.setTop (entryFrame mM #[(.int p1), (.int p2)] maxLocals)) tg := fun tg kg => pr8 _ (by
    show Steps pP.tables eE below (T5.setTop (mkF mM 8 #[.val (.int p1), .val (.int p2), .val (.int z2), .unset, .unset, .unset] [(.ref b5)])) _
    refine XS.dup X5.here hx rfl (hb hby at_8) rfl rfl ?_
    show Steps pP.tables eE below (T5.setTop (mkF mM 9 #[.val (.int p1), .val (.int p2), .val (.int z2), .unset, .unset, .unset] [(.ref b5), (.ref b5)])) _
    refine XS.iconst X5.here hx rfl (hb hby at_9) ?_
    show Steps pP.tables eE below (T5.setTop (mkF mM 10 #[.val (.int p1), .val (.int p2), .val (.int z2), .unset, .unset, .unset] [(.int (0 : Int32)), (.ref b5), (.ref b5)])) _
    refine XS.iloadN X5.here hx rfl (hb hby at_10) rfl ?_
    show Steps pP.tables eE below (T5.setTop (mkF mM 11 #[.val (.int p1), .val (.int p2), .val (.int z2), .unset, .unset, .unset] [(.int p2), (.int (0 : Int32)), (.ref b5), (.ref b5)])) _
    refine XS.i2b X5.here hx rfl (hb hby at_11) rfl ?_
    exact kg)
  obtain ⟨cla10, Ara10, qa10, Sa10, Ma10, Ha10, Ga10⟩ := id V5
  have hin11 : ¬ ((0 : Int32) < 0 ∨ cla10.slots.size ≤ ((0 : Int32)).toNatClampNeg) := inb_of Sa10 ⟨by decide, by decide⟩
  obtain ⟨T11, h11, X11, e11, W11, st11⟩ := stB X5 hx hZ e5 Ara10 (j := (0 : Int32)) hin11 (g := (mkF mM 12 #[.val (.int p1), .val (.int p2), .val (.int z2), .unset, .unset, .unset] [(.int p2.toInt8.toInt32), (.int (0 : Int32)), (.ref b5), (.ref b5)])) rfl rfl (hb hby at_12)
  have V11 : Arv Z h11 b5 k5 .byte (1 : Int32) [(.int (nar .byte p2.toInt8.toInt32))] (.int (0 : Int32)) := Arv.set Ara10 qa10 Sa10 Ma10 Ha10 Ga10 (fits_nar_byte _) W11 0 rfl (Nat.le_of_ble_eq_true rfl)
  have N11 := Fr.snoc X11 N0 gn6
  have pr12 : ∀ tg, Steps pP.tables eE below (T11.setTop (mkF mM 13 #[.val (.int p1), .val (.int p2), .val (.int z2), .unset, .unset, .unset] [(.ref b5)])) tg → Steps pP.tables eE below (s₁.setTop (entryFrame mM #[(.int p1), (.int p2)] maxLocals)) tg := fun tg kg => pr9 _ (st11 _ kg)
  have pr13 : ∀ tg, Steps pP.tables eE below (T11.setTop (mkF mM 14 #[.val (.int p1), .val (.int p2), .val (.int z2), .val (.ref b5), .unset, .unset] [])) tg → Steps pP.tables eE below (s₁.setTop (entryFrame mM #[(.int p1), (.int p2)] maxLocals)) tg := fun tg kg => pr12 _ (by
    show Steps pP.tables eE below (T11.setTop (mkF mM 13 #[.val (.int p1), .val (.int p2), .val (.int z2), .unset, .unset, .unset] [(.ref b5)])) _
    refine XS.astoreN X11.here hx rfl (hb hby at_13) rfl rfl (l' := #[.val (.int p1), .val (.int p2), .val (.int z2), .val (.ref b5), .unset, .unset]) rfl ?_
    exact kg)
  obtain ⟨T14, h14, X14, e14, E14, A14, D14, -, st14⟩ := newO X11 hx hZ hown (hw _ (List.mem_of_getElem? (i := 2) rfl)) (hw _ (List.mem_of_getElem? (i := 3) rfl)) (hw _ (List.mem_of_getElem? (i := 4) rfl)) e11 (g := (mkF mM 14 #[.val (.int p1), .val (.int p2), .val (.int z2), .val (.ref b5), .unset, .unset] [])) rfl (hb hby at_14) (by decide) (by decide)
  obtain ⟨b14, g14⟩ : ∃ z, z = (h11).size := ⟨_, rfl⟩
  rw [← g14] at A14 D14 st14
  have ne15 : b5 ≠ b14 := Nat.ne_of_lt (Nat.lt_of_lt_of_le (V11).lt (Nat.le_of_eq g14.symm))
  have c17 := (Nat.le_trans (Nat.le_trans Z0 E5.1) (Keep.of_wr W11).1)
  have gn16 : n0 ≤ b14 := Nat.le_trans c17 (Nat.le_of_eq g14.symm)
  have c19 := (Keep.wr (Keep.ext (Keep.refl h0 []) E5) W11 (Or.inr gs7))
  have gs18 : h0.size ≤ b14 := Nat.le_trans c19.1 (Nat.le_of_eq g14.symm)
  have F14_type : Fld Z h14 b14 "com/example/thawline/thawline/stun/StunAttribute$Unknown" "type" "I" (.int (0 : Int32)) := D14 (Or.inr (hw _ (List.mem_of_getElem? (i := 22) rfl))) (ty := .int) (by decide)
  have F14_value : Fld Z h14 b14 "com/example/thawline/thawline/stun/StunAttribute$Unknown" "value" "[B" .null := D14 (Or.inr (hw _ (List.mem_of_getElem? (i := 37) rfl))) (ty := (.array .byte)) (by decide)
  have pr20 : ∀ tg, Steps pP.tables eE below (T14.setTop (mkF mM 17 #[.val (.int p1), .val (.int p2), .val (.int z2), .val (.ref b5), .unset, .unset] [(.ref b14)])) tg → Steps pP.tables eE below (s₁.setTop (entryFrame mM #[(.int p1), (.int p2)] maxLocals)) tg := fun tg kg => pr13 _ (st14 _ kg)
  have hp1 : ¬ z2 < (0 : Int32) := by rw [Int32.lt_iff_toInt_lt, hz2, show (0 : Int32).toInt = 0 from rfl]; have := (own_m p1).1; omega
  have hp2 : ¬ (65535 : Int32) < z2 := by rw [Int32.lt_iff_toInt_lt, hz2, show (65535 : Int32).toInt = 65535 from rfl]; have := (own_m p1).2; omega
  have c21 := (Arv.ext V11 E14)
  have c22 := (Exa.ext E14 (Exa.wr W11 Ex5))
  have pr23 : ∀ tg, Steps pP.tables eE below (T14.setTop (mkF mM 20 #[.val (.int p1), .val (.int p2), .val (.int z2), .val (.ref b5), .unset, .unset] [(.ref b5), (.int z2), (.ref b14), (.ref b14)])) tg → Steps pP.tables eE below (s₁.setTop (entryFrame mM #[(.int p1), (.int p2)] maxLocals)) tg := fun tg kg => pr20 _ (by
    show Steps pP.tables eE below (T14.setTop (mkF mM 17 #[.val (.int p1), .val (.int p2), .val (.int z2), .val (.ref b5), .unset, .unset] [(.ref b14)])) _
    refine XS.dup X14.here hx rfl (hb hby at_17) rfl rfl ?_
    show Steps pP.tables eE below (T14.setTop (mkF mM 18 #[.val (.int p1), .val (.int p2), .val (.int z2), .val (.ref b5), .unset, .unset] [(.ref b14), (.ref b14)])) _
    refine XS.iloadN X14.here hx rfl (hb hby at_18) rfl ?_
    show Steps pP.tables eE below (T14.setTop (mkF mM 19 #[.val (.int p1), .val (.int p2), .val (.int z2), .val (.ref b5), .unset, .unset] [(.int z2), (.ref b14), (.ref b14)])) _
    refine XS.aloadN X14.here hx rfl (hb hby at_19) rfl rfl ?_
    exact kg)
  have c24 := (Nat.le_trans c17 E14.1)
  obtain ⟨_, _, ⟨T25, L25, kk25, nn25⟩, -, X25, ⟨Lc25, hQ25, l25, y25, z25⟩, st25⟩ := X14.specialBack hx (y := (⟨"com/example/thawline/thawline/stun/StunAttribute$Unknown", "<init>", "(I[B)V"⟩ : MethodName)) rfl hown (mvT hZ (hw _ (List.mem_of_getElem? (i := 5) rfl))) (mvT hZ (hw _ (List.mem_of_getElem? (i := 6) rfl))) (mvT hZ (hw _ (List.mem_of_getElem? (i := 7) rfl))) (by decide) (backOf (W := 1) (rm4 l Z a0 hw [] b14 z2 b5 k5 (nar .byte p2.toInt8.toInt32) h14 n0 c24 A14 gn16 F14_type F14_value c21 c22 (Ne.symm ne15) hp1 hp2) hZ (hw _ (List.mem_of_getElem? (i := 7) rfl)) (hw _ (List.mem_of_getElem? (i := 4) rfl)) (by decide) (by decide)) (g := (mkF mM 20 #[.val (.int p1), .val (.int p2), .val (.int z2), .val (.ref b5), .unset, .unset] [(.ref b5), (.int z2), (.ref b14), (.ref b14)])) rfl (by rw [hml]; rfl) (Steps.refl _) (a := b14) (argsL := [(.int z2), (.ref b5)]) (rest := [(.ref b14)]) (lenOf pd_3 rfl) rfl (by show 2 * 0 + _ ≤ _; exact Nat.le_of_eq rfl) (hb hby at_20) (fun _ _ => ⟨rfl, e14, (by decide : 2 + 1 ≤ _), (by decide : 3 + 1 ≤ _)⟩)
  dsimp only [Pt.U, Pt.locs, Pt.cells, Pt.slots] at X25 l25 y25 z25 st25 hQ25
  subst l25 y25 z25
  obtain ⟨rfl, Nq25, K25, E25, F25_0⟩ := hQ25
  have N25 := Fr.app N11 Nq25
  have pr26 : ∀ tg, Steps pP.tables eE below (T25.setTop (mkF mM 23 #[.val (.int p1), .val (.int p2), .val (.int z2), .val (.ref b5), .unset, .unset] [(.ref b14)])) tg → Steps pP.tables eE below (s₁.setTop (entryFrame mM #[(.int p1), (.int p2)] maxLocals)) tg := fun tg kg => pr23 _ (st25.trans kg)
  have pr27 : ∀ tg, Steps pP.tables eE below (T25.setTop (mkF mM 29 #[.val (.int p1), .val (.int p2), .val (.int z2), .val (.ref b5), .val (.ref b14), .unset] [(.int (z2 &&& (32768 : Int32)))])) tg → Steps pP.tables eE below (s₁.setTop (entryFrame mM #[(.int p1), (.int p2)] maxLocals)) tg := fun tg kg => pr26 _ (by
    show Steps pP.tables eE below (T25.setTop (mkF mM 23 #[.val (.int p1), .val (.int p2), .val (.int z2), .val (.ref b5), .unset, .unset] [(.ref b14)])) _
    refine XS.astore X25.here hx rfl (hb hby at_23) rfl rfl (l' := #[.val (.int p1), .val (.int p2), .val (.int z2), .val (.ref b5), .val (.ref b14), .unset]) rfl ?_
    show Steps pP.tables eE below (T25.setTop (mkF mM 25 #[.val (.int p1), .val (.int p2), .val (.int z2), .val (.ref b5), .val (.ref b14), .unset] [])) _
    refine XS.iloadN X25.here hx rfl (hb hby at_25) rfl ?_
    show Steps pP.tables eE below (T25.setTop (mkF mM 26 #[.val (.int p1), .val (.int p2), .val (.int z2), .val (.ref b5), .val (.ref b14), .unset] [(.int z2)])) _
    refine Jvm.Stand.ldcI X25 hx hown (v := (32768 : Int32)) (mvT hZ (hw _ (List.mem_of_getElem? (i := 38) rfl))) rfl (hb hby at_26) ?_
    show Steps pP.tables eE below (T25.setTop (mkF mM 28 #[.val (.int p1), .val (.int p2), .val (.int z2), .val (.ref b5), .val (.ref b14), .unset] [(.int (32768 : Int32)), (.int z2)])) _
    refine XS.iand X25.here hx rfl (hb hby at_28) rfl ?_
    exact kg)
  have hbit : z2 &&& (32768 : Int32) = (0 : Int32) ↔ z2 < (32768 : Int32) := by rw [hz2]; exact own_bit (own_m p1).1 (own_m p1).2
  by_cases hq : (z2 &&& (32768 : Int32)) = (0 : Int32)
  ·
    have pr28 : ∀ tg, Steps pP.tables eE below (T25.setTop (mkF mM 41 #[.val (.int p1), .val (.int p2), .val (.int z2), .val (.ref b5), .val (.ref b14), .val (.int (1 : Int32))] [(.ref b14)])) tg → Steps pP.tables eE below (s₁.setTop (entryFrame mM #[(.int p1), (.int p2)] maxLocals)) tg := fun tg kg => pr27 _ (by
      show Steps pP.tables eE below (T25.setTop (mkF mM 29 #[.val (.int p1), .val (.int p2), .val (.int z2), .val (.ref b5), .val (.ref b14), .unset] [(.int (z2 &&& (32768 : Int32)))])) _
      refine XS.ifNo X25.here hx rfl (hb hby at_29) rfl ((if0 _ _).trans (teq hq).2) ?_
      show Steps pP.tables eE below (T25.setTop (mkF mM 32 #[.val (.int p1), .val (.int p2), .val (.int z2), .val (.ref b5), .val (.ref b14), .unset] [])) _
      refine XS.iconst X25.here hx rfl (hb hby at_32) ?_
      show Steps pP.tables eE below (T25.setTop (mkF mM 33 #[.val (.int p1), .val (.int p2), .val (.int z2), .val (.ref b5), .val (.ref b14), .unset] [(.int (1 : Int32))])) _
      refine XS.goto X25.here hx rfl (pc0 := 33) (pc' := 37) rfl (hb hby at_33) (by decide) (by decide) ?_
      show Steps pP.tables eE below (T25.setTop (mkF mM 37 #[.val (.int p1), .val (.int p2), .val (.int z2), .val (.ref b5), .val (.ref b14), .unset] [(.int (1 : Int32))])) _
      refine XS.istore X25.here hx rfl (hb hby at_37) rfl (l' := #[.val (.int p1), .val (.int p2), .val (.int z2), .val (.ref b5), .val (.ref b14), .val (.int (1 : Int32))]) rfl ?_
      show Steps pP.tables eE below (T25.setTop (mkF mM 39 #[.val (.int p1), .val (.int p2), .val (.int z2), .val (.ref b5), .val (.ref b14), .val (.int (1 : Int32))] [])) _
      refine XS.aload X25.here hx rfl (hb hby at_39) rfl rfl ?_
      exact kg)
    have c29 := (Nat.le_trans c24 K25.1)
    obtain ⟨cq30, kq30, qa30, qb30, qc30⟩ := isOf hZ rfl E25
    obtain ⟨_, _, ⟨T30, L30, kk30, nn30⟩, -, X30, ⟨Lc30, hQ30, l30, y30, z30⟩, st30⟩ := X25.virtualBack hx (y := (⟨"com/example/thawline/thawline/stun/StunAttribute$Unknown", "comprehensionRequired", "()Z"⟩ : MethodName)) (z := (⟨"com/example/thawline/thawline/stun/StunAttribute$Unknown", "comprehensionRequired", "()Z"⟩ : MethodName)) hown (mvT hZ (hw _ (List.mem_of_getElem? (i := 39) rfl))) (mvT hZ (hw _ (List.mem_of_getElem? (i := 40) rfl))) (notFace_of_selects (args := #[]) (mvT hZ (hw _ (List.mem_of_getElem? (i := 42) rfl)))) (mvT hZ (hw _ (List.mem_of_getElem? (i := 42) rfl))) (mvT hZ (hw _ (List.mem_of_getElem? (i := 41) rfl))) (by decide) (backOf (W := 0) (rm5 l Z a0 hw [] b14 z2 T25.heap n0 c29 E25 F25_0) hZ (hw _ (List.mem_of_getElem? (i := 43) rfl)) (hw _ (List.mem_of_getElem? (i := 4) rfl)) (by decide) (by decide)) qa30 qc30 (g := (mkF mM 41 #[.val (.int p1), .val (.int p2), .val (.int z2), .val (.ref b5), .val (.ref b14), .val (.int (1 : Int32))] [(.ref b14)])) rfl (by rw [hml]; rfl) (Steps.refl _) (argsL := []) (rest := []) (lenOf pd_4 rfl) rfl (by show 2 * 0 + _ ≤ _; exact Nat.le_of_eq rfl) (hb hby at_41) (fun _ _ => ⟨rfl, rfl, (by decide : 3 + 0 ≤ _), (by decide : 4 + 0 ≤ _)⟩)
    dsimp only [Pt.U, Pt.locs, Pt.cells, Pt.slots] at X30 l30 y30 z30 st30 hQ30
    subst l30 y30 z30
    obtain ⟨r30, rfl, hr30, Nq30, e30⟩ := hQ30
    have N30 := Fr.app N25 Nq30
    have pr31 : ∀ tg, Steps pP.tables eE below (T30.setTop (mkF mM 44 #[.val (.int p1), .val (.int p2), .val (.int z2), .val (.ref b5), .val (.ref b14), .val (.int (1 : Int32))] [(.int r30)])) tg → Steps pP.tables eE below (s₁.setTop (entryFrame mM #[(.int p1), (.int p2)] maxLocals)) tg := fun tg kg => pr28 _ (st30.trans kg)
    have pr32 : ∀ tg, Steps pP.tables eE below (T30.setTop (mkF mM 46 #[.val (.int p1), .val (.int p2), .val (.int z2), .val (.ref b5), .val (.ref b14), .val (.int (1 : Int32))] [(.int (1 : Int32)), (.int r30)])) tg → Steps pP.tables eE below (s₁.setTop (entryFrame mM #[(.int p1), (.int p2)] maxLocals)) tg := fun tg kg => pr31 _ (by
      show Steps pP.tables eE below (T30.setTop (mkF mM 44 #[.val (.int p1), .val (.int p2), .val (.int z2), .val (.ref b5), .val (.ref b14), .val (.int (1 : Int32))] [(.int r30)])) _
      refine XS.iload X30.here hx rfl (hb hby at_44) rfl ?_
      exact kg)
    rw [if_pos (hbit.mp hq)] at hr30
    subst hr30
    have pr33 : ∀ tg, Steps pP.tables eE below (T30.setTop (mkF mM 51 #[.val (.int p1), .val (.int p2), .val (.int z2), .val (.ref b5), .val (.ref b14), .val (.int (1 : Int32))] [(.ref b14)])) tg → Steps pP.tables eE below (s₁.setTop (entryFrame mM #[(.int p1), (.int p2)] maxLocals)) tg := fun tg kg => pr32 _ (by
      show Steps pP.tables eE below (T30.setTop (mkF mM 46 #[.val (.int p1), .val (.int p2), .val (.int z2), .val (.ref b5), .val (.ref b14), .val (.int (1 : Int32))] [(.int (1 : Int32)), (.int (1 : Int32))])) _
      refine XS.icmpNo X30.here hx rfl (hb hby at_46) rfl (teq (by decide)).2 ?_
      show Steps pP.tables eE below (T30.setTop (mkF mM 49 #[.val (.int p1), .val (.int p2), .val (.int z2), .val (.ref b5), .val (.ref b14), .val (.int (1 : Int32))] [])) _
      refine XS.aload X30.here hx rfl (hb hby at_49) rfl rfl ?_
      exact kg)
    obtain ⟨cq34, kq34, qa34, qb34, qc34⟩ := isOf hZ e30 E25
    obtain ⟨_, _, ⟨T34, L34, kk34, nn34⟩, -, X34, ⟨Lc34, hQ34, l34, y34, z34⟩, st34⟩ := X30.virtualBack hx (y := (⟨"com/example/thawline/thawline/stun/StunAttribute$Unknown", "type", "()I"⟩ : MethodName)) (z := (⟨"com/example/thawline/thawline/stun/StunAttribute$Unknown", "type", "()I"⟩ : MethodName)) hown (mvT hZ (hw _ (List.mem_of_getElem? (i := 45) rfl))) (mvT hZ (hw _ (List.mem_of_getElem? (i := 46) rfl))) (notFace_of_selects (args := #[]) (mvT hZ (hw _ (List.mem_of_getElem? (i := 48) rfl)))) (mvT hZ (hw _ (List.mem_of_getElem? (i := 48) rfl))) (mvT hZ (hw _ (List.mem_of_getElem? (i := 47) rfl))) (by decide) (backOf (W := 0) (rm6 l Z a0 hw [] b14 z2 T25.heap n0 c29 E25 F25_0) hZ (hw _ (List.mem_of_getElem? (i := 49) rfl)) (hw _ (List.mem_of_getElem? (i := 4) rfl)) (by decide) (by decide)) qa34 qc34 (g := (mkF mM 51 #[.val (.int p1), .val (.int p2), .val (.int z2), .val (.ref b5), .val (.ref b14), .val (.int (1 : Int32))] [(.ref b14)])) rfl (by rw [hml]; rfl) (Steps.refl _) (argsL := []) (rest := []) (lenOf pd_5 rfl) rfl (by show 2 * 0 + _ ≤ _; exact Nat.le_of_eq rfl) (hb hby at_51) (fun _ _ => ⟨rfl, e30, (by decide : 3 + 0 ≤ _), (by decide : 4 + 0 ≤ _)⟩)
    dsimp only [Pt.U, Pt.locs, Pt.cells, Pt.slots] at X34 l34 y34 z34 st34 hQ34
    subst l34 y34 z34
    obtain ⟨rfl, Nq34, e34⟩ := hQ34
    have N34 := Fr.app N30 Nq34
    have pr35 : ∀ tg, Steps pP.tables eE below (T34.setTop (mkF mM 54 #[.val (.int p1), .val (.int p2), .val (.int z2), .val (.ref b5), .val (.ref b14), .val (.int (1 : Int32))] [(.int z2)])) tg → Steps pP.tables eE below (s₁.setTop (entryFrame mM #[(.int p1), (.int p2)] maxLocals)) tg := fun tg kg => pr33 _ (st34.trans kg)
    have pr36 : ∀ tg, Steps pP.tables eE below (T34.setTop (mkF mM 63 #[.val (.int p1), .val (.int p2), .val (.int z2), .val (.ref b5), .val (.ref b14), .val (.int (1 : Int32))] [(.int (1 : Int32))])) tg → Steps pP.tables eE below (s₁.setTop (entryFrame mM #[(.int p1), (.int p2)] maxLocals)) tg := fun tg kg => pr35 _ (by
      show Steps pP.tables eE below (T34.setTop (mkF mM 54 #[.val (.int p1), .val (.int p2), .val (.int z2), .val (.ref b5), .val (.ref b14), .val (.int (1 : Int32))] [(.int z2)])) _
      refine XS.iloadN X34.here hx rfl (hb hby at_54) rfl ?_
      show Steps pP.tables eE below (T34.setTop (mkF mM 55 #[.val (.int p1), .val (.int p2), .val (.int z2), .val (.ref b5), .val (.ref b14), .val (.int (1 : Int32))] [(.int z2), (.int z2)])) _
      refine XS.icmpNo X34.here hx rfl (hb hby at_55) rfl (teq rfl).2 ?_
      show Steps pP.tables eE below (T34.setTop (mkF mM 58 #[.val (.int p1), .val (.int p2), .val (.int z2), .val (.ref b5), .val (.ref b14), .val (.int (1 : Int32))] [])) _
      refine XS.iconst X34.here hx rfl (hb hby at_58) ?_
      show Steps pP.tables eE below (T34.setTop (mkF mM 59 #[.val (.int p1), .val (.int p2), .val (.int z2), .val (.ref b5), .val (.ref b14), .val (.int (1 : Int32))] [(.int (1 : Int32))])) _
      refine XS.goto X34.here hx rfl (pc0 := 59) (pc' := 63) rfl (hb hby at_59) (by decide) (by decide) ?_
      exact kg)
    obtain ⟨fs, hr, hrun, hended, hW, hsame⟩ := X34.leave (v := some (.int (1 : Int32))) (fun h => by rw [Bd.returns] at h; cases h)
    refine ⟨_, _, pr36 _ (retOut X34 hx (t := .boolean) Bd.returns rfl (Or.inl ⟨rfl, Or.inr (Or.inl rfl), _, rfl⟩) (hb hby at_63) hr), hrun, hended, _, _, rfl, ?_, ⟨_, rfl⟩, hW, hsame.mono (by decide) (by decide)⟩
    show Q0 Z p1 p2 h0 n0 _ T34.heap _
    rw [e34]
    exact ⟨rfl, N34⟩
  ·
    have pr37 : ∀ tg, Steps pP.tables eE below (T25.setTop (mkF mM 41 #[.val (.int p1), .val (.int p2), .val (.int z2), .val (.ref b5), .val (.ref b14), .val (.int (0 : Int32))] [(.ref b14)])) tg → Steps pP.tables eE below (s₁.setTop (entryFrame mM #[(.int p1), (.int p2)] maxLocals)) tg := fun tg kg => pr27 _ (by
      show Steps pP.tables eE below (T25.setTop (mkF mM 29 #[.val (.int p1), .val (.int p2), .val (.int z2), .val (.ref b5), .val (.ref b14), .unset] [(.int (z2 &&& (32768 : Int32)))])) _
      refine XS.ifYes X25.here hx rfl (pc0 := 29) (pc' := 36) rfl (hb hby at_29) rfl ((if0 _ _).trans (feq hq).2) (by decide) (by decide) ?_
      show Steps pP.tables eE below (T25.setTop (mkF mM 36 #[.val (.int p1), .val (.int p2), .val (.int z2), .val (.ref b5), .val (.ref b14), .unset] [])) _
      refine XS.iconst X25.here hx rfl (hb hby at_36) ?_
      show Steps pP.tables eE below (T25.setTop (mkF mM 37 #[.val (.int p1), .val (.int p2), .val (.int z2), .val (.ref b5), .val (.ref b14), .unset] [(.int (0 : Int32))])) _
      refine XS.istore X25.here hx rfl (hb hby at_37) rfl (l' := #[.val (.int p1), .val (.int p2), .val (.int z2), .val (.ref b5), .val (.ref b14), .val (.int (0 : Int32))]) rfl ?_
      show Steps pP.tables eE below (T25.setTop (mkF mM 39 #[.val (.int p1), .val (.int p2), .val (.int z2), .val (.ref b5), .val (.ref b14), .val (.int (0 : Int32))] [])) _
      refine XS.aload X25.here hx rfl (hb hby at_39) rfl rfl ?_
      exact kg)
    have c38 := (Nat.le_trans c24 K25.1)
    obtain ⟨cq39, kq39, qa39, qb39, qc39⟩ := isOf hZ rfl E25
    obtain ⟨_, _, ⟨T39, L39, kk39, nn39⟩, -, X39, ⟨Lc39, hQ39, l39, y39, z39⟩, st39⟩ := X25.virtualBack hx (y := (⟨"com/example/thawline/thawline/stun/StunAttribute$Unknown", "comprehensionRequired", "()Z"⟩ : MethodName)) (z := (⟨"com/example/thawline/thawline/stun/StunAttribute$Unknown", "comprehensionRequired", "()Z"⟩ : MethodName)) hown (mvT hZ (hw _ (List.mem_of_getElem? (i := 39) rfl))) (mvT hZ (hw _ (List.mem_of_getElem? (i := 40) rfl))) (notFace_of_selects (args := #[]) (mvT hZ (hw _ (List.mem_of_getElem? (i := 42) rfl)))) (mvT hZ (hw _ (List.mem_of_getElem? (i := 42) rfl))) (mvT hZ (hw _ (List.mem_of_getElem? (i := 41) rfl))) (by decide) (backOf (W := 0) (rm5 l Z a0 hw [] b14 z2 T25.heap n0 c38 E25 F25_0) hZ (hw _ (List.mem_of_getElem? (i := 43) rfl)) (hw _ (List.mem_of_getElem? (i := 4) rfl)) (by decide) (by decide)) qa39 qc39 (g := (mkF mM 41 #[.val (.int p1), .val (.int p2), .val (.int z2), .val (.ref b5), .val (.ref b14), .val (.int (0 : Int32))] [(.ref b14)])) rfl (by rw [hml]; rfl) (Steps.refl _) (argsL := []) (rest := []) (lenOf pd_4 rfl) rfl (by show 2 * 0 + _ ≤ _; exact Nat.le_of_eq rfl) (hb hby at_41) (fun _ _ => ⟨rfl, rfl, (by decide : 3 + 0 ≤ _), (by decide : 4 + 0 ≤ _)⟩)
    dsimp only [Pt.U, Pt.locs, Pt.cells, Pt.slots] at X39 l39 y39 z39 st39 hQ39
    subst l39 y39 z39
    obtain ⟨r39, rfl, hr39, Nq39, e39⟩ := hQ39
    have N39 := Fr.app N25 Nq39
    have pr40 : ∀ tg, Steps pP.tables eE below (T39.setTop (mkF mM 44 #[.val (.int p1), .val (.int p2), .val (.int z2), .val (.ref b5), .val (.ref b14), .val (.int (0 : Int32))] [(.int r39)])) tg → Steps pP.tables eE below (s₁.setTop (entryFrame mM #[(.int p1), (.int p2)] maxLocals)) tg := fun tg kg => pr37 _ (st39.trans kg)
    have pr41 : ∀ tg, Steps pP.tables eE below (T39.setTop (mkF mM 46 #[.val (.int p1), .val (.int p2), .val (.int z2), .val (.ref b5), .val (.ref b14), .val (.int (0 : Int32))] [(.int (0 : Int32)), (.int r39)])) tg → Steps pP.tables eE below (s₁.setTop (entryFrame mM #[(.int p1), (.int p2)] maxLocals)) tg := fun tg kg => pr40 _ (by
      show Steps pP.tables eE below (T39.setTop (mkF mM 44 #[.val (.int p1), .val (.int p2), .val (.int z2), .val (.ref b5), .val (.ref b14), .val (.int (0 : Int32))] [(.int r39)])) _
      refine XS.iload X39.here hx rfl (hb hby at_44) rfl ?_
      exact kg)
    rw [if_neg (fun q => hq (hbit.mpr q))] at hr39
    subst hr39
    have pr42 : ∀ tg, Steps pP.tables eE below (T39.setTop (mkF mM 51 #[.val (.int p1), .val (.int p2), .val (.int z2), .val (.ref b5), .val (.ref b14), .val (.int (0 : Int32))] [(.ref b14)])) tg → Steps pP.tables eE below (s₁.setTop (entryFrame mM #[(.int p1), (.int p2)] maxLocals)) tg := fun tg kg => pr41 _ (by
      show Steps pP.tables eE below (T39.setTop (mkF mM 46 #[.val (.int p1), .val (.int p2), .val (.int z2), .val (.ref b5), .val (.ref b14), .val (.int (0 : Int32))] [(.int (0 : Int32)), (.int (0 : Int32))])) _
      refine XS.icmpNo X39.here hx rfl (hb hby at_46) rfl (teq (by decide)).2 ?_
      show Steps pP.tables eE below (T39.setTop (mkF mM 49 #[.val (.int p1), .val (.int p2), .val (.int z2), .val (.ref b5), .val (.ref b14), .val (.int (0 : Int32))] [])) _
      refine XS.aload X39.here hx rfl (hb hby at_49) rfl rfl ?_
      exact kg)
    obtain ⟨cq43, kq43, qa43, qb43, qc43⟩ := isOf hZ e39 E25
    obtain ⟨_, _, ⟨T43, L43, kk43, nn43⟩, -, X43, ⟨Lc43, hQ43, l43, y43, z43⟩, st43⟩ := X39.virtualBack hx (y := (⟨"com/example/thawline/thawline/stun/StunAttribute$Unknown", "type", "()I"⟩ : MethodName)) (z := (⟨"com/example/thawline/thawline/stun/StunAttribute$Unknown", "type", "()I"⟩ : MethodName)) hown (mvT hZ (hw _ (List.mem_of_getElem? (i := 45) rfl))) (mvT hZ (hw _ (List.mem_of_getElem? (i := 46) rfl))) (notFace_of_selects (args := #[]) (mvT hZ (hw _ (List.mem_of_getElem? (i := 48) rfl)))) (mvT hZ (hw _ (List.mem_of_getElem? (i := 48) rfl))) (mvT hZ (hw _ (List.mem_of_getElem? (i := 47) rfl))) (by decide) (backOf (W := 0) (rm6 l Z a0 hw [] b14 z2 T25.heap n0 c38 E25 F25_0) hZ (hw _ (List.mem_of_getElem? (i := 49) rfl)) (hw _ (List.mem_of_getElem? (i := 4) rfl)) (by decide) (by decide)) qa43 qc43 (g := (mkF mM 51 #[.val (.int p1), .val (.int p2), .val (.int z2), .val (.ref b5), .val (.ref b14), .val (.int (0 : Int32))] [(.ref b14)])) rfl (by rw [hml]; rfl) (Steps.refl _) (argsL := []) (rest := []) (lenOf pd_5 rfl) rfl (by show 2 * 0 + _ ≤ _; exact Nat.le_of_eq rfl) (hb hby at_51) (fun _ _ => ⟨rfl, e39, (by decide : 3 + 0 ≤ _), (by decide : 4 + 0 ≤ _)⟩)
    dsimp only [Pt.U, Pt.locs, Pt.cells, Pt.slots] at X43 l43 y43 z43 st43 hQ43
    subst l43 y43 z43
    obtain ⟨rfl, Nq43, e43⟩ := hQ43
    have N43 := Fr.app N39 Nq43
    have pr44 : ∀ tg, Steps pP.tables eE below (T43.setTop (mkF mM 54 #[.val (.int p1), .val (.int p2), .val (.int z2), .val (.ref b5), .val (.ref b14), .val (.int (0 : Int32))] [(.int z2)])) tg → Steps pP.tables eE below (s₁.setTop (entryFrame mM #[(.int p1), (.int p2)] maxLocals)) tg := fun tg kg => pr42 _ (st43.trans kg)
    have pr45 : ∀ tg, Steps pP.tables eE below (T43.setTop (mkF mM 63 #[.val (.int p1), .val (.int p2), .val (.int z2), .val (.ref b5), .val (.ref b14), .val (.int (0 : Int32))] [(.int (1 : Int32))])) tg → Steps pP.tables eE below (s₁.setTop (entryFrame mM #[(.int p1), (.int p2)] maxLocals)) tg := fun tg kg => pr44 _ (by
      show Steps pP.tables eE below (T43.setTop (mkF mM 54 #[.val (.int p1), .val (.int p2), .val (.int z2), .val (.ref b5), .val (.ref b14), .val (.int (0 : Int32))] [(.int z2)])) _
      refine XS.iloadN X43.here hx rfl (hb hby at_54) rfl ?_
      show Steps pP.tables eE below (T43.setTop (mkF mM 55 #[.val (.int p1), .val (.int p2), .val (.int z2), .val (.ref b5), .val (.ref b14), .val (.int (0 : Int32))] [(.int z2), (.int z2)])) _
      refine XS.icmpNo X43.here hx rfl (hb hby at_55) rfl (teq rfl).2 ?_
      show Steps pP.tables eE below (T43.setTop (mkF mM 58 #[.val (.int p1), .val (.int p2), .val (.int z2), .val (.ref b5), .val (.ref b14), .val (.int (0 : Int32))] [])) _
      refine XS.iconst X43.here hx rfl (hb hby at_58) ?_
      show Steps pP.tables eE below (T43.setTop (mkF mM 59 #[.val (.int p1), .val (.int p2), .val (.int z2), .val (.ref b5), .val (.ref b14), .val (.int (0 : Int32))] [(.int (1 : Int32))])) _
      refine XS.goto X43.here hx rfl (pc0 := 59) (pc' := 63) rfl (hb hby at_59) (by decide) (by decide) ?_
      exact kg)
    obtain ⟨fs, hr, hrun, hended, hW, hsame⟩ := X43.leave (v := some (.int (1 : Int32))) (fun h => by rw [Bd.returns] at h; cases h)
    refine ⟨_, _, pr45 _ (retOut X43 hx (t := .boolean) Bd.returns rfl (Or.inl ⟨rfl, Or.inr (Or.inl rfl), _, rfl⟩) (hb hby at_63) hr), hrun, hended, _, _, rfl, ?_, ⟨_, rfl⟩, hW, hsame.mono (by decide) (by decide)⟩
    show Q0 Z p1 p2 h0 n0 _ T43.heap _
    rw [e43]
    exact ⟨rfl, N43⟩
set_option maxRecDepth 65536 in
set_option maxHeartbeats 40000000 in
theorem comes_1 {Post : Tables → Env → Array Value → State → Outcome → State → Prop} (hpost : ∀ tb e args s v u, (limb_1_1.after args s (.returned v) u = true ∧ limb_1_2.after args s (.returned v) u = true ∧ True) → FrameEnd s (.returned v) u (Jvm.fieldLocs frame_1_writes args s ++ Jvm.arrayLocs frame_1_arrays args s ++ Jvm.staticLocs frame_1_statics s) 16 128 → Post tb e args s (.returned v) u) :
    ArmFor flags0 classFile x code maxLocals ret World_1 tables_1 room_1 Calls_1 rest_1 Pre_1 Post := by
  intro l hfl _ _ p e ha hc hk s m args below hf hA hF happ hP
  obtain ⟨hcalls, hrest, hpre⟩ := hP
  obtain ⟨-, -, -, hnamed, -, -, -, hat⟩ := (Spec.applies_iff hf).mp happ
  obtain ⟨hg, hn⟩ := and_e (Cond.before_iff.mp (show (Jvm.Cond.and given_1 narrow_1).before args s = true from hpre))
  obtain ⟨n1, n2⟩ := and_e hg
  obtain ⟨n3, n4⟩ := and_e n2
  obtain ⟨w0, w1, rfl⟩ : ∃ w0 w1 : Value, args = #[w0, w1] := by
    have hs : args.size = 2 := by simpa [Cond.value, given_1] using n1
    obtain ⟨L⟩ := args
    match L, hs with
    | [w0, w1], _ => exact ⟨w0, w1, rfl⟩
  have hw := fun d (hd : d ∈ tables_1) => atoms_spec (ws := Jvm.Cond.code x code maxLocals ret :: tables_1) hat d (List.mem_cons_of_mem _ hd)
  have hfit : Fit s := fun {y c} hc i hi => by
    obtain ⟨ha, rfl⟩ := Array.getElem?_eq_some_iff.mp hc
    have q := List.all_eq_true.mp ((Array.all_eq_true_iff_forall_mem.mp hF) _ (Array.getElem_mem ha)) i (List.mem_range.mpr hi)
    simpa [Array.getElem?_eq_getElem hi] using q
  obtain ⟨i0, ei0⟩ := is_v n3
  obtain rfl : w0 = (.int i0) := Option.some.inj ei0
  obtain ⟨i1, ei1⟩ := is_v n4
  obtain rfl : w1 = (.int i1) := Option.some.inj ei1
  obtain ⟨n, o, h1, h2, h3, _, L, rfl, ⟨rfl, N⟩, hq⟩ := rm0 l s _ hw tables_1 i0 i1 s.heap s.heap.size (Nat.le_refl _)  p e ha hc hk s m _ below hf ((Spec.applies_iff_loose hf).mp happ).1 ⟨rfl, State.Warmed39.refl s, rfl⟩ trivial
  refine ⟨n, _, h1, h2, h3, hpost _ _ _ _ _ _ ⟨Cond.after_iff.mpr rfl, Cond.after_iff.mpr (eq_i res_at (Term.int_eval (1)) rfl), trivial⟩ ⟨hq.1, hq.2.1, (hq.2.2.sift fun y hy => Or.inr (N y hy)).mono (by decide) (by decide)⟩⟩
theorem main_1_1 : Claimed_1_1 := comes_1 fun _ _ _ _ _ _ h hF => ⟨h.1, hF⟩
theorem main_1_2 : Claimed_1_2 := comes_1 fun _ _ _ _ _ _ h hF => ⟨h.2.1, hF⟩
end Jvm.Pilot.@@N@@
namespace Jvm.Pilot.@@N@@
open Jvm Jvm.ClassFile Sem Op Lib Jvm.Free Jvm.Stand Jvm.Pilot.@@N@@.Jvm.D
/-! MADE BY PROGRAM (witnessworld.py) out of the Statement's table words and the real class files: 12 classes; the members and pool entries that the words name. The judged class is class 1, her method 1. -/
namespace start1
open Jvm.ClassFile
def u (s : String) : CpInfo := .utf8 (stringToUtf16 s)
/-- a pool by its gaps: so many unusable entries, then the entry; so many at the end -/
def gap : Nat → List CpInfo → List CpInfo
  | 0, r => r
  | n + 1, r => .unusable :: gap n r
def poolList (es : List (Nat × CpInfo)) (last : Nat) : List CpInfo := es.foldr (fun e r => gap e.1 (e.2 :: r)) (gap last [])
def pool (es : List (Nat × CpInfo)) (last : Nat) : Array CpInfo := ⟨poolList es last⟩
def fileOf (pool : Array CpInfo) (this : Nat) (attrs : Array Attribute := #[]) (ms : Array MethodInfo := #[]) (fl : Nat := 33) (sup : Nat := 0) (ifs : Array Nat := #[]) (fds : Array FieldInfo := #[]) : ClassFile where
  minorVersion := 0
  majorVersion := 65
  constantPool := pool
  accessFlags := fl
  thisClass := this
  superClass := sup
  interfaces := ifs
  fields := fds
  methods := ms
  attributes := attrs
def plain (name : String) (sup : Option ClassId) : Class where
  name := name
  kind := .ordinary
  loader := none
  accessFlags := 33
  super := sup
  interfaces := #[]
  cf := none
  fields := #[]
  methods := #[]
  instanceTypes := #[]
  staticTypes := #[]
  resolved := #[]
  callSites := []
  init := .initialized
  statics := none
  mirror := none

def pool0 : Array CpInfo := pool [(5, u "<init>"), (0, u "()V"), (1, .class_ 10), (1, u "java/lang/Object"), (85, u "clone"), (0, u "()Ljava/lang/Object;")] 26

def k0c0 : Code := { maxStack := 0, maxLocals := 1, code := object_method_1_code, exceptionTable := #[], attributes := #[] }
def k0m0 : Method := { name := "<init>", desc := "()V", sig := { parameters := [], returnType := none }, accessFlags := 1, code := some k0c0 }
def k0m1 : Method := { name := "clone", desc := "()Ljava/lang/Object;", sig := { parameters := [], returnType := some (.object "java/lang/Object") }, accessFlags := 260, code := none }
/-- java/lang/Object -/
def k0 : Class := { plain "java/lang/Object" none with
  accessFlags := 33
  interfaces := #[]
  cf := some (fileOf pool0 8 #[] #[{ accessFlags := 1, nameIndex := 5, descriptorIndex := 6, attributes := #[] }, { accessFlags := 260, nameIndex := 96, descriptorIndex := 97, attributes := #[] }] 33 0 #[] #[])
  fields := #[]
  methods := #[k0m0, k0m1]
  instanceTypes := #[]
  staticTypes := #[]
  resolved := Array.replicate 124 none
  statics := none }

def pool1 : Array CpInfo := pool [(2, .class_ 4), (1, u "java/lang/Object"), (0, u "<init>"), (0, u "()V"), (0, .integer 65535), (0, .class_ 9), (0, u "com/example/thawline/thawline/stun/StunAttribute$Unknown"), (0, .methodref 8 11), (0, .nameAndType 5 12), (0, u "(I[B)V"), (0, .integer 32768), (0, .methodref 8 15), (0, .nameAndType 16 17), (0, u "comprehensionRequired"), (0, u "()Z"), (0, .methodref 8 19), (0, .nameAndType 20 21), (0, u "type"), (0, u "()I"), (0, .class_ 23), (0, u "com/example/thawline/thawline/stun/UnknownComprehensionRequiredPinLaw"), (2, u "law"), (0, u "(II)Z")] 9

def k1m0 : Method := { name := "<init>", desc := "()V", sig := { parameters := [], returnType := none }, accessFlags := 2, code := none }
def k1c1 : Code := { maxStack := 4, maxLocals := 6, code := code, exceptionTable := #[], attributes := #[] }
def k1m1 : Method := { name := "law", desc := "(II)Z", sig := { parameters := [.int, .int], returnType := some .boolean }, accessFlags := 9, code := some k1c1 }
/-- com/example/thawline/thawline/stun/UnknownComprehensionRequiredPinLaw -/
def k1 : Class := { plain "com/example/thawline/thawline/stun/UnknownComprehensionRequiredPinLaw" (some 0) with
  accessFlags := 49
  interfaces := #[]
  cf := some (fileOf pool1 22 #[] #[{ accessFlags := 2, nameIndex := 5, descriptorIndex := 6, attributes := #[] }, { accessFlags := 9, nameIndex := 26, descriptorIndex := 27, attributes := #[] }] 49 2 #[] #[])
  fields := #[]
  methods := #[k1m0, k1m1]
  instanceTypes := #[]
  staticTypes := #[]
  resolved := Array.replicate 37 none
  statics := none }

def pool2 : Array CpInfo := pool [(1, .methodref 2 3), (0, .class_ 4), (0, .nameAndType 5 6), (0, u "java/lang/Object"), (0, u "<init>"), (0, u "()V"), (0, .class_ 8), (0, u "java/lang/Record")] 13

def k2c0 : Code := { maxStack := 1, maxLocals := 1, code := jdk_30_method_1_code, exceptionTable := #[], attributes := #[] }
def k2m0 : Method := { name := "<init>", desc := "()V", sig := { parameters := [], returnType := none }, accessFlags := 4, code := some k2c0 }
/-- java/lang/Record -/
def k2 : Class := { plain "java/lang/Record" (some 0) with
  accessFlags := 1057
  interfaces := #[]
  cf := some (fileOf pool2 7 #[] #[{ accessFlags := 4, nameIndex := 5, descriptorIndex := 6, attributes := #[] }] 1057 2 #[] #[])
  fields := #[]
  methods := #[k2m0]
  instanceTypes := #[]
  staticTypes := #[]
  resolved := Array.replicate 22 none
  statics := none }

def pool3 : Array CpInfo := pool [(1, .integer 65535), (66, .class_ 69), (0, u "com/example/thawline/thawline/stun/StunAttribute"), (0, .class_ 71), (0, u "java/lang/Object"), (3, u "requireType"), (0, u "(I)I"), (13, .class_ 91), (0, u "com/example/thawline/thawline/stun/StunAttribute$Unknown"), (0, .class_ 93), (0, u "com/example/thawline/thawline/stun/StunAttribute$IceControlling"), (0, .class_ 95), (0, u "com/example/thawline/thawline/stun/StunAttribute$IceControlled"), (0, .class_ 97), (0, u "com/example/thawline/thawline/stun/StunAttribute$Fingerprint"), (0, .class_ 99), (0, u "com/example/thawline/thawline/stun/StunAttribute$Software"), (0, .class_ 101), (0, u "com/example/thawline/thawline/stun/StunAttribute$UseCandidate"), (0, .class_ 103), (0, u "com/example/thawline/thawline/stun/StunAttribute$Priority"), (0, .class_ 105), (0, u "com/example/thawline/thawline/stun/StunAttribute$RequestedTransport"), (0, .class_ 107), (0, u "com/example/thawline/thawline/stun/StunAttribute$XorRelayedAddress"), (0, .class_ 109), (0, u "com/example/thawline/thawline/stun/StunAttribute$Nonce"), (0, .class_ 111), (0, u "com/example/thawline/thawline/stun/StunAttribute$Realm"), (0, .class_ 113), (0, u "com/example/thawline/thawline/stun/StunAttribute$Data"), (0, .class_ 115), (0, u "com/example/thawline/thawline/stun/StunAttribute$XorPeerAddress"), (0, .class_ 117), (0, u "com/example/thawline/thawline/stun/StunAttribute$Lifetime"), (0, .class_ 119), (0, u "com/example/thawline/thawline/stun/StunAttribute$ChannelNumber"), (0, .class_ 121), (0, u "com/example/thawline/thawline/stun/StunAttribute$XorMappedAddress"), (0, .class_ 123), (0, u "com/example/thawline/thawline/stun/StunAttribute$MappedAddress"), (0, .class_ 125), (0, u "com/example/thawline/thawline/stun/StunAttribute$UnknownAttributes"), (0, .class_ 127), (0, u "com/example/thawline/thawline/stun/StunAttribute$ErrorCode"), (0, .class_ 129), (0, u "com/example/thawline/thawline/stun/StunAttribute$MessageIntegrity"), (0, .class_ 131), (0, u "com/example/thawline/thawline/stun/StunAttribute$Username")] 41

def k3c0 : Code := { maxStack := 3, maxLocals := 1, code := prog_42_method_3_code, exceptionTable := #[], attributes := #[] }
def k3m0 : Method := { name := "requireType", desc := "(I)I", sig := { parameters := [.int], returnType := some .int }, accessFlags := 10, code := some k3c0 }
/-- com/example/thawline/thawline/stun/StunAttribute -/
def k3 : Class := { plain "com/example/thawline/thawline/stun/StunAttribute" (some 0) with
  accessFlags := 1537
  interfaces := #[]
  cf := some (fileOf pool3 68 #[.nestMembers #[90, 92, 94, 96, 98, 100, 102, 104, 106, 108, 110, 112, 114, 116, 118, 120, 122, 124, 126, 128, 130]] #[{ accessFlags := 10, nameIndex := 75, descriptorIndex := 76, attributes := #[] }] 1537 70 #[] #[])
  fields := #[]
  methods := #[k3m0]
  instanceTypes := #[]
  staticTypes := #[]
  resolved := Array.replicate 173 none
  statics := none }

def pool4 : Array CpInfo := pool [(1, .methodref 2 3), (0, .class_ 4), (0, .nameAndType 5 6), (0, u "java/lang/Record"), (0, u "<init>"), (0, u "()V"), (0, .interfaceMethodref 8 9), (0, .class_ 10), (0, .nameAndType 11 12), (0, u "com/example/thawline/thawline/stun/StunAttribute"), (0, u "requireType"), (0, u "(I)I"), (0, .fieldref 14 15), (0, .class_ 16), (0, .nameAndType 17 18), (0, u "com/example/thawline/thawline/stun/StunAttribute$Unknown"), (0, u "type"), (0, u "I"), (0, .methodref 20 21), (0, .class_ 22), (0, .nameAndType 23 24), (0, u "java/util/Arrays"), (0, u "copyOf"), (0, u "([BI)[B"), (0, .fieldref 14 26), (0, .nameAndType 27 28), (0, u "value"), (0, u "[B"), (0, .integer 32768), (5, u "()I"), (6, u "(I[B)V"), (38, u "comprehensionRequired"), (0, u "()Z")] 14

def k4c0 : Code := { maxStack := 3, maxLocals := 3, code := prog_57_method_1_code, exceptionTable := #[], attributes := #[] }
def k4m0 : Method := { name := "<init>", desc := "(I[B)V", sig := { parameters := [.int, (.array .byte)], returnType := none }, accessFlags := 1, code := some k4c0 }
def k4c1 : Code := { maxStack := 2, maxLocals := 1, code := prog_57_method_3_code, exceptionTable := #[], attributes := #[] }
def k4m1 : Method := { name := "comprehensionRequired", desc := "()Z", sig := { parameters := [], returnType := some .boolean }, accessFlags := 1, code := some k4c1 }
def k4c2 : Code := { maxStack := 1, maxLocals := 1, code := prog_57_method_9_code, exceptionTable := #[], attributes := #[] }
def k4m2 : Method := { name := "type", desc := "()I", sig := { parameters := [], returnType := some .int }, accessFlags := 1, code := some k4c2 }
/-- com/example/thawline/thawline/stun/StunAttribute$Unknown -/
def k4 : Class := { plain "com/example/thawline/thawline/stun/StunAttribute$Unknown" (some 2) with
  accessFlags := 49
  interfaces := #[3]
  cf := some (fileOf pool4 14 #[.nestHost 8] #[{ accessFlags := 1, nameIndex := 5, descriptorIndex := 42, attributes := #[] }, { accessFlags := 1, nameIndex := 81, descriptorIndex := 82, attributes := #[] }, { accessFlags := 1, nameIndex := 17, descriptorIndex := 35, attributes := #[] }] 49 2 #[8] #[{ accessFlags := 18, nameIndex := 17, descriptorIndex := 18, attributes := #[] }, { accessFlags := 18, nameIndex := 27, descriptorIndex := 28, attributes := #[] }])
  fields := #[{ name := "type", type := .int, accessFlags := 18, slot := 0, constantValue := 0 }, { name := "value", type := (.array .byte), accessFlags := 18, slot := 1, constantValue := 0 }]
  methods := #[k4m0, k4m1, k4m2]
  instanceTypes := #[.int, (.array .byte)]
  staticTypes := #[]
  resolved := Array.replicate 97 none
  statics := none }

def pool5 : Array CpInfo := pool [(2, .class_ 4), (1, u "java/lang/Object"), (0, u "<init>"), (0, u "()V"), (7, .class_ 16), (1, u "java/util/Arrays"), (57, .class_ 76), (1, u "java/util/Arrays$NaturalOrder"), (32, u "()Ljava/lang/Object;"), (3, .class_ 115), (1, u "java/util/Arrays$LegacyMergeSort"), (1, u "Z"), (10, .nameAndType 129 109), (0, u "clone"), (172, u "copyOf"), (7, .methodref 311 128), (0, .class_ 312), (0, u "[B"), (62, .class_ 376), (0, u "java/util/Arrays$ArrayList"), (68, u "$assertionsDisabled"), (269, u "MIN_ARRAY_SORT_GRAN"), (0, u "I"), (2, u "INSERTIONSORT_THRESHOLD"), (149, u "([BI)[B"), (105, .class_ 976), (0, u "java/util/Arrays$ArrayItr")] 52

def k5m0 : Method := { name := "<init>", desc := "()V", sig := { parameters := [], returnType := none }, accessFlags := 2, code := none }
def k5c1 : Code := { maxStack := 6, maxLocals := 3, code := jdk_65_method_121_code, exceptionTable := #[], attributes := #[] }
def k5m1 : Method := { name := "copyOf", desc := "([BI)[B", sig := { parameters := [(.array .byte), .int], returnType := some (.array .byte) }, accessFlags := 9, code := some k5c1 }
/-- java/util/Arrays -/
def k5 : Class := { plain "java/util/Arrays" (some 0) with
  accessFlags := 49
  interfaces := #[]
  cf := some (fileOf pool5 14 #[.nestMembers #[975, 375, 113, 74]] #[{ accessFlags := 2, nameIndex := 5, descriptorIndex := 6, attributes := #[] }, { accessFlags := 9, nameIndex := 302, descriptorIndex := 869, attributes := #[] }] 49 2 #[] #[{ accessFlags := 26, nameIndex := 715, descriptorIndex := 716, attributes := #[] }, { accessFlags := 26, nameIndex := 719, descriptorIndex := 716, attributes := #[] }, { accessFlags := 4120, nameIndex := 445, descriptorIndex := 117, attributes := #[] }])
  fields := #[{ name := "MIN_ARRAY_SORT_GRAN", type := .int, accessFlags := 26, slot := 0, constantValue := 0 }, { name := "INSERTIONSORT_THRESHOLD", type := .int, accessFlags := 26, slot := 1, constantValue := 0 }, { name := "$assertionsDisabled", type := .boolean, accessFlags := 4120, slot := 2, constantValue := 0 }]
  methods := #[k5m0, k5m1]
  instanceTypes := #[]
  staticTypes := #[.int, .int, .boolean]
  resolved := Array.replicate 1029 none
  statics := none }

def pool6 : Array CpInfo := pool [(1, .class_ 2), (0, u "java/lang/Cloneable"), (0, .class_ 4), (0, u "java/lang/Object")] 2

/-- java/lang/Cloneable -/
def k6 : Class := { plain "java/lang/Cloneable" (some 0) with
  accessFlags := 1537
  interfaces := #[]
  cf := some (fileOf pool6 1 #[] #[] 1537 3 #[] #[])
  fields := #[]
  methods := #[]
  instanceTypes := #[]
  staticTypes := #[]
  resolved := Array.replicate 7 none
  statics := none }

def pool7 : Array CpInfo := pool [(1, u "java/io/Serializable"), (0, .class_ 1), (0, u "java/lang/Object"), (0, .class_ 3)] 3

/-- java/io/Serializable -/
def k7 : Class := { plain "java/io/Serializable" (some 0) with
  accessFlags := 1537
  interfaces := #[]
  cf := some (fileOf pool7 2 #[] #[] 1537 4 #[] #[])
  fields := #[]
  methods := #[]
  instanceTypes := #[]
  staticTypes := #[]
  resolved := Array.replicate 8 none
  statics := none }

/-- the primitive byte -/
def k8 : Class := { plain "byte" none with kind := .primitive 'B', accessFlags := 0x411 }
/-- [B -/
def k9 : Class := { plain "[B" (some 0) with kind := .array 8 .byte, interfaces := #[6, 7], accessFlags := 1041 }

/-- the primitive int -/
def k10 : Class := { plain "int" none with kind := .primitive 'I', accessFlags := 0x411 }
/-- [I -/
def k11 : Class := { plain "[I" (some 0) with kind := .array 10 .int, interfaces := #[6, 7], accessFlags := 1041 }

def heap : Heap := #[]
def classes : Array Class := #[k0, k1, k2, k3, k4, k5, k6, k7, k8, k9, k10, k11]
def interned : List (Array UInt16 × Addr) := []
def slotsUsed : Nat := 0
def theMethod : MethodId := ⟨1, 1⟩
def args0 : Array Value := #[.int 5, .int 3]
def aboutOver (below : List Frame) : State where
  vm := { classes := classes, interned := interned.toArray }
  heap := heap
  slotsUsed := slotsUsed
  threads := #[{ frames := .invoking theMethod args0 :: below }]
def below0 : List Frame := [.native { method := ⟨0, 0⟩, args := #[] }]
def about1 : State := aboutOver below0
def p0 : Program := .bare "" "" ""
def e0 : Env := launch0.env 0 0 0
theorem w_frames : about1.frames = Frame.invoking theMethod args0 :: below0 := rfl
set_option maxRecDepth 65536 in
theorem w_args : argsFit about1.vm theMethod args0 = true := by decide +kernel
set_option maxRecDepth 65536 in
theorem w_heap : heapFits about1 = true := by decide +kernel
set_option maxRecDepth 65536 in
theorem w_runnable : about1.curStatus? = some .runnable := by decide +kernel
set_option maxRecDepth 65536 in
theorem w_alone : about1.alone = true := by decide +kernel
set_option maxRecDepth 65536 in
theorem w_named : about1.methodNamed? x = some theMethod := by decide +kernel
set_option maxRecDepth 65536 in
theorem w_hears : about1.hears theMethod below0 = true := by decide +kernel
set_option maxRecDepth 65536 in
theorem w_ripe : about1.ripe theMethod args0 below0 = true := by decide +kernel
theorem w_running : about1.status = .running := rfl
set_option maxRecDepth 65536 in
theorem w_room : about1.hasRoom e0.platform room_1 = true :=
  launch0.hasRoom_least _ room_1 (by decide +kernel) (by decide +kernel) (by decide +kernel) (by decide +kernel) (by decide +kernel) (by decide +kernel)
theorem allAtoms_all (ts : List Jvm.Cond) (a : Array Jvm.Value) (st : Jvm.State) : (allAtoms ts).before a st = ts.all (fun c => c.before a st) := by
  induction ts with
  | nil => rfl
  | cons c t ih =>
    show (Jvm.Cond.and c (allAtoms t)).before a st = _
    rw [Jvm.Cond.before_and, ih, List.all_cons]
def words1 : List Jvm.Cond := Jvm.Cond.code x code maxLocals ret :: tables_1
/-- a 'code' word, met by the world's own term for the bytes: nothing is compared byte by byte -/
theorem code_word {y : MethodName} {bytes : ByteArray} {mx : Nat} {rt : Option FieldType} {a : Array Value} {s : State} {m : MethodId} {meth : Method} {c : Code} (h1 : s.methodNamed? y = some m) (h2 : s.vm.method? m = some meth) (h3 : meth.code = some c) (h4 : c.code = bytes)
    (h5 : (c.maxLocals == mx && c.exceptionTable.isEmpty && decide (c.maxStack ≤ mostOperands) && decide (meth.sig.returnType = rt) && !meth.locks && decide (parseMethodDescriptor y.desc = some meth.sig)) = true) : (Jvm.Cond.code y bytes mx rt).before a s = true := by
  simp only [Bool.and_eq_true, beq_iff_eq, Bool.not_eq_true', decide_eq_true_eq] at h5
  obtain ⟨⟨⟨⟨⟨g1, g2⟩, g3⟩, g4⟩, g5⟩, g6⟩ := h5
  simp [Cond.before, Cond.holds, Cond.value, h1, h2, h3, h4, g1, g2, g3, g4, g5, g6]
def isCode : Jvm.Cond → Bool
  | .code _ _ _ _ => true
  | _ => false
theorem all_split {L : List Jvm.Cond} {P : Jvm.Cond → Bool} (h1 : L.all (fun c => isCode c || P c) = true) (h2 : ∀ c ∈ L.filter isCode, P c = true) : L.all P = true := by
  refine List.all_eq_true.mpr fun c hc => ?_
  have h := List.all_eq_true.mp h1 c hc
  rcases Bool.eq_false_or_eq_true (isCode c) with hi | hi
  · exact h2 c (List.mem_filter.mpr ⟨hc, hi⟩)
  · simpa [hi] using h
set_option maxRecDepth 65536 in
theorem w_c0 : (Jvm.Cond.code x code maxLocals ret).before args0 about1 = true := code_word (m := ⟨1, 1⟩) (meth := k1m1) (c := k1c1) (by decide +kernel) rfl rfl rfl (by decide +kernel)
set_option maxRecDepth 65536 in
theorem w_c1 : (Jvm.Cond.code ({ cls := "com/example/thawline/thawline/stun/StunAttribute$Unknown", name := "<init>", desc := "(I[B)V" } : Jvm.MethodName) prog_57_method_1_code (3 : Nat) (Option.none : Option Jvm.ClassFile.FieldType)).before args0 about1 = true := code_word (m := ⟨4, 0⟩) (meth := k4m0) (c := k4c0) (by decide +kernel) rfl rfl rfl (by decide +kernel)
set_option maxRecDepth 65536 in
theorem w_c2 : (Jvm.Cond.code ({ cls := "java/lang/Record", name := "<init>", desc := "()V" } : Jvm.MethodName) jdk_30_method_1_code (1 : Nat) (Option.none : Option Jvm.ClassFile.FieldType)).before args0 about1 = true := code_word (m := ⟨2, 0⟩) (meth := k2m0) (c := k2c0) (by decide +kernel) rfl rfl rfl (by decide +kernel)
set_option maxRecDepth 65536 in
theorem w_c3 : (Jvm.Cond.code ({ cls := "java/lang/Object", name := "<init>", desc := "()V" } : Jvm.MethodName) object_method_1_code (1 : Nat) (Option.none : Option Jvm.ClassFile.FieldType)).before args0 about1 = true := code_word (m := ⟨0, 0⟩) (meth := k0m0) (c := k0c0) (by decide +kernel) rfl rfl rfl (by decide +kernel)
set_option maxRecDepth 65536 in
theorem w_c4 : (Jvm.Cond.code ({ cls := "com/example/thawline/thawline/stun/StunAttribute", name := "requireType", desc := "(I)I" } : Jvm.MethodName) prog_42_method_3_code (1 : Nat) (Option.some Jvm.ClassFile.FieldType.int)).before args0 about1 = true := code_word (m := ⟨3, 0⟩) (meth := k3m0) (c := k3c0) (by decide +kernel) rfl rfl rfl (by decide +kernel)
set_option maxRecDepth 65536 in
theorem w_c5 : (Jvm.Cond.code ({ cls := "java/util/Arrays", name := "copyOf", desc := "([BI)[B" } : Jvm.MethodName) jdk_65_method_121_code (3 : Nat) (Option.some (Jvm.ClassFile.FieldType.array Jvm.ClassFile.FieldType.byte))).before args0 about1 = true := code_word (m := ⟨5, 1⟩) (meth := k5m1) (c := k5c1) (by decide +kernel) rfl rfl rfl (by decide +kernel)
set_option maxRecDepth 65536 in
theorem w_c6 : (Jvm.Cond.code ({ cls := "com/example/thawline/thawline/stun/StunAttribute$Unknown", name := "comprehensionRequired", desc := "()Z" } : Jvm.MethodName) prog_57_method_3_code (1 : Nat) (Option.some Jvm.ClassFile.FieldType.boolean)).before args0 about1 = true := code_word (m := ⟨4, 1⟩) (meth := k4m1) (c := k4c1) (by decide +kernel) rfl rfl rfl (by decide +kernel)
set_option maxRecDepth 65536 in
theorem w_c7 : (Jvm.Cond.code ({ cls := "com/example/thawline/thawline/stun/StunAttribute$Unknown", name := "type", desc := "()I" } : Jvm.MethodName) prog_57_method_9_code (1 : Nat) (Option.some Jvm.ClassFile.FieldType.int)).before args0 about1 = true := code_word (m := ⟨4, 2⟩) (meth := k4m2) (c := k4c2) (by decide +kernel) rfl rfl rfl (by decide +kernel)
def codes1 : List Jvm.Cond := [Jvm.Cond.code x code maxLocals ret, Jvm.Cond.code ({ cls := "com/example/thawline/thawline/stun/StunAttribute$Unknown", name := "<init>", desc := "(I[B)V" } : Jvm.MethodName) prog_57_method_1_code (3 : Nat) (Option.none : Option Jvm.ClassFile.FieldType), Jvm.Cond.code ({ cls := "java/lang/Record", name := "<init>", desc := "()V" } : Jvm.MethodName) jdk_30_method_1_code (1 : Nat) (Option.none : Option Jvm.ClassFile.FieldType), Jvm.Cond.code ({ cls := "java/lang/Object", name := "<init>", desc := "()V" } : Jvm.MethodName) object_method_1_code (1 : Nat) (Option.none : Option Jvm.ClassFile.FieldType), Jvm.Cond.code ({ cls := "com/example/thawline/thawline/stun/StunAttribute", name := "requireType", desc := "(I)I" } : Jvm.MethodName) prog_42_method_3_code (1 : Nat) (Option.some Jvm.ClassFile.FieldType.int), Jvm.Cond.code ({ cls := "java/util/Arrays", name := "copyOf", desc := "([BI)[B" } : Jvm.MethodName) jdk_65_method_121_code (3 : Nat) (Option.some (Jvm.ClassFile.FieldType.array Jvm.ClassFile.FieldType.byte)), Jvm.Cond.code ({ cls := "com/example/thawline/thawline/stun/StunAttribute$Unknown", name := "comprehensionRequired", desc := "()Z" } : Jvm.MethodName) prog_57_method_3_code (1 : Nat) (Option.some Jvm.ClassFile.FieldType.boolean), Jvm.Cond.code ({ cls := "com/example/thawline/thawline/stun/StunAttribute$Unknown", name := "type", desc := "()I" } : Jvm.MethodName) prog_57_method_9_code (1 : Nat) (Option.some Jvm.ClassFile.FieldType.int)]
set_option maxRecDepth 65536 in
theorem codes_eq : words1.filter isCode = codes1 := rfl
theorem w_codes : ∀ c ∈ words1.filter isCode, c.before args0 about1 = true := by
  rw [codes_eq]
  intro c hc
  simp only [codes1, List.mem_cons, List.not_mem_nil, or_false] at hc
  rcases hc with rfl | rfl | rfl | rfl | rfl | rfl | rfl | rfl
  · exact w_c0
  · exact w_c1
  · exact w_c2
  · exact w_c3
  · exact w_c4
  · exact w_c5
  · exact w_c6
  · exact w_c7
set_option maxRecDepth 65536 in
theorem w_t1 : (words1.take 24).all (fun c => isCode c || c.before args0 about1) = true := by decide +kernel
set_option maxRecDepth 65536 in
theorem w_t2 : ((words1.drop 24).take 24).all (fun c => isCode c || c.before args0 about1) = true := by decide +kernel
set_option maxRecDepth 65536 in
theorem w_t3 : ((words1.drop 24).drop 24).all (fun c => isCode c || c.before args0 about1) = true := by decide +kernel
theorem w_tables : (allAtoms (Jvm.Cond.code x code maxLocals ret :: tables_1)).before args0 about1 = true := by
  rw [allAtoms_all]
  show words1.all (fun c => c.before args0 about1) = true
  refine all_split ?_ w_codes
  rw [← List.take_append_drop 24 words1, List.all_append, w_t1, ← List.take_append_drop 24 (words1.drop 24), List.all_append, w_t2, w_t3]
  rfl
set_option maxRecDepth 65536 in
theorem w_case : (Jvm.Cond.and given_1 narrow_1).before args0 about1 = true := by decide +kernel
theorem w_applies : (headSpec (Jvm.Cond.code x code maxLocals ret :: tables_1) room_1).applies x e0.platform about1 = true :=
  (Spec.applies_iff w_frames).mpr ⟨w_running, w_runnable, w_alone, w_named, w_hears, w_ripe, w_room, w_tables⟩
theorem atStart : AtStart classFile x code maxLocals ret World_1 tables_1 room_1 Calls_1 rest_1 Pre_1 launch0 p0 e0 about1 theMethod args0 below0 :=
  ⟨lists_1, trivial, launch0.admits_env _ _ _, launch0.least_env, fairChoices_fair.cas, fairChoices_fair.clock, w_frames, w_args, w_heap, w_applies, trivial, trivial, w_case⟩
end start1
theorem witness_1 : WitnessClaimed_1 := ⟨start1.p0, start1.e0, start1.about1, start1.theMethod, start1.args0, start1.below0, start1.atStart⟩
end Jvm.Pilot.@@N@@
