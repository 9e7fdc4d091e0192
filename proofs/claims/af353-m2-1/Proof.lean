import JvmDerived
import JvmDerived.Pilot.@@N@@Statement
import JvmDerived.Pilot.@@N@@Code
set_option linter.unusedVariables false
set_option linter.unusedSimpArgs false
@@BLOCK:NumsL.lean.txt@@
namespace Jvm.Pilot.@@N@@
open Jvm Jvm.ClassFile Sem Op Lib Jvm.Free Jvm.Stand Jvm.LawKit Jvm.RoadKit Bundle Jvm.Pilot.@@N@@.Jvm.D
theorem own_hide {p : Program} {l : Launch} {e : Env} {R : Room} {s : State} {m : MethodId} {args : Array Value} {below : List Frame} {meth : Method} {c : Code} {T : State} {locs : List Loc} {cells slots n0 : Nat} (X : Stand p l e R s m args below meth c T locs cells slots) (N : Fr n0 locs) : ∃ Ls, Stand p l e R s m args below meth c T Ls cells slots ∧ Fr n0 Ls := ⟨_, X, N⟩
theorem own_nb (y : Int32) : nar .byte y.toInt8.toInt32 = y.toInt8.toInt32 := by
  show y.toInt8.toInt32.toInt8.toInt32 = y.toInt8.toInt32
  simp
theorem own_sh0 (q : Int64) : ((q.toUInt64 >>> ((0 : Int32) &&& 0x3f).toInt64.toUInt64).toInt64) = q := by
  have e : ((0 : Int32) &&& 0x3f).toInt64.toUInt64 = 0 := by decide
  rw [e, UInt64.shiftRight_zero]
  simp
theorem d1_0 : decode jdk_29_method_69_code 0 = .ok (.iload_n 0, 1) := by decide +kernel
theorem d1_1 : decode jdk_29_method_69_code 1 = .ok (.iload_n 1, 1) := by decide +kernel
theorem d1_2 : decode jdk_29_method_69_code 2 = .ok (.if_icmp .gt 7, 3) := by decide +kernel
theorem d1_5 : decode jdk_29_method_69_code 5 = .ok (.iload_n 0, 1) := by decide +kernel
theorem d1_6 : decode jdk_29_method_69_code 6 = .ok (.goto 4, 3) := by decide +kernel
theorem d1_10 : decode jdk_29_method_69_code 10 = .ok (.ireturn, 1) := by decide +kernel
theorem ef_1 (mM : MethodId) (x0 : Int32) (x1 : Int32) : entryFrame mM #[(.int x0), (.int x1)] 2 = mkF mM 0 #[.val (.int x0), .val (.int x1)] [] := by first | (simp [entryFrame, mkF, argsToLocals, Value.category]; done) | rfl
def Q1 (Z : State) (p : Int32) (q : Int32) (h0 : Heap) (n0 : Nat) (v : Option Value) (h : Heap) (L : List Loc) : Prop := v = some (.int p) ∧ Fr n0 L ∧ h = h0
set_option maxRecDepth 65536 in
set_option maxHeartbeats 40000000 in
theorem rm1 (l : Launch) (Z : State) (a0 : Array Value) (hw : ∀ d ∈ tables_1, d.before a0 Z = true) (ws : List Jvm.Cond) (p : Int32) (q : Int32) (h0 : Heap) (n0 : Nat) (Z0 : n0 ≤ h0.size) (hpq : ¬ q < p) :
    MetFree l (⟨"java/lang/Math", "min", "(II)I"⟩ : MethodName) (head1 (Jvm.Cond.code (⟨"java/lang/Math", "min", "(II)I"⟩ : MethodName) jdk_29_method_69_code 2 (some .int) :: ws) ({ frames := 0, cells := 0, slots := 0, locals := 0 } : Room)) (fun aA uU => aA = #[(.int p), (.int q)] ∧ Z.Warmed39 uU.vm ∧ uU.heap = h0) (fun _ _ _ _ _ => True) (fun _ uU oO uU' => ∃ vV lL, oO = .returned vV ∧ Q1 Z p q h0 n0 vV uU'.heap lL ∧ FrameEnd uU oO uU' lL ({ frames := 0, cells := 0, slots := 0, locals := 0 } : Room).cells ({ frames := 0, cells := 0, slots := 0, locals := 0 } : Room).slots) := by
  refine MetFree.of_bodySF (Jvm.Free.JP.mathPlain rfl (by decide +kernel)) hisR ?_
  intro pP eE sS mM args below meth cC s₁ Bd hml0 hP hK
  obtain ⟨rfl, hZ, hh⟩ := hP
  have hx := Bd.exec
  have hby := Bd.bytes
  have hml : cC.maxLocals = 2 := hml0
  have hown : sS.vm.findClass "java/lang/Math" = some mM.cls := findClass_of_methodNamed Bd.named
  have hnm := (name_of_methodNamed Bd.named Bd.method).1
  have X0 : Stand pP l eE ({ frames := 0, cells := 0, slots := 0, locals := 0 } : Room) sS mM #[(.int p), (.int q)] below meth cC s₁ [] 0 0 := Stand.of_body Bd
  have e0 : s₁.heap = h0 := by rw [← hh, Bd.state]; rfl
  have N0 := Fr.nil n0
  have pre0 : ∀ tg, Steps pP.tables eE below (s₁.setTop (mkF mM 0 #[.val (.int p), .val (.int q)] [])) tg → Steps pP.tables eE below (s₁.setTop (entryFrame mM #[(.int p), (.int q)] 2)) tg := fun tg kg => castTop (ef_1 mM p q) kg
  have pr1 : ∀ tg, Steps pP.tables eE below (s₁.setTop (mkF mM 10 #[.val (.int p), .val (.int q)] [(.int p)])) tg → Steps pP.tables eE below (s₁.setTop (entryFrame mM #[(.int p), (.int q)] 2)) tg := fun tg kg => pre0 _ (by
    show Steps pP.tables eE below (s₁.setTop (mkF mM 0 #[.val (.int p), .val (.int q)] [])) _
    refine XS.iloadN X0.here hx rfl (hb hby d1_0) rfl ?_
    refine XS.iloadN X0.here hx rfl (hb hby d1_1) rfl ?_
    refine XS.icmpNo X0.here hx rfl (hb hby d1_2) rfl (flt hpq).2.2.1 ?_
    refine XS.iloadN X0.here hx rfl (hb hby d1_5) rfl ?_
    refine XS.goto X0.here hx rfl (pc0 := 6) (pc' := 10) rfl (hb hby d1_6) (by decide) (by decide) ?_
    exact kg)
  clear pre0
  obtain ⟨fs, hr, hrun, hended, hW, hsame⟩ := X0.leave (v := some (.int p)) (fun h => by rw [Bd.returns] at h; cases h)
  refine ⟨_, _, pr1 _ (retOut X0 hx (t := .int) Bd.returns rfl (Or.inl ⟨rfl, Or.inl rfl, _, rfl⟩) (hb hby d1_10) hr), hrun, hended, _, _, rfl, ?_, ⟨_, rfl⟩, hW, hsame.mono (by decide) (by decide)⟩
  show Q1 Z p q h0 n0 _ s₁.heap _
  rw [e0]
  exact ⟨rfl, N0, rfl⟩
theorem pd_0 : parseMethodDescriptor "(II)I" = some ⟨[.int, .int], some .int⟩ := by decide +kernel
theorem d21_0 : decode jdk_65_method_121_code 0 = .ok (.iload_n 1, 1) := by decide +kernel
theorem d21_1 : decode jdk_65_method_121_code 1 = .ok (.aload_n 0, 1) := by decide +kernel
theorem d21_2 : decode jdk_65_method_121_code 2 = .ok (.arraylength, 1) := by decide +kernel
theorem d21_3 : decode jdk_65_method_121_code 3 = .ok (.if_icmp .ne 11, 3) := by decide +kernel
theorem d21_14 : decode jdk_65_method_121_code 14 = .ok (.iload_n 1, 1) := by decide +kernel
theorem d21_15 : decode jdk_65_method_121_code 15 = .ok (.newarray .byte, 2) := by decide +kernel
theorem d21_17 : decode jdk_65_method_121_code 17 = .ok (.astore_n 2, 1) := by decide +kernel
theorem d21_18 : decode jdk_65_method_121_code 18 = .ok (.aload_n 0, 1) := by decide +kernel
theorem d21_19 : decode jdk_65_method_121_code 19 = .ok (.iconst 0, 1) := by decide +kernel
theorem d21_20 : decode jdk_65_method_121_code 20 = .ok (.aload_n 2, 1) := by decide +kernel
theorem d21_21 : decode jdk_65_method_121_code 21 = .ok (.iconst 0, 1) := by decide +kernel
theorem d21_22 : decode jdk_65_method_121_code 22 = .ok (.aload_n 0, 1) := by decide +kernel
theorem d21_23 : decode jdk_65_method_121_code 23 = .ok (.arraylength, 1) := by decide +kernel
theorem d21_24 : decode jdk_65_method_121_code 24 = .ok (.iload_n 1, 1) := by decide +kernel
theorem d21_25 : decode jdk_65_method_121_code 25 = .ok (.invokestatic 304, 3) := by decide +kernel
theorem d21_28 : decode jdk_65_method_121_code 28 = .ok (.invokestatic 150, 3) := by decide +kernel
theorem d21_31 : decode jdk_65_method_121_code 31 = .ok (.aload_n 2, 1) := by decide +kernel
theorem d21_32 : decode jdk_65_method_121_code 32 = .ok (.areturn, 1) := by decide +kernel
theorem pn_0 : plainName "java/util/Arrays" = true := by first | (simp [plainName, overriddenIn]; done) | decide +kernel
theorem ef_21 (mM : MethodId) (x0 : Addr) (x1 : Int32) : entryFrame mM #[(.ref x0), (.int x1)] 3 = mkF mM 0 #[.val (.ref x0), .val (.int x1), .unset] [] := by first | (simp [entryFrame, mkF, argsToLocals, Value.category]; done) | rfl
def Q21 (Z : State) (x : Addr) (kx : ClassId) (u0 : Int32) (h0 : Heap) (n0 : Nat) (v : Option Value) (h : Heap) (L : List Loc) : Prop := ∃ b : Addr, v = some (.ref b) ∧ h0.size ≤ b ∧ Fr n0 L ∧ Keep h0 h [] ∧ ∃ k : ClassId, Arv Z h b k .byte (2 : Int32) [(.int u0), (.int (0 : Int32))] (.int (0 : Int32))
set_option maxRecDepth 65536 in
set_option maxHeartbeats 40000000 in
theorem rm21 (l : Launch) (Z : State) (a0 : Array Value) (hw : ∀ d ∈ tables_1, d.before a0 Z = true) (ws : List Jvm.Cond) (x : Addr) (kx : ClassId) (u0 : Int32) (h0 : Heap) (n0 : Nat) (Z0 : n0 ≤ h0.size) (V_x : Arv Z h0 x kx .byte (1 : Int32) [(.int u0)] (.int (0 : Int32))) :
    MetFree l (⟨"java/util/Arrays", "copyOf", "([BI)[B"⟩ : MethodName) (head1 (Jvm.Cond.code (⟨"java/util/Arrays", "copyOf", "([BI)[B"⟩ : MethodName) jdk_65_method_121_code 3 (some (.array .byte)) :: ws) ({ frames := 1, cells := 1, slots := 2, locals := 18 } : Room)) (fun aA uU => aA = #[(.ref x), (.int (2 : Int32))] ∧ Z.Warmed39 uU.vm ∧ uU.heap = h0) (fun _ _ _ _ _ => True) (fun _ uU oO uU' => ∃ vV lL, oO = .returned vV ∧ Q21 Z x kx u0 h0 n0 vV uU'.heap lL ∧ FrameEnd uU oO uU' lL ({ frames := 1, cells := 1, slots := 2, locals := 18 } : Room).cells ({ frames := 1, cells := 1, slots := 2, locals := 18 } : Room).slots) := by
  refine MetFree.of_bodySF (plainFor_of_name pn_0) hisR ?_
  intro pP eE sS mM args below meth cC s₁ Bd hml0 hP hK
  obtain ⟨rfl, hZ, hh⟩ := hP
  have hx := Bd.exec
  have hby := Bd.bytes
  have hml : cC.maxLocals = 3 := hml0
  have hown : sS.vm.findClass "java/util/Arrays" = some mM.cls := findClass_of_methodNamed Bd.named
  have hnm := (name_of_methodNamed Bd.named Bd.method).1
  have X0 : Stand pP l eE ({ frames := 1, cells := 1, slots := 2, locals := 18 } : Room) sS mM #[(.ref x), (.int (2 : Int32))] below meth cC s₁ [] 0 0 := Stand.of_body Bd
  have e0 : s₁.heap = h0 := by rw [← hh, Bd.state]; rfl
  have N0 := Fr.nil n0
  have pre0 : ∀ tg, Steps pP.tables eE below (s₁.setTop (mkF mM 0 #[.val (.ref x), .val (.int (2 : Int32)), .unset] [])) tg → Steps pP.tables eE below (s₁.setTop (entryFrame mM #[(.ref x), (.int (2 : Int32))] 3)) tg := fun tg kg => castTop (ef_21 mM x (2 : Int32)) kg
  obtain ⟨cla1, Ara1, qa1, Sa1, Ma1, Ha1, Ga1⟩ := id V_x
  have pr2 : ∀ tg, Steps pP.tables eE below (s₁.setTop (mkF mM 15 #[.val (.ref x), .val (.int (2 : Int32)), .unset] [(.int (2 : Int32))])) tg → Steps pP.tables eE below (s₁.setTop (entryFrame mM #[(.ref x), (.int (2 : Int32))] 3)) tg := fun tg kg => pre0 _ (by
    show Steps pP.tables eE below (s₁.setTop (mkF mM 0 #[.val (.ref x), .val (.int (2 : Int32)), .unset] [])) _
    refine XS.iloadN X0.here hx rfl (hb hby d21_0) rfl ?_
    refine XS.aloadN X0.here hx rfl (hb hby d21_1) rfl rfl ?_
    show Steps pP.tables eE below (s₁.setTop (mkF mM 2 #[.val (.ref x), .val (.int (2 : Int32)), .unset] [(.ref x), (.int (2 : Int32))])) _
    refine X0.arraylength hx (by rw [e0]; exact Ara1.1) (State.isArrayOf_alike hZ.alike Ara1.2.1) (g := (mkF mM 2 #[.val (.ref x), .val (.int (2 : Int32)), .unset] [(.ref x), (.int (2 : Int32))])) rfl rfl (hb hby d21_2) _ ?_
    rw [len_of Sa1 Ma1]
    show Steps pP.tables eE below (s₁.setTop (mkF mM 3 #[.val (.ref x), .val (.int (2 : Int32)), .unset] [(.int (1 : Int32)), (.int (2 : Int32))])) _
    refine XS.icmpYes X0.here hx rfl (pc0 := 3) (pc' := 14) rfl (hb hby d21_3) rfl (feq (by decide)).2 (by decide) (by decide) ?_
    refine XS.iloadN X0.here hx rfl (hb hby d21_14) rfl ?_
    exact kg)
  clear pre0
  obtain ⟨T3, h3, k3, X3, e3, E3, A3, Ex3, st3⟩ := newPE X0 hx hZ (hw _ (List.mem_of_getElem? (i := 74) rfl)) e0 (g := (mkF mM 15 #[.val (.ref x), .val (.int (2 : Int32)), .unset] [(.int (2 : Int32))])) rfl (hb hby d21_15) rfl (by decide) (cap := 2) (by decide) (by decide) (by decide) (by decide) (ad := "[B") rfl
  obtain ⟨b3, g3⟩ : ∃ z, z = (h0).size := ⟨_, rfl⟩
  rw [← g3] at A3 Ex3 st3
  have ne4 : x ≠ b3 := Nat.ne_of_lt (Nat.lt_of_lt_of_le (V_x).lt (Nat.le_of_eq g3.symm))
  have gn5 : n0 ≤ b3 := Nat.le_trans Z0 (Nat.le_of_eq g3.symm)
  have gs6 : h0.size ≤ b3 := Nat.le_trans (Keep.refl h0 []).1 (Nat.le_of_eq g3.symm)
  have V3 : Arv Z h3 b3 k3 .byte (2 : Int32) [(.int (0 : Int32)), (.int (0 : Int32))] (.int (0 : Int32)) := (Arv.new A3 (by decide)).pad (pad_rep [] (.int (0 : Int32)) 2)
  have pr7 : ∀ tg, Steps pP.tables eE below (T3.setTop (mkF mM 17 #[.val (.ref x), .val (.int (2 : Int32)), .unset] [(.ref b3)])) tg → Steps pP.tables eE below (s₁.setTop (entryFrame mM #[(.ref x), (.int (2 : Int32))] 3)) tg := fun tg kg => pr2 _ (st3 _ kg)
  clear pr2 st3 X0 e0
  have c8 := (Arv.ext V_x E3)
  obtain ⟨cla9, Ara9, qa9, Sa9, Ma9, Ha9, Ga9⟩ := id c8
  have pr10 : ∀ tg, Steps pP.tables eE below (T3.setTop (mkF mM 25 #[.val (.ref x), .val (.int (2 : Int32)), .val (.ref b3)] [(.int (2 : Int32)), (.int (1 : Int32)), (.int (0 : Int32)), (.ref b3), (.int (0 : Int32)), (.ref x)])) tg → Steps pP.tables eE below (s₁.setTop (entryFrame mM #[(.ref x), (.int (2 : Int32))] 3)) tg := fun tg kg => pr7 _ (by
    show Steps pP.tables eE below (T3.setTop (mkF mM 17 #[.val (.ref x), .val (.int (2 : Int32)), .unset] [(.ref b3)])) _
    refine XS.astoreN X3.here hx rfl (hb hby d21_17) rfl rfl (l' := #[.val (.ref x), .val (.int (2 : Int32)), .val (.ref b3)]) rfl ?_
    refine XS.aloadN X3.here hx rfl (hb hby d21_18) rfl rfl ?_
    refine XS.iconst X3.here hx rfl (hb hby d21_19) ?_
    refine XS.aloadN X3.here hx rfl (hb hby d21_20) rfl rfl ?_
    refine XS.iconst X3.here hx rfl (hb hby d21_21) ?_
    refine XS.aloadN X3.here hx rfl (hb hby d21_22) rfl rfl ?_
    show Steps pP.tables eE below (T3.setTop (mkF mM 23 #[.val (.ref x), .val (.int (2 : Int32)), .val (.ref b3)] [(.ref x), (.int (0 : Int32)), (.ref b3), (.int (0 : Int32)), (.ref x)])) _
    refine X3.arraylength hx (by rw [e3]; exact Ara9.1) (State.isArrayOf_alike hZ.alike Ara9.2.1) (g := (mkF mM 23 #[.val (.ref x), .val (.int (2 : Int32)), .val (.ref b3)] [(.ref x), (.int (0 : Int32)), (.ref b3), (.int (0 : Int32)), (.ref x)])) rfl rfl (hb hby d21_23) _ ?_
    rw [len_of Sa9 Ma9]
    show Steps pP.tables eE below (T3.setTop (mkF mM 24 #[.val (.ref x), .val (.int (2 : Int32)), .val (.ref b3)] [(.int (1 : Int32)), (.int (0 : Int32)), (.ref b3), (.int (0 : Int32)), (.ref x)])) _
    refine XS.iloadN X3.here hx rfl (hb hby d21_24) rfl ?_
    exact kg)
  clear pr7
  have c11 := (Nat.le_trans Z0 E3.1)
  obtain ⟨_, _, ⟨T12, L12, kk12, nn12⟩, -, X12, ⟨Lc12, hQ12, l12, y12, z12⟩, st12⟩ := Jvm.LawKit.callS X3 hx (y := (⟨"java/lang/Math", "min", "(II)I"⟩ : MethodName)) hown (mvT hZ (hw _ (List.mem_of_getElem? (i := 84) rfl))) (mvT hZ (hw _ (List.mem_of_getElem? (i := 85) rfl))) (mvT hZ (hw _ (List.mem_of_getElem? (i := 86) rfl))) (mvT hZ (hw _ (List.mem_of_getElem? (i := 87) rfl))) (by decide) (backOf (W := 4) (rm1 l Z a0 hw [] (1 : Int32) (2 : Int32) h3 n0 c11 (by decide)) hZ (hw _ (List.mem_of_getElem? (i := 87) rfl)) (hw _ (List.mem_of_getElem? (i := 86) rfl)) (by decide) (by decide)) (g := (mkF mM 25 #[.val (.ref x), .val (.int (2 : Int32)), .val (.ref b3)] [(.int (2 : Int32)), (.int (1 : Int32)), (.int (0 : Int32)), (.ref b3), (.int (0 : Int32)), (.ref x)])) rfl (by rw [hml]; rfl) (argsL := [(.int (1 : Int32)), (.int (2 : Int32))]) (rest := [(.int (0 : Int32)), (.ref b3), (.int (0 : Int32)), (.ref x)]) (lenOf pd_0 rfl) rfl (by show 2 * 0 + _ ≤ _; exact Nat.le_of_eq rfl) (hb hby d21_25) (fun _ _ => ⟨rfl, e3, (by decide : 1 + 0 ≤ _), (by decide : 2 + 0 ≤ _)⟩)
  dsimp only [Pt.U, Pt.locs, Pt.cells, Pt.slots] at X12 l12 y12 z12 st12 hQ12
  subst l12 y12 z12
  obtain ⟨rfl, Nq12, e12⟩ := hQ12
  have N12 := Fr.app N0 Nq12
  have pr13 : ∀ tg, Steps pP.tables eE below (T12.setTop (mkF mM 28 #[.val (.ref x), .val (.int (2 : Int32)), .val (.ref b3)] [(.int (1 : Int32)), (.int (0 : Int32)), (.ref b3), (.int (0 : Int32)), (.ref x)])) tg → Steps pP.tables eE below (s₁.setTop (entryFrame mM #[(.ref x), (.int (2 : Int32))] 3)) tg := fun tg kg => pr10 _ (st12 _ kg)
  clear pr10 st12 X3 e3
  obtain ⟨T14, h14, L14, X14, e14, N14, K14, Vc14, st14⟩ := cpA X12 hx hZ hown (hw _ (List.mem_of_getElem? (i := 88) rfl)) (hw _ (List.mem_of_getElem? (i := 91) rfl)) (hw _ (List.mem_of_getElem? (i := 89) rfl)) (hw _ (List.mem_of_getElem? (i := 90) rfl)) e12 c8 V3 (us := [(.int u0)]) (Or.inl ⟨rfl, rfl⟩) (by decide) (by decide) (by decide) (by decide) (by decide) rfl (Nat.le_of_ble_eq_true rfl) N12 gn5 (g := (mkF mM 28 #[.val (.ref x), .val (.int (2 : Int32)), .val (.ref b3)] [(.int (1 : Int32)), (.int (0 : Int32)), (.ref b3), (.int (0 : Int32)), (.ref x)])) rfl (by rw [hml]; rfl) rfl (hb hby d21_28) (by decide) (W := 0) (by show 2 * 0 + _ ≤ _; exact Nat.le_of_eq rfl) (by decide)
  have V14 : Arv Z h14 b3 k3 .byte (2 : Int32) [(.int u0), (.int (0 : Int32))] (.int (0 : Int32)) := Vc14
  have pr15 : ∀ tg, Steps pP.tables eE below (T14.setTop (mkF mM 31 #[.val (.ref x), .val (.int (2 : Int32)), .val (.ref b3)] [])) tg → Steps pP.tables eE below (s₁.setTop (entryFrame mM #[(.ref x), (.int (2 : Int32))] 3)) tg := fun tg kg => pr13 _ (st14 _ kg)
  clear pr13 st14 X12 e12
  have pr16 : ∀ tg, Steps pP.tables eE below (T14.setTop (mkF mM 32 #[.val (.ref x), .val (.int (2 : Int32)), .val (.ref b3)] [(.ref b3)])) tg → Steps pP.tables eE below (s₁.setTop (entryFrame mM #[(.ref x), (.int (2 : Int32))] 3)) tg := fun tg kg => pr15 _ (by
    show Steps pP.tables eE below (T14.setTop (mkF mM 31 #[.val (.ref x), .val (.int (2 : Int32)), .val (.ref b3)] [])) _
    refine XS.aloadN X14.here hx rfl (hb hby d21_31) rfl rfl ?_
    exact kg)
  clear pr15
  have c17 := (Keep.trans (Keep.ext (Keep.refl h0 []) E3) K14 (allS (Or.inr gs6) all0))
  obtain ⟨fs, hr, hrun, hended, hW, hsame⟩ := X14.leave (v := some (.ref b3)) (fun h => by rw [Bd.returns] at h; cases h)
  refine ⟨_, _, pr16 _ (retOut X14 hx (t := (.array .byte)) Bd.returns rfl (Or.inr (Or.inr (Or.inr (Or.inr ⟨rfl, rfl, rfl⟩)))) (hb hby d21_32) hr), hrun, hended, _, _, rfl, ?_, ⟨_, rfl⟩, hW, hsame.mono (by decide) (by decide)⟩
  show Q21 Z x kx u0 h0 n0 _ T14.heap _
  rw [e14]
  exact ⟨_, rfl, gs6, N14, c17, _, V14⟩
theorem d23_0 : decode jdk_65_method_121_code 0 = .ok (.iload_n 1, 1) := by decide +kernel
theorem d23_1 : decode jdk_65_method_121_code 1 = .ok (.aload_n 0, 1) := by decide +kernel
theorem d23_2 : decode jdk_65_method_121_code 2 = .ok (.arraylength, 1) := by decide +kernel
theorem d23_3 : decode jdk_65_method_121_code 3 = .ok (.if_icmp .ne 11, 3) := by decide +kernel
theorem d23_14 : decode jdk_65_method_121_code 14 = .ok (.iload_n 1, 1) := by decide +kernel
theorem d23_15 : decode jdk_65_method_121_code 15 = .ok (.newarray .byte, 2) := by decide +kernel
theorem d23_17 : decode jdk_65_method_121_code 17 = .ok (.astore_n 2, 1) := by decide +kernel
theorem d23_18 : decode jdk_65_method_121_code 18 = .ok (.aload_n 0, 1) := by decide +kernel
theorem d23_19 : decode jdk_65_method_121_code 19 = .ok (.iconst 0, 1) := by decide +kernel
theorem d23_20 : decode jdk_65_method_121_code 20 = .ok (.aload_n 2, 1) := by decide +kernel
theorem d23_21 : decode jdk_65_method_121_code 21 = .ok (.iconst 0, 1) := by decide +kernel
theorem d23_22 : decode jdk_65_method_121_code 22 = .ok (.aload_n 0, 1) := by decide +kernel
theorem d23_23 : decode jdk_65_method_121_code 23 = .ok (.arraylength, 1) := by decide +kernel
theorem d23_24 : decode jdk_65_method_121_code 24 = .ok (.iload_n 1, 1) := by decide +kernel
theorem d23_25 : decode jdk_65_method_121_code 25 = .ok (.invokestatic 304, 3) := by decide +kernel
theorem d23_28 : decode jdk_65_method_121_code 28 = .ok (.invokestatic 150, 3) := by decide +kernel
theorem d23_31 : decode jdk_65_method_121_code 31 = .ok (.aload_n 2, 1) := by decide +kernel
theorem d23_32 : decode jdk_65_method_121_code 32 = .ok (.areturn, 1) := by decide +kernel
theorem ef_23 (mM : MethodId) (x0 : Addr) (x1 : Int32) : entryFrame mM #[(.ref x0), (.int x1)] 3 = mkF mM 0 #[.val (.ref x0), .val (.int x1), .unset] [] := by first | (simp [entryFrame, mkF, argsToLocals, Value.category]; done) | rfl
def Q23 (Z : State) (x : Addr) (kx : ClassId) (u0 : Int32) (u1 : Int32) (u2 : Int32) (h0 : Heap) (n0 : Nat) (v : Option Value) (h : Heap) (L : List Loc) : Prop := ∃ b : Addr, v = some (.ref b) ∧ h0.size ≤ b ∧ Fr n0 L ∧ Keep h0 h [] ∧ ∃ k : ClassId, Arv Z h b k .byte (4 : Int32) [(.int u0), (.int u1), (.int u2), (.int (0 : Int32))] (.int (0 : Int32))
set_option maxRecDepth 65536 in
set_option maxHeartbeats 40000000 in
theorem rm23 (l : Launch) (Z : State) (a0 : Array Value) (hw : ∀ d ∈ tables_1, d.before a0 Z = true) (ws : List Jvm.Cond) (x : Addr) (kx : ClassId) (u0 : Int32) (u1 : Int32) (u2 : Int32) (h0 : Heap) (n0 : Nat) (Z0 : n0 ≤ h0.size) (V_x : Arv Z h0 x kx .byte (3 : Int32) [(.int u0), (.int u1), (.int u2)] (.int (0 : Int32))) :
    MetFree l (⟨"java/util/Arrays", "copyOf", "([BI)[B"⟩ : MethodName) (head1 (Jvm.Cond.code (⟨"java/util/Arrays", "copyOf", "([BI)[B"⟩ : MethodName) jdk_65_method_121_code 3 (some (.array .byte)) :: ws) ({ frames := 1, cells := 1, slots := 4, locals := 18 } : Room)) (fun aA uU => aA = #[(.ref x), (.int (4 : Int32))] ∧ Z.Warmed39 uU.vm ∧ uU.heap = h0) (fun _ _ _ _ _ => True) (fun _ uU oO uU' => ∃ vV lL, oO = .returned vV ∧ Q23 Z x kx u0 u1 u2 h0 n0 vV uU'.heap lL ∧ FrameEnd uU oO uU' lL ({ frames := 1, cells := 1, slots := 4, locals := 18 } : Room).cells ({ frames := 1, cells := 1, slots := 4, locals := 18 } : Room).slots) := by
  refine MetFree.of_bodySF (plainFor_of_name pn_0) hisR ?_
  intro pP eE sS mM args below meth cC s₁ Bd hml0 hP hK
  obtain ⟨rfl, hZ, hh⟩ := hP
  have hx := Bd.exec
  have hby := Bd.bytes
  have hml : cC.maxLocals = 3 := hml0
  have hown : sS.vm.findClass "java/util/Arrays" = some mM.cls := findClass_of_methodNamed Bd.named
  have hnm := (name_of_methodNamed Bd.named Bd.method).1
  have X0 : Stand pP l eE ({ frames := 1, cells := 1, slots := 4, locals := 18 } : Room) sS mM #[(.ref x), (.int (4 : Int32))] below meth cC s₁ [] 0 0 := Stand.of_body Bd
  have e0 : s₁.heap = h0 := by rw [← hh, Bd.state]; rfl
  have N0 := Fr.nil n0
  have pre0 : ∀ tg, Steps pP.tables eE below (s₁.setTop (mkF mM 0 #[.val (.ref x), .val (.int (4 : Int32)), .unset] [])) tg → Steps pP.tables eE below (s₁.setTop (entryFrame mM #[(.ref x), (.int (4 : Int32))] 3)) tg := fun tg kg => castTop (ef_23 mM x (4 : Int32)) kg
  obtain ⟨cla1, Ara1, qa1, Sa1, Ma1, Ha1, Ga1⟩ := id V_x
  have pr2 : ∀ tg, Steps pP.tables eE below (s₁.setTop (mkF mM 15 #[.val (.ref x), .val (.int (4 : Int32)), .unset] [(.int (4 : Int32))])) tg → Steps pP.tables eE below (s₁.setTop (entryFrame mM #[(.ref x), (.int (4 : Int32))] 3)) tg := fun tg kg => pre0 _ (by
    show Steps pP.tables eE below (s₁.setTop (mkF mM 0 #[.val (.ref x), .val (.int (4 : Int32)), .unset] [])) _
    refine XS.iloadN X0.here hx rfl (hb hby d23_0) rfl ?_
    refine XS.aloadN X0.here hx rfl (hb hby d23_1) rfl rfl ?_
    show Steps pP.tables eE below (s₁.setTop (mkF mM 2 #[.val (.ref x), .val (.int (4 : Int32)), .unset] [(.ref x), (.int (4 : Int32))])) _
    refine X0.arraylength hx (by rw [e0]; exact Ara1.1) (State.isArrayOf_alike hZ.alike Ara1.2.1) (g := (mkF mM 2 #[.val (.ref x), .val (.int (4 : Int32)), .unset] [(.ref x), (.int (4 : Int32))])) rfl rfl (hb hby d23_2) _ ?_
    rw [len_of Sa1 Ma1]
    show Steps pP.tables eE below (s₁.setTop (mkF mM 3 #[.val (.ref x), .val (.int (4 : Int32)), .unset] [(.int (3 : Int32)), (.int (4 : Int32))])) _
    refine XS.icmpYes X0.here hx rfl (pc0 := 3) (pc' := 14) rfl (hb hby d23_3) rfl (feq (by decide)).2 (by decide) (by decide) ?_
    refine XS.iloadN X0.here hx rfl (hb hby d23_14) rfl ?_
    exact kg)
  clear pre0
  obtain ⟨T3, h3, k3, X3, e3, E3, A3, Ex3, st3⟩ := newPE X0 hx hZ (hw _ (List.mem_of_getElem? (i := 74) rfl)) e0 (g := (mkF mM 15 #[.val (.ref x), .val (.int (4 : Int32)), .unset] [(.int (4 : Int32))])) rfl (hb hby d23_15) rfl (by decide) (cap := 4) (by decide) (by decide) (by decide) (by decide) (ad := "[B") rfl
  obtain ⟨b3, g3⟩ : ∃ z, z = (h0).size := ⟨_, rfl⟩
  rw [← g3] at A3 Ex3 st3
  have ne4 : x ≠ b3 := Nat.ne_of_lt (Nat.lt_of_lt_of_le (V_x).lt (Nat.le_of_eq g3.symm))
  have gn5 : n0 ≤ b3 := Nat.le_trans Z0 (Nat.le_of_eq g3.symm)
  have gs6 : h0.size ≤ b3 := Nat.le_trans (Keep.refl h0 []).1 (Nat.le_of_eq g3.symm)
  have V3 : Arv Z h3 b3 k3 .byte (4 : Int32) [(.int (0 : Int32)), (.int (0 : Int32)), (.int (0 : Int32)), (.int (0 : Int32))] (.int (0 : Int32)) := (Arv.new A3 (by decide)).pad (pad_rep [] (.int (0 : Int32)) 4)
  have pr7 : ∀ tg, Steps pP.tables eE below (T3.setTop (mkF mM 17 #[.val (.ref x), .val (.int (4 : Int32)), .unset] [(.ref b3)])) tg → Steps pP.tables eE below (s₁.setTop (entryFrame mM #[(.ref x), (.int (4 : Int32))] 3)) tg := fun tg kg => pr2 _ (st3 _ kg)
  clear pr2 st3 X0 e0
  have c8 := (Arv.ext V_x E3)
  obtain ⟨cla9, Ara9, qa9, Sa9, Ma9, Ha9, Ga9⟩ := id c8
  have pr10 : ∀ tg, Steps pP.tables eE below (T3.setTop (mkF mM 25 #[.val (.ref x), .val (.int (4 : Int32)), .val (.ref b3)] [(.int (4 : Int32)), (.int (3 : Int32)), (.int (0 : Int32)), (.ref b3), (.int (0 : Int32)), (.ref x)])) tg → Steps pP.tables eE below (s₁.setTop (entryFrame mM #[(.ref x), (.int (4 : Int32))] 3)) tg := fun tg kg => pr7 _ (by
    show Steps pP.tables eE below (T3.setTop (mkF mM 17 #[.val (.ref x), .val (.int (4 : Int32)), .unset] [(.ref b3)])) _
    refine XS.astoreN X3.here hx rfl (hb hby d23_17) rfl rfl (l' := #[.val (.ref x), .val (.int (4 : Int32)), .val (.ref b3)]) rfl ?_
    refine XS.aloadN X3.here hx rfl (hb hby d23_18) rfl rfl ?_
    refine XS.iconst X3.here hx rfl (hb hby d23_19) ?_
    refine XS.aloadN X3.here hx rfl (hb hby d23_20) rfl rfl ?_
    refine XS.iconst X3.here hx rfl (hb hby d23_21) ?_
    refine XS.aloadN X3.here hx rfl (hb hby d23_22) rfl rfl ?_
    show Steps pP.tables eE below (T3.setTop (mkF mM 23 #[.val (.ref x), .val (.int (4 : Int32)), .val (.ref b3)] [(.ref x), (.int (0 : Int32)), (.ref b3), (.int (0 : Int32)), (.ref x)])) _
    refine X3.arraylength hx (by rw [e3]; exact Ara9.1) (State.isArrayOf_alike hZ.alike Ara9.2.1) (g := (mkF mM 23 #[.val (.ref x), .val (.int (4 : Int32)), .val (.ref b3)] [(.ref x), (.int (0 : Int32)), (.ref b3), (.int (0 : Int32)), (.ref x)])) rfl rfl (hb hby d23_23) _ ?_
    rw [len_of Sa9 Ma9]
    show Steps pP.tables eE below (T3.setTop (mkF mM 24 #[.val (.ref x), .val (.int (4 : Int32)), .val (.ref b3)] [(.int (3 : Int32)), (.int (0 : Int32)), (.ref b3), (.int (0 : Int32)), (.ref x)])) _
    refine XS.iloadN X3.here hx rfl (hb hby d23_24) rfl ?_
    exact kg)
  clear pr7
  have c11 := (Nat.le_trans Z0 E3.1)
  obtain ⟨_, _, ⟨T12, L12, kk12, nn12⟩, -, X12, ⟨Lc12, hQ12, l12, y12, z12⟩, st12⟩ := Jvm.LawKit.callS X3 hx (y := (⟨"java/lang/Math", "min", "(II)I"⟩ : MethodName)) hown (mvT hZ (hw _ (List.mem_of_getElem? (i := 84) rfl))) (mvT hZ (hw _ (List.mem_of_getElem? (i := 85) rfl))) (mvT hZ (hw _ (List.mem_of_getElem? (i := 86) rfl))) (mvT hZ (hw _ (List.mem_of_getElem? (i := 87) rfl))) (by decide) (backOf (W := 4) (rm1 l Z a0 hw [] (3 : Int32) (4 : Int32) h3 n0 c11 (by decide)) hZ (hw _ (List.mem_of_getElem? (i := 87) rfl)) (hw _ (List.mem_of_getElem? (i := 86) rfl)) (by decide) (by decide)) (g := (mkF mM 25 #[.val (.ref x), .val (.int (4 : Int32)), .val (.ref b3)] [(.int (4 : Int32)), (.int (3 : Int32)), (.int (0 : Int32)), (.ref b3), (.int (0 : Int32)), (.ref x)])) rfl (by rw [hml]; rfl) (argsL := [(.int (3 : Int32)), (.int (4 : Int32))]) (rest := [(.int (0 : Int32)), (.ref b3), (.int (0 : Int32)), (.ref x)]) (lenOf pd_0 rfl) rfl (by show 2 * 0 + _ ≤ _; exact Nat.le_of_eq rfl) (hb hby d23_25) (fun _ _ => ⟨rfl, e3, (by decide : 1 + 0 ≤ _), (by decide : 4 + 0 ≤ _)⟩)
  dsimp only [Pt.U, Pt.locs, Pt.cells, Pt.slots] at X12 l12 y12 z12 st12 hQ12
  subst l12 y12 z12
  obtain ⟨rfl, Nq12, e12⟩ := hQ12
  have N12 := Fr.app N0 Nq12
  have pr13 : ∀ tg, Steps pP.tables eE below (T12.setTop (mkF mM 28 #[.val (.ref x), .val (.int (4 : Int32)), .val (.ref b3)] [(.int (3 : Int32)), (.int (0 : Int32)), (.ref b3), (.int (0 : Int32)), (.ref x)])) tg → Steps pP.tables eE below (s₁.setTop (entryFrame mM #[(.ref x), (.int (4 : Int32))] 3)) tg := fun tg kg => pr10 _ (st12 _ kg)
  clear pr10 st12 X3 e3
  obtain ⟨T14, h14, L14, X14, e14, N14, K14, Vc14, st14⟩ := cpA X12 hx hZ hown (hw _ (List.mem_of_getElem? (i := 88) rfl)) (hw _ (List.mem_of_getElem? (i := 91) rfl)) (hw _ (List.mem_of_getElem? (i := 89) rfl)) (hw _ (List.mem_of_getElem? (i := 90) rfl)) e12 c8 V3 (us := [(.int u0), (.int u1), (.int u2)]) (Or.inl ⟨rfl, rfl⟩) (by decide) (by decide) (by decide) (by decide) (by decide) rfl (Nat.le_of_ble_eq_true rfl) N12 gn5 (g := (mkF mM 28 #[.val (.ref x), .val (.int (4 : Int32)), .val (.ref b3)] [(.int (3 : Int32)), (.int (0 : Int32)), (.ref b3), (.int (0 : Int32)), (.ref x)])) rfl (by rw [hml]; rfl) rfl (hb hby d23_28) (by decide) (W := 0) (by show 2 * 0 + _ ≤ _; exact Nat.le_of_eq rfl) (by decide)
  have V14 : Arv Z h14 b3 k3 .byte (4 : Int32) [(.int u0), (.int u1), (.int u2), (.int (0 : Int32))] (.int (0 : Int32)) := Vc14
  have pr15 : ∀ tg, Steps pP.tables eE below (T14.setTop (mkF mM 31 #[.val (.ref x), .val (.int (4 : Int32)), .val (.ref b3)] [])) tg → Steps pP.tables eE below (s₁.setTop (entryFrame mM #[(.ref x), (.int (4 : Int32))] 3)) tg := fun tg kg => pr13 _ (st14 _ kg)
  clear pr13 st14 X12 e12
  have pr16 : ∀ tg, Steps pP.tables eE below (T14.setTop (mkF mM 32 #[.val (.ref x), .val (.int (4 : Int32)), .val (.ref b3)] [(.ref b3)])) tg → Steps pP.tables eE below (s₁.setTop (entryFrame mM #[(.ref x), (.int (4 : Int32))] 3)) tg := fun tg kg => pr15 _ (by
    show Steps pP.tables eE below (T14.setTop (mkF mM 31 #[.val (.ref x), .val (.int (4 : Int32)), .val (.ref b3)] [])) _
    refine XS.aloadN X14.here hx rfl (hb hby d23_31) rfl rfl ?_
    exact kg)
  clear pr15
  have c17 := (Keep.trans (Keep.ext (Keep.refl h0 []) E3) K14 (allS (Or.inr gs6) all0))
  obtain ⟨fs, hr, hrun, hended, hW, hsame⟩ := X14.leave (v := some (.ref b3)) (fun h => by rw [Bd.returns] at h; cases h)
  refine ⟨_, _, pr16 _ (retOut X14 hx (t := (.array .byte)) Bd.returns rfl (Or.inr (Or.inr (Or.inr (Or.inr ⟨rfl, rfl, rfl⟩)))) (hb hby d23_32) hr), hrun, hended, _, _, rfl, ?_, ⟨_, rfl⟩, hW, hsame.mono (by decide) (by decide)⟩
  show Q23 Z x kx u0 u1 u2 h0 n0 _ T14.heap _
  rw [e14]
  exact ⟨_, rfl, gs6, N14, c17, _, V14⟩
theorem d25_0 : decode jdk_65_method_121_code 0 = .ok (.iload_n 1, 1) := by decide +kernel
theorem d25_1 : decode jdk_65_method_121_code 1 = .ok (.aload_n 0, 1) := by decide +kernel
theorem d25_2 : decode jdk_65_method_121_code 2 = .ok (.arraylength, 1) := by decide +kernel
theorem d25_3 : decode jdk_65_method_121_code 3 = .ok (.if_icmp .ne 11, 3) := by decide +kernel
theorem d25_14 : decode jdk_65_method_121_code 14 = .ok (.iload_n 1, 1) := by decide +kernel
theorem d25_15 : decode jdk_65_method_121_code 15 = .ok (.newarray .byte, 2) := by decide +kernel
theorem d25_17 : decode jdk_65_method_121_code 17 = .ok (.astore_n 2, 1) := by decide +kernel
theorem d25_18 : decode jdk_65_method_121_code 18 = .ok (.aload_n 0, 1) := by decide +kernel
theorem d25_19 : decode jdk_65_method_121_code 19 = .ok (.iconst 0, 1) := by decide +kernel
theorem d25_20 : decode jdk_65_method_121_code 20 = .ok (.aload_n 2, 1) := by decide +kernel
theorem d25_21 : decode jdk_65_method_121_code 21 = .ok (.iconst 0, 1) := by decide +kernel
theorem d25_22 : decode jdk_65_method_121_code 22 = .ok (.aload_n 0, 1) := by decide +kernel
theorem d25_23 : decode jdk_65_method_121_code 23 = .ok (.arraylength, 1) := by decide +kernel
theorem d25_24 : decode jdk_65_method_121_code 24 = .ok (.iload_n 1, 1) := by decide +kernel
theorem d25_25 : decode jdk_65_method_121_code 25 = .ok (.invokestatic 304, 3) := by decide +kernel
theorem d25_28 : decode jdk_65_method_121_code 28 = .ok (.invokestatic 150, 3) := by decide +kernel
theorem d25_31 : decode jdk_65_method_121_code 31 = .ok (.aload_n 2, 1) := by decide +kernel
theorem d25_32 : decode jdk_65_method_121_code 32 = .ok (.areturn, 1) := by decide +kernel
theorem ef_25 (mM : MethodId) (x0 : Addr) (x1 : Int32) : entryFrame mM #[(.ref x0), (.int x1)] 3 = mkF mM 0 #[.val (.ref x0), .val (.int x1), .unset] [] := by first | (simp [entryFrame, mkF, argsToLocals, Value.category]; done) | rfl
def Q25 (Z : State) (x : Addr) (kx : ClassId) (u0 : Int32) (u1 : Int32) (u2 : Int32) (u3 : Int32) (u4 : Int32) (h0 : Heap) (n0 : Nat) (v : Option Value) (h : Heap) (L : List Loc) : Prop := ∃ b : Addr, v = some (.ref b) ∧ h0.size ≤ b ∧ Fr n0 L ∧ Keep h0 h [] ∧ ∃ k : ClassId, Arv Z h b k .byte (6 : Int32) [(.int u0), (.int u1), (.int u2), (.int u3), (.int u4), (.int (0 : Int32))] (.int (0 : Int32))
set_option maxRecDepth 65536 in
set_option maxHeartbeats 40000000 in
theorem rm25 (l : Launch) (Z : State) (a0 : Array Value) (hw : ∀ d ∈ tables_1, d.before a0 Z = true) (ws : List Jvm.Cond) (x : Addr) (kx : ClassId) (u0 : Int32) (u1 : Int32) (u2 : Int32) (u3 : Int32) (u4 : Int32) (h0 : Heap) (n0 : Nat) (Z0 : n0 ≤ h0.size) (V_x : Arv Z h0 x kx .byte (5 : Int32) [(.int u0), (.int u1), (.int u2), (.int u3), (.int u4)] (.int (0 : Int32))) :
    MetFree l (⟨"java/util/Arrays", "copyOf", "([BI)[B"⟩ : MethodName) (head1 (Jvm.Cond.code (⟨"java/util/Arrays", "copyOf", "([BI)[B"⟩ : MethodName) jdk_65_method_121_code 3 (some (.array .byte)) :: ws) ({ frames := 1, cells := 1, slots := 6, locals := 18 } : Room)) (fun aA uU => aA = #[(.ref x), (.int (6 : Int32))] ∧ Z.Warmed39 uU.vm ∧ uU.heap = h0) (fun _ _ _ _ _ => True) (fun _ uU oO uU' => ∃ vV lL, oO = .returned vV ∧ Q25 Z x kx u0 u1 u2 u3 u4 h0 n0 vV uU'.heap lL ∧ FrameEnd uU oO uU' lL ({ frames := 1, cells := 1, slots := 6, locals := 18 } : Room).cells ({ frames := 1, cells := 1, slots := 6, locals := 18 } : Room).slots) := by
  refine MetFree.of_bodySF (plainFor_of_name pn_0) hisR ?_
  intro pP eE sS mM args below meth cC s₁ Bd hml0 hP hK
  obtain ⟨rfl, hZ, hh⟩ := hP
  have hx := Bd.exec
  have hby := Bd.bytes
  have hml : cC.maxLocals = 3 := hml0
  have hown : sS.vm.findClass "java/util/Arrays" = some mM.cls := findClass_of_methodNamed Bd.named
  have hnm := (name_of_methodNamed Bd.named Bd.method).1
  have X0 : Stand pP l eE ({ frames := 1, cells := 1, slots := 6, locals := 18 } : Room) sS mM #[(.ref x), (.int (6 : Int32))] below meth cC s₁ [] 0 0 := Stand.of_body Bd
  have e0 : s₁.heap = h0 := by rw [← hh, Bd.state]; rfl
  have N0 := Fr.nil n0
  have pre0 : ∀ tg, Steps pP.tables eE below (s₁.setTop (mkF mM 0 #[.val (.ref x), .val (.int (6 : Int32)), .unset] [])) tg → Steps pP.tables eE below (s₁.setTop (entryFrame mM #[(.ref x), (.int (6 : Int32))] 3)) tg := fun tg kg => castTop (ef_25 mM x (6 : Int32)) kg
  obtain ⟨cla1, Ara1, qa1, Sa1, Ma1, Ha1, Ga1⟩ := id V_x
  have pr2 : ∀ tg, Steps pP.tables eE below (s₁.setTop (mkF mM 15 #[.val (.ref x), .val (.int (6 : Int32)), .unset] [(.int (6 : Int32))])) tg → Steps pP.tables eE below (s₁.setTop (entryFrame mM #[(.ref x), (.int (6 : Int32))] 3)) tg := fun tg kg => pre0 _ (by
    show Steps pP.tables eE below (s₁.setTop (mkF mM 0 #[.val (.ref x), .val (.int (6 : Int32)), .unset] [])) _
    refine XS.iloadN X0.here hx rfl (hb hby d25_0) rfl ?_
    refine XS.aloadN X0.here hx rfl (hb hby d25_1) rfl rfl ?_
    show Steps pP.tables eE below (s₁.setTop (mkF mM 2 #[.val (.ref x), .val (.int (6 : Int32)), .unset] [(.ref x), (.int (6 : Int32))])) _
    refine X0.arraylength hx (by rw [e0]; exact Ara1.1) (State.isArrayOf_alike hZ.alike Ara1.2.1) (g := (mkF mM 2 #[.val (.ref x), .val (.int (6 : Int32)), .unset] [(.ref x), (.int (6 : Int32))])) rfl rfl (hb hby d25_2) _ ?_
    rw [len_of Sa1 Ma1]
    show Steps pP.tables eE below (s₁.setTop (mkF mM 3 #[.val (.ref x), .val (.int (6 : Int32)), .unset] [(.int (5 : Int32)), (.int (6 : Int32))])) _
    refine XS.icmpYes X0.here hx rfl (pc0 := 3) (pc' := 14) rfl (hb hby d25_3) rfl (feq (by decide)).2 (by decide) (by decide) ?_
    refine XS.iloadN X0.here hx rfl (hb hby d25_14) rfl ?_
    exact kg)
  clear pre0
  obtain ⟨T3, h3, k3, X3, e3, E3, A3, Ex3, st3⟩ := newPE X0 hx hZ (hw _ (List.mem_of_getElem? (i := 74) rfl)) e0 (g := (mkF mM 15 #[.val (.ref x), .val (.int (6 : Int32)), .unset] [(.int (6 : Int32))])) rfl (hb hby d25_15) rfl (by decide) (cap := 6) (by decide) (by decide) (by decide) (by decide) (ad := "[B") rfl
  obtain ⟨b3, g3⟩ : ∃ z, z = (h0).size := ⟨_, rfl⟩
  rw [← g3] at A3 Ex3 st3
  have ne4 : x ≠ b3 := Nat.ne_of_lt (Nat.lt_of_lt_of_le (V_x).lt (Nat.le_of_eq g3.symm))
  have gn5 : n0 ≤ b3 := Nat.le_trans Z0 (Nat.le_of_eq g3.symm)
  have gs6 : h0.size ≤ b3 := Nat.le_trans (Keep.refl h0 []).1 (Nat.le_of_eq g3.symm)
  have V3 : Arv Z h3 b3 k3 .byte (6 : Int32) [(.int (0 : Int32)), (.int (0 : Int32)), (.int (0 : Int32)), (.int (0 : Int32)), (.int (0 : Int32)), (.int (0 : Int32))] (.int (0 : Int32)) := (Arv.new A3 (by decide)).pad (pad_rep [] (.int (0 : Int32)) 6)
  have pr7 : ∀ tg, Steps pP.tables eE below (T3.setTop (mkF mM 17 #[.val (.ref x), .val (.int (6 : Int32)), .unset] [(.ref b3)])) tg → Steps pP.tables eE below (s₁.setTop (entryFrame mM #[(.ref x), (.int (6 : Int32))] 3)) tg := fun tg kg => pr2 _ (st3 _ kg)
  clear pr2 st3 X0 e0
  have c8 := (Arv.ext V_x E3)
  obtain ⟨cla9, Ara9, qa9, Sa9, Ma9, Ha9, Ga9⟩ := id c8
  have pr10 : ∀ tg, Steps pP.tables eE below (T3.setTop (mkF mM 25 #[.val (.ref x), .val (.int (6 : Int32)), .val (.ref b3)] [(.int (6 : Int32)), (.int (5 : Int32)), (.int (0 : Int32)), (.ref b3), (.int (0 : Int32)), (.ref x)])) tg → Steps pP.tables eE below (s₁.setTop (entryFrame mM #[(.ref x), (.int (6 : Int32))] 3)) tg := fun tg kg => pr7 _ (by
    show Steps pP.tables eE below (T3.setTop (mkF mM 17 #[.val (.ref x), .val (.int (6 : Int32)), .unset] [(.ref b3)])) _
    refine XS.astoreN X3.here hx rfl (hb hby d25_17) rfl rfl (l' := #[.val (.ref x), .val (.int (6 : Int32)), .val (.ref b3)]) rfl ?_
    refine XS.aloadN X3.here hx rfl (hb hby d25_18) rfl rfl ?_
    refine XS.iconst X3.here hx rfl (hb hby d25_19) ?_
    refine XS.aloadN X3.here hx rfl (hb hby d25_20) rfl rfl ?_
    refine XS.iconst X3.here hx rfl (hb hby d25_21) ?_
    refine XS.aloadN X3.here hx rfl (hb hby d25_22) rfl rfl ?_
    show Steps pP.tables eE below (T3.setTop (mkF mM 23 #[.val (.ref x), .val (.int (6 : Int32)), .val (.ref b3)] [(.ref x), (.int (0 : Int32)), (.ref b3), (.int (0 : Int32)), (.ref x)])) _
    refine X3.arraylength hx (by rw [e3]; exact Ara9.1) (State.isArrayOf_alike hZ.alike Ara9.2.1) (g := (mkF mM 23 #[.val (.ref x), .val (.int (6 : Int32)), .val (.ref b3)] [(.ref x), (.int (0 : Int32)), (.ref b3), (.int (0 : Int32)), (.ref x)])) rfl rfl (hb hby d25_23) _ ?_
    rw [len_of Sa9 Ma9]
    show Steps pP.tables eE below (T3.setTop (mkF mM 24 #[.val (.ref x), .val (.int (6 : Int32)), .val (.ref b3)] [(.int (5 : Int32)), (.int (0 : Int32)), (.ref b3), (.int (0 : Int32)), (.ref x)])) _
    refine XS.iloadN X3.here hx rfl (hb hby d25_24) rfl ?_
    exact kg)
  clear pr7
  have c11 := (Nat.le_trans Z0 E3.1)
  obtain ⟨_, _, ⟨T12, L12, kk12, nn12⟩, -, X12, ⟨Lc12, hQ12, l12, y12, z12⟩, st12⟩ := Jvm.LawKit.callS X3 hx (y := (⟨"java/lang/Math", "min", "(II)I"⟩ : MethodName)) hown (mvT hZ (hw _ (List.mem_of_getElem? (i := 84) rfl))) (mvT hZ (hw _ (List.mem_of_getElem? (i := 85) rfl))) (mvT hZ (hw _ (List.mem_of_getElem? (i := 86) rfl))) (mvT hZ (hw _ (List.mem_of_getElem? (i := 87) rfl))) (by decide) (backOf (W := 4) (rm1 l Z a0 hw [] (5 : Int32) (6 : Int32) h3 n0 c11 (by decide)) hZ (hw _ (List.mem_of_getElem? (i := 87) rfl)) (hw _ (List.mem_of_getElem? (i := 86) rfl)) (by decide) (by decide)) (g := (mkF mM 25 #[.val (.ref x), .val (.int (6 : Int32)), .val (.ref b3)] [(.int (6 : Int32)), (.int (5 : Int32)), (.int (0 : Int32)), (.ref b3), (.int (0 : Int32)), (.ref x)])) rfl (by rw [hml]; rfl) (argsL := [(.int (5 : Int32)), (.int (6 : Int32))]) (rest := [(.int (0 : Int32)), (.ref b3), (.int (0 : Int32)), (.ref x)]) (lenOf pd_0 rfl) rfl (by show 2 * 0 + _ ≤ _; exact Nat.le_of_eq rfl) (hb hby d25_25) (fun _ _ => ⟨rfl, e3, (by decide : 1 + 0 ≤ _), (by decide : 6 + 0 ≤ _)⟩)
  dsimp only [Pt.U, Pt.locs, Pt.cells, Pt.slots] at X12 l12 y12 z12 st12 hQ12
  subst l12 y12 z12
  obtain ⟨rfl, Nq12, e12⟩ := hQ12
  have N12 := Fr.app N0 Nq12
  have pr13 : ∀ tg, Steps pP.tables eE below (T12.setTop (mkF mM 28 #[.val (.ref x), .val (.int (6 : Int32)), .val (.ref b3)] [(.int (5 : Int32)), (.int (0 : Int32)), (.ref b3), (.int (0 : Int32)), (.ref x)])) tg → Steps pP.tables eE below (s₁.setTop (entryFrame mM #[(.ref x), (.int (6 : Int32))] 3)) tg := fun tg kg => pr10 _ (st12 _ kg)
  clear pr10 st12 X3 e3
  obtain ⟨T14, h14, L14, X14, e14, N14, K14, Vc14, st14⟩ := cpA X12 hx hZ hown (hw _ (List.mem_of_getElem? (i := 88) rfl)) (hw _ (List.mem_of_getElem? (i := 91) rfl)) (hw _ (List.mem_of_getElem? (i := 89) rfl)) (hw _ (List.mem_of_getElem? (i := 90) rfl)) e12 c8 V3 (us := [(.int u0), (.int u1), (.int u2), (.int u3), (.int u4)]) (Or.inl ⟨rfl, rfl⟩) (by decide) (by decide) (by decide) (by decide) (by decide) rfl (Nat.le_of_ble_eq_true rfl) N12 gn5 (g := (mkF mM 28 #[.val (.ref x), .val (.int (6 : Int32)), .val (.ref b3)] [(.int (5 : Int32)), (.int (0 : Int32)), (.ref b3), (.int (0 : Int32)), (.ref x)])) rfl (by rw [hml]; rfl) rfl (hb hby d25_28) (by decide) (W := 0) (by show 2 * 0 + _ ≤ _; exact Nat.le_of_eq rfl) (by decide)
  have V14 : Arv Z h14 b3 k3 .byte (6 : Int32) [(.int u0), (.int u1), (.int u2), (.int u3), (.int u4), (.int (0 : Int32))] (.int (0 : Int32)) := Vc14
  have pr15 : ∀ tg, Steps pP.tables eE below (T14.setTop (mkF mM 31 #[.val (.ref x), .val (.int (6 : Int32)), .val (.ref b3)] [])) tg → Steps pP.tables eE below (s₁.setTop (entryFrame mM #[(.ref x), (.int (6 : Int32))] 3)) tg := fun tg kg => pr13 _ (st14 _ kg)
  clear pr13 st14 X12 e12
  have pr16 : ∀ tg, Steps pP.tables eE below (T14.setTop (mkF mM 32 #[.val (.ref x), .val (.int (6 : Int32)), .val (.ref b3)] [(.ref b3)])) tg → Steps pP.tables eE below (s₁.setTop (entryFrame mM #[(.ref x), (.int (6 : Int32))] 3)) tg := fun tg kg => pr15 _ (by
    show Steps pP.tables eE below (T14.setTop (mkF mM 31 #[.val (.ref x), .val (.int (6 : Int32)), .val (.ref b3)] [])) _
    refine XS.aloadN X14.here hx rfl (hb hby d25_31) rfl rfl ?_
    exact kg)
  clear pr15
  have c17 := (Keep.trans (Keep.ext (Keep.refl h0 []) E3) K14 (allS (Or.inr gs6) all0))
  obtain ⟨fs, hr, hrun, hended, hW, hsame⟩ := X14.leave (v := some (.ref b3)) (fun h => by rw [Bd.returns] at h; cases h)
  refine ⟨_, _, pr16 _ (retOut X14 hx (t := (.array .byte)) Bd.returns rfl (Or.inr (Or.inr (Or.inr (Or.inr ⟨rfl, rfl, rfl⟩)))) (hb hby d25_32) hr), hrun, hended, _, _, rfl, ?_, ⟨_, rfl⟩, hW, hsame.mono (by decide) (by decide)⟩
  show Q25 Z x kx u0 u1 u2 u3 u4 h0 n0 _ T14.heap _
  rw [e14]
  exact ⟨_, rfl, gs6, N14, c17, _, V14⟩
theorem d27_0 : decode jdk_65_method_121_code 0 = .ok (.iload_n 1, 1) := by decide +kernel
theorem d27_1 : decode jdk_65_method_121_code 1 = .ok (.aload_n 0, 1) := by decide +kernel
theorem d27_2 : decode jdk_65_method_121_code 2 = .ok (.arraylength, 1) := by decide +kernel
theorem d27_3 : decode jdk_65_method_121_code 3 = .ok (.if_icmp .ne 11, 3) := by decide +kernel
theorem d27_14 : decode jdk_65_method_121_code 14 = .ok (.iload_n 1, 1) := by decide +kernel
theorem d27_15 : decode jdk_65_method_121_code 15 = .ok (.newarray .byte, 2) := by decide +kernel
theorem d27_17 : decode jdk_65_method_121_code 17 = .ok (.astore_n 2, 1) := by decide +kernel
theorem d27_18 : decode jdk_65_method_121_code 18 = .ok (.aload_n 0, 1) := by decide +kernel
theorem d27_19 : decode jdk_65_method_121_code 19 = .ok (.iconst 0, 1) := by decide +kernel
theorem d27_20 : decode jdk_65_method_121_code 20 = .ok (.aload_n 2, 1) := by decide +kernel
theorem d27_21 : decode jdk_65_method_121_code 21 = .ok (.iconst 0, 1) := by decide +kernel
theorem d27_22 : decode jdk_65_method_121_code 22 = .ok (.aload_n 0, 1) := by decide +kernel
theorem d27_23 : decode jdk_65_method_121_code 23 = .ok (.arraylength, 1) := by decide +kernel
theorem d27_24 : decode jdk_65_method_121_code 24 = .ok (.iload_n 1, 1) := by decide +kernel
theorem d27_25 : decode jdk_65_method_121_code 25 = .ok (.invokestatic 304, 3) := by decide +kernel
theorem d27_28 : decode jdk_65_method_121_code 28 = .ok (.invokestatic 150, 3) := by decide +kernel
theorem d27_31 : decode jdk_65_method_121_code 31 = .ok (.aload_n 2, 1) := by decide +kernel
theorem d27_32 : decode jdk_65_method_121_code 32 = .ok (.areturn, 1) := by decide +kernel
theorem ef_27 (mM : MethodId) (x0 : Addr) (x1 : Int32) : entryFrame mM #[(.ref x0), (.int x1)] 3 = mkF mM 0 #[.val (.ref x0), .val (.int x1), .unset] [] := by first | (simp [entryFrame, mkF, argsToLocals, Value.category]; done) | rfl
def Q27 (Z : State) (x : Addr) (kx : ClassId) (u0 : Int32) (u1 : Int32) (u2 : Int32) (u3 : Int32) (u4 : Int32) (u5 : Int32) (u6 : Int32) (h0 : Heap) (n0 : Nat) (v : Option Value) (h : Heap) (L : List Loc) : Prop := ∃ b : Addr, v = some (.ref b) ∧ h0.size ≤ b ∧ Fr n0 L ∧ Keep h0 h [] ∧ ∃ k : ClassId, Arv Z h b k .byte (8 : Int32) [(.int u0), (.int u1), (.int u2), (.int u3), (.int u4), (.int u5), (.int u6), (.int (0 : Int32))] (.int (0 : Int32))
set_option maxRecDepth 65536 in
set_option maxHeartbeats 40000000 in
theorem rm27 (l : Launch) (Z : State) (a0 : Array Value) (hw : ∀ d ∈ tables_1, d.before a0 Z = true) (ws : List Jvm.Cond) (x : Addr) (kx : ClassId) (u0 : Int32) (u1 : Int32) (u2 : Int32) (u3 : Int32) (u4 : Int32) (u5 : Int32) (u6 : Int32) (h0 : Heap) (n0 : Nat) (Z0 : n0 ≤ h0.size) (V_x : Arv Z h0 x kx .byte (7 : Int32) [(.int u0), (.int u1), (.int u2), (.int u3), (.int u4), (.int u5), (.int u6)] (.int (0 : Int32))) :
    MetFree l (⟨"java/util/Arrays", "copyOf", "([BI)[B"⟩ : MethodName) (head1 (Jvm.Cond.code (⟨"java/util/Arrays", "copyOf", "([BI)[B"⟩ : MethodName) jdk_65_method_121_code 3 (some (.array .byte)) :: ws) ({ frames := 1, cells := 1, slots := 8, locals := 18 } : Room)) (fun aA uU => aA = #[(.ref x), (.int (8 : Int32))] ∧ Z.Warmed39 uU.vm ∧ uU.heap = h0) (fun _ _ _ _ _ => True) (fun _ uU oO uU' => ∃ vV lL, oO = .returned vV ∧ Q27 Z x kx u0 u1 u2 u3 u4 u5 u6 h0 n0 vV uU'.heap lL ∧ FrameEnd uU oO uU' lL ({ frames := 1, cells := 1, slots := 8, locals := 18 } : Room).cells ({ frames := 1, cells := 1, slots := 8, locals := 18 } : Room).slots) := by
  refine MetFree.of_bodySF (plainFor_of_name pn_0) hisR ?_
  intro pP eE sS mM args below meth cC s₁ Bd hml0 hP hK
  obtain ⟨rfl, hZ, hh⟩ := hP
  have hx := Bd.exec
  have hby := Bd.bytes
  have hml : cC.maxLocals = 3 := hml0
  have hown : sS.vm.findClass "java/util/Arrays" = some mM.cls := findClass_of_methodNamed Bd.named
  have hnm := (name_of_methodNamed Bd.named Bd.method).1
  have X0 : Stand pP l eE ({ frames := 1, cells := 1, slots := 8, locals := 18 } : Room) sS mM #[(.ref x), (.int (8 : Int32))] below meth cC s₁ [] 0 0 := Stand.of_body Bd
  have e0 : s₁.heap = h0 := by rw [← hh, Bd.state]; rfl
  have N0 := Fr.nil n0
  have pre0 : ∀ tg, Steps pP.tables eE below (s₁.setTop (mkF mM 0 #[.val (.ref x), .val (.int (8 : Int32)), .unset] [])) tg → Steps pP.tables eE below (s₁.setTop (entryFrame mM #[(.ref x), (.int (8 : Int32))] 3)) tg := fun tg kg => castTop (ef_27 mM x (8 : Int32)) kg
  obtain ⟨cla1, Ara1, qa1, Sa1, Ma1, Ha1, Ga1⟩ := id V_x
  have pr2 : ∀ tg, Steps pP.tables eE below (s₁.setTop (mkF mM 15 #[.val (.ref x), .val (.int (8 : Int32)), .unset] [(.int (8 : Int32))])) tg → Steps pP.tables eE below (s₁.setTop (entryFrame mM #[(.ref x), (.int (8 : Int32))] 3)) tg := fun tg kg => pre0 _ (by
    show Steps pP.tables eE below (s₁.setTop (mkF mM 0 #[.val (.ref x), .val (.int (8 : Int32)), .unset] [])) _
    refine XS.iloadN X0.here hx rfl (hb hby d27_0) rfl ?_
    refine XS.aloadN X0.here hx rfl (hb hby d27_1) rfl rfl ?_
    show Steps pP.tables eE below (s₁.setTop (mkF mM 2 #[.val (.ref x), .val (.int (8 : Int32)), .unset] [(.ref x), (.int (8 : Int32))])) _
    refine X0.arraylength hx (by rw [e0]; exact Ara1.1) (State.isArrayOf_alike hZ.alike Ara1.2.1) (g := (mkF mM 2 #[.val (.ref x), .val (.int (8 : Int32)), .unset] [(.ref x), (.int (8 : Int32))])) rfl rfl (hb hby d27_2) _ ?_
    rw [len_of Sa1 Ma1]
    show Steps pP.tables eE below (s₁.setTop (mkF mM 3 #[.val (.ref x), .val (.int (8 : Int32)), .unset] [(.int (7 : Int32)), (.int (8 : Int32))])) _
    refine XS.icmpYes X0.here hx rfl (pc0 := 3) (pc' := 14) rfl (hb hby d27_3) rfl (feq (by decide)).2 (by decide) (by decide) ?_
    refine XS.iloadN X0.here hx rfl (hb hby d27_14) rfl ?_
    exact kg)
  clear pre0
  obtain ⟨T3, h3, k3, X3, e3, E3, A3, Ex3, st3⟩ := newPE X0 hx hZ (hw _ (List.mem_of_getElem? (i := 74) rfl)) e0 (g := (mkF mM 15 #[.val (.ref x), .val (.int (8 : Int32)), .unset] [(.int (8 : Int32))])) rfl (hb hby d27_15) rfl (by decide) (cap := 8) (by decide) (by decide) (by decide) (by decide) (ad := "[B") rfl
  obtain ⟨b3, g3⟩ : ∃ z, z = (h0).size := ⟨_, rfl⟩
  rw [← g3] at A3 Ex3 st3
  have ne4 : x ≠ b3 := Nat.ne_of_lt (Nat.lt_of_lt_of_le (V_x).lt (Nat.le_of_eq g3.symm))
  have gn5 : n0 ≤ b3 := Nat.le_trans Z0 (Nat.le_of_eq g3.symm)
  have gs6 : h0.size ≤ b3 := Nat.le_trans (Keep.refl h0 []).1 (Nat.le_of_eq g3.symm)
  have V3 : Arv Z h3 b3 k3 .byte (8 : Int32) [(.int (0 : Int32)), (.int (0 : Int32)), (.int (0 : Int32)), (.int (0 : Int32)), (.int (0 : Int32)), (.int (0 : Int32)), (.int (0 : Int32)), (.int (0 : Int32))] (.int (0 : Int32)) := (Arv.new A3 (by decide)).pad (pad_rep [] (.int (0 : Int32)) 8)
  have pr7 : ∀ tg, Steps pP.tables eE below (T3.setTop (mkF mM 17 #[.val (.ref x), .val (.int (8 : Int32)), .unset] [(.ref b3)])) tg → Steps pP.tables eE below (s₁.setTop (entryFrame mM #[(.ref x), (.int (8 : Int32))] 3)) tg := fun tg kg => pr2 _ (st3 _ kg)
  clear pr2 st3 X0 e0
  have c8 := (Arv.ext V_x E3)
  obtain ⟨cla9, Ara9, qa9, Sa9, Ma9, Ha9, Ga9⟩ := id c8
  have pr10 : ∀ tg, Steps pP.tables eE below (T3.setTop (mkF mM 25 #[.val (.ref x), .val (.int (8 : Int32)), .val (.ref b3)] [(.int (8 : Int32)), (.int (7 : Int32)), (.int (0 : Int32)), (.ref b3), (.int (0 : Int32)), (.ref x)])) tg → Steps pP.tables eE below (s₁.setTop (entryFrame mM #[(.ref x), (.int (8 : Int32))] 3)) tg := fun tg kg => pr7 _ (by
    show Steps pP.tables eE below (T3.setTop (mkF mM 17 #[.val (.ref x), .val (.int (8 : Int32)), .unset] [(.ref b3)])) _
    refine XS.astoreN X3.here hx rfl (hb hby d27_17) rfl rfl (l' := #[.val (.ref x), .val (.int (8 : Int32)), .val (.ref b3)]) rfl ?_
    refine XS.aloadN X3.here hx rfl (hb hby d27_18) rfl rfl ?_
    refine XS.iconst X3.here hx rfl (hb hby d27_19) ?_
    refine XS.aloadN X3.here hx rfl (hb hby d27_20) rfl rfl ?_
    refine XS.iconst X3.here hx rfl (hb hby d27_21) ?_
    refine XS.aloadN X3.here hx rfl (hb hby d27_22) rfl rfl ?_
    show Steps pP.tables eE below (T3.setTop (mkF mM 23 #[.val (.ref x), .val (.int (8 : Int32)), .val (.ref b3)] [(.ref x), (.int (0 : Int32)), (.ref b3), (.int (0 : Int32)), (.ref x)])) _
    refine X3.arraylength hx (by rw [e3]; exact Ara9.1) (State.isArrayOf_alike hZ.alike Ara9.2.1) (g := (mkF mM 23 #[.val (.ref x), .val (.int (8 : Int32)), .val (.ref b3)] [(.ref x), (.int (0 : Int32)), (.ref b3), (.int (0 : Int32)), (.ref x)])) rfl rfl (hb hby d27_23) _ ?_
    rw [len_of Sa9 Ma9]
    show Steps pP.tables eE below (T3.setTop (mkF mM 24 #[.val (.ref x), .val (.int (8 : Int32)), .val (.ref b3)] [(.int (7 : Int32)), (.int (0 : Int32)), (.ref b3), (.int (0 : Int32)), (.ref x)])) _
    refine XS.iloadN X3.here hx rfl (hb hby d27_24) rfl ?_
    exact kg)
  clear pr7
  have c11 := (Nat.le_trans Z0 E3.1)
  obtain ⟨_, _, ⟨T12, L12, kk12, nn12⟩, -, X12, ⟨Lc12, hQ12, l12, y12, z12⟩, st12⟩ := Jvm.LawKit.callS X3 hx (y := (⟨"java/lang/Math", "min", "(II)I"⟩ : MethodName)) hown (mvT hZ (hw _ (List.mem_of_getElem? (i := 84) rfl))) (mvT hZ (hw _ (List.mem_of_getElem? (i := 85) rfl))) (mvT hZ (hw _ (List.mem_of_getElem? (i := 86) rfl))) (mvT hZ (hw _ (List.mem_of_getElem? (i := 87) rfl))) (by decide) (backOf (W := 4) (rm1 l Z a0 hw [] (7 : Int32) (8 : Int32) h3 n0 c11 (by decide)) hZ (hw _ (List.mem_of_getElem? (i := 87) rfl)) (hw _ (List.mem_of_getElem? (i := 86) rfl)) (by decide) (by decide)) (g := (mkF mM 25 #[.val (.ref x), .val (.int (8 : Int32)), .val (.ref b3)] [(.int (8 : Int32)), (.int (7 : Int32)), (.int (0 : Int32)), (.ref b3), (.int (0 : Int32)), (.ref x)])) rfl (by rw [hml]; rfl) (argsL := [(.int (7 : Int32)), (.int (8 : Int32))]) (rest := [(.int (0 : Int32)), (.ref b3), (.int (0 : Int32)), (.ref x)]) (lenOf pd_0 rfl) rfl (by show 2 * 0 + _ ≤ _; exact Nat.le_of_eq rfl) (hb hby d27_25) (fun _ _ => ⟨rfl, e3, (by decide : 1 + 0 ≤ _), (by decide : 8 + 0 ≤ _)⟩)
  dsimp only [Pt.U, Pt.locs, Pt.cells, Pt.slots] at X12 l12 y12 z12 st12 hQ12
  subst l12 y12 z12
  obtain ⟨rfl, Nq12, e12⟩ := hQ12
  have N12 := Fr.app N0 Nq12
  have pr13 : ∀ tg, Steps pP.tables eE below (T12.setTop (mkF mM 28 #[.val (.ref x), .val (.int (8 : Int32)), .val (.ref b3)] [(.int (7 : Int32)), (.int (0 : Int32)), (.ref b3), (.int (0 : Int32)), (.ref x)])) tg → Steps pP.tables eE below (s₁.setTop (entryFrame mM #[(.ref x), (.int (8 : Int32))] 3)) tg := fun tg kg => pr10 _ (st12 _ kg)
  clear pr10 st12 X3 e3
  obtain ⟨T14, h14, L14, X14, e14, N14, K14, Vc14, st14⟩ := cpA X12 hx hZ hown (hw _ (List.mem_of_getElem? (i := 88) rfl)) (hw _ (List.mem_of_getElem? (i := 91) rfl)) (hw _ (List.mem_of_getElem? (i := 89) rfl)) (hw _ (List.mem_of_getElem? (i := 90) rfl)) e12 c8 V3 (us := [(.int u0), (.int u1), (.int u2), (.int u3), (.int u4), (.int u5), (.int u6)]) (Or.inl ⟨rfl, rfl⟩) (by decide) (by decide) (by decide) (by decide) (by decide) rfl (Nat.le_of_ble_eq_true rfl) N12 gn5 (g := (mkF mM 28 #[.val (.ref x), .val (.int (8 : Int32)), .val (.ref b3)] [(.int (7 : Int32)), (.int (0 : Int32)), (.ref b3), (.int (0 : Int32)), (.ref x)])) rfl (by rw [hml]; rfl) rfl (hb hby d27_28) (by decide) (W := 0) (by show 2 * 0 + _ ≤ _; exact Nat.le_of_eq rfl) (by decide)
  have V14 : Arv Z h14 b3 k3 .byte (8 : Int32) [(.int u0), (.int u1), (.int u2), (.int u3), (.int u4), (.int u5), (.int u6), (.int (0 : Int32))] (.int (0 : Int32)) := Vc14
  have pr15 : ∀ tg, Steps pP.tables eE below (T14.setTop (mkF mM 31 #[.val (.ref x), .val (.int (8 : Int32)), .val (.ref b3)] [])) tg → Steps pP.tables eE below (s₁.setTop (entryFrame mM #[(.ref x), (.int (8 : Int32))] 3)) tg := fun tg kg => pr13 _ (st14 _ kg)
  clear pr13 st14 X12 e12
  have pr16 : ∀ tg, Steps pP.tables eE below (T14.setTop (mkF mM 32 #[.val (.ref x), .val (.int (8 : Int32)), .val (.ref b3)] [(.ref b3)])) tg → Steps pP.tables eE below (s₁.setTop (entryFrame mM #[(.ref x), (.int (8 : Int32))] 3)) tg := fun tg kg => pr15 _ (by
    show Steps pP.tables eE below (T14.setTop (mkF mM 31 #[.val (.ref x), .val (.int (8 : Int32)), .val (.ref b3)] [])) _
    refine XS.aloadN X14.here hx rfl (hb hby d27_31) rfl rfl ?_
    exact kg)
  clear pr15
  have c17 := (Keep.trans (Keep.ext (Keep.refl h0 []) E3) K14 (allS (Or.inr gs6) all0))
  obtain ⟨fs, hr, hrun, hended, hW, hsame⟩ := X14.leave (v := some (.ref b3)) (fun h => by rw [Bd.returns] at h; cases h)
  refine ⟨_, _, pr16 _ (retOut X14 hx (t := (.array .byte)) Bd.returns rfl (Or.inr (Or.inr (Or.inr (Or.inr ⟨rfl, rfl, rfl⟩)))) (hb hby d27_32) hr), hrun, hended, _, _, rfl, ?_, ⟨_, rfl⟩, hW, hsame.mono (by decide) (by decide)⟩
  show Q27 Z x kx u0 u1 u2 u3 u4 u5 u6 h0 n0 _ T14.heap _
  rw [e14]
  exact ⟨_, rfl, gs6, N14, c17, _, V14⟩
theorem d30_0 : decode prog_24_method_15_code 0 = .ok (.aload_n 1, 1) := by decide +kernel
theorem d30_1 : decode prog_24_method_15_code 1 = .ok (.arraylength, 1) := by decide +kernel
theorem d30_2 : decode prog_24_method_15_code 2 = .ok (.iconst 1, 1) := by decide +kernel
theorem d30_3 : decode prog_24_method_15_code 3 = .ok (.iand, 1) := by decide +kernel
theorem d30_4 : decode prog_24_method_15_code 4 = .ok (.ifCond .ne 5, 3) := by decide +kernel
theorem d30_7 : decode prog_24_method_15_code 7 = .ok (.aload_n 1, 1) := by decide +kernel
theorem d30_8 : decode prog_24_method_15_code 8 = .ok (.areturn, 1) := by decide +kernel
theorem pn_1 : plainName "com/example/tesserae/tesserae/value/Vr" = true := by first | (simp [plainName, overriddenIn]; done) | decide +kernel
theorem ef_30 (mM : MethodId) (x0 : Addr) (x1 : Addr) : entryFrame mM #[(.ref x0), (.ref x1)] 3 = mkF mM 0 #[.val (.ref x0), .val (.ref x1), .unset] [] := by first | (simp [entryFrame, mkF, argsToLocals, Value.category]; done) | rfl
def Q30 (Z : State) (r : Addr) (x : Addr) (kx : ClassId) (h0 : Heap) (n0 : Nat) (v : Option Value) (h : Heap) (L : List Loc) : Prop := v = some (.ref x) ∧ Fr n0 L ∧ h = h0
set_option maxRecDepth 65536 in
set_option maxHeartbeats 40000000 in
theorem rm30 (l : Launch) (Z : State) (a0 : Array Value) (hw : ∀ d ∈ tables_1, d.before a0 Z = true) (ws : List Jvm.Cond) (r : Addr) (x : Addr) (kx : ClassId) (h0 : Heap) (n0 : Nat) (Z0 : n0 ≤ h0.size) (V_x : Arv Z h0 x kx .byte (0 : Int32) [] (.int (0 : Int32))) :
    MetFree l (⟨"com/example/tesserae/tesserae/value/Vr", "pad", "([B)[B"⟩ : MethodName) (head1 (Jvm.Cond.code (⟨"com/example/tesserae/tesserae/value/Vr", "pad", "([B)[B"⟩ : MethodName) prog_24_method_15_code 3 (some (.array .byte)) :: ws) ({ frames := 0, cells := 0, slots := 0, locals := 0 } : Room)) (fun aA uU => aA = #[(.ref r), (.ref x)] ∧ Z.Warmed39 uU.vm ∧ uU.heap = h0) (fun _ _ _ _ _ => True) (fun _ uU oO uU' => ∃ vV lL, oO = .returned vV ∧ Q30 Z r x kx h0 n0 vV uU'.heap lL ∧ FrameEnd uU oO uU' lL ({ frames := 0, cells := 0, slots := 0, locals := 0 } : Room).cells ({ frames := 0, cells := 0, slots := 0, locals := 0 } : Room).slots) := by
  refine MetFree.of_bodySF (plainFor_of_name pn_1) hisR ?_
  intro pP eE sS mM args below meth cC s₁ Bd hml0 hP hK
  obtain ⟨rfl, hZ, hh⟩ := hP
  have hx := Bd.exec
  have hby := Bd.bytes
  have hml : cC.maxLocals = 3 := hml0
  have hown : sS.vm.findClass "com/example/tesserae/tesserae/value/Vr" = some mM.cls := findClass_of_methodNamed Bd.named
  have hnm := (name_of_methodNamed Bd.named Bd.method).1
  have X0 : Stand pP l eE ({ frames := 0, cells := 0, slots := 0, locals := 0 } : Room) sS mM #[(.ref r), (.ref x)] below meth cC s₁ [] 0 0 := Stand.of_body Bd
  have e0 : s₁.heap = h0 := by rw [← hh, Bd.state]; rfl
  have N0 := Fr.nil n0
  have pre0 : ∀ tg, Steps pP.tables eE below (s₁.setTop (mkF mM 0 #[.val (.ref r), .val (.ref x), .unset] [])) tg → Steps pP.tables eE below (s₁.setTop (entryFrame mM #[(.ref r), (.ref x)] 3)) tg := fun tg kg => castTop (ef_30 mM r x) kg
  obtain ⟨cla1, Ara1, qa1, Sa1, Ma1, Ha1, Ga1⟩ := id V_x
  have pr2 : ∀ tg, Steps pP.tables eE below (s₁.setTop (mkF mM 8 #[.val (.ref r), .val (.ref x), .unset] [(.ref x)])) tg → Steps pP.tables eE below (s₁.setTop (entryFrame mM #[(.ref r), (.ref x)] 3)) tg := fun tg kg => pre0 _ (by
    show Steps pP.tables eE below (s₁.setTop (mkF mM 0 #[.val (.ref r), .val (.ref x), .unset] [])) _
    refine XS.aloadN X0.here hx rfl (hb hby d30_0) rfl rfl ?_
    show Steps pP.tables eE below (s₁.setTop (mkF mM 1 #[.val (.ref r), .val (.ref x), .unset] [(.ref x)])) _
    refine X0.arraylength hx (by rw [e0]; exact Ara1.1) (State.isArrayOf_alike hZ.alike Ara1.2.1) (g := (mkF mM 1 #[.val (.ref r), .val (.ref x), .unset] [(.ref x)])) rfl rfl (hb hby d30_1) _ ?_
    rw [len_of Sa1 Ma1]
    show Steps pP.tables eE below (s₁.setTop (mkF mM 2 #[.val (.ref r), .val (.ref x), .unset] [(.int (0 : Int32))])) _
    refine XS.iconst X0.here hx rfl (hb hby d30_2) ?_
    refine XS.iand X0.here hx rfl (hb hby d30_3) rfl ?_
    refine XS.ifNo X0.here hx rfl (hb hby d30_4) rfl ((if0 _ _).trans (teq (by decide)).2) ?_
    refine XS.aloadN X0.here hx rfl (hb hby d30_7) rfl rfl ?_
    exact kg)
  clear pre0
  obtain ⟨fs, hr, hrun, hended, hW, hsame⟩ := X0.leave (v := some (.ref x)) (fun h => by rw [Bd.returns] at h; cases h)
  refine ⟨_, _, pr2 _ (retOut X0 hx (t := (.array .byte)) Bd.returns rfl (Or.inr (Or.inr (Or.inr (Or.inr ⟨rfl, rfl, rfl⟩)))) (hb hby d30_8) hr), hrun, hended, _, _, rfl, ?_, ⟨_, rfl⟩, hW, hsame.mono (by decide) (by decide)⟩
  show Q30 Z r x kx h0 n0 _ s₁.heap _
  rw [e0]
  exact ⟨rfl, N0, rfl⟩
theorem pd_1 : parseMethodDescriptor "([BI)[B" = some ⟨[(.array .byte), .int], some (.array .byte)⟩ := by decide +kernel
theorem d31_0 : decode prog_24_method_15_code 0 = .ok (.aload_n 1, 1) := by decide +kernel
theorem d31_1 : decode prog_24_method_15_code 1 = .ok (.arraylength, 1) := by decide +kernel
theorem d31_2 : decode prog_24_method_15_code 2 = .ok (.iconst 1, 1) := by decide +kernel
theorem d31_3 : decode prog_24_method_15_code 3 = .ok (.iand, 1) := by decide +kernel
theorem d31_4 : decode prog_24_method_15_code 4 = .ok (.ifCond .ne 5, 3) := by decide +kernel
theorem d31_9 : decode prog_24_method_15_code 9 = .ok (.aload_n 1, 1) := by decide +kernel
theorem d31_10 : decode prog_24_method_15_code 10 = .ok (.aload_n 1, 1) := by decide +kernel
theorem d31_11 : decode prog_24_method_15_code 11 = .ok (.arraylength, 1) := by decide +kernel
theorem d31_12 : decode prog_24_method_15_code 12 = .ok (.iconst 1, 1) := by decide +kernel
theorem d31_13 : decode prog_24_method_15_code 13 = .ok (.iadd, 1) := by decide +kernel
theorem d31_14 : decode prog_24_method_15_code 14 = .ok (.invokestatic 221, 3) := by decide +kernel
theorem d31_17 : decode prog_24_method_15_code 17 = .ok (.astore_n 2, 1) := by decide +kernel
theorem d31_18 : decode prog_24_method_15_code 18 = .ok (.aload_n 0, 1) := by decide +kernel
theorem d31_19 : decode prog_24_method_15_code 19 = .ok (.getfield 125, 3) := by decide +kernel
theorem d31_22 : decode prog_24_method_15_code 22 = .ok (.ifCond .eq 16, 3) := by decide +kernel
theorem d31_25 : decode prog_24_method_15_code 25 = .ok (.aload_n 0, 1) := by decide +kernel
theorem d31_26 : decode prog_24_method_15_code 26 = .ok (.getstatic 85, 3) := by decide +kernel
theorem d31_29 : decode prog_24_method_15_code 29 = .ok (.if_acmp .eq 9, 3) := by decide +kernel
theorem d31_32 : decode prog_24_method_15_code 32 = .ok (.aload_n 2, 1) := by decide +kernel
theorem d31_33 : decode prog_24_method_15_code 33 = .ok (.aload_n 1, 1) := by decide +kernel
theorem d31_34 : decode prog_24_method_15_code 34 = .ok (.arraylength, 1) := by decide +kernel
theorem d31_35 : decode prog_24_method_15_code 35 = .ok (.bipush 32, 2) := by decide +kernel
theorem d31_37 : decode prog_24_method_15_code 37 = .ok (.bastore, 1) := by decide +kernel
theorem d31_38 : decode prog_24_method_15_code 38 = .ok (.aload_n 2, 1) := by decide +kernel
theorem d31_39 : decode prog_24_method_15_code 39 = .ok (.areturn, 1) := by decide +kernel
theorem ef_31 (mM : MethodId) (x0 : Addr) (x1 : Addr) : entryFrame mM #[(.ref x0), (.ref x1)] 3 = mkF mM 0 #[.val (.ref x0), .val (.ref x1), .unset] [] := by first | (simp [entryFrame, mkF, argsToLocals, Value.category]; done) | rfl
def Q31 (Z : State) (r : Addr) (tx : Int32) (pv : Int32) (a_UI : Addr) (x : Addr) (kx : ClassId) (u0 : Int32) (h0 : Heap) (n0 : Nat) (v : Option Value) (h : Heap) (L : List Loc) : Prop := ∃ b : Addr, v = some (.ref b) ∧ h0.size ≤ b ∧ Fr n0 L ∧ Keep h0 h [] ∧ ∃ k : ClassId, Arv Z h b k .byte (2 : Int32) [(.int u0), (.int pv)] (.int (0 : Int32))
set_option maxRecDepth 65536 in
set_option maxHeartbeats 40000000 in
theorem rm31 (l : Launch) (Z : State) (a0 : Array Value) (hw : ∀ d ∈ tables_1, d.before a0 Z = true) (ws : List Jvm.Cond) (r : Addr) (tx : Int32) (pv : Int32) (a_UI : Addr) (x : Addr) (kx : ClassId) (u0 : Int32) (h0 : Heap) (n0 : Nat) (Z0 : n0 ≤ h0.size) (O : Old Z n0 h0) (S_UI : Sta Z Z.heap "com/example/tesserae/tesserae/value/Vr" "UI" "Lcom/example/tesserae/tesserae/value/Vr;" (.ref a_UI)) (E_r : Exa Z Z.heap r "com/example/tesserae/tesserae/value/Vr") (F_r : Fld Z Z.heap r "com/example/tesserae/tesserae/value/Vr" "text" "Z" (.int tx)) (hp : (tx = (0 : Int32) ∧ pv = (0 : Int32)) ∨ (tx = (1 : Int32) ∧ a_UI = r ∧ pv = (0 : Int32)) ∨ (tx = (1 : Int32) ∧ r ≠ a_UI ∧ pv = (32 : Int32))) (V_x : Arv Z h0 x kx .byte (1 : Int32) [(.int u0)] (.int (0 : Int32))) :
    MetFree l (⟨"com/example/tesserae/tesserae/value/Vr", "pad", "([B)[B"⟩ : MethodName) (head1 (Jvm.Cond.code (⟨"com/example/tesserae/tesserae/value/Vr", "pad", "([B)[B"⟩ : MethodName) prog_24_method_15_code 3 (some (.array .byte)) :: ws) ({ frames := 2, cells := 1, slots := 2, locals := 32 } : Room)) (fun aA uU => aA = #[(.ref r), (.ref x)] ∧ Z.Warmed39 uU.vm ∧ uU.heap = h0) (fun _ _ _ _ _ => True) (fun _ uU oO uU' => ∃ vV lL, oO = .returned vV ∧ Q31 Z r tx pv a_UI x kx u0 h0 n0 vV uU'.heap lL ∧ FrameEnd uU oO uU' lL ({ frames := 2, cells := 1, slots := 2, locals := 32 } : Room).cells ({ frames := 2, cells := 1, slots := 2, locals := 32 } : Room).slots) := by
  refine MetFree.of_bodySF (plainFor_of_name pn_1) hisR ?_
  intro pP eE sS mM args below meth cC s₁ Bd hml0 hP hK
  obtain ⟨rfl, hZ, hh⟩ := hP
  have hx := Bd.exec
  have hby := Bd.bytes
  have hml : cC.maxLocals = 3 := hml0
  have hown : sS.vm.findClass "com/example/tesserae/tesserae/value/Vr" = some mM.cls := findClass_of_methodNamed Bd.named
  have hnm := (name_of_methodNamed Bd.named Bd.method).1
  have X0 : Stand pP l eE ({ frames := 2, cells := 1, slots := 2, locals := 32 } : Room) sS mM #[(.ref r), (.ref x)] below meth cC s₁ [] 0 0 := Stand.of_body Bd
  have e0 : s₁.heap = h0 := by rw [← hh, Bd.state]; rfl
  have N0 := Fr.nil n0
  have pre0 : ∀ tg, Steps pP.tables eE below (s₁.setTop (mkF mM 0 #[.val (.ref r), .val (.ref x), .unset] [])) tg → Steps pP.tables eE below (s₁.setTop (entryFrame mM #[(.ref r), (.ref x)] 3)) tg := fun tg kg => castTop (ef_31 mM r x) kg
  obtain ⟨cla1, Ara1, qa1, Sa1, Ma1, Ha1, Ga1⟩ := id V_x
  have pr2 : ∀ tg, Steps pP.tables eE below (s₁.setTop (mkF mM 14 #[.val (.ref r), .val (.ref x), .unset] [(.int (2 : Int32)), (.ref x)])) tg → Steps pP.tables eE below (s₁.setTop (entryFrame mM #[(.ref r), (.ref x)] 3)) tg := fun tg kg => pre0 _ (by
    show Steps pP.tables eE below (s₁.setTop (mkF mM 0 #[.val (.ref r), .val (.ref x), .unset] [])) _
    refine XS.aloadN X0.here hx rfl (hb hby d31_0) rfl rfl ?_
    show Steps pP.tables eE below (s₁.setTop (mkF mM 1 #[.val (.ref r), .val (.ref x), .unset] [(.ref x)])) _
    refine X0.arraylength hx (by rw [e0]; exact Ara1.1) (State.isArrayOf_alike hZ.alike Ara1.2.1) (g := (mkF mM 1 #[.val (.ref r), .val (.ref x), .unset] [(.ref x)])) rfl rfl (hb hby d31_1) _ ?_
    rw [len_of Sa1 Ma1]
    show Steps pP.tables eE below (s₁.setTop (mkF mM 2 #[.val (.ref r), .val (.ref x), .unset] [(.int (1 : Int32))])) _
    refine XS.iconst X0.here hx rfl (hb hby d31_2) ?_
    refine XS.iand X0.here hx rfl (hb hby d31_3) rfl ?_
    refine XS.ifYes X0.here hx rfl (pc0 := 4) (pc' := 9) rfl (hb hby d31_4) rfl ((if0 _ _).trans (feq (by decide)).2) (by decide) (by decide) ?_
    refine XS.aloadN X0.here hx rfl (hb hby d31_9) rfl rfl ?_
    refine XS.aloadN X0.here hx rfl (hb hby d31_10) rfl rfl ?_
    show Steps pP.tables eE below (s₁.setTop (mkF mM 11 #[.val (.ref r), .val (.ref x), .unset] [(.ref x), (.ref x)])) _
    refine X0.arraylength hx (by rw [e0]; exact Ara1.1) (State.isArrayOf_alike hZ.alike Ara1.2.1) (g := (mkF mM 11 #[.val (.ref r), .val (.ref x), .unset] [(.ref x), (.ref x)])) rfl rfl (hb hby d31_11) _ ?_
    rw [len_of Sa1 Ma1]
    show Steps pP.tables eE below (s₁.setTop (mkF mM 12 #[.val (.ref r), .val (.ref x), .unset] [(.int (1 : Int32)), (.ref x)])) _
    refine XS.iconst X0.here hx rfl (hb hby d31_12) ?_
    refine XS.iadd X0.here hx rfl (hb hby d31_13) rfl ?_
    exact kg)
  clear pre0
  obtain ⟨_, _, ⟨T3, L3, kk3, nn3⟩, -, X3, ⟨Lc3, hQ3, l3, y3, z3⟩, st3⟩ := Jvm.LawKit.callS X0 hx (y := (⟨"java/util/Arrays", "copyOf", "([BI)[B"⟩ : MethodName)) hown (mvT hZ (hw _ (List.mem_of_getElem? (i := 80) rfl))) (mvT hZ (hw _ (List.mem_of_getElem? (i := 81) rfl))) (mvT hZ (hw _ (List.mem_of_getElem? (i := 82) rfl))) (mvT hZ (hw _ (List.mem_of_getElem? (i := 83) rfl))) (by decide) (backOf (W := 0) (rm21 l Z a0 hw [] x kx u0 h0 n0 Z0 V_x) hZ (hw _ (List.mem_of_getElem? (i := 83) rfl)) (hw _ (List.mem_of_getElem? (i := 82) rfl)) (by decide) (by decide)) (g := (mkF mM 14 #[.val (.ref r), .val (.ref x), .unset] [(.int (2 : Int32)), (.ref x)])) rfl (by rw [hml]; rfl) (argsL := [(.ref x), (.int (2 : Int32))]) (rest := []) (lenOf pd_1 rfl) rfl (by show 2 * 0 + _ ≤ _; exact Nat.le_of_eq rfl) (hb hby d31_14) (fun _ _ => ⟨rfl, e0, (by decide : 0 + 1 ≤ _), (by decide : 0 + 2 ≤ _)⟩)
  dsimp only [Pt.U, Pt.locs, Pt.cells, Pt.slots] at X3 l3 y3 z3 st3 hQ3
  subst l3 y3 z3
  obtain ⟨bc3, rfl, ge3, Nq3, K3, kc3, V3⟩ := hQ3
  have N3 := Fr.app N0 Nq3
  have ne4 : x ≠ bc3 := Nat.ne_of_lt (Nat.lt_of_lt_of_le (V_x).lt ge3)
  have gn5 : n0 ≤ bc3 := Nat.le_trans Z0 ge3
  have gs6 : h0.size ≤ bc3 := Nat.le_trans (Keep.refl h0 []).1 ge3
  have pr7 : ∀ tg, Steps pP.tables eE below (T3.setTop (mkF mM 17 #[.val (.ref r), .val (.ref x), .unset] [(.ref bc3)])) tg → Steps pP.tables eE below (s₁.setTop (entryFrame mM #[(.ref r), (.ref x)] 3)) tg := fun tg kg => pr2 _ (st3 _ kg)
  clear pr2 st3 X0 e0
  have pr8 : ∀ tg, Steps pP.tables eE below (T3.setTop (mkF mM 18 #[.val (.ref r), .val (.ref x), .val (.ref bc3)] [])) tg → Steps pP.tables eE below (s₁.setTop (entryFrame mM #[(.ref r), (.ref x)] 3)) tg := fun tg kg => pr7 _ (by
    show Steps pP.tables eE below (T3.setTop (mkF mM 17 #[.val (.ref r), .val (.ref x), .unset] [(.ref bc3)])) _
    refine XS.astoreN X3.here hx rfl (hb hby d31_17) rfl rfl (l' := #[.val (.ref r), .val (.ref x), .val (.ref bc3)]) rfl ?_
    exact kg)
  clear pr7
  rcases hp with ⟨ht, hpv⟩ | ⟨ht, hx1, hpv⟩ | ⟨ht, hx1, hpv⟩
  ·
    have F_k := F_r
    rw [ht] at F_k
    have c9 := (Old.keep O K3 all0)
    have pr10 : ∀ tg, Steps pP.tables eE below (T3.setTop (mkF mM 19 #[.val (.ref r), .val (.ref x), .val (.ref bc3)] [(.ref r)])) tg → Steps pP.tables eE below (s₁.setTop (entryFrame mM #[(.ref r), (.ref x)] 3)) tg := fun tg kg => pr8 _ (by
      show Steps pP.tables eE below (T3.setTop (mkF mM 18 #[.val (.ref r), .val (.ref x), .val (.ref bc3)] [])) _
      refine XS.aloadN X3.here hx rfl (hb hby d31_18) rfl rfl ?_
      exact kg)
    clear pr8
    obtain ⟨T11, X11, e11, st11⟩ := getF X3 hx hZ hown (host := "") (Or.inl (hw _ (List.mem_of_getElem? (i := 92) rfl))) Via.refl rfl (Fld.ext (c9).2 F_k) (g := (mkF mM 19 #[.val (.ref r), .val (.ref x), .val (.ref bc3)] [(.ref r)])) rfl rfl (hb hby d31_19)
    have pr12 : ∀ tg, Steps pP.tables eE below (T11.setTop (mkF mM 22 #[.val (.ref r), .val (.ref x), .val (.ref bc3)] [(.int (0 : Int32))])) tg → Steps pP.tables eE below (s₁.setTop (entryFrame mM #[(.ref r), (.ref x)] 3)) tg := fun tg kg => pr10 _ (st11 _ kg)
    clear pr10 st11 X3
    have pr13 : ∀ tg, Steps pP.tables eE below (T11.setTop (mkF mM 39 #[.val (.ref r), .val (.ref x), .val (.ref bc3)] [(.ref bc3)])) tg → Steps pP.tables eE below (s₁.setTop (entryFrame mM #[(.ref r), (.ref x)] 3)) tg := fun tg kg => pr12 _ (by
      show Steps pP.tables eE below (T11.setTop (mkF mM 22 #[.val (.ref r), .val (.ref x), .val (.ref bc3)] [(.int (0 : Int32))])) _
      refine XS.ifYes X11.here hx rfl (pc0 := 22) (pc' := 38) rfl (hb hby d31_22) rfl ((if0 _ _).trans (teq (by decide)).1) (by decide) (by decide) ?_
      refine XS.aloadN X11.here hx rfl (hb hby d31_38) rfl rfl ?_
      exact kg)
    clear pr12
    have c14 := (Keep.trans (Keep.refl h0 []) K3 all0)
    obtain ⟨fs, hr, hrun, hended, hW, hsame⟩ := X11.leave (v := some (.ref bc3)) (fun h => by rw [Bd.returns] at h; cases h)
    refine ⟨_, _, pr13 _ (retOut X11 hx (t := (.array .byte)) Bd.returns rfl (Or.inr (Or.inr (Or.inr (Or.inr ⟨rfl, rfl, rfl⟩)))) (hb hby d31_39) hr), hrun, hended, _, _, rfl, ?_, ⟨_, rfl⟩, hW, hsame.mono (by decide) (by decide)⟩
    show Q31 Z r tx pv a_UI x kx u0 h0 n0 _ T11.heap _
    rw [e11]
    exact ⟨bc3, rfl, gs6, N3, c14, kc3, by rw [hpv]; exact V3⟩
  ·
    have F_k := F_r
    rw [ht] at F_k
    have c15 := (Old.keep O K3 all0)
    have pr16 : ∀ tg, Steps pP.tables eE below (T3.setTop (mkF mM 19 #[.val (.ref r), .val (.ref x), .val (.ref bc3)] [(.ref r)])) tg → Steps pP.tables eE below (s₁.setTop (entryFrame mM #[(.ref r), (.ref x)] 3)) tg := fun tg kg => pr8 _ (by
      show Steps pP.tables eE below (T3.setTop (mkF mM 18 #[.val (.ref r), .val (.ref x), .val (.ref bc3)] [])) _
      refine XS.aloadN X3.here hx rfl (hb hby d31_18) rfl rfl ?_
      exact kg)
    clear pr8
    obtain ⟨T17, X17, e17, st17⟩ := getF X3 hx hZ hown (host := "") (Or.inl (hw _ (List.mem_of_getElem? (i := 92) rfl))) Via.refl rfl (Fld.ext (c15).2 F_k) (g := (mkF mM 19 #[.val (.ref r), .val (.ref x), .val (.ref bc3)] [(.ref r)])) rfl rfl (hb hby d31_19)
    have pr18 : ∀ tg, Steps pP.tables eE below (T17.setTop (mkF mM 22 #[.val (.ref r), .val (.ref x), .val (.ref bc3)] [(.int (1 : Int32))])) tg → Steps pP.tables eE below (s₁.setTop (entryFrame mM #[(.ref r), (.ref x)] 3)) tg := fun tg kg => pr16 _ (st17 _ kg)
    clear pr16 st17 X3
    have pr19 : ∀ tg, Steps pP.tables eE below (T17.setTop (mkF mM 26 #[.val (.ref r), .val (.ref x), .val (.ref bc3)] [(.ref r)])) tg → Steps pP.tables eE below (s₁.setTop (entryFrame mM #[(.ref r), (.ref x)] 3)) tg := fun tg kg => pr18 _ (by
      show Steps pP.tables eE below (T17.setTop (mkF mM 22 #[.val (.ref r), .val (.ref x), .val (.ref bc3)] [(.int (1 : Int32))])) _
      refine XS.ifNo X17.here hx rfl (hb hby d31_22) rfl ((if0 _ _).trans (feq (by decide)).1) ?_
      refine XS.aloadN X17.here hx rfl (hb hby d31_25) rfl rfl ?_
      exact kg)
    clear pr18
    obtain ⟨T20, X20, e20, st20⟩ := getS2 X17 hx hZ hown (host := "") (Or.inl (hw _ (List.mem_of_getElem? (i := 94) rfl))) Via.refl e17 (Sta.ext (c15).2 S_UI) (g := (mkF mM 26 #[.val (.ref r), .val (.ref x), .val (.ref bc3)] [(.ref r)])) rfl (hb hby d31_26)
    have pr21 : ∀ tg, Steps pP.tables eE below (T20.setTop (mkF mM 29 #[.val (.ref r), .val (.ref x), .val (.ref bc3)] [(.ref a_UI), (.ref r)])) tg → Steps pP.tables eE below (s₁.setTop (entryFrame mM #[(.ref r), (.ref x)] 3)) tg := fun tg kg => pr19 _ (st20 _ kg)
    clear pr19 st20 X17 e17
    have pr22 : ∀ tg, Steps pP.tables eE below (T20.setTop (mkF mM 39 #[.val (.ref r), .val (.ref x), .val (.ref bc3)] [(.ref bc3)])) tg → Steps pP.tables eE below (s₁.setTop (entryFrame mM #[(.ref r), (.ref x)] 3)) tg := fun tg kg => pr21 _ (by
      show Steps pP.tables eE below (T20.setTop (mkF mM 29 #[.val (.ref r), .val (.ref x), .val (.ref bc3)] [(.ref a_UI), (.ref r)])) _
      refine Jvm.RoadKit.acmp (g := (mkF mM 29 #[.val (.ref r), .val (.ref x), .val (.ref bc3)] [(.ref a_UI), (.ref r)])) X20 hx rfl rfl rfl (pc0 := 29) (pc' := 38) (same := true) rfl (hb hby d31_29) rfl (decide_eq_true (congrArg Value.ref hx1.symm)) (by decide) (by decide) ?_
      show Steps pP.tables eE below (T20.setTop (mkF mM 38 #[.val (.ref r), .val (.ref x), .val (.ref bc3)] [])) _
      refine XS.aloadN X20.here hx rfl (hb hby d31_38) rfl rfl ?_
      exact kg)
    clear pr21
    have c23 := (Keep.trans (Keep.refl h0 []) K3 all0)
    obtain ⟨fs, hr, hrun, hended, hW, hsame⟩ := X20.leave (v := some (.ref bc3)) (fun h => by rw [Bd.returns] at h; cases h)
    refine ⟨_, _, pr22 _ (retOut X20 hx (t := (.array .byte)) Bd.returns rfl (Or.inr (Or.inr (Or.inr (Or.inr ⟨rfl, rfl, rfl⟩)))) (hb hby d31_39) hr), hrun, hended, _, _, rfl, ?_, ⟨_, rfl⟩, hW, hsame.mono (by decide) (by decide)⟩
    show Q31 Z r tx pv a_UI x kx u0 h0 n0 _ T20.heap _
    rw [e20]
    exact ⟨bc3, rfl, gs6, N3, c23, kc3, by rw [hpv]; exact V3⟩
  ·
    have F_k := F_r
    rw [ht] at F_k
    have c24 := (Old.keep O K3 all0)
    have pr25 : ∀ tg, Steps pP.tables eE below (T3.setTop (mkF mM 19 #[.val (.ref r), .val (.ref x), .val (.ref bc3)] [(.ref r)])) tg → Steps pP.tables eE below (s₁.setTop (entryFrame mM #[(.ref r), (.ref x)] 3)) tg := fun tg kg => pr8 _ (by
      show Steps pP.tables eE below (T3.setTop (mkF mM 18 #[.val (.ref r), .val (.ref x), .val (.ref bc3)] [])) _
      refine XS.aloadN X3.here hx rfl (hb hby d31_18) rfl rfl ?_
      exact kg)
    clear pr8
    obtain ⟨T26, X26, e26, st26⟩ := getF X3 hx hZ hown (host := "") (Or.inl (hw _ (List.mem_of_getElem? (i := 92) rfl))) Via.refl rfl (Fld.ext (c24).2 F_k) (g := (mkF mM 19 #[.val (.ref r), .val (.ref x), .val (.ref bc3)] [(.ref r)])) rfl rfl (hb hby d31_19)
    have pr27 : ∀ tg, Steps pP.tables eE below (T26.setTop (mkF mM 22 #[.val (.ref r), .val (.ref x), .val (.ref bc3)] [(.int (1 : Int32))])) tg → Steps pP.tables eE below (s₁.setTop (entryFrame mM #[(.ref r), (.ref x)] 3)) tg := fun tg kg => pr25 _ (st26 _ kg)
    clear pr25 st26 X3
    have pr28 : ∀ tg, Steps pP.tables eE below (T26.setTop (mkF mM 26 #[.val (.ref r), .val (.ref x), .val (.ref bc3)] [(.ref r)])) tg → Steps pP.tables eE below (s₁.setTop (entryFrame mM #[(.ref r), (.ref x)] 3)) tg := fun tg kg => pr27 _ (by
      show Steps pP.tables eE below (T26.setTop (mkF mM 22 #[.val (.ref r), .val (.ref x), .val (.ref bc3)] [(.int (1 : Int32))])) _
      refine XS.ifNo X26.here hx rfl (hb hby d31_22) rfl ((if0 _ _).trans (feq (by decide)).1) ?_
      refine XS.aloadN X26.here hx rfl (hb hby d31_25) rfl rfl ?_
      exact kg)
    clear pr27
    obtain ⟨T29, X29, e29, st29⟩ := getS2 X26 hx hZ hown (host := "") (Or.inl (hw _ (List.mem_of_getElem? (i := 94) rfl))) Via.refl e26 (Sta.ext (c24).2 S_UI) (g := (mkF mM 26 #[.val (.ref r), .val (.ref x), .val (.ref bc3)] [(.ref r)])) rfl (hb hby d31_26)
    have pr30 : ∀ tg, Steps pP.tables eE below (T29.setTop (mkF mM 29 #[.val (.ref r), .val (.ref x), .val (.ref bc3)] [(.ref a_UI), (.ref r)])) tg → Steps pP.tables eE below (s₁.setTop (entryFrame mM #[(.ref r), (.ref x)] 3)) tg := fun tg kg => pr28 _ (st29 _ kg)
    clear pr28 st29 X26 e26
    have c31 := (Arv.keep V_x K3 nin0)
    obtain ⟨cla32, Ara32, qa32, Sa32, Ma32, Ha32, Ga32⟩ := id c31
    have pr33 : ∀ tg, Steps pP.tables eE below (T29.setTop (mkF mM 37 #[.val (.ref r), .val (.ref x), .val (.ref bc3)] [(.int (32 : Int32)), (.int (1 : Int32)), (.ref bc3)])) tg → Steps pP.tables eE below (s₁.setTop (entryFrame mM #[(.ref r), (.ref x)] 3)) tg := fun tg kg => pr30 _ (by
      show Steps pP.tables eE below (T29.setTop (mkF mM 29 #[.val (.ref r), .val (.ref x), .val (.ref bc3)] [(.ref a_UI), (.ref r)])) _
      refine Jvm.RoadKit.acmp (g := (mkF mM 29 #[.val (.ref r), .val (.ref x), .val (.ref bc3)] [(.ref a_UI), (.ref r)])) X29 hx rfl rfl rfl (pc0 := 29) (pc' := 32) (same := false) rfl (hb hby d31_29) rfl (decide_eq_false fun q => hx1 (Value.ref.inj q)) (by decide) (by decide) ?_
      show Steps pP.tables eE below (T29.setTop (mkF mM 32 #[.val (.ref r), .val (.ref x), .val (.ref bc3)] [])) _
      refine XS.aloadN X29.here hx rfl (hb hby d31_32) rfl rfl ?_
      refine XS.aloadN X29.here hx rfl (hb hby d31_33) rfl rfl ?_
      show Steps pP.tables eE below (T29.setTop (mkF mM 34 #[.val (.ref r), .val (.ref x), .val (.ref bc3)] [(.ref x), (.ref bc3)])) _
      refine X29.arraylength hx (by rw [e29]; exact Ara32.1) (State.isArrayOf_alike hZ.alike Ara32.2.1) (g := (mkF mM 34 #[.val (.ref r), .val (.ref x), .val (.ref bc3)] [(.ref x), (.ref bc3)])) rfl rfl (hb hby d31_34) _ ?_
      rw [len_of Sa32 Ma32]
      show Steps pP.tables eE below (T29.setTop (mkF mM 35 #[.val (.ref r), .val (.ref x), .val (.ref bc3)] [(.int (1 : Int32)), (.ref bc3)])) _
      refine XS.bipush X29.here hx rfl (hb hby d31_35) ?_
      exact kg)
    clear pr30
    obtain ⟨cla34, Ara34, qa34, Sa34, Ma34, Ha34, Ga34⟩ := id V3
    have hin35 : ¬ ((1 : Int32) < 0 ∨ cla34.slots.size ≤ ((1 : Int32)).toNatClampNeg) := inb_of Sa34 ⟨by decide, by decide⟩
    obtain ⟨T35, h35, X35, e35, W35, st35⟩ := stB X29 hx hZ e29 Ara34 (j := (1 : Int32)) hin35 (g := (mkF mM 37 #[.val (.ref r), .val (.ref x), .val (.ref bc3)] [(.int (32 : Int32)), (.int (1 : Int32)), (.ref bc3)])) rfl rfl (hb hby d31_37)
    have V35 : Arv Z h35 bc3 kc3 .byte (2 : Int32) [(.int u0), (.int (nar .byte (32 : Int32)))] (.int (0 : Int32)) := Arv.set Ara34 qa34 Sa34 Ma34 Ha34 Ga34 (fits_nar_byte _) W35 1 rfl (Nat.le_of_ble_eq_true rfl)
    have N35 := Fr.snoc X35 N3 gn5
    have pr36 : ∀ tg, Steps pP.tables eE below (T35.setTop (mkF mM 38 #[.val (.ref r), .val (.ref x), .val (.ref bc3)] [])) tg → Steps pP.tables eE below (s₁.setTop (entryFrame mM #[(.ref r), (.ref x)] 3)) tg := fun tg kg => pr33 _ (st35 _ kg)
    clear pr33 st35 X29 e29
    have pr37 : ∀ tg, Steps pP.tables eE below (T35.setTop (mkF mM 39 #[.val (.ref r), .val (.ref x), .val (.ref bc3)] [(.ref bc3)])) tg → Steps pP.tables eE below (s₁.setTop (entryFrame mM #[(.ref r), (.ref x)] 3)) tg := fun tg kg => pr36 _ (by
      show Steps pP.tables eE below (T35.setTop (mkF mM 38 #[.val (.ref r), .val (.ref x), .val (.ref bc3)] [])) _
      refine XS.aloadN X35.here hx rfl (hb hby d31_38) rfl rfl ?_
      exact kg)
    clear pr36
    have c38 := (Keep.wr (Keep.trans (Keep.refl h0 []) K3 all0) W35 (Or.inr gs6))
    obtain ⟨fs, hr, hrun, hended, hW, hsame⟩ := X35.leave (v := some (.ref bc3)) (fun h => by rw [Bd.returns] at h; cases h)
    refine ⟨_, _, pr37 _ (retOut X35 hx (t := (.array .byte)) Bd.returns rfl (Or.inr (Or.inr (Or.inr (Or.inr ⟨rfl, rfl, rfl⟩)))) (hb hby d31_39) hr), hrun, hended, _, _, rfl, ?_, ⟨_, rfl⟩, hW, hsame.mono (by decide) (by decide)⟩
    show Q31 Z r tx pv a_UI x kx u0 h0 n0 _ T35.heap _
    rw [e35]
    exact ⟨bc3, rfl, gs6, N35, c38, kc3, by rw [hpv]; exact V35⟩
theorem d32_0 : decode prog_24_method_15_code 0 = .ok (.aload_n 1, 1) := by decide +kernel
theorem d32_1 : decode prog_24_method_15_code 1 = .ok (.arraylength, 1) := by decide +kernel
theorem d32_2 : decode prog_24_method_15_code 2 = .ok (.iconst 1, 1) := by decide +kernel
theorem d32_3 : decode prog_24_method_15_code 3 = .ok (.iand, 1) := by decide +kernel
theorem d32_4 : decode prog_24_method_15_code 4 = .ok (.ifCond .ne 5, 3) := by decide +kernel
theorem d32_7 : decode prog_24_method_15_code 7 = .ok (.aload_n 1, 1) := by decide +kernel
theorem d32_8 : decode prog_24_method_15_code 8 = .ok (.areturn, 1) := by decide +kernel
theorem ef_32 (mM : MethodId) (x0 : Addr) (x1 : Addr) : entryFrame mM #[(.ref x0), (.ref x1)] 3 = mkF mM 0 #[.val (.ref x0), .val (.ref x1), .unset] [] := by first | (simp [entryFrame, mkF, argsToLocals, Value.category]; done) | rfl
def Q32 (Z : State) (r : Addr) (x : Addr) (kx : ClassId) (u0 : Int32) (u1 : Int32) (h0 : Heap) (n0 : Nat) (v : Option Value) (h : Heap) (L : List Loc) : Prop := v = some (.ref x) ∧ Fr n0 L ∧ h = h0
set_option maxRecDepth 65536 in
set_option maxHeartbeats 40000000 in
theorem rm32 (l : Launch) (Z : State) (a0 : Array Value) (hw : ∀ d ∈ tables_1, d.before a0 Z = true) (ws : List Jvm.Cond) (r : Addr) (x : Addr) (kx : ClassId) (u0 : Int32) (u1 : Int32) (h0 : Heap) (n0 : Nat) (Z0 : n0 ≤ h0.size) (V_x : Arv Z h0 x kx .byte (2 : Int32) [(.int u0), (.int u1)] (.int (0 : Int32))) :
    MetFree l (⟨"com/example/tesserae/tesserae/value/Vr", "pad", "([B)[B"⟩ : MethodName) (head1 (Jvm.Cond.code (⟨"com/example/tesserae/tesserae/value/Vr", "pad", "([B)[B"⟩ : MethodName) prog_24_method_15_code 3 (some (.array .byte)) :: ws) ({ frames := 0, cells := 0, slots := 0, locals := 0 } : Room)) (fun aA uU => aA = #[(.ref r), (.ref x)] ∧ Z.Warmed39 uU.vm ∧ uU.heap = h0) (fun _ _ _ _ _ => True) (fun _ uU oO uU' => ∃ vV lL, oO = .returned vV ∧ Q32 Z r x kx u0 u1 h0 n0 vV uU'.heap lL ∧ FrameEnd uU oO uU' lL ({ frames := 0, cells := 0, slots := 0, locals := 0 } : Room).cells ({ frames := 0, cells := 0, slots := 0, locals := 0 } : Room).slots) := by
  refine MetFree.of_bodySF (plainFor_of_name pn_1) hisR ?_
  intro pP eE sS mM args below meth cC s₁ Bd hml0 hP hK
  obtain ⟨rfl, hZ, hh⟩ := hP
  have hx := Bd.exec
  have hby := Bd.bytes
  have hml : cC.maxLocals = 3 := hml0
  have hown : sS.vm.findClass "com/example/tesserae/tesserae/value/Vr" = some mM.cls := findClass_of_methodNamed Bd.named
  have hnm := (name_of_methodNamed Bd.named Bd.method).1
  have X0 : Stand pP l eE ({ frames := 0, cells := 0, slots := 0, locals := 0 } : Room) sS mM #[(.ref r), (.ref x)] below meth cC s₁ [] 0 0 := Stand.of_body Bd
  have e0 : s₁.heap = h0 := by rw [← hh, Bd.state]; rfl
  have N0 := Fr.nil n0
  have pre0 : ∀ tg, Steps pP.tables eE below (s₁.setTop (mkF mM 0 #[.val (.ref r), .val (.ref x), .unset] [])) tg → Steps pP.tables eE below (s₁.setTop (entryFrame mM #[(.ref r), (.ref x)] 3)) tg := fun tg kg => castTop (ef_32 mM r x) kg
  obtain ⟨cla1, Ara1, qa1, Sa1, Ma1, Ha1, Ga1⟩ := id V_x
  have pr2 : ∀ tg, Steps pP.tables eE below (s₁.setTop (mkF mM 8 #[.val (.ref r), .val (.ref x), .unset] [(.ref x)])) tg → Steps pP.tables eE below (s₁.setTop (entryFrame mM #[(.ref r), (.ref x)] 3)) tg := fun tg kg => pre0 _ (by
    show Steps pP.tables eE below (s₁.setTop (mkF mM 0 #[.val (.ref r), .val (.ref x), .unset] [])) _
    refine XS.aloadN X0.here hx rfl (hb hby d32_0) rfl rfl ?_
    show Steps pP.tables eE below (s₁.setTop (mkF mM 1 #[.val (.ref r), .val (.ref x), .unset] [(.ref x)])) _
    refine X0.arraylength hx (by rw [e0]; exact Ara1.1) (State.isArrayOf_alike hZ.alike Ara1.2.1) (g := (mkF mM 1 #[.val (.ref r), .val (.ref x), .unset] [(.ref x)])) rfl rfl (hb hby d32_1) _ ?_
    rw [len_of Sa1 Ma1]
    show Steps pP.tables eE below (s₁.setTop (mkF mM 2 #[.val (.ref r), .val (.ref x), .unset] [(.int (2 : Int32))])) _
    refine XS.iconst X0.here hx rfl (hb hby d32_2) ?_
    refine XS.iand X0.here hx rfl (hb hby d32_3) rfl ?_
    refine XS.ifNo X0.here hx rfl (hb hby d32_4) rfl ((if0 _ _).trans (teq (by decide)).2) ?_
    refine XS.aloadN X0.here hx rfl (hb hby d32_7) rfl rfl ?_
    exact kg)
  clear pre0
  obtain ⟨fs, hr, hrun, hended, hW, hsame⟩ := X0.leave (v := some (.ref x)) (fun h => by rw [Bd.returns] at h; cases h)
  refine ⟨_, _, pr2 _ (retOut X0 hx (t := (.array .byte)) Bd.returns rfl (Or.inr (Or.inr (Or.inr (Or.inr ⟨rfl, rfl, rfl⟩)))) (hb hby d32_8) hr), hrun, hended, _, _, rfl, ?_, ⟨_, rfl⟩, hW, hsame.mono (by decide) (by decide)⟩
  show Q32 Z r x kx u0 u1 h0 n0 _ s₁.heap _
  rw [e0]
  exact ⟨rfl, N0, rfl⟩
theorem d33_0 : decode prog_24_method_15_code 0 = .ok (.aload_n 1, 1) := by decide +kernel
theorem d33_1 : decode prog_24_method_15_code 1 = .ok (.arraylength, 1) := by decide +kernel
theorem d33_2 : decode prog_24_method_15_code 2 = .ok (.iconst 1, 1) := by decide +kernel
theorem d33_3 : decode prog_24_method_15_code 3 = .ok (.iand, 1) := by decide +kernel
theorem d33_4 : decode prog_24_method_15_code 4 = .ok (.ifCond .ne 5, 3) := by decide +kernel
theorem d33_9 : decode prog_24_method_15_code 9 = .ok (.aload_n 1, 1) := by decide +kernel
theorem d33_10 : decode prog_24_method_15_code 10 = .ok (.aload_n 1, 1) := by decide +kernel
theorem d33_11 : decode prog_24_method_15_code 11 = .ok (.arraylength, 1) := by decide +kernel
theorem d33_12 : decode prog_24_method_15_code 12 = .ok (.iconst 1, 1) := by decide +kernel
theorem d33_13 : decode prog_24_method_15_code 13 = .ok (.iadd, 1) := by decide +kernel
theorem d33_14 : decode prog_24_method_15_code 14 = .ok (.invokestatic 221, 3) := by decide +kernel
theorem d33_17 : decode prog_24_method_15_code 17 = .ok (.astore_n 2, 1) := by decide +kernel
theorem d33_18 : decode prog_24_method_15_code 18 = .ok (.aload_n 0, 1) := by decide +kernel
theorem d33_19 : decode prog_24_method_15_code 19 = .ok (.getfield 125, 3) := by decide +kernel
theorem d33_22 : decode prog_24_method_15_code 22 = .ok (.ifCond .eq 16, 3) := by decide +kernel
theorem d33_25 : decode prog_24_method_15_code 25 = .ok (.aload_n 0, 1) := by decide +kernel
theorem d33_26 : decode prog_24_method_15_code 26 = .ok (.getstatic 85, 3) := by decide +kernel
theorem d33_29 : decode prog_24_method_15_code 29 = .ok (.if_acmp .eq 9, 3) := by decide +kernel
theorem d33_32 : decode prog_24_method_15_code 32 = .ok (.aload_n 2, 1) := by decide +kernel
theorem d33_33 : decode prog_24_method_15_code 33 = .ok (.aload_n 1, 1) := by decide +kernel
theorem d33_34 : decode prog_24_method_15_code 34 = .ok (.arraylength, 1) := by decide +kernel
theorem d33_35 : decode prog_24_method_15_code 35 = .ok (.bipush 32, 2) := by decide +kernel
theorem d33_37 : decode prog_24_method_15_code 37 = .ok (.bastore, 1) := by decide +kernel
theorem d33_38 : decode prog_24_method_15_code 38 = .ok (.aload_n 2, 1) := by decide +kernel
theorem d33_39 : decode prog_24_method_15_code 39 = .ok (.areturn, 1) := by decide +kernel
theorem ef_33 (mM : MethodId) (x0 : Addr) (x1 : Addr) : entryFrame mM #[(.ref x0), (.ref x1)] 3 = mkF mM 0 #[.val (.ref x0), .val (.ref x1), .unset] [] := by first | (simp [entryFrame, mkF, argsToLocals, Value.category]; done) | rfl
def Q33 (Z : State) (r : Addr) (tx : Int32) (pv : Int32) (a_UI : Addr) (x : Addr) (kx : ClassId) (u0 : Int32) (u1 : Int32) (u2 : Int32) (h0 : Heap) (n0 : Nat) (v : Option Value) (h : Heap) (L : List Loc) : Prop := ∃ b : Addr, v = some (.ref b) ∧ h0.size ≤ b ∧ Fr n0 L ∧ Keep h0 h [] ∧ ∃ k : ClassId, Arv Z h b k .byte (4 : Int32) [(.int u0), (.int u1), (.int u2), (.int pv)] (.int (0 : Int32))
set_option maxRecDepth 65536 in
set_option maxHeartbeats 40000000 in
theorem rm33 (l : Launch) (Z : State) (a0 : Array Value) (hw : ∀ d ∈ tables_1, d.before a0 Z = true) (ws : List Jvm.Cond) (r : Addr) (tx : Int32) (pv : Int32) (a_UI : Addr) (x : Addr) (kx : ClassId) (u0 : Int32) (u1 : Int32) (u2 : Int32) (h0 : Heap) (n0 : Nat) (Z0 : n0 ≤ h0.size) (O : Old Z n0 h0) (S_UI : Sta Z Z.heap "com/example/tesserae/tesserae/value/Vr" "UI" "Lcom/example/tesserae/tesserae/value/Vr;" (.ref a_UI)) (E_r : Exa Z Z.heap r "com/example/tesserae/tesserae/value/Vr") (F_r : Fld Z Z.heap r "com/example/tesserae/tesserae/value/Vr" "text" "Z" (.int tx)) (hp : (tx = (0 : Int32) ∧ pv = (0 : Int32)) ∨ (tx = (1 : Int32) ∧ a_UI = r ∧ pv = (0 : Int32)) ∨ (tx = (1 : Int32) ∧ r ≠ a_UI ∧ pv = (32 : Int32))) (V_x : Arv Z h0 x kx .byte (3 : Int32) [(.int u0), (.int u1), (.int u2)] (.int (0 : Int32))) :
    MetFree l (⟨"com/example/tesserae/tesserae/value/Vr", "pad", "([B)[B"⟩ : MethodName) (head1 (Jvm.Cond.code (⟨"com/example/tesserae/tesserae/value/Vr", "pad", "([B)[B"⟩ : MethodName) prog_24_method_15_code 3 (some (.array .byte)) :: ws) ({ frames := 2, cells := 1, slots := 4, locals := 32 } : Room)) (fun aA uU => aA = #[(.ref r), (.ref x)] ∧ Z.Warmed39 uU.vm ∧ uU.heap = h0) (fun _ _ _ _ _ => True) (fun _ uU oO uU' => ∃ vV lL, oO = .returned vV ∧ Q33 Z r tx pv a_UI x kx u0 u1 u2 h0 n0 vV uU'.heap lL ∧ FrameEnd uU oO uU' lL ({ frames := 2, cells := 1, slots := 4, locals := 32 } : Room).cells ({ frames := 2, cells := 1, slots := 4, locals := 32 } : Room).slots) := by
  refine MetFree.of_bodySF (plainFor_of_name pn_1) hisR ?_
  intro pP eE sS mM args below meth cC s₁ Bd hml0 hP hK
  obtain ⟨rfl, hZ, hh⟩ := hP
  have hx := Bd.exec
  have hby := Bd.bytes
  have hml : cC.maxLocals = 3 := hml0
  have hown : sS.vm.findClass "com/example/tesserae/tesserae/value/Vr" = some mM.cls := findClass_of_methodNamed Bd.named
  have hnm := (name_of_methodNamed Bd.named Bd.method).1
  have X0 : Stand pP l eE ({ frames := 2, cells := 1, slots := 4, locals := 32 } : Room) sS mM #[(.ref r), (.ref x)] below meth cC s₁ [] 0 0 := Stand.of_body Bd
  have e0 : s₁.heap = h0 := by rw [← hh, Bd.state]; rfl
  have N0 := Fr.nil n0
  have pre0 : ∀ tg, Steps pP.tables eE below (s₁.setTop (mkF mM 0 #[.val (.ref r), .val (.ref x), .unset] [])) tg → Steps pP.tables eE below (s₁.setTop (entryFrame mM #[(.ref r), (.ref x)] 3)) tg := fun tg kg => castTop (ef_33 mM r x) kg
  obtain ⟨cla1, Ara1, qa1, Sa1, Ma1, Ha1, Ga1⟩ := id V_x
  have pr2 : ∀ tg, Steps pP.tables eE below (s₁.setTop (mkF mM 14 #[.val (.ref r), .val (.ref x), .unset] [(.int (4 : Int32)), (.ref x)])) tg → Steps pP.tables eE below (s₁.setTop (entryFrame mM #[(.ref r), (.ref x)] 3)) tg := fun tg kg => pre0 _ (by
    show Steps pP.tables eE below (s₁.setTop (mkF mM 0 #[.val (.ref r), .val (.ref x), .unset] [])) _
    refine XS.aloadN X0.here hx rfl (hb hby d33_0) rfl rfl ?_
    show Steps pP.tables eE below (s₁.setTop (mkF mM 1 #[.val (.ref r), .val (.ref x), .unset] [(.ref x)])) _
    refine X0.arraylength hx (by rw [e0]; exact Ara1.1) (State.isArrayOf_alike hZ.alike Ara1.2.1) (g := (mkF mM 1 #[.val (.ref r), .val (.ref x), .unset] [(.ref x)])) rfl rfl (hb hby d33_1) _ ?_
    rw [len_of Sa1 Ma1]
    show Steps pP.tables eE below (s₁.setTop (mkF mM 2 #[.val (.ref r), .val (.ref x), .unset] [(.int (3 : Int32))])) _
    refine XS.iconst X0.here hx rfl (hb hby d33_2) ?_
    refine XS.iand X0.here hx rfl (hb hby d33_3) rfl ?_
    refine XS.ifYes X0.here hx rfl (pc0 := 4) (pc' := 9) rfl (hb hby d33_4) rfl ((if0 _ _).trans (feq (by decide)).2) (by decide) (by decide) ?_
    refine XS.aloadN X0.here hx rfl (hb hby d33_9) rfl rfl ?_
    refine XS.aloadN X0.here hx rfl (hb hby d33_10) rfl rfl ?_
    show Steps pP.tables eE below (s₁.setTop (mkF mM 11 #[.val (.ref r), .val (.ref x), .unset] [(.ref x), (.ref x)])) _
    refine X0.arraylength hx (by rw [e0]; exact Ara1.1) (State.isArrayOf_alike hZ.alike Ara1.2.1) (g := (mkF mM 11 #[.val (.ref r), .val (.ref x), .unset] [(.ref x), (.ref x)])) rfl rfl (hb hby d33_11) _ ?_
    rw [len_of Sa1 Ma1]
    show Steps pP.tables eE below (s₁.setTop (mkF mM 12 #[.val (.ref r), .val (.ref x), .unset] [(.int (3 : Int32)), (.ref x)])) _
    refine XS.iconst X0.here hx rfl (hb hby d33_12) ?_
    refine XS.iadd X0.here hx rfl (hb hby d33_13) rfl ?_
    exact kg)
  clear pre0
  obtain ⟨_, _, ⟨T3, L3, kk3, nn3⟩, -, X3, ⟨Lc3, hQ3, l3, y3, z3⟩, st3⟩ := Jvm.LawKit.callS X0 hx (y := (⟨"java/util/Arrays", "copyOf", "([BI)[B"⟩ : MethodName)) hown (mvT hZ (hw _ (List.mem_of_getElem? (i := 80) rfl))) (mvT hZ (hw _ (List.mem_of_getElem? (i := 81) rfl))) (mvT hZ (hw _ (List.mem_of_getElem? (i := 82) rfl))) (mvT hZ (hw _ (List.mem_of_getElem? (i := 83) rfl))) (by decide) (backOf (W := 0) (rm23 l Z a0 hw [] x kx u0 u1 u2 h0 n0 Z0 V_x) hZ (hw _ (List.mem_of_getElem? (i := 83) rfl)) (hw _ (List.mem_of_getElem? (i := 82) rfl)) (by decide) (by decide)) (g := (mkF mM 14 #[.val (.ref r), .val (.ref x), .unset] [(.int (4 : Int32)), (.ref x)])) rfl (by rw [hml]; rfl) (argsL := [(.ref x), (.int (4 : Int32))]) (rest := []) (lenOf pd_1 rfl) rfl (by show 2 * 0 + _ ≤ _; exact Nat.le_of_eq rfl) (hb hby d33_14) (fun _ _ => ⟨rfl, e0, (by decide : 0 + 1 ≤ _), (by decide : 0 + 4 ≤ _)⟩)
  dsimp only [Pt.U, Pt.locs, Pt.cells, Pt.slots] at X3 l3 y3 z3 st3 hQ3
  subst l3 y3 z3
  obtain ⟨bc3, rfl, ge3, Nq3, K3, kc3, V3⟩ := hQ3
  have N3 := Fr.app N0 Nq3
  have ne4 : x ≠ bc3 := Nat.ne_of_lt (Nat.lt_of_lt_of_le (V_x).lt ge3)
  have gn5 : n0 ≤ bc3 := Nat.le_trans Z0 ge3
  have gs6 : h0.size ≤ bc3 := Nat.le_trans (Keep.refl h0 []).1 ge3
  have pr7 : ∀ tg, Steps pP.tables eE below (T3.setTop (mkF mM 17 #[.val (.ref r), .val (.ref x), .unset] [(.ref bc3)])) tg → Steps pP.tables eE below (s₁.setTop (entryFrame mM #[(.ref r), (.ref x)] 3)) tg := fun tg kg => pr2 _ (st3 _ kg)
  clear pr2 st3 X0 e0
  have pr8 : ∀ tg, Steps pP.tables eE below (T3.setTop (mkF mM 18 #[.val (.ref r), .val (.ref x), .val (.ref bc3)] [])) tg → Steps pP.tables eE below (s₁.setTop (entryFrame mM #[(.ref r), (.ref x)] 3)) tg := fun tg kg => pr7 _ (by
    show Steps pP.tables eE below (T3.setTop (mkF mM 17 #[.val (.ref r), .val (.ref x), .unset] [(.ref bc3)])) _
    refine XS.astoreN X3.here hx rfl (hb hby d33_17) rfl rfl (l' := #[.val (.ref r), .val (.ref x), .val (.ref bc3)]) rfl ?_
    exact kg)
  clear pr7
  rcases hp with ⟨ht, hpv⟩ | ⟨ht, hx1, hpv⟩ | ⟨ht, hx1, hpv⟩
  ·
    have F_k := F_r
    rw [ht] at F_k
    have c9 := (Old.keep O K3 all0)
    have pr10 : ∀ tg, Steps pP.tables eE below (T3.setTop (mkF mM 19 #[.val (.ref r), .val (.ref x), .val (.ref bc3)] [(.ref r)])) tg → Steps pP.tables eE below (s₁.setTop (entryFrame mM #[(.ref r), (.ref x)] 3)) tg := fun tg kg => pr8 _ (by
      show Steps pP.tables eE below (T3.setTop (mkF mM 18 #[.val (.ref r), .val (.ref x), .val (.ref bc3)] [])) _
      refine XS.aloadN X3.here hx rfl (hb hby d33_18) rfl rfl ?_
      exact kg)
    clear pr8
    obtain ⟨T11, X11, e11, st11⟩ := getF X3 hx hZ hown (host := "") (Or.inl (hw _ (List.mem_of_getElem? (i := 92) rfl))) Via.refl rfl (Fld.ext (c9).2 F_k) (g := (mkF mM 19 #[.val (.ref r), .val (.ref x), .val (.ref bc3)] [(.ref r)])) rfl rfl (hb hby d33_19)
    have pr12 : ∀ tg, Steps pP.tables eE below (T11.setTop (mkF mM 22 #[.val (.ref r), .val (.ref x), .val (.ref bc3)] [(.int (0 : Int32))])) tg → Steps pP.tables eE below (s₁.setTop (entryFrame mM #[(.ref r), (.ref x)] 3)) tg := fun tg kg => pr10 _ (st11 _ kg)
    clear pr10 st11 X3
    have pr13 : ∀ tg, Steps pP.tables eE below (T11.setTop (mkF mM 39 #[.val (.ref r), .val (.ref x), .val (.ref bc3)] [(.ref bc3)])) tg → Steps pP.tables eE below (s₁.setTop (entryFrame mM #[(.ref r), (.ref x)] 3)) tg := fun tg kg => pr12 _ (by
      show Steps pP.tables eE below (T11.setTop (mkF mM 22 #[.val (.ref r), .val (.ref x), .val (.ref bc3)] [(.int (0 : Int32))])) _
      refine XS.ifYes X11.here hx rfl (pc0 := 22) (pc' := 38) rfl (hb hby d33_22) rfl ((if0 _ _).trans (teq (by decide)).1) (by decide) (by decide) ?_
      refine XS.aloadN X11.here hx rfl (hb hby d33_38) rfl rfl ?_
      exact kg)
    clear pr12
    have c14 := (Keep.trans (Keep.refl h0 []) K3 all0)
    obtain ⟨fs, hr, hrun, hended, hW, hsame⟩ := X11.leave (v := some (.ref bc3)) (fun h => by rw [Bd.returns] at h; cases h)
    refine ⟨_, _, pr13 _ (retOut X11 hx (t := (.array .byte)) Bd.returns rfl (Or.inr (Or.inr (Or.inr (Or.inr ⟨rfl, rfl, rfl⟩)))) (hb hby d33_39) hr), hrun, hended, _, _, rfl, ?_, ⟨_, rfl⟩, hW, hsame.mono (by decide) (by decide)⟩
    show Q33 Z r tx pv a_UI x kx u0 u1 u2 h0 n0 _ T11.heap _
    rw [e11]
    exact ⟨bc3, rfl, gs6, N3, c14, kc3, by rw [hpv]; exact V3⟩
  ·
    have F_k := F_r
    rw [ht] at F_k
    have c15 := (Old.keep O K3 all0)
    have pr16 : ∀ tg, Steps pP.tables eE below (T3.setTop (mkF mM 19 #[.val (.ref r), .val (.ref x), .val (.ref bc3)] [(.ref r)])) tg → Steps pP.tables eE below (s₁.setTop (entryFrame mM #[(.ref r), (.ref x)] 3)) tg := fun tg kg => pr8 _ (by
      show Steps pP.tables eE below (T3.setTop (mkF mM 18 #[.val (.ref r), .val (.ref x), .val (.ref bc3)] [])) _
      refine XS.aloadN X3.here hx rfl (hb hby d33_18) rfl rfl ?_
      exact kg)
    clear pr8
    obtain ⟨T17, X17, e17, st17⟩ := getF X3 hx hZ hown (host := "") (Or.inl (hw _ (List.mem_of_getElem? (i := 92) rfl))) Via.refl rfl (Fld.ext (c15).2 F_k) (g := (mkF mM 19 #[.val (.ref r), .val (.ref x), .val (.ref bc3)] [(.ref r)])) rfl rfl (hb hby d33_19)
    have pr18 : ∀ tg, Steps pP.tables eE below (T17.setTop (mkF mM 22 #[.val (.ref r), .val (.ref x), .val (.ref bc3)] [(.int (1 : Int32))])) tg → Steps pP.tables eE below (s₁.setTop (entryFrame mM #[(.ref r), (.ref x)] 3)) tg := fun tg kg => pr16 _ (st17 _ kg)
    clear pr16 st17 X3
    have pr19 : ∀ tg, Steps pP.tables eE below (T17.setTop (mkF mM 26 #[.val (.ref r), .val (.ref x), .val (.ref bc3)] [(.ref r)])) tg → Steps pP.tables eE below (s₁.setTop (entryFrame mM #[(.ref r), (.ref x)] 3)) tg := fun tg kg => pr18 _ (by
      show Steps pP.tables eE below (T17.setTop (mkF mM 22 #[.val (.ref r), .val (.ref x), .val (.ref bc3)] [(.int (1 : Int32))])) _
      refine XS.ifNo X17.here hx rfl (hb hby d33_22) rfl ((if0 _ _).trans (feq (by decide)).1) ?_
      refine XS.aloadN X17.here hx rfl (hb hby d33_25) rfl rfl ?_
      exact kg)
    clear pr18
    obtain ⟨T20, X20, e20, st20⟩ := getS2 X17 hx hZ hown (host := "") (Or.inl (hw _ (List.mem_of_getElem? (i := 94) rfl))) Via.refl e17 (Sta.ext (c15).2 S_UI) (g := (mkF mM 26 #[.val (.ref r), .val (.ref x), .val (.ref bc3)] [(.ref r)])) rfl (hb hby d33_26)
    have pr21 : ∀ tg, Steps pP.tables eE below (T20.setTop (mkF mM 29 #[.val (.ref r), .val (.ref x), .val (.ref bc3)] [(.ref a_UI), (.ref r)])) tg → Steps pP.tables eE below (s₁.setTop (entryFrame mM #[(.ref r), (.ref x)] 3)) tg := fun tg kg => pr19 _ (st20 _ kg)
    clear pr19 st20 X17 e17
    have pr22 : ∀ tg, Steps pP.tables eE below (T20.setTop (mkF mM 39 #[.val (.ref r), .val (.ref x), .val (.ref bc3)] [(.ref bc3)])) tg → Steps pP.tables eE below (s₁.setTop (entryFrame mM #[(.ref r), (.ref x)] 3)) tg := fun tg kg => pr21 _ (by
      show Steps pP.tables eE below (T20.setTop (mkF mM 29 #[.val (.ref r), .val (.ref x), .val (.ref bc3)] [(.ref a_UI), (.ref r)])) _
      refine Jvm.RoadKit.acmp (g := (mkF mM 29 #[.val (.ref r), .val (.ref x), .val (.ref bc3)] [(.ref a_UI), (.ref r)])) X20 hx rfl rfl rfl (pc0 := 29) (pc' := 38) (same := true) rfl (hb hby d33_29) rfl (decide_eq_true (congrArg Value.ref hx1.symm)) (by decide) (by decide) ?_
      show Steps pP.tables eE below (T20.setTop (mkF mM 38 #[.val (.ref r), .val (.ref x), .val (.ref bc3)] [])) _
      refine XS.aloadN X20.here hx rfl (hb hby d33_38) rfl rfl ?_
      exact kg)
    clear pr21
    have c23 := (Keep.trans (Keep.refl h0 []) K3 all0)
    obtain ⟨fs, hr, hrun, hended, hW, hsame⟩ := X20.leave (v := some (.ref bc3)) (fun h => by rw [Bd.returns] at h; cases h)
    refine ⟨_, _, pr22 _ (retOut X20 hx (t := (.array .byte)) Bd.returns rfl (Or.inr (Or.inr (Or.inr (Or.inr ⟨rfl, rfl, rfl⟩)))) (hb hby d33_39) hr), hrun, hended, _, _, rfl, ?_, ⟨_, rfl⟩, hW, hsame.mono (by decide) (by decide)⟩
    show Q33 Z r tx pv a_UI x kx u0 u1 u2 h0 n0 _ T20.heap _
    rw [e20]
    exact ⟨bc3, rfl, gs6, N3, c23, kc3, by rw [hpv]; exact V3⟩
  ·
    have F_k := F_r
    rw [ht] at F_k
    have c24 := (Old.keep O K3 all0)
    have pr25 : ∀ tg, Steps pP.tables eE below (T3.setTop (mkF mM 19 #[.val (.ref r), .val (.ref x), .val (.ref bc3)] [(.ref r)])) tg → Steps pP.tables eE below (s₁.setTop (entryFrame mM #[(.ref r), (.ref x)] 3)) tg := fun tg kg => pr8 _ (by
      show Steps pP.tables eE below (T3.setTop (mkF mM 18 #[.val (.ref r), .val (.ref x), .val (.ref bc3)] [])) _
      refine XS.aloadN X3.here hx rfl (hb hby d33_18) rfl rfl ?_
      exact kg)
    clear pr8
    obtain ⟨T26, X26, e26, st26⟩ := getF X3 hx hZ hown (host := "") (Or.inl (hw _ (List.mem_of_getElem? (i := 92) rfl))) Via.refl rfl (Fld.ext (c24).2 F_k) (g := (mkF mM 19 #[.val (.ref r), .val (.ref x), .val (.ref bc3)] [(.ref r)])) rfl rfl (hb hby d33_19)
    have pr27 : ∀ tg, Steps pP.tables eE below (T26.setTop (mkF mM 22 #[.val (.ref r), .val (.ref x), .val (.ref bc3)] [(.int (1 : Int32))])) tg → Steps pP.tables eE below (s₁.setTop (entryFrame mM #[(.ref r), (.ref x)] 3)) tg := fun tg kg => pr25 _ (st26 _ kg)
    clear pr25 st26 X3
    have pr28 : ∀ tg, Steps pP.tables eE below (T26.setTop (mkF mM 26 #[.val (.ref r), .val (.ref x), .val (.ref bc3)] [(.ref r)])) tg → Steps pP.tables eE below (s₁.setTop (entryFrame mM #[(.ref r), (.ref x)] 3)) tg := fun tg kg => pr27 _ (by
      show Steps pP.tables eE below (T26.setTop (mkF mM 22 #[.val (.ref r), .val (.ref x), .val (.ref bc3)] [(.int (1 : Int32))])) _
      refine XS.ifNo X26.here hx rfl (hb hby d33_22) rfl ((if0 _ _).trans (feq (by decide)).1) ?_
      refine XS.aloadN X26.here hx rfl (hb hby d33_25) rfl rfl ?_
      exact kg)
    clear pr27
    obtain ⟨T29, X29, e29, st29⟩ := getS2 X26 hx hZ hown (host := "") (Or.inl (hw _ (List.mem_of_getElem? (i := 94) rfl))) Via.refl e26 (Sta.ext (c24).2 S_UI) (g := (mkF mM 26 #[.val (.ref r), .val (.ref x), .val (.ref bc3)] [(.ref r)])) rfl (hb hby d33_26)
    have pr30 : ∀ tg, Steps pP.tables eE below (T29.setTop (mkF mM 29 #[.val (.ref r), .val (.ref x), .val (.ref bc3)] [(.ref a_UI), (.ref r)])) tg → Steps pP.tables eE below (s₁.setTop (entryFrame mM #[(.ref r), (.ref x)] 3)) tg := fun tg kg => pr28 _ (st29 _ kg)
    clear pr28 st29 X26 e26
    have c31 := (Arv.keep V_x K3 nin0)
    obtain ⟨cla32, Ara32, qa32, Sa32, Ma32, Ha32, Ga32⟩ := id c31
    have pr33 : ∀ tg, Steps pP.tables eE below (T29.setTop (mkF mM 37 #[.val (.ref r), .val (.ref x), .val (.ref bc3)] [(.int (32 : Int32)), (.int (3 : Int32)), (.ref bc3)])) tg → Steps pP.tables eE below (s₁.setTop (entryFrame mM #[(.ref r), (.ref x)] 3)) tg := fun tg kg => pr30 _ (by
      show Steps pP.tables eE below (T29.setTop (mkF mM 29 #[.val (.ref r), .val (.ref x), .val (.ref bc3)] [(.ref a_UI), (.ref r)])) _
      refine Jvm.RoadKit.acmp (g := (mkF mM 29 #[.val (.ref r), .val (.ref x), .val (.ref bc3)] [(.ref a_UI), (.ref r)])) X29 hx rfl rfl rfl (pc0 := 29) (pc' := 32) (same := false) rfl (hb hby d33_29) rfl (decide_eq_false fun q => hx1 (Value.ref.inj q)) (by decide) (by decide) ?_
      show Steps pP.tables eE below (T29.setTop (mkF mM 32 #[.val (.ref r), .val (.ref x), .val (.ref bc3)] [])) _
      refine XS.aloadN X29.here hx rfl (hb hby d33_32) rfl rfl ?_
      refine XS.aloadN X29.here hx rfl (hb hby d33_33) rfl rfl ?_
      show Steps pP.tables eE below (T29.setTop (mkF mM 34 #[.val (.ref r), .val (.ref x), .val (.ref bc3)] [(.ref x), (.ref bc3)])) _
      refine X29.arraylength hx (by rw [e29]; exact Ara32.1) (State.isArrayOf_alike hZ.alike Ara32.2.1) (g := (mkF mM 34 #[.val (.ref r), .val (.ref x), .val (.ref bc3)] [(.ref x), (.ref bc3)])) rfl rfl (hb hby d33_34) _ ?_
      rw [len_of Sa32 Ma32]
      show Steps pP.tables eE below (T29.setTop (mkF mM 35 #[.val (.ref r), .val (.ref x), .val (.ref bc3)] [(.int (3 : Int32)), (.ref bc3)])) _
      refine XS.bipush X29.here hx rfl (hb hby d33_35) ?_
      exact kg)
    clear pr30
    obtain ⟨cla34, Ara34, qa34, Sa34, Ma34, Ha34, Ga34⟩ := id V3
    have hin35 : ¬ ((3 : Int32) < 0 ∨ cla34.slots.size ≤ ((3 : Int32)).toNatClampNeg) := inb_of Sa34 ⟨by decide, by decide⟩
    obtain ⟨T35, h35, X35, e35, W35, st35⟩ := stB X29 hx hZ e29 Ara34 (j := (3 : Int32)) hin35 (g := (mkF mM 37 #[.val (.ref r), .val (.ref x), .val (.ref bc3)] [(.int (32 : Int32)), (.int (3 : Int32)), (.ref bc3)])) rfl rfl (hb hby d33_37)
    have V35 : Arv Z h35 bc3 kc3 .byte (4 : Int32) [(.int u0), (.int u1), (.int u2), (.int (nar .byte (32 : Int32)))] (.int (0 : Int32)) := Arv.set Ara34 qa34 Sa34 Ma34 Ha34 Ga34 (fits_nar_byte _) W35 3 rfl (Nat.le_of_ble_eq_true rfl)
    have N35 := Fr.snoc X35 N3 gn5
    have pr36 : ∀ tg, Steps pP.tables eE below (T35.setTop (mkF mM 38 #[.val (.ref r), .val (.ref x), .val (.ref bc3)] [])) tg → Steps pP.tables eE below (s₁.setTop (entryFrame mM #[(.ref r), (.ref x)] 3)) tg := fun tg kg => pr33 _ (st35 _ kg)
    clear pr33 st35 X29 e29
    have pr37 : ∀ tg, Steps pP.tables eE below (T35.setTop (mkF mM 39 #[.val (.ref r), .val (.ref x), .val (.ref bc3)] [(.ref bc3)])) tg → Steps pP.tables eE below (s₁.setTop (entryFrame mM #[(.ref r), (.ref x)] 3)) tg := fun tg kg => pr36 _ (by
      show Steps pP.tables eE below (T35.setTop (mkF mM 38 #[.val (.ref r), .val (.ref x), .val (.ref bc3)] [])) _
      refine XS.aloadN X35.here hx rfl (hb hby d33_38) rfl rfl ?_
      exact kg)
    clear pr36
    have c38 := (Keep.wr (Keep.trans (Keep.refl h0 []) K3 all0) W35 (Or.inr gs6))
    obtain ⟨fs, hr, hrun, hended, hW, hsame⟩ := X35.leave (v := some (.ref bc3)) (fun h => by rw [Bd.returns] at h; cases h)
    refine ⟨_, _, pr37 _ (retOut X35 hx (t := (.array .byte)) Bd.returns rfl (Or.inr (Or.inr (Or.inr (Or.inr ⟨rfl, rfl, rfl⟩)))) (hb hby d33_39) hr), hrun, hended, _, _, rfl, ?_, ⟨_, rfl⟩, hW, hsame.mono (by decide) (by decide)⟩
    show Q33 Z r tx pv a_UI x kx u0 u1 u2 h0 n0 _ T35.heap _
    rw [e35]
    exact ⟨bc3, rfl, gs6, N35, c38, kc3, by rw [hpv]; exact V35⟩
theorem d34_0 : decode prog_24_method_15_code 0 = .ok (.aload_n 1, 1) := by decide +kernel
theorem d34_1 : decode prog_24_method_15_code 1 = .ok (.arraylength, 1) := by decide +kernel
theorem d34_2 : decode prog_24_method_15_code 2 = .ok (.iconst 1, 1) := by decide +kernel
theorem d34_3 : decode prog_24_method_15_code 3 = .ok (.iand, 1) := by decide +kernel
theorem d34_4 : decode prog_24_method_15_code 4 = .ok (.ifCond .ne 5, 3) := by decide +kernel
theorem d34_7 : decode prog_24_method_15_code 7 = .ok (.aload_n 1, 1) := by decide +kernel
theorem d34_8 : decode prog_24_method_15_code 8 = .ok (.areturn, 1) := by decide +kernel
theorem ef_34 (mM : MethodId) (x0 : Addr) (x1 : Addr) : entryFrame mM #[(.ref x0), (.ref x1)] 3 = mkF mM 0 #[.val (.ref x0), .val (.ref x1), .unset] [] := by first | (simp [entryFrame, mkF, argsToLocals, Value.category]; done) | rfl
def Q34 (Z : State) (r : Addr) (x : Addr) (kx : ClassId) (u0 : Int32) (u1 : Int32) (u2 : Int32) (u3 : Int32) (h0 : Heap) (n0 : Nat) (v : Option Value) (h : Heap) (L : List Loc) : Prop := v = some (.ref x) ∧ Fr n0 L ∧ h = h0
set_option maxRecDepth 65536 in
set_option maxHeartbeats 40000000 in
theorem rm34 (l : Launch) (Z : State) (a0 : Array Value) (hw : ∀ d ∈ tables_1, d.before a0 Z = true) (ws : List Jvm.Cond) (r : Addr) (x : Addr) (kx : ClassId) (u0 : Int32) (u1 : Int32) (u2 : Int32) (u3 : Int32) (h0 : Heap) (n0 : Nat) (Z0 : n0 ≤ h0.size) (V_x : Arv Z h0 x kx .byte (4 : Int32) [(.int u0), (.int u1), (.int u2), (.int u3)] (.int (0 : Int32))) :
    MetFree l (⟨"com/example/tesserae/tesserae/value/Vr", "pad", "([B)[B"⟩ : MethodName) (head1 (Jvm.Cond.code (⟨"com/example/tesserae/tesserae/value/Vr", "pad", "([B)[B"⟩ : MethodName) prog_24_method_15_code 3 (some (.array .byte)) :: ws) ({ frames := 0, cells := 0, slots := 0, locals := 0 } : Room)) (fun aA uU => aA = #[(.ref r), (.ref x)] ∧ Z.Warmed39 uU.vm ∧ uU.heap = h0) (fun _ _ _ _ _ => True) (fun _ uU oO uU' => ∃ vV lL, oO = .returned vV ∧ Q34 Z r x kx u0 u1 u2 u3 h0 n0 vV uU'.heap lL ∧ FrameEnd uU oO uU' lL ({ frames := 0, cells := 0, slots := 0, locals := 0 } : Room).cells ({ frames := 0, cells := 0, slots := 0, locals := 0 } : Room).slots) := by
  refine MetFree.of_bodySF (plainFor_of_name pn_1) hisR ?_
  intro pP eE sS mM args below meth cC s₁ Bd hml0 hP hK
  obtain ⟨rfl, hZ, hh⟩ := hP
  have hx := Bd.exec
  have hby := Bd.bytes
  have hml : cC.maxLocals = 3 := hml0
  have hown : sS.vm.findClass "com/example/tesserae/tesserae/value/Vr" = some mM.cls := findClass_of_methodNamed Bd.named
  have hnm := (name_of_methodNamed Bd.named Bd.method).1
  have X0 : Stand pP l eE ({ frames := 0, cells := 0, slots := 0, locals := 0 } : Room) sS mM #[(.ref r), (.ref x)] below meth cC s₁ [] 0 0 := Stand.of_body Bd
  have e0 : s₁.heap = h0 := by rw [← hh, Bd.state]; rfl
  have N0 := Fr.nil n0
  have pre0 : ∀ tg, Steps pP.tables eE below (s₁.setTop (mkF mM 0 #[.val (.ref r), .val (.ref x), .unset] [])) tg → Steps pP.tables eE below (s₁.setTop (entryFrame mM #[(.ref r), (.ref x)] 3)) tg := fun tg kg => castTop (ef_34 mM r x) kg
  obtain ⟨cla1, Ara1, qa1, Sa1, Ma1, Ha1, Ga1⟩ := id V_x
  have pr2 : ∀ tg, Steps pP.tables eE below (s₁.setTop (mkF mM 8 #[.val (.ref r), .val (.ref x), .unset] [(.ref x)])) tg → Steps pP.tables eE below (s₁.setTop (entryFrame mM #[(.ref r), (.ref x)] 3)) tg := fun tg kg => pre0 _ (by
    show Steps pP.tables eE below (s₁.setTop (mkF mM 0 #[.val (.ref r), .val (.ref x), .unset] [])) _
    refine XS.aloadN X0.here hx rfl (hb hby d34_0) rfl rfl ?_
    show Steps pP.tables eE below (s₁.setTop (mkF mM 1 #[.val (.ref r), .val (.ref x), .unset] [(.ref x)])) _
    refine X0.arraylength hx (by rw [e0]; exact Ara1.1) (State.isArrayOf_alike hZ.alike Ara1.2.1) (g := (mkF mM 1 #[.val (.ref r), .val (.ref x), .unset] [(.ref x)])) rfl rfl (hb hby d34_1) _ ?_
    rw [len_of Sa1 Ma1]
    show Steps pP.tables eE below (s₁.setTop (mkF mM 2 #[.val (.ref r), .val (.ref x), .unset] [(.int (4 : Int32))])) _
    refine XS.iconst X0.here hx rfl (hb hby d34_2) ?_
    refine XS.iand X0.here hx rfl (hb hby d34_3) rfl ?_
    refine XS.ifNo X0.here hx rfl (hb hby d34_4) rfl ((if0 _ _).trans (teq (by decide)).2) ?_
    refine XS.aloadN X0.here hx rfl (hb hby d34_7) rfl rfl ?_
    exact kg)
  clear pre0
  obtain ⟨fs, hr, hrun, hended, hW, hsame⟩ := X0.leave (v := some (.ref x)) (fun h => by rw [Bd.returns] at h; cases h)
  refine ⟨_, _, pr2 _ (retOut X0 hx (t := (.array .byte)) Bd.returns rfl (Or.inr (Or.inr (Or.inr (Or.inr ⟨rfl, rfl, rfl⟩)))) (hb hby d34_8) hr), hrun, hended, _, _, rfl, ?_, ⟨_, rfl⟩, hW, hsame.mono (by decide) (by decide)⟩
  show Q34 Z r x kx u0 u1 u2 u3 h0 n0 _ s₁.heap _
  rw [e0]
  exact ⟨rfl, N0, rfl⟩
theorem d35_0 : decode prog_24_method_15_code 0 = .ok (.aload_n 1, 1) := by decide +kernel
theorem d35_1 : decode prog_24_method_15_code 1 = .ok (.arraylength, 1) := by decide +kernel
theorem d35_2 : decode prog_24_method_15_code 2 = .ok (.iconst 1, 1) := by decide +kernel
theorem d35_3 : decode prog_24_method_15_code 3 = .ok (.iand, 1) := by decide +kernel
theorem d35_4 : decode prog_24_method_15_code 4 = .ok (.ifCond .ne 5, 3) := by decide +kernel
theorem d35_9 : decode prog_24_method_15_code 9 = .ok (.aload_n 1, 1) := by decide +kernel
theorem d35_10 : decode prog_24_method_15_code 10 = .ok (.aload_n 1, 1) := by decide +kernel
theorem d35_11 : decode prog_24_method_15_code 11 = .ok (.arraylength, 1) := by decide +kernel
theorem d35_12 : decode prog_24_method_15_code 12 = .ok (.iconst 1, 1) := by decide +kernel
theorem d35_13 : decode prog_24_method_15_code 13 = .ok (.iadd, 1) := by decide +kernel
theorem d35_14 : decode prog_24_method_15_code 14 = .ok (.invokestatic 221, 3) := by decide +kernel
theorem d35_17 : decode prog_24_method_15_code 17 = .ok (.astore_n 2, 1) := by decide +kernel
theorem d35_18 : decode prog_24_method_15_code 18 = .ok (.aload_n 0, 1) := by decide +kernel
theorem d35_19 : decode prog_24_method_15_code 19 = .ok (.getfield 125, 3) := by decide +kernel
theorem d35_22 : decode prog_24_method_15_code 22 = .ok (.ifCond .eq 16, 3) := by decide +kernel
theorem d35_25 : decode prog_24_method_15_code 25 = .ok (.aload_n 0, 1) := by decide +kernel
theorem d35_26 : decode prog_24_method_15_code 26 = .ok (.getstatic 85, 3) := by decide +kernel
theorem d35_29 : decode prog_24_method_15_code 29 = .ok (.if_acmp .eq 9, 3) := by decide +kernel
theorem d35_32 : decode prog_24_method_15_code 32 = .ok (.aload_n 2, 1) := by decide +kernel
theorem d35_33 : decode prog_24_method_15_code 33 = .ok (.aload_n 1, 1) := by decide +kernel
theorem d35_34 : decode prog_24_method_15_code 34 = .ok (.arraylength, 1) := by decide +kernel
theorem d35_35 : decode prog_24_method_15_code 35 = .ok (.bipush 32, 2) := by decide +kernel
theorem d35_37 : decode prog_24_method_15_code 37 = .ok (.bastore, 1) := by decide +kernel
theorem d35_38 : decode prog_24_method_15_code 38 = .ok (.aload_n 2, 1) := by decide +kernel
theorem d35_39 : decode prog_24_method_15_code 39 = .ok (.areturn, 1) := by decide +kernel
theorem ef_35 (mM : MethodId) (x0 : Addr) (x1 : Addr) : entryFrame mM #[(.ref x0), (.ref x1)] 3 = mkF mM 0 #[.val (.ref x0), .val (.ref x1), .unset] [] := by first | (simp [entryFrame, mkF, argsToLocals, Value.category]; done) | rfl
def Q35 (Z : State) (r : Addr) (tx : Int32) (pv : Int32) (a_UI : Addr) (x : Addr) (kx : ClassId) (u0 : Int32) (u1 : Int32) (u2 : Int32) (u3 : Int32) (u4 : Int32) (h0 : Heap) (n0 : Nat) (v : Option Value) (h : Heap) (L : List Loc) : Prop := ∃ b : Addr, v = some (.ref b) ∧ h0.size ≤ b ∧ Fr n0 L ∧ Keep h0 h [] ∧ ∃ k : ClassId, Arv Z h b k .byte (6 : Int32) [(.int u0), (.int u1), (.int u2), (.int u3), (.int u4), (.int pv)] (.int (0 : Int32))
set_option maxRecDepth 65536 in
set_option maxHeartbeats 40000000 in
theorem rm35 (l : Launch) (Z : State) (a0 : Array Value) (hw : ∀ d ∈ tables_1, d.before a0 Z = true) (ws : List Jvm.Cond) (r : Addr) (tx : Int32) (pv : Int32) (a_UI : Addr) (x : Addr) (kx : ClassId) (u0 : Int32) (u1 : Int32) (u2 : Int32) (u3 : Int32) (u4 : Int32) (h0 : Heap) (n0 : Nat) (Z0 : n0 ≤ h0.size) (O : Old Z n0 h0) (S_UI : Sta Z Z.heap "com/example/tesserae/tesserae/value/Vr" "UI" "Lcom/example/tesserae/tesserae/value/Vr;" (.ref a_UI)) (E_r : Exa Z Z.heap r "com/example/tesserae/tesserae/value/Vr") (F_r : Fld Z Z.heap r "com/example/tesserae/tesserae/value/Vr" "text" "Z" (.int tx)) (hp : (tx = (0 : Int32) ∧ pv = (0 : Int32)) ∨ (tx = (1 : Int32) ∧ a_UI = r ∧ pv = (0 : Int32)) ∨ (tx = (1 : Int32) ∧ r ≠ a_UI ∧ pv = (32 : Int32))) (V_x : Arv Z h0 x kx .byte (5 : Int32) [(.int u0), (.int u1), (.int u2), (.int u3), (.int u4)] (.int (0 : Int32))) :
    MetFree l (⟨"com/example/tesserae/tesserae/value/Vr", "pad", "([B)[B"⟩ : MethodName) (head1 (Jvm.Cond.code (⟨"com/example/tesserae/tesserae/value/Vr", "pad", "([B)[B"⟩ : MethodName) prog_24_method_15_code 3 (some (.array .byte)) :: ws) ({ frames := 2, cells := 1, slots := 6, locals := 32 } : Room)) (fun aA uU => aA = #[(.ref r), (.ref x)] ∧ Z.Warmed39 uU.vm ∧ uU.heap = h0) (fun _ _ _ _ _ => True) (fun _ uU oO uU' => ∃ vV lL, oO = .returned vV ∧ Q35 Z r tx pv a_UI x kx u0 u1 u2 u3 u4 h0 n0 vV uU'.heap lL ∧ FrameEnd uU oO uU' lL ({ frames := 2, cells := 1, slots := 6, locals := 32 } : Room).cells ({ frames := 2, cells := 1, slots := 6, locals := 32 } : Room).slots) := by
  refine MetFree.of_bodySF (plainFor_of_name pn_1) hisR ?_
  intro pP eE sS mM args below meth cC s₁ Bd hml0 hP hK
  obtain ⟨rfl, hZ, hh⟩ := hP
  have hx := Bd.exec
  have hby := Bd.bytes
  have hml : cC.maxLocals = 3 := hml0
  have hown : sS.vm.findClass "com/example/tesserae/tesserae/value/Vr" = some mM.cls := findClass_of_methodNamed Bd.named
  have hnm := (name_of_methodNamed Bd.named Bd.method).1
  have X0 : Stand pP l eE ({ frames := 2, cells := 1, slots := 6, locals := 32 } : Room) sS mM #[(.ref r), (.ref x)] below meth cC s₁ [] 0 0 := Stand.of_body Bd
  have e0 : s₁.heap = h0 := by rw [← hh, Bd.state]; rfl
  have N0 := Fr.nil n0
  have pre0 : ∀ tg, Steps pP.tables eE below (s₁.setTop (mkF mM 0 #[.val (.ref r), .val (.ref x), .unset] [])) tg → Steps pP.tables eE below (s₁.setTop (entryFrame mM #[(.ref r), (.ref x)] 3)) tg := fun tg kg => castTop (ef_35 mM r x) kg
  obtain ⟨cla1, Ara1, qa1, Sa1, Ma1, Ha1, Ga1⟩ := id V_x
  have pr2 : ∀ tg, Steps pP.tables eE below (s₁.setTop (mkF mM 14 #[.val (.ref r), .val (.ref x), .unset] [(.int (6 : Int32)), (.ref x)])) tg → Steps pP.tables eE below (s₁.setTop (entryFrame mM #[(.ref r), (.ref x)] 3)) tg := fun tg kg => pre0 _ (by
    show Steps pP.tables eE below (s₁.setTop (mkF mM 0 #[.val (.ref r), .val (.ref x), .unset] [])) _
    refine XS.aloadN X0.here hx rfl (hb hby d35_0) rfl rfl ?_
    show Steps pP.tables eE below (s₁.setTop (mkF mM 1 #[.val (.ref r), .val (.ref x), .unset] [(.ref x)])) _
    refine X0.arraylength hx (by rw [e0]; exact Ara1.1) (State.isArrayOf_alike hZ.alike Ara1.2.1) (g := (mkF mM 1 #[.val (.ref r), .val (.ref x), .unset] [(.ref x)])) rfl rfl (hb hby d35_1) _ ?_
    rw [len_of Sa1 Ma1]
    show Steps pP.tables eE below (s₁.setTop (mkF mM 2 #[.val (.ref r), .val (.ref x), .unset] [(.int (5 : Int32))])) _
    refine XS.iconst X0.here hx rfl (hb hby d35_2) ?_
    refine XS.iand X0.here hx rfl (hb hby d35_3) rfl ?_
    refine XS.ifYes X0.here hx rfl (pc0 := 4) (pc' := 9) rfl (hb hby d35_4) rfl ((if0 _ _).trans (feq (by decide)).2) (by decide) (by decide) ?_
    refine XS.aloadN X0.here hx rfl (hb hby d35_9) rfl rfl ?_
    refine XS.aloadN X0.here hx rfl (hb hby d35_10) rfl rfl ?_
    show Steps pP.tables eE below (s₁.setTop (mkF mM 11 #[.val (.ref r), .val (.ref x), .unset] [(.ref x), (.ref x)])) _
    refine X0.arraylength hx (by rw [e0]; exact Ara1.1) (State.isArrayOf_alike hZ.alike Ara1.2.1) (g := (mkF mM 11 #[.val (.ref r), .val (.ref x), .unset] [(.ref x), (.ref x)])) rfl rfl (hb hby d35_11) _ ?_
    rw [len_of Sa1 Ma1]
    show Steps pP.tables eE below (s₁.setTop (mkF mM 12 #[.val (.ref r), .val (.ref x), .unset] [(.int (5 : Int32)), (.ref x)])) _
    refine XS.iconst X0.here hx rfl (hb hby d35_12) ?_
    refine XS.iadd X0.here hx rfl (hb hby d35_13) rfl ?_
    exact kg)
  clear pre0
  obtain ⟨_, _, ⟨T3, L3, kk3, nn3⟩, -, X3, ⟨Lc3, hQ3, l3, y3, z3⟩, st3⟩ := Jvm.LawKit.callS X0 hx (y := (⟨"java/util/Arrays", "copyOf", "([BI)[B"⟩ : MethodName)) hown (mvT hZ (hw _ (List.mem_of_getElem? (i := 80) rfl))) (mvT hZ (hw _ (List.mem_of_getElem? (i := 81) rfl))) (mvT hZ (hw _ (List.mem_of_getElem? (i := 82) rfl))) (mvT hZ (hw _ (List.mem_of_getElem? (i := 83) rfl))) (by decide) (backOf (W := 0) (rm25 l Z a0 hw [] x kx u0 u1 u2 u3 u4 h0 n0 Z0 V_x) hZ (hw _ (List.mem_of_getElem? (i := 83) rfl)) (hw _ (List.mem_of_getElem? (i := 82) rfl)) (by decide) (by decide)) (g := (mkF mM 14 #[.val (.ref r), .val (.ref x), .unset] [(.int (6 : Int32)), (.ref x)])) rfl (by rw [hml]; rfl) (argsL := [(.ref x), (.int (6 : Int32))]) (rest := []) (lenOf pd_1 rfl) rfl (by show 2 * 0 + _ ≤ _; exact Nat.le_of_eq rfl) (hb hby d35_14) (fun _ _ => ⟨rfl, e0, (by decide : 0 + 1 ≤ _), (by decide : 0 + 6 ≤ _)⟩)
  dsimp only [Pt.U, Pt.locs, Pt.cells, Pt.slots] at X3 l3 y3 z3 st3 hQ3
  subst l3 y3 z3
  obtain ⟨bc3, rfl, ge3, Nq3, K3, kc3, V3⟩ := hQ3
  have N3 := Fr.app N0 Nq3
  have ne4 : x ≠ bc3 := Nat.ne_of_lt (Nat.lt_of_lt_of_le (V_x).lt ge3)
  have gn5 : n0 ≤ bc3 := Nat.le_trans Z0 ge3
  have gs6 : h0.size ≤ bc3 := Nat.le_trans (Keep.refl h0 []).1 ge3
  have pr7 : ∀ tg, Steps pP.tables eE below (T3.setTop (mkF mM 17 #[.val (.ref r), .val (.ref x), .unset] [(.ref bc3)])) tg → Steps pP.tables eE below (s₁.setTop (entryFrame mM #[(.ref r), (.ref x)] 3)) tg := fun tg kg => pr2 _ (st3 _ kg)
  clear pr2 st3 X0 e0
  have pr8 : ∀ tg, Steps pP.tables eE below (T3.setTop (mkF mM 18 #[.val (.ref r), .val (.ref x), .val (.ref bc3)] [])) tg → Steps pP.tables eE below (s₁.setTop (entryFrame mM #[(.ref r), (.ref x)] 3)) tg := fun tg kg => pr7 _ (by
    show Steps pP.tables eE below (T3.setTop (mkF mM 17 #[.val (.ref r), .val (.ref x), .unset] [(.ref bc3)])) _
    refine XS.astoreN X3.here hx rfl (hb hby d35_17) rfl rfl (l' := #[.val (.ref r), .val (.ref x), .val (.ref bc3)]) rfl ?_
    exact kg)
  clear pr7
  rcases hp with ⟨ht, hpv⟩ | ⟨ht, hx1, hpv⟩ | ⟨ht, hx1, hpv⟩
  ·
    have F_k := F_r
    rw [ht] at F_k
    have c9 := (Old.keep O K3 all0)
    have pr10 : ∀ tg, Steps pP.tables eE below (T3.setTop (mkF mM 19 #[.val (.ref r), .val (.ref x), .val (.ref bc3)] [(.ref r)])) tg → Steps pP.tables eE below (s₁.setTop (entryFrame mM #[(.ref r), (.ref x)] 3)) tg := fun tg kg => pr8 _ (by
      show Steps pP.tables eE below (T3.setTop (mkF mM 18 #[.val (.ref r), .val (.ref x), .val (.ref bc3)] [])) _
      refine XS.aloadN X3.here hx rfl (hb hby d35_18) rfl rfl ?_
      exact kg)
    clear pr8
    obtain ⟨T11, X11, e11, st11⟩ := getF X3 hx hZ hown (host := "") (Or.inl (hw _ (List.mem_of_getElem? (i := 92) rfl))) Via.refl rfl (Fld.ext (c9).2 F_k) (g := (mkF mM 19 #[.val (.ref r), .val (.ref x), .val (.ref bc3)] [(.ref r)])) rfl rfl (hb hby d35_19)
    have pr12 : ∀ tg, Steps pP.tables eE below (T11.setTop (mkF mM 22 #[.val (.ref r), .val (.ref x), .val (.ref bc3)] [(.int (0 : Int32))])) tg → Steps pP.tables eE below (s₁.setTop (entryFrame mM #[(.ref r), (.ref x)] 3)) tg := fun tg kg => pr10 _ (st11 _ kg)
    clear pr10 st11 X3
    have pr13 : ∀ tg, Steps pP.tables eE below (T11.setTop (mkF mM 39 #[.val (.ref r), .val (.ref x), .val (.ref bc3)] [(.ref bc3)])) tg → Steps pP.tables eE below (s₁.setTop (entryFrame mM #[(.ref r), (.ref x)] 3)) tg := fun tg kg => pr12 _ (by
      show Steps pP.tables eE below (T11.setTop (mkF mM 22 #[.val (.ref r), .val (.ref x), .val (.ref bc3)] [(.int (0 : Int32))])) _
      refine XS.ifYes X11.here hx rfl (pc0 := 22) (pc' := 38) rfl (hb hby d35_22) rfl ((if0 _ _).trans (teq (by decide)).1) (by decide) (by decide) ?_
      refine XS.aloadN X11.here hx rfl (hb hby d35_38) rfl rfl ?_
      exact kg)
    clear pr12
    have c14 := (Keep.trans (Keep.refl h0 []) K3 all0)
    obtain ⟨fs, hr, hrun, hended, hW, hsame⟩ := X11.leave (v := some (.ref bc3)) (fun h => by rw [Bd.returns] at h; cases h)
    refine ⟨_, _, pr13 _ (retOut X11 hx (t := (.array .byte)) Bd.returns rfl (Or.inr (Or.inr (Or.inr (Or.inr ⟨rfl, rfl, rfl⟩)))) (hb hby d35_39) hr), hrun, hended, _, _, rfl, ?_, ⟨_, rfl⟩, hW, hsame.mono (by decide) (by decide)⟩
    show Q35 Z r tx pv a_UI x kx u0 u1 u2 u3 u4 h0 n0 _ T11.heap _
    rw [e11]
    exact ⟨bc3, rfl, gs6, N3, c14, kc3, by rw [hpv]; exact V3⟩
  ·
    have F_k := F_r
    rw [ht] at F_k
    have c15 := (Old.keep O K3 all0)
    have pr16 : ∀ tg, Steps pP.tables eE below (T3.setTop (mkF mM 19 #[.val (.ref r), .val (.ref x), .val (.ref bc3)] [(.ref r)])) tg → Steps pP.tables eE below (s₁.setTop (entryFrame mM #[(.ref r), (.ref x)] 3)) tg := fun tg kg => pr8 _ (by
      show Steps pP.tables eE below (T3.setTop (mkF mM 18 #[.val (.ref r), .val (.ref x), .val (.ref bc3)] [])) _
      refine XS.aloadN X3.here hx rfl (hb hby d35_18) rfl rfl ?_
      exact kg)
    clear pr8
    obtain ⟨T17, X17, e17, st17⟩ := getF X3 hx hZ hown (host := "") (Or.inl (hw _ (List.mem_of_getElem? (i := 92) rfl))) Via.refl rfl (Fld.ext (c15).2 F_k) (g := (mkF mM 19 #[.val (.ref r), .val (.ref x), .val (.ref bc3)] [(.ref r)])) rfl rfl (hb hby d35_19)
    have pr18 : ∀ tg, Steps pP.tables eE below (T17.setTop (mkF mM 22 #[.val (.ref r), .val (.ref x), .val (.ref bc3)] [(.int (1 : Int32))])) tg → Steps pP.tables eE below (s₁.setTop (entryFrame mM #[(.ref r), (.ref x)] 3)) tg := fun tg kg => pr16 _ (st17 _ kg)
    clear pr16 st17 X3
    have pr19 : ∀ tg, Steps pP.tables eE below (T17.setTop (mkF mM 26 #[.val (.ref r), .val (.ref x), .val (.ref bc3)] [(.ref r)])) tg → Steps pP.tables eE below (s₁.setTop (entryFrame mM #[(.ref r), (.ref x)] 3)) tg := fun tg kg => pr18 _ (by
      show Steps pP.tables eE below (T17.setTop (mkF mM 22 #[.val (.ref r), .val (.ref x), .val (.ref bc3)] [(.int (1 : Int32))])) _
      refine XS.ifNo X17.here hx rfl (hb hby d35_22) rfl ((if0 _ _).trans (feq (by decide)).1) ?_
      refine XS.aloadN X17.here hx rfl (hb hby d35_25) rfl rfl ?_
      exact kg)
    clear pr18
    obtain ⟨T20, X20, e20, st20⟩ := getS2 X17 hx hZ hown (host := "") (Or.inl (hw _ (List.mem_of_getElem? (i := 94) rfl))) Via.refl e17 (Sta.ext (c15).2 S_UI) (g := (mkF mM 26 #[.val (.ref r), .val (.ref x), .val (.ref bc3)] [(.ref r)])) rfl (hb hby d35_26)
    have pr21 : ∀ tg, Steps pP.tables eE below (T20.setTop (mkF mM 29 #[.val (.ref r), .val (.ref x), .val (.ref bc3)] [(.ref a_UI), (.ref r)])) tg → Steps pP.tables eE below (s₁.setTop (entryFrame mM #[(.ref r), (.ref x)] 3)) tg := fun tg kg => pr19 _ (st20 _ kg)
    clear pr19 st20 X17 e17
    have pr22 : ∀ tg, Steps pP.tables eE below (T20.setTop (mkF mM 39 #[.val (.ref r), .val (.ref x), .val (.ref bc3)] [(.ref bc3)])) tg → Steps pP.tables eE below (s₁.setTop (entryFrame mM #[(.ref r), (.ref x)] 3)) tg := fun tg kg => pr21 _ (by
      show Steps pP.tables eE below (T20.setTop (mkF mM 29 #[.val (.ref r), .val (.ref x), .val (.ref bc3)] [(.ref a_UI), (.ref r)])) _
      refine Jvm.RoadKit.acmp (g := (mkF mM 29 #[.val (.ref r), .val (.ref x), .val (.ref bc3)] [(.ref a_UI), (.ref r)])) X20 hx rfl rfl rfl (pc0 := 29) (pc' := 38) (same := true) rfl (hb hby d35_29) rfl (decide_eq_true (congrArg Value.ref hx1.symm)) (by decide) (by decide) ?_
      show Steps pP.tables eE below (T20.setTop (mkF mM 38 #[.val (.ref r), .val (.ref x), .val (.ref bc3)] [])) _
      refine XS.aloadN X20.here hx rfl (hb hby d35_38) rfl rfl ?_
      exact kg)
    clear pr21
    have c23 := (Keep.trans (Keep.refl h0 []) K3 all0)
    obtain ⟨fs, hr, hrun, hended, hW, hsame⟩ := X20.leave (v := some (.ref bc3)) (fun h => by rw [Bd.returns] at h; cases h)
    refine ⟨_, _, pr22 _ (retOut X20 hx (t := (.array .byte)) Bd.returns rfl (Or.inr (Or.inr (Or.inr (Or.inr ⟨rfl, rfl, rfl⟩)))) (hb hby d35_39) hr), hrun, hended, _, _, rfl, ?_, ⟨_, rfl⟩, hW, hsame.mono (by decide) (by decide)⟩
    show Q35 Z r tx pv a_UI x kx u0 u1 u2 u3 u4 h0 n0 _ T20.heap _
    rw [e20]
    exact ⟨bc3, rfl, gs6, N3, c23, kc3, by rw [hpv]; exact V3⟩
  ·
    have F_k := F_r
    rw [ht] at F_k
    have c24 := (Old.keep O K3 all0)
    have pr25 : ∀ tg, Steps pP.tables eE below (T3.setTop (mkF mM 19 #[.val (.ref r), .val (.ref x), .val (.ref bc3)] [(.ref r)])) tg → Steps pP.tables eE below (s₁.setTop (entryFrame mM #[(.ref r), (.ref x)] 3)) tg := fun tg kg => pr8 _ (by
      show Steps pP.tables eE below (T3.setTop (mkF mM 18 #[.val (.ref r), .val (.ref x), .val (.ref bc3)] [])) _
      refine XS.aloadN X3.here hx rfl (hb hby d35_18) rfl rfl ?_
      exact kg)
    clear pr8
    obtain ⟨T26, X26, e26, st26⟩ := getF X3 hx hZ hown (host := "") (Or.inl (hw _ (List.mem_of_getElem? (i := 92) rfl))) Via.refl rfl (Fld.ext (c24).2 F_k) (g := (mkF mM 19 #[.val (.ref r), .val (.ref x), .val (.ref bc3)] [(.ref r)])) rfl rfl (hb hby d35_19)
    have pr27 : ∀ tg, Steps pP.tables eE below (T26.setTop (mkF mM 22 #[.val (.ref r), .val (.ref x), .val (.ref bc3)] [(.int (1 : Int32))])) tg → Steps pP.tables eE below (s₁.setTop (entryFrame mM #[(.ref r), (.ref x)] 3)) tg := fun tg kg => pr25 _ (st26 _ kg)
    clear pr25 st26 X3
    have pr28 : ∀ tg, Steps pP.tables eE below (T26.setTop (mkF mM 26 #[.val (.ref r), .val (.ref x), .val (.ref bc3)] [(.ref r)])) tg → Steps pP.tables eE below (s₁.setTop (entryFrame mM #[(.ref r), (.ref x)] 3)) tg := fun tg kg => pr27 _ (by
      show Steps pP.tables eE below (T26.setTop (mkF mM 22 #[.val (.ref r), .val (.ref x), .val (.ref bc3)] [(.int (1 : Int32))])) _
      refine XS.ifNo X26.here hx rfl (hb hby d35_22) rfl ((if0 _ _).trans (feq (by decide)).1) ?_
      refine XS.aloadN X26.here hx rfl (hb hby d35_25) rfl rfl ?_
      exact kg)
    clear pr27
    obtain ⟨T29, X29, e29, st29⟩ := getS2 X26 hx hZ hown (host := "") (Or.inl (hw _ (List.mem_of_getElem? (i := 94) rfl))) Via.refl e26 (Sta.ext (c24).2 S_UI) (g := (mkF mM 26 #[.val (.ref r), .val (.ref x), .val (.ref bc3)] [(.ref r)])) rfl (hb hby d35_26)
    have pr30 : ∀ tg, Steps pP.tables eE below (T29.setTop (mkF mM 29 #[.val (.ref r), .val (.ref x), .val (.ref bc3)] [(.ref a_UI), (.ref r)])) tg → Steps pP.tables eE below (s₁.setTop (entryFrame mM #[(.ref r), (.ref x)] 3)) tg := fun tg kg => pr28 _ (st29 _ kg)
    clear pr28 st29 X26 e26
    have c31 := (Arv.keep V_x K3 nin0)
    obtain ⟨cla32, Ara32, qa32, Sa32, Ma32, Ha32, Ga32⟩ := id c31
    have pr33 : ∀ tg, Steps pP.tables eE below (T29.setTop (mkF mM 37 #[.val (.ref r), .val (.ref x), .val (.ref bc3)] [(.int (32 : Int32)), (.int (5 : Int32)), (.ref bc3)])) tg → Steps pP.tables eE below (s₁.setTop (entryFrame mM #[(.ref r), (.ref x)] 3)) tg := fun tg kg => pr30 _ (by
      show Steps pP.tables eE below (T29.setTop (mkF mM 29 #[.val (.ref r), .val (.ref x), .val (.ref bc3)] [(.ref a_UI), (.ref r)])) _
      refine Jvm.RoadKit.acmp (g := (mkF mM 29 #[.val (.ref r), .val (.ref x), .val (.ref bc3)] [(.ref a_UI), (.ref r)])) X29 hx rfl rfl rfl (pc0 := 29) (pc' := 32) (same := false) rfl (hb hby d35_29) rfl (decide_eq_false fun q => hx1 (Value.ref.inj q)) (by decide) (by decide) ?_
      show Steps pP.tables eE below (T29.setTop (mkF mM 32 #[.val (.ref r), .val (.ref x), .val (.ref bc3)] [])) _
      refine XS.aloadN X29.here hx rfl (hb hby d35_32) rfl rfl ?_
      refine XS.aloadN X29.here hx rfl (hb hby d35_33) rfl rfl ?_
      show Steps pP.tables eE below (T29.setTop (mkF mM 34 #[.val (.ref r), .val (.ref x), .val (.ref bc3)] [(.ref x), (.ref bc3)])) _
      refine X29.arraylength hx (by rw [e29]; exact Ara32.1) (State.isArrayOf_alike hZ.alike Ara32.2.1) (g := (mkF mM 34 #[.val (.ref r), .val (.ref x), .val (.ref bc3)] [(.ref x), (.ref bc3)])) rfl rfl (hb hby d35_34) _ ?_
      rw [len_of Sa32 Ma32]
      show Steps pP.tables eE below (T29.setTop (mkF mM 35 #[.val (.ref r), .val (.ref x), .val (.ref bc3)] [(.int (5 : Int32)), (.ref bc3)])) _
      refine XS.bipush X29.here hx rfl (hb hby d35_35) ?_
      exact kg)
    clear pr30
    obtain ⟨cla34, Ara34, qa34, Sa34, Ma34, Ha34, Ga34⟩ := id V3
    have hin35 : ¬ ((5 : Int32) < 0 ∨ cla34.slots.size ≤ ((5 : Int32)).toNatClampNeg) := inb_of Sa34 ⟨by decide, by decide⟩
    obtain ⟨T35, h35, X35, e35, W35, st35⟩ := stB X29 hx hZ e29 Ara34 (j := (5 : Int32)) hin35 (g := (mkF mM 37 #[.val (.ref r), .val (.ref x), .val (.ref bc3)] [(.int (32 : Int32)), (.int (5 : Int32)), (.ref bc3)])) rfl rfl (hb hby d35_37)
    have V35 : Arv Z h35 bc3 kc3 .byte (6 : Int32) [(.int u0), (.int u1), (.int u2), (.int u3), (.int u4), (.int (nar .byte (32 : Int32)))] (.int (0 : Int32)) := Arv.set Ara34 qa34 Sa34 Ma34 Ha34 Ga34 (fits_nar_byte _) W35 5 rfl (Nat.le_of_ble_eq_true rfl)
    have N35 := Fr.snoc X35 N3 gn5
    have pr36 : ∀ tg, Steps pP.tables eE below (T35.setTop (mkF mM 38 #[.val (.ref r), .val (.ref x), .val (.ref bc3)] [])) tg → Steps pP.tables eE below (s₁.setTop (entryFrame mM #[(.ref r), (.ref x)] 3)) tg := fun tg kg => pr33 _ (st35 _ kg)
    clear pr33 st35 X29 e29
    have pr37 : ∀ tg, Steps pP.tables eE below (T35.setTop (mkF mM 39 #[.val (.ref r), .val (.ref x), .val (.ref bc3)] [(.ref bc3)])) tg → Steps pP.tables eE below (s₁.setTop (entryFrame mM #[(.ref r), (.ref x)] 3)) tg := fun tg kg => pr36 _ (by
      show Steps pP.tables eE below (T35.setTop (mkF mM 38 #[.val (.ref r), .val (.ref x), .val (.ref bc3)] [])) _
      refine XS.aloadN X35.here hx rfl (hb hby d35_38) rfl rfl ?_
      exact kg)
    clear pr36
    have c38 := (Keep.wr (Keep.trans (Keep.refl h0 []) K3 all0) W35 (Or.inr gs6))
    obtain ⟨fs, hr, hrun, hended, hW, hsame⟩ := X35.leave (v := some (.ref bc3)) (fun h => by rw [Bd.returns] at h; cases h)
    refine ⟨_, _, pr37 _ (retOut X35 hx (t := (.array .byte)) Bd.returns rfl (Or.inr (Or.inr (Or.inr (Or.inr ⟨rfl, rfl, rfl⟩)))) (hb hby d35_39) hr), hrun, hended, _, _, rfl, ?_, ⟨_, rfl⟩, hW, hsame.mono (by decide) (by decide)⟩
    show Q35 Z r tx pv a_UI x kx u0 u1 u2 u3 u4 h0 n0 _ T35.heap _
    rw [e35]
    exact ⟨bc3, rfl, gs6, N35, c38, kc3, by rw [hpv]; exact V35⟩
theorem d36_0 : decode prog_24_method_15_code 0 = .ok (.aload_n 1, 1) := by decide +kernel
theorem d36_1 : decode prog_24_method_15_code 1 = .ok (.arraylength, 1) := by decide +kernel
theorem d36_2 : decode prog_24_method_15_code 2 = .ok (.iconst 1, 1) := by decide +kernel
theorem d36_3 : decode prog_24_method_15_code 3 = .ok (.iand, 1) := by decide +kernel
theorem d36_4 : decode prog_24_method_15_code 4 = .ok (.ifCond .ne 5, 3) := by decide +kernel
theorem d36_7 : decode prog_24_method_15_code 7 = .ok (.aload_n 1, 1) := by decide +kernel
theorem d36_8 : decode prog_24_method_15_code 8 = .ok (.areturn, 1) := by decide +kernel
theorem ef_36 (mM : MethodId) (x0 : Addr) (x1 : Addr) : entryFrame mM #[(.ref x0), (.ref x1)] 3 = mkF mM 0 #[.val (.ref x0), .val (.ref x1), .unset] [] := by first | (simp [entryFrame, mkF, argsToLocals, Value.category]; done) | rfl
def Q36 (Z : State) (r : Addr) (x : Addr) (kx : ClassId) (u0 : Int32) (u1 : Int32) (u2 : Int32) (u3 : Int32) (u4 : Int32) (u5 : Int32) (h0 : Heap) (n0 : Nat) (v : Option Value) (h : Heap) (L : List Loc) : Prop := v = some (.ref x) ∧ Fr n0 L ∧ h = h0
set_option maxRecDepth 65536 in
set_option maxHeartbeats 40000000 in
theorem rm36 (l : Launch) (Z : State) (a0 : Array Value) (hw : ∀ d ∈ tables_1, d.before a0 Z = true) (ws : List Jvm.Cond) (r : Addr) (x : Addr) (kx : ClassId) (u0 : Int32) (u1 : Int32) (u2 : Int32) (u3 : Int32) (u4 : Int32) (u5 : Int32) (h0 : Heap) (n0 : Nat) (Z0 : n0 ≤ h0.size) (V_x : Arv Z h0 x kx .byte (6 : Int32) [(.int u0), (.int u1), (.int u2), (.int u3), (.int u4), (.int u5)] (.int (0 : Int32))) :
    MetFree l (⟨"com/example/tesserae/tesserae/value/Vr", "pad", "([B)[B"⟩ : MethodName) (head1 (Jvm.Cond.code (⟨"com/example/tesserae/tesserae/value/Vr", "pad", "([B)[B"⟩ : MethodName) prog_24_method_15_code 3 (some (.array .byte)) :: ws) ({ frames := 0, cells := 0, slots := 0, locals := 0 } : Room)) (fun aA uU => aA = #[(.ref r), (.ref x)] ∧ Z.Warmed39 uU.vm ∧ uU.heap = h0) (fun _ _ _ _ _ => True) (fun _ uU oO uU' => ∃ vV lL, oO = .returned vV ∧ Q36 Z r x kx u0 u1 u2 u3 u4 u5 h0 n0 vV uU'.heap lL ∧ FrameEnd uU oO uU' lL ({ frames := 0, cells := 0, slots := 0, locals := 0 } : Room).cells ({ frames := 0, cells := 0, slots := 0, locals := 0 } : Room).slots) := by
  refine MetFree.of_bodySF (plainFor_of_name pn_1) hisR ?_
  intro pP eE sS mM args below meth cC s₁ Bd hml0 hP hK
  obtain ⟨rfl, hZ, hh⟩ := hP
  have hx := Bd.exec
  have hby := Bd.bytes
  have hml : cC.maxLocals = 3 := hml0
  have hown : sS.vm.findClass "com/example/tesserae/tesserae/value/Vr" = some mM.cls := findClass_of_methodNamed Bd.named
  have hnm := (name_of_methodNamed Bd.named Bd.method).1
  have X0 : Stand pP l eE ({ frames := 0, cells := 0, slots := 0, locals := 0 } : Room) sS mM #[(.ref r), (.ref x)] below meth cC s₁ [] 0 0 := Stand.of_body Bd
  have e0 : s₁.heap = h0 := by rw [← hh, Bd.state]; rfl
  have N0 := Fr.nil n0
  have pre0 : ∀ tg, Steps pP.tables eE below (s₁.setTop (mkF mM 0 #[.val (.ref r), .val (.ref x), .unset] [])) tg → Steps pP.tables eE below (s₁.setTop (entryFrame mM #[(.ref r), (.ref x)] 3)) tg := fun tg kg => castTop (ef_36 mM r x) kg
  obtain ⟨cla1, Ara1, qa1, Sa1, Ma1, Ha1, Ga1⟩ := id V_x
  have pr2 : ∀ tg, Steps pP.tables eE below (s₁.setTop (mkF mM 8 #[.val (.ref r), .val (.ref x), .unset] [(.ref x)])) tg → Steps pP.tables eE below (s₁.setTop (entryFrame mM #[(.ref r), (.ref x)] 3)) tg := fun tg kg => pre0 _ (by
    show Steps pP.tables eE below (s₁.setTop (mkF mM 0 #[.val (.ref r), .val (.ref x), .unset] [])) _
    refine XS.aloadN X0.here hx rfl (hb hby d36_0) rfl rfl ?_
    show Steps pP.tables eE below (s₁.setTop (mkF mM 1 #[.val (.ref r), .val (.ref x), .unset] [(.ref x)])) _
    refine X0.arraylength hx (by rw [e0]; exact Ara1.1) (State.isArrayOf_alike hZ.alike Ara1.2.1) (g := (mkF mM 1 #[.val (.ref r), .val (.ref x), .unset] [(.ref x)])) rfl rfl (hb hby d36_1) _ ?_
    rw [len_of Sa1 Ma1]
    show Steps pP.tables eE below (s₁.setTop (mkF mM 2 #[.val (.ref r), .val (.ref x), .unset] [(.int (6 : Int32))])) _
    refine XS.iconst X0.here hx rfl (hb hby d36_2) ?_
    refine XS.iand X0.here hx rfl (hb hby d36_3) rfl ?_
    refine XS.ifNo X0.here hx rfl (hb hby d36_4) rfl ((if0 _ _).trans (teq (by decide)).2) ?_
    refine XS.aloadN X0.here hx rfl (hb hby d36_7) rfl rfl ?_
    exact kg)
  clear pre0
  obtain ⟨fs, hr, hrun, hended, hW, hsame⟩ := X0.leave (v := some (.ref x)) (fun h => by rw [Bd.returns] at h; cases h)
  refine ⟨_, _, pr2 _ (retOut X0 hx (t := (.array .byte)) Bd.returns rfl (Or.inr (Or.inr (Or.inr (Or.inr ⟨rfl, rfl, rfl⟩)))) (hb hby d36_8) hr), hrun, hended, _, _, rfl, ?_, ⟨_, rfl⟩, hW, hsame.mono (by decide) (by decide)⟩
  show Q36 Z r x kx u0 u1 u2 u3 u4 u5 h0 n0 _ s₁.heap _
  rw [e0]
  exact ⟨rfl, N0, rfl⟩
theorem d37_0 : decode prog_24_method_15_code 0 = .ok (.aload_n 1, 1) := by decide +kernel
theorem d37_1 : decode prog_24_method_15_code 1 = .ok (.arraylength, 1) := by decide +kernel
theorem d37_2 : decode prog_24_method_15_code 2 = .ok (.iconst 1, 1) := by decide +kernel
theorem d37_3 : decode prog_24_method_15_code 3 = .ok (.iand, 1) := by decide +kernel
theorem d37_4 : decode prog_24_method_15_code 4 = .ok (.ifCond .ne 5, 3) := by decide +kernel
theorem d37_9 : decode prog_24_method_15_code 9 = .ok (.aload_n 1, 1) := by decide +kernel
theorem d37_10 : decode prog_24_method_15_code 10 = .ok (.aload_n 1, 1) := by decide +kernel
theorem d37_11 : decode prog_24_method_15_code 11 = .ok (.arraylength, 1) := by decide +kernel
theorem d37_12 : decode prog_24_method_15_code 12 = .ok (.iconst 1, 1) := by decide +kernel
theorem d37_13 : decode prog_24_method_15_code 13 = .ok (.iadd, 1) := by decide +kernel
theorem d37_14 : decode prog_24_method_15_code 14 = .ok (.invokestatic 221, 3) := by decide +kernel
theorem d37_17 : decode prog_24_method_15_code 17 = .ok (.astore_n 2, 1) := by decide +kernel
theorem d37_18 : decode prog_24_method_15_code 18 = .ok (.aload_n 0, 1) := by decide +kernel
theorem d37_19 : decode prog_24_method_15_code 19 = .ok (.getfield 125, 3) := by decide +kernel
theorem d37_22 : decode prog_24_method_15_code 22 = .ok (.ifCond .eq 16, 3) := by decide +kernel
theorem d37_25 : decode prog_24_method_15_code 25 = .ok (.aload_n 0, 1) := by decide +kernel
theorem d37_26 : decode prog_24_method_15_code 26 = .ok (.getstatic 85, 3) := by decide +kernel
theorem d37_29 : decode prog_24_method_15_code 29 = .ok (.if_acmp .eq 9, 3) := by decide +kernel
theorem d37_32 : decode prog_24_method_15_code 32 = .ok (.aload_n 2, 1) := by decide +kernel
theorem d37_33 : decode prog_24_method_15_code 33 = .ok (.aload_n 1, 1) := by decide +kernel
theorem d37_34 : decode prog_24_method_15_code 34 = .ok (.arraylength, 1) := by decide +kernel
theorem d37_35 : decode prog_24_method_15_code 35 = .ok (.bipush 32, 2) := by decide +kernel
theorem d37_37 : decode prog_24_method_15_code 37 = .ok (.bastore, 1) := by decide +kernel
theorem d37_38 : decode prog_24_method_15_code 38 = .ok (.aload_n 2, 1) := by decide +kernel
theorem d37_39 : decode prog_24_method_15_code 39 = .ok (.areturn, 1) := by decide +kernel
theorem ef_37 (mM : MethodId) (x0 : Addr) (x1 : Addr) : entryFrame mM #[(.ref x0), (.ref x1)] 3 = mkF mM 0 #[.val (.ref x0), .val (.ref x1), .unset] [] := by first | (simp [entryFrame, mkF, argsToLocals, Value.category]; done) | rfl
def Q37 (Z : State) (r : Addr) (tx : Int32) (pv : Int32) (a_UI : Addr) (x : Addr) (kx : ClassId) (u0 : Int32) (u1 : Int32) (u2 : Int32) (u3 : Int32) (u4 : Int32) (u5 : Int32) (u6 : Int32) (h0 : Heap) (n0 : Nat) (v : Option Value) (h : Heap) (L : List Loc) : Prop := ∃ b : Addr, v = some (.ref b) ∧ h0.size ≤ b ∧ Fr n0 L ∧ Keep h0 h [] ∧ ∃ k : ClassId, Arv Z h b k .byte (8 : Int32) [(.int u0), (.int u1), (.int u2), (.int u3), (.int u4), (.int u5), (.int u6), (.int pv)] (.int (0 : Int32))
set_option maxRecDepth 65536 in
set_option maxHeartbeats 40000000 in
theorem rm37 (l : Launch) (Z : State) (a0 : Array Value) (hw : ∀ d ∈ tables_1, d.before a0 Z = true) (ws : List Jvm.Cond) (r : Addr) (tx : Int32) (pv : Int32) (a_UI : Addr) (x : Addr) (kx : ClassId) (u0 : Int32) (u1 : Int32) (u2 : Int32) (u3 : Int32) (u4 : Int32) (u5 : Int32) (u6 : Int32) (h0 : Heap) (n0 : Nat) (Z0 : n0 ≤ h0.size) (O : Old Z n0 h0) (S_UI : Sta Z Z.heap "com/example/tesserae/tesserae/value/Vr" "UI" "Lcom/example/tesserae/tesserae/value/Vr;" (.ref a_UI)) (E_r : Exa Z Z.heap r "com/example/tesserae/tesserae/value/Vr") (F_r : Fld Z Z.heap r "com/example/tesserae/tesserae/value/Vr" "text" "Z" (.int tx)) (hp : (tx = (0 : Int32) ∧ pv = (0 : Int32)) ∨ (tx = (1 : Int32) ∧ a_UI = r ∧ pv = (0 : Int32)) ∨ (tx = (1 : Int32) ∧ r ≠ a_UI ∧ pv = (32 : Int32))) (V_x : Arv Z h0 x kx .byte (7 : Int32) [(.int u0), (.int u1), (.int u2), (.int u3), (.int u4), (.int u5), (.int u6)] (.int (0 : Int32))) :
    MetFree l (⟨"com/example/tesserae/tesserae/value/Vr", "pad", "([B)[B"⟩ : MethodName) (head1 (Jvm.Cond.code (⟨"com/example/tesserae/tesserae/value/Vr", "pad", "([B)[B"⟩ : MethodName) prog_24_method_15_code 3 (some (.array .byte)) :: ws) ({ frames := 2, cells := 1, slots := 8, locals := 32 } : Room)) (fun aA uU => aA = #[(.ref r), (.ref x)] ∧ Z.Warmed39 uU.vm ∧ uU.heap = h0) (fun _ _ _ _ _ => True) (fun _ uU oO uU' => ∃ vV lL, oO = .returned vV ∧ Q37 Z r tx pv a_UI x kx u0 u1 u2 u3 u4 u5 u6 h0 n0 vV uU'.heap lL ∧ FrameEnd uU oO uU' lL ({ frames := 2, cells := 1, slots := 8, locals := 32 } : Room).cells ({ frames := 2, cells := 1, slots := 8, locals := 32 } : Room).slots) := by
  refine MetFree.of_bodySF (plainFor_of_name pn_1) hisR ?_
  intro pP eE sS mM args below meth cC s₁ Bd hml0 hP hK
  obtain ⟨rfl, hZ, hh⟩ := hP
  have hx := Bd.exec
  have hby := Bd.bytes
  have hml : cC.maxLocals = 3 := hml0
  have hown : sS.vm.findClass "com/example/tesserae/tesserae/value/Vr" = some mM.cls := findClass_of_methodNamed Bd.named
  have hnm := (name_of_methodNamed Bd.named Bd.method).1
  have X0 : Stand pP l eE ({ frames := 2, cells := 1, slots := 8, locals := 32 } : Room) sS mM #[(.ref r), (.ref x)] below meth cC s₁ [] 0 0 := Stand.of_body Bd
  have e0 : s₁.heap = h0 := by rw [← hh, Bd.state]; rfl
  have N0 := Fr.nil n0
  have pre0 : ∀ tg, Steps pP.tables eE below (s₁.setTop (mkF mM 0 #[.val (.ref r), .val (.ref x), .unset] [])) tg → Steps pP.tables eE below (s₁.setTop (entryFrame mM #[(.ref r), (.ref x)] 3)) tg := fun tg kg => castTop (ef_37 mM r x) kg
  obtain ⟨cla1, Ara1, qa1, Sa1, Ma1, Ha1, Ga1⟩ := id V_x
  have pr2 : ∀ tg, Steps pP.tables eE below (s₁.setTop (mkF mM 14 #[.val (.ref r), .val (.ref x), .unset] [(.int (8 : Int32)), (.ref x)])) tg → Steps pP.tables eE below (s₁.setTop (entryFrame mM #[(.ref r), (.ref x)] 3)) tg := fun tg kg => pre0 _ (by
    show Steps pP.tables eE below (s₁.setTop (mkF mM 0 #[.val (.ref r), .val (.ref x), .unset] [])) _
    refine XS.aloadN X0.here hx rfl (hb hby d37_0) rfl rfl ?_
    show Steps pP.tables eE below (s₁.setTop (mkF mM 1 #[.val (.ref r), .val (.ref x), .unset] [(.ref x)])) _
    refine X0.arraylength hx (by rw [e0]; exact Ara1.1) (State.isArrayOf_alike hZ.alike Ara1.2.1) (g := (mkF mM 1 #[.val (.ref r), .val (.ref x), .unset] [(.ref x)])) rfl rfl (hb hby d37_1) _ ?_
    rw [len_of Sa1 Ma1]
    show Steps pP.tables eE below (s₁.setTop (mkF mM 2 #[.val (.ref r), .val (.ref x), .unset] [(.int (7 : Int32))])) _
    refine XS.iconst X0.here hx rfl (hb hby d37_2) ?_
    refine XS.iand X0.here hx rfl (hb hby d37_3) rfl ?_
    refine XS.ifYes X0.here hx rfl (pc0 := 4) (pc' := 9) rfl (hb hby d37_4) rfl ((if0 _ _).trans (feq (by decide)).2) (by decide) (by decide) ?_
    refine XS.aloadN X0.here hx rfl (hb hby d37_9) rfl rfl ?_
    refine XS.aloadN X0.here hx rfl (hb hby d37_10) rfl rfl ?_
    show Steps pP.tables eE below (s₁.setTop (mkF mM 11 #[.val (.ref r), .val (.ref x), .unset] [(.ref x), (.ref x)])) _
    refine X0.arraylength hx (by rw [e0]; exact Ara1.1) (State.isArrayOf_alike hZ.alike Ara1.2.1) (g := (mkF mM 11 #[.val (.ref r), .val (.ref x), .unset] [(.ref x), (.ref x)])) rfl rfl (hb hby d37_11) _ ?_
    rw [len_of Sa1 Ma1]
    show Steps pP.tables eE below (s₁.setTop (mkF mM 12 #[.val (.ref r), .val (.ref x), .unset] [(.int (7 : Int32)), (.ref x)])) _
    refine XS.iconst X0.here hx rfl (hb hby d37_12) ?_
    refine XS.iadd X0.here hx rfl (hb hby d37_13) rfl ?_
    exact kg)
  clear pre0
  obtain ⟨_, _, ⟨T3, L3, kk3, nn3⟩, -, X3, ⟨Lc3, hQ3, l3, y3, z3⟩, st3⟩ := Jvm.LawKit.callS X0 hx (y := (⟨"java/util/Arrays", "copyOf", "([BI)[B"⟩ : MethodName)) hown (mvT hZ (hw _ (List.mem_of_getElem? (i := 80) rfl))) (mvT hZ (hw _ (List.mem_of_getElem? (i := 81) rfl))) (mvT hZ (hw _ (List.mem_of_getElem? (i := 82) rfl))) (mvT hZ (hw _ (List.mem_of_getElem? (i := 83) rfl))) (by decide) (backOf (W := 0) (rm27 l Z a0 hw [] x kx u0 u1 u2 u3 u4 u5 u6 h0 n0 Z0 V_x) hZ (hw _ (List.mem_of_getElem? (i := 83) rfl)) (hw _ (List.mem_of_getElem? (i := 82) rfl)) (by decide) (by decide)) (g := (mkF mM 14 #[.val (.ref r), .val (.ref x), .unset] [(.int (8 : Int32)), (.ref x)])) rfl (by rw [hml]; rfl) (argsL := [(.ref x), (.int (8 : Int32))]) (rest := []) (lenOf pd_1 rfl) rfl (by show 2 * 0 + _ ≤ _; exact Nat.le_of_eq rfl) (hb hby d37_14) (fun _ _ => ⟨rfl, e0, (by decide : 0 + 1 ≤ _), (by decide : 0 + 8 ≤ _)⟩)
  dsimp only [Pt.U, Pt.locs, Pt.cells, Pt.slots] at X3 l3 y3 z3 st3 hQ3
  subst l3 y3 z3
  obtain ⟨bc3, rfl, ge3, Nq3, K3, kc3, V3⟩ := hQ3
  have N3 := Fr.app N0 Nq3
  have ne4 : x ≠ bc3 := Nat.ne_of_lt (Nat.lt_of_lt_of_le (V_x).lt ge3)
  have gn5 : n0 ≤ bc3 := Nat.le_trans Z0 ge3
  have gs6 : h0.size ≤ bc3 := Nat.le_trans (Keep.refl h0 []).1 ge3
  have pr7 : ∀ tg, Steps pP.tables eE below (T3.setTop (mkF mM 17 #[.val (.ref r), .val (.ref x), .unset] [(.ref bc3)])) tg → Steps pP.tables eE below (s₁.setTop (entryFrame mM #[(.ref r), (.ref x)] 3)) tg := fun tg kg => pr2 _ (st3 _ kg)
  clear pr2 st3 X0 e0
  have pr8 : ∀ tg, Steps pP.tables eE below (T3.setTop (mkF mM 18 #[.val (.ref r), .val (.ref x), .val (.ref bc3)] [])) tg → Steps pP.tables eE below (s₁.setTop (entryFrame mM #[(.ref r), (.ref x)] 3)) tg := fun tg kg => pr7 _ (by
    show Steps pP.tables eE below (T3.setTop (mkF mM 17 #[.val (.ref r), .val (.ref x), .unset] [(.ref bc3)])) _
    refine XS.astoreN X3.here hx rfl (hb hby d37_17) rfl rfl (l' := #[.val (.ref r), .val (.ref x), .val (.ref bc3)]) rfl ?_
    exact kg)
  clear pr7
  rcases hp with ⟨ht, hpv⟩ | ⟨ht, hx1, hpv⟩ | ⟨ht, hx1, hpv⟩
  ·
    have F_k := F_r
    rw [ht] at F_k
    have c9 := (Old.keep O K3 all0)
    have pr10 : ∀ tg, Steps pP.tables eE below (T3.setTop (mkF mM 19 #[.val (.ref r), .val (.ref x), .val (.ref bc3)] [(.ref r)])) tg → Steps pP.tables eE below (s₁.setTop (entryFrame mM #[(.ref r), (.ref x)] 3)) tg := fun tg kg => pr8 _ (by
      show Steps pP.tables eE below (T3.setTop (mkF mM 18 #[.val (.ref r), .val (.ref x), .val (.ref bc3)] [])) _
      refine XS.aloadN X3.here hx rfl (hb hby d37_18) rfl rfl ?_
      exact kg)
    clear pr8
    obtain ⟨T11, X11, e11, st11⟩ := getF X3 hx hZ hown (host := "") (Or.inl (hw _ (List.mem_of_getElem? (i := 92) rfl))) Via.refl rfl (Fld.ext (c9).2 F_k) (g := (mkF mM 19 #[.val (.ref r), .val (.ref x), .val (.ref bc3)] [(.ref r)])) rfl rfl (hb hby d37_19)
    have pr12 : ∀ tg, Steps pP.tables eE below (T11.setTop (mkF mM 22 #[.val (.ref r), .val (.ref x), .val (.ref bc3)] [(.int (0 : Int32))])) tg → Steps pP.tables eE below (s₁.setTop (entryFrame mM #[(.ref r), (.ref x)] 3)) tg := fun tg kg => pr10 _ (st11 _ kg)
    clear pr10 st11 X3
    have pr13 : ∀ tg, Steps pP.tables eE below (T11.setTop (mkF mM 39 #[.val (.ref r), .val (.ref x), .val (.ref bc3)] [(.ref bc3)])) tg → Steps pP.tables eE below (s₁.setTop (entryFrame mM #[(.ref r), (.ref x)] 3)) tg := fun tg kg => pr12 _ (by
      show Steps pP.tables eE below (T11.setTop (mkF mM 22 #[.val (.ref r), .val (.ref x), .val (.ref bc3)] [(.int (0 : Int32))])) _
      refine XS.ifYes X11.here hx rfl (pc0 := 22) (pc' := 38) rfl (hb hby d37_22) rfl ((if0 _ _).trans (teq (by decide)).1) (by decide) (by decide) ?_
      refine XS.aloadN X11.here hx rfl (hb hby d37_38) rfl rfl ?_
      exact kg)
    clear pr12
    have c14 := (Keep.trans (Keep.refl h0 []) K3 all0)
    obtain ⟨fs, hr, hrun, hended, hW, hsame⟩ := X11.leave (v := some (.ref bc3)) (fun h => by rw [Bd.returns] at h; cases h)
    refine ⟨_, _, pr13 _ (retOut X11 hx (t := (.array .byte)) Bd.returns rfl (Or.inr (Or.inr (Or.inr (Or.inr ⟨rfl, rfl, rfl⟩)))) (hb hby d37_39) hr), hrun, hended, _, _, rfl, ?_, ⟨_, rfl⟩, hW, hsame.mono (by decide) (by decide)⟩
    show Q37 Z r tx pv a_UI x kx u0 u1 u2 u3 u4 u5 u6 h0 n0 _ T11.heap _
    rw [e11]
    exact ⟨bc3, rfl, gs6, N3, c14, kc3, by rw [hpv]; exact V3⟩
  ·
    have F_k := F_r
    rw [ht] at F_k
    have c15 := (Old.keep O K3 all0)
    have pr16 : ∀ tg, Steps pP.tables eE below (T3.setTop (mkF mM 19 #[.val (.ref r), .val (.ref x), .val (.ref bc3)] [(.ref r)])) tg → Steps pP.tables eE below (s₁.setTop (entryFrame mM #[(.ref r), (.ref x)] 3)) tg := fun tg kg => pr8 _ (by
      show Steps pP.tables eE below (T3.setTop (mkF mM 18 #[.val (.ref r), .val (.ref x), .val (.ref bc3)] [])) _
      refine XS.aloadN X3.here hx rfl (hb hby d37_18) rfl rfl ?_
      exact kg)
    clear pr8
    obtain ⟨T17, X17, e17, st17⟩ := getF X3 hx hZ hown (host := "") (Or.inl (hw _ (List.mem_of_getElem? (i := 92) rfl))) Via.refl rfl (Fld.ext (c15).2 F_k) (g := (mkF mM 19 #[.val (.ref r), .val (.ref x), .val (.ref bc3)] [(.ref r)])) rfl rfl (hb hby d37_19)
    have pr18 : ∀ tg, Steps pP.tables eE below (T17.setTop (mkF mM 22 #[.val (.ref r), .val (.ref x), .val (.ref bc3)] [(.int (1 : Int32))])) tg → Steps pP.tables eE below (s₁.setTop (entryFrame mM #[(.ref r), (.ref x)] 3)) tg := fun tg kg => pr16 _ (st17 _ kg)
    clear pr16 st17 X3
    have pr19 : ∀ tg, Steps pP.tables eE below (T17.setTop (mkF mM 26 #[.val (.ref r), .val (.ref x), .val (.ref bc3)] [(.ref r)])) tg → Steps pP.tables eE below (s₁.setTop (entryFrame mM #[(.ref r), (.ref x)] 3)) tg := fun tg kg => pr18 _ (by
      show Steps pP.tables eE below (T17.setTop (mkF mM 22 #[.val (.ref r), .val (.ref x), .val (.ref bc3)] [(.int (1 : Int32))])) _
      refine XS.ifNo X17.here hx rfl (hb hby d37_22) rfl ((if0 _ _).trans (feq (by decide)).1) ?_
      refine XS.aloadN X17.here hx rfl (hb hby d37_25) rfl rfl ?_
      exact kg)
    clear pr18
    obtain ⟨T20, X20, e20, st20⟩ := getS2 X17 hx hZ hown (host := "") (Or.inl (hw _ (List.mem_of_getElem? (i := 94) rfl))) Via.refl e17 (Sta.ext (c15).2 S_UI) (g := (mkF mM 26 #[.val (.ref r), .val (.ref x), .val (.ref bc3)] [(.ref r)])) rfl (hb hby d37_26)
    have pr21 : ∀ tg, Steps pP.tables eE below (T20.setTop (mkF mM 29 #[.val (.ref r), .val (.ref x), .val (.ref bc3)] [(.ref a_UI), (.ref r)])) tg → Steps pP.tables eE below (s₁.setTop (entryFrame mM #[(.ref r), (.ref x)] 3)) tg := fun tg kg => pr19 _ (st20 _ kg)
    clear pr19 st20 X17 e17
    have pr22 : ∀ tg, Steps pP.tables eE below (T20.setTop (mkF mM 39 #[.val (.ref r), .val (.ref x), .val (.ref bc3)] [(.ref bc3)])) tg → Steps pP.tables eE below (s₁.setTop (entryFrame mM #[(.ref r), (.ref x)] 3)) tg := fun tg kg => pr21 _ (by
      show Steps pP.tables eE below (T20.setTop (mkF mM 29 #[.val (.ref r), .val (.ref x), .val (.ref bc3)] [(.ref a_UI), (.ref r)])) _
      refine Jvm.RoadKit.acmp (g := (mkF mM 29 #[.val (.ref r), .val (.ref x), .val (.ref bc3)] [(.ref a_UI), (.ref r)])) X20 hx rfl rfl rfl (pc0 := 29) (pc' := 38) (same := true) rfl (hb hby d37_29) rfl (decide_eq_true (congrArg Value.ref hx1.symm)) (by decide) (by decide) ?_
      show Steps pP.tables eE below (T20.setTop (mkF mM 38 #[.val (.ref r), .val (.ref x), .val (.ref bc3)] [])) _
      refine XS.aloadN X20.here hx rfl (hb hby d37_38) rfl rfl ?_
      exact kg)
    clear pr21
    have c23 := (Keep.trans (Keep.refl h0 []) K3 all0)
    obtain ⟨fs, hr, hrun, hended, hW, hsame⟩ := X20.leave (v := some (.ref bc3)) (fun h => by rw [Bd.returns] at h; cases h)
    refine ⟨_, _, pr22 _ (retOut X20 hx (t := (.array .byte)) Bd.returns rfl (Or.inr (Or.inr (Or.inr (Or.inr ⟨rfl, rfl, rfl⟩)))) (hb hby d37_39) hr), hrun, hended, _, _, rfl, ?_, ⟨_, rfl⟩, hW, hsame.mono (by decide) (by decide)⟩
    show Q37 Z r tx pv a_UI x kx u0 u1 u2 u3 u4 u5 u6 h0 n0 _ T20.heap _
    rw [e20]
    exact ⟨bc3, rfl, gs6, N3, c23, kc3, by rw [hpv]; exact V3⟩
  ·
    have F_k := F_r
    rw [ht] at F_k
    have c24 := (Old.keep O K3 all0)
    have pr25 : ∀ tg, Steps pP.tables eE below (T3.setTop (mkF mM 19 #[.val (.ref r), .val (.ref x), .val (.ref bc3)] [(.ref r)])) tg → Steps pP.tables eE below (s₁.setTop (entryFrame mM #[(.ref r), (.ref x)] 3)) tg := fun tg kg => pr8 _ (by
      show Steps pP.tables eE below (T3.setTop (mkF mM 18 #[.val (.ref r), .val (.ref x), .val (.ref bc3)] [])) _
      refine XS.aloadN X3.here hx rfl (hb hby d37_18) rfl rfl ?_
      exact kg)
    clear pr8
    obtain ⟨T26, X26, e26, st26⟩ := getF X3 hx hZ hown (host := "") (Or.inl (hw _ (List.mem_of_getElem? (i := 92) rfl))) Via.refl rfl (Fld.ext (c24).2 F_k) (g := (mkF mM 19 #[.val (.ref r), .val (.ref x), .val (.ref bc3)] [(.ref r)])) rfl rfl (hb hby d37_19)
    have pr27 : ∀ tg, Steps pP.tables eE below (T26.setTop (mkF mM 22 #[.val (.ref r), .val (.ref x), .val (.ref bc3)] [(.int (1 : Int32))])) tg → Steps pP.tables eE below (s₁.setTop (entryFrame mM #[(.ref r), (.ref x)] 3)) tg := fun tg kg => pr25 _ (st26 _ kg)
    clear pr25 st26 X3
    have pr28 : ∀ tg, Steps pP.tables eE below (T26.setTop (mkF mM 26 #[.val (.ref r), .val (.ref x), .val (.ref bc3)] [(.ref r)])) tg → Steps pP.tables eE below (s₁.setTop (entryFrame mM #[(.ref r), (.ref x)] 3)) tg := fun tg kg => pr27 _ (by
      show Steps pP.tables eE below (T26.setTop (mkF mM 22 #[.val (.ref r), .val (.ref x), .val (.ref bc3)] [(.int (1 : Int32))])) _
      refine XS.ifNo X26.here hx rfl (hb hby d37_22) rfl ((if0 _ _).trans (feq (by decide)).1) ?_
      refine XS.aloadN X26.here hx rfl (hb hby d37_25) rfl rfl ?_
      exact kg)
    clear pr27
    obtain ⟨T29, X29, e29, st29⟩ := getS2 X26 hx hZ hown (host := "") (Or.inl (hw _ (List.mem_of_getElem? (i := 94) rfl))) Via.refl e26 (Sta.ext (c24).2 S_UI) (g := (mkF mM 26 #[.val (.ref r), .val (.ref x), .val (.ref bc3)] [(.ref r)])) rfl (hb hby d37_26)
    have pr30 : ∀ tg, Steps pP.tables eE below (T29.setTop (mkF mM 29 #[.val (.ref r), .val (.ref x), .val (.ref bc3)] [(.ref a_UI), (.ref r)])) tg → Steps pP.tables eE below (s₁.setTop (entryFrame mM #[(.ref r), (.ref x)] 3)) tg := fun tg kg => pr28 _ (st29 _ kg)
    clear pr28 st29 X26 e26
    have c31 := (Arv.keep V_x K3 nin0)
    obtain ⟨cla32, Ara32, qa32, Sa32, Ma32, Ha32, Ga32⟩ := id c31
    have pr33 : ∀ tg, Steps pP.tables eE below (T29.setTop (mkF mM 37 #[.val (.ref r), .val (.ref x), .val (.ref bc3)] [(.int (32 : Int32)), (.int (7 : Int32)), (.ref bc3)])) tg → Steps pP.tables eE below (s₁.setTop (entryFrame mM #[(.ref r), (.ref x)] 3)) tg := fun tg kg => pr30 _ (by
      show Steps pP.tables eE below (T29.setTop (mkF mM 29 #[.val (.ref r), .val (.ref x), .val (.ref bc3)] [(.ref a_UI), (.ref r)])) _
      refine Jvm.RoadKit.acmp (g := (mkF mM 29 #[.val (.ref r), .val (.ref x), .val (.ref bc3)] [(.ref a_UI), (.ref r)])) X29 hx rfl rfl rfl (pc0 := 29) (pc' := 32) (same := false) rfl (hb hby d37_29) rfl (decide_eq_false fun q => hx1 (Value.ref.inj q)) (by decide) (by decide) ?_
      show Steps pP.tables eE below (T29.setTop (mkF mM 32 #[.val (.ref r), .val (.ref x), .val (.ref bc3)] [])) _
      refine XS.aloadN X29.here hx rfl (hb hby d37_32) rfl rfl ?_
      refine XS.aloadN X29.here hx rfl (hb hby d37_33) rfl rfl ?_
      show Steps pP.tables eE below (T29.setTop (mkF mM 34 #[.val (.ref r), .val (.ref x), .val (.ref bc3)] [(.ref x), (.ref bc3)])) _
      refine X29.arraylength hx (by rw [e29]; exact Ara32.1) (State.isArrayOf_alike hZ.alike Ara32.2.1) (g := (mkF mM 34 #[.val (.ref r), .val (.ref x), .val (.ref bc3)] [(.ref x), (.ref bc3)])) rfl rfl (hb hby d37_34) _ ?_
      rw [len_of Sa32 Ma32]
      show Steps pP.tables eE below (T29.setTop (mkF mM 35 #[.val (.ref r), .val (.ref x), .val (.ref bc3)] [(.int (7 : Int32)), (.ref bc3)])) _
      refine XS.bipush X29.here hx rfl (hb hby d37_35) ?_
      exact kg)
    clear pr30
    obtain ⟨cla34, Ara34, qa34, Sa34, Ma34, Ha34, Ga34⟩ := id V3
    have hin35 : ¬ ((7 : Int32) < 0 ∨ cla34.slots.size ≤ ((7 : Int32)).toNatClampNeg) := inb_of Sa34 ⟨by decide, by decide⟩
    obtain ⟨T35, h35, X35, e35, W35, st35⟩ := stB X29 hx hZ e29 Ara34 (j := (7 : Int32)) hin35 (g := (mkF mM 37 #[.val (.ref r), .val (.ref x), .val (.ref bc3)] [(.int (32 : Int32)), (.int (7 : Int32)), (.ref bc3)])) rfl rfl (hb hby d37_37)
    have V35 : Arv Z h35 bc3 kc3 .byte (8 : Int32) [(.int u0), (.int u1), (.int u2), (.int u3), (.int u4), (.int u5), (.int u6), (.int (nar .byte (32 : Int32)))] (.int (0 : Int32)) := Arv.set Ara34 qa34 Sa34 Ma34 Ha34 Ga34 (fits_nar_byte _) W35 7 rfl (Nat.le_of_ble_eq_true rfl)
    have N35 := Fr.snoc X35 N3 gn5
    have pr36 : ∀ tg, Steps pP.tables eE below (T35.setTop (mkF mM 38 #[.val (.ref r), .val (.ref x), .val (.ref bc3)] [])) tg → Steps pP.tables eE below (s₁.setTop (entryFrame mM #[(.ref r), (.ref x)] 3)) tg := fun tg kg => pr33 _ (st35 _ kg)
    clear pr33 st35 X29 e29
    have pr37 : ∀ tg, Steps pP.tables eE below (T35.setTop (mkF mM 39 #[.val (.ref r), .val (.ref x), .val (.ref bc3)] [(.ref bc3)])) tg → Steps pP.tables eE below (s₁.setTop (entryFrame mM #[(.ref r), (.ref x)] 3)) tg := fun tg kg => pr36 _ (by
      show Steps pP.tables eE below (T35.setTop (mkF mM 38 #[.val (.ref r), .val (.ref x), .val (.ref bc3)] [])) _
      refine XS.aloadN X35.here hx rfl (hb hby d37_38) rfl rfl ?_
      exact kg)
    clear pr36
    have c38 := (Keep.wr (Keep.trans (Keep.refl h0 []) K3 all0) W35 (Or.inr gs6))
    obtain ⟨fs, hr, hrun, hended, hW, hsame⟩ := X35.leave (v := some (.ref bc3)) (fun h => by rw [Bd.returns] at h; cases h)
    refine ⟨_, _, pr37 _ (retOut X35 hx (t := (.array .byte)) Bd.returns rfl (Or.inr (Or.inr (Or.inr (Or.inr ⟨rfl, rfl, rfl⟩)))) (hb hby d37_39) hr), hrun, hended, _, _, rfl, ?_, ⟨_, rfl⟩, hW, hsame.mono (by decide) (by decide)⟩
    show Q37 Z r tx pv a_UI x kx u0 u1 u2 u3 u4 u5 u6 h0 n0 _ T35.heap _
    rw [e35]
    exact ⟨bc3, rfl, gs6, N35, c38, kc3, by rw [hpv]; exact V35⟩
theorem d4_0 : decode method_2_code 0 = .ok (.iload_n 3, 1) := by decide +kernel
theorem d4_1 : decode method_2_code 1 = .ok (.iload 4, 2) := by decide +kernel
theorem d4_3 : decode method_2_code 3 = .ok (.if_icmp .ge 17, 3) := by decide +kernel
theorem d4_20 : decode method_2_code 20 = .ok (.iconst 1, 1) := by decide +kernel
theorem d4_21 : decode method_2_code 21 = .ok (.goto 4, 3) := by decide +kernel
theorem d4_25 : decode method_2_code 25 = .ok (.ireturn, 1) := by decide +kernel
theorem pn_2 : plainName "com/example/tesserae/tesserae/value/VrPadPinLaw" = true := by first | (simp [plainName, overriddenIn]; done) | decide +kernel
theorem ef_4 (mM : MethodId) (x0 : Addr) (x1 : Int64) (x2 : Int32) (x3 : Int32) : entryFrame mM #[(.ref x0), (.long x1), (.int x2), (.int x3)] 5 = mkF mM 0 #[.val (.ref x0), .val (.long x1), .second, .val (.int x2), .val (.int x3)] [] := by first | (simp [entryFrame, mkF, argsToLocals, Value.category]; done) | rfl
def Q4 (Z : State) (x : Addr) (q : Int64) (i : Int32) (n : Int32) (h0 : Heap) (n0 : Nat) (v : Option Value) (h : Heap) (L : List Loc) : Prop := v = some (.int (1 : Int32)) ∧ Fr n0 L ∧ h = h0
set_option maxRecDepth 65536 in
set_option maxHeartbeats 40000000 in
theorem rm4 (l : Launch) (Z : State) (a0 : Array Value) (hw : ∀ d ∈ tables_1, d.before a0 Z = true) (ws : List Jvm.Cond) (x : Addr) (q : Int64) (i : Int32) (n : Int32) (h0 : Heap) (n0 : Nat) (Z0 : n0 ≤ h0.size) (hlt : ¬ i < n) :
    MetFree l (⟨"com/example/tesserae/tesserae/value/VrPadPinLaw", "sameAt", "([BJII)Z"⟩ : MethodName) (head1 (Jvm.Cond.code (⟨"com/example/tesserae/tesserae/value/VrPadPinLaw", "sameAt", "([BJII)Z"⟩ : MethodName) method_2_code 5 (some .boolean) :: ws) ({ frames := 0, cells := 0, slots := 0, locals := 0 } : Room)) (fun aA uU => aA = #[(.ref x), (.long q), (.int i), (.int n)] ∧ Z.Warmed39 uU.vm ∧ uU.heap = h0) (fun _ _ _ _ _ => True) (fun _ uU oO uU' => ∃ vV lL, oO = .returned vV ∧ Q4 Z x q i n h0 n0 vV uU'.heap lL ∧ FrameEnd uU oO uU' lL ({ frames := 0, cells := 0, slots := 0, locals := 0 } : Room).cells ({ frames := 0, cells := 0, slots := 0, locals := 0 } : Room).slots) := by
  refine MetFree.of_bodySF (plainFor_of_name pn_2) hisR ?_
  intro pP eE sS mM args below meth cC s₁ Bd hml0 hP hK
  obtain ⟨rfl, hZ, hh⟩ := hP
  have hx := Bd.exec
  have hby := Bd.bytes
  have hml : cC.maxLocals = 5 := hml0
  have hown : sS.vm.findClass "com/example/tesserae/tesserae/value/VrPadPinLaw" = some mM.cls := findClass_of_methodNamed Bd.named
  have hnm := (name_of_methodNamed Bd.named Bd.method).1
  have X0 : Stand pP l eE ({ frames := 0, cells := 0, slots := 0, locals := 0 } : Room) sS mM #[(.ref x), (.long q), (.int i), (.int n)] below meth cC s₁ [] 0 0 := Stand.of_body Bd
  have e0 : s₁.heap = h0 := by rw [← hh, Bd.state]; rfl
  have N0 := Fr.nil n0
  have pre0 : ∀ tg, Steps pP.tables eE below (s₁.setTop (mkF mM 0 #[.val (.ref x), .val (.long q), .second, .val (.int i), .val (.int n)] [])) tg → Steps pP.tables eE below (s₁.setTop (entryFrame mM #[(.ref x), (.long q), (.int i), (.int n)] 5)) tg := fun tg kg => castTop (ef_4 mM x q i n) kg
  have pr1 : ∀ tg, Steps pP.tables eE below (s₁.setTop (mkF mM 25 #[.val (.ref x), .val (.long q), .second, .val (.int i), .val (.int n)] [(.int (1 : Int32))])) tg → Steps pP.tables eE below (s₁.setTop (entryFrame mM #[(.ref x), (.long q), (.int i), (.int n)] 5)) tg := fun tg kg => pre0 _ (by
    show Steps pP.tables eE below (s₁.setTop (mkF mM 0 #[.val (.ref x), .val (.long q), .second, .val (.int i), .val (.int n)] [])) _
    refine XS.iloadN X0.here hx rfl (hb hby d4_0) rfl ?_
    refine XS.iload X0.here hx rfl (hb hby d4_1) rfl ?_
    refine XS.icmpYes X0.here hx rfl (pc0 := 3) (pc' := 20) rfl (hb hby d4_3) rfl (flt hlt).2.1 (by decide) (by decide) ?_
    refine XS.iconst X0.here hx rfl (hb hby d4_20) ?_
    refine XS.goto X0.here hx rfl (pc0 := 21) (pc' := 25) rfl (hb hby d4_21) (by decide) (by decide) ?_
    exact kg)
  clear pre0
  obtain ⟨fs, hr, hrun, hended, hW, hsame⟩ := X0.leave (v := some (.int (1 : Int32))) (fun h => by rw [Bd.returns] at h; cases h)
  refine ⟨_, _, pr1 _ (retOut X0 hx (t := .boolean) Bd.returns rfl (Or.inl ⟨rfl, Or.inr (Or.inl rfl), _, rfl⟩) (hb hby d4_25) hr), hrun, hended, _, _, rfl, ?_, ⟨_, rfl⟩, hW, hsame.mono (by decide) (by decide)⟩
  show Q4 Z x q i n h0 n0 _ s₁.heap _
  rw [e0]
  exact ⟨rfl, N0, rfl⟩
theorem d5_0 : decode method_2_code 0 = .ok (.iload_n 3, 1) := by decide +kernel
theorem d5_1 : decode method_2_code 1 = .ok (.iload 4, 2) := by decide +kernel
theorem d5_3 : decode method_2_code 3 = .ok (.if_icmp .ge 17, 3) := by decide +kernel
theorem d5_6 : decode method_2_code 6 = .ok (.aload_n 0, 1) := by decide +kernel
theorem d5_7 : decode method_2_code 7 = .ok (.iload_n 3, 1) := by decide +kernel
theorem d5_8 : decode method_2_code 8 = .ok (.baload, 1) := by decide +kernel
theorem d5_9 : decode method_2_code 9 = .ok (.lload_n 1, 1) := by decide +kernel
theorem d5_10 : decode method_2_code 10 = .ok (.bipush 8, 2) := by decide +kernel
theorem d5_12 : decode method_2_code 12 = .ok (.iload_n 3, 1) := by decide +kernel
theorem d5_13 : decode method_2_code 13 = .ok (.imul, 1) := by decide +kernel
theorem d5_14 : decode method_2_code 14 = .ok (.lushr, 1) := by decide +kernel
theorem d5_15 : decode method_2_code 15 = .ok (.l2i, 1) := by decide +kernel
theorem d5_16 : decode method_2_code 16 = .ok (.i2b, 1) := by decide +kernel
theorem d5_17 : decode method_2_code 17 = .ok (.if_icmp .ne 7, 3) := by decide +kernel
theorem d5_20 : decode method_2_code 20 = .ok (.iconst 1, 1) := by decide +kernel
theorem d5_21 : decode method_2_code 21 = .ok (.goto 4, 3) := by decide +kernel
theorem d5_25 : decode method_2_code 25 = .ok (.ireturn, 1) := by decide +kernel
theorem ef_5 (mM : MethodId) (x0 : Addr) (x1 : Int64) (x2 : Int32) (x3 : Int32) : entryFrame mM #[(.ref x0), (.long x1), (.int x2), (.int x3)] 5 = mkF mM 0 #[.val (.ref x0), .val (.long x1), .second, .val (.int x2), .val (.int x3)] [] := by first | (simp [entryFrame, mkF, argsToLocals, Value.category]; done) | rfl
def Q5 (Z : State) (x : Addr) (q : Int64) (i : Int32) (n : Int32) (cl : Cell) (wv : Int32) (h0 : Heap) (n0 : Nat) (v : Option Value) (h : Heap) (L : List Loc) : Prop := v = some (.int (1 : Int32)) ∧ Fr n0 L ∧ h = h0
set_option maxRecDepth 65536 in
set_option maxHeartbeats 40000000 in
theorem rm5 (l : Launch) (Z : State) (a0 : Array Value) (hw : ∀ d ∈ tables_1, d.before a0 Z = true) (ws : List Jvm.Cond) (x : Addr) (q : Int64) (i : Int32) (n : Int32) (cl : Cell) (wv : Int32) (h0 : Heap) (n0 : Nat) (Z0 : n0 ≤ h0.size) (hlt : i < n) (Ar : Arr Z h0 x cl .byte) (hin : ¬ (i < 0 ∨ cl.slots.size ≤ i.toNatClampNeg)) (hat : cl.slots[i.toNatClampNeg]? = some (.int wv)) (hwv : wv = ((q.toUInt64 >>> (((8 : Int32) * i) &&& 0x3f).toInt64.toUInt64).toInt64).toInt32.toInt8.toInt32) :
    MetFree l (⟨"com/example/tesserae/tesserae/value/VrPadPinLaw", "sameAt", "([BJII)Z"⟩ : MethodName) (head1 (Jvm.Cond.code (⟨"com/example/tesserae/tesserae/value/VrPadPinLaw", "sameAt", "([BJII)Z"⟩ : MethodName) method_2_code 5 (some .boolean) :: ws) ({ frames := 0, cells := 0, slots := 0, locals := 0 } : Room)) (fun aA uU => aA = #[(.ref x), (.long q), (.int i), (.int n)] ∧ Z.Warmed39 uU.vm ∧ uU.heap = h0) (fun _ _ _ _ _ => True) (fun _ uU oO uU' => ∃ vV lL, oO = .returned vV ∧ Q5 Z x q i n cl wv h0 n0 vV uU'.heap lL ∧ FrameEnd uU oO uU' lL ({ frames := 0, cells := 0, slots := 0, locals := 0 } : Room).cells ({ frames := 0, cells := 0, slots := 0, locals := 0 } : Room).slots) := by
  refine MetFree.of_bodySF (plainFor_of_name pn_2) hisR ?_
  intro pP eE sS mM args below meth cC s₁ Bd hml0 hP hK
  obtain ⟨rfl, hZ, hh⟩ := hP
  have hx := Bd.exec
  have hby := Bd.bytes
  have hml : cC.maxLocals = 5 := hml0
  have hown : sS.vm.findClass "com/example/tesserae/tesserae/value/VrPadPinLaw" = some mM.cls := findClass_of_methodNamed Bd.named
  have hnm := (name_of_methodNamed Bd.named Bd.method).1
  have X0 : Stand pP l eE ({ frames := 0, cells := 0, slots := 0, locals := 0 } : Room) sS mM #[(.ref x), (.long q), (.int i), (.int n)] below meth cC s₁ [] 0 0 := Stand.of_body Bd
  have e0 : s₁.heap = h0 := by rw [← hh, Bd.state]; rfl
  have N0 := Fr.nil n0
  have pre0 : ∀ tg, Steps pP.tables eE below (s₁.setTop (mkF mM 0 #[.val (.ref x), .val (.long q), .second, .val (.int i), .val (.int n)] [])) tg → Steps pP.tables eE below (s₁.setTop (entryFrame mM #[(.ref x), (.long q), (.int i), (.int n)] 5)) tg := fun tg kg => castTop (ef_5 mM x q i n) kg
  have pr1 : ∀ tg, Steps pP.tables eE below (s₁.setTop (mkF mM 25 #[.val (.ref x), .val (.long q), .second, .val (.int i), .val (.int n)] [(.int (1 : Int32))])) tg → Steps pP.tables eE below (s₁.setTop (entryFrame mM #[(.ref x), (.long q), (.int i), (.int n)] 5)) tg := fun tg kg => pre0 _ (by
    show Steps pP.tables eE below (s₁.setTop (mkF mM 0 #[.val (.ref x), .val (.long q), .second, .val (.int i), .val (.int n)] [])) _
    refine XS.iloadN X0.here hx rfl (hb hby d5_0) rfl ?_
    refine XS.iload X0.here hx rfl (hb hby d5_1) rfl ?_
    refine XS.icmpNo X0.here hx rfl (hb hby d5_3) rfl (tlt hlt).2.1 ?_
    refine XS.aloadN X0.here hx rfl (hb hby d5_6) rfl rfl ?_
    refine XS.iloadN X0.here hx rfl (hb hby d5_7) rfl ?_
    show Steps pP.tables eE below (s₁.setTop (mkF mM 8 #[.val (.ref x), .val (.long q), .second, .val (.int i), .val (.int n)] [(.int i), (.ref x)])) _
    refine X0.baloadBytes hx (j := i) (v := (.int wv)) (by rw [e0]; exact Ar.1) (State.isArrayOf_alike hZ.alike Ar.2.1) Ar.2.2 hin hat (g := (mkF mM 8 #[.val (.ref x), .val (.long q), .second, .val (.int i), .val (.int n)] [(.int i), (.ref x)])) rfl rfl (hb hby d5_8) _ ?_
    show Steps pP.tables eE below (s₁.setTop (mkF mM 9 #[.val (.ref x), .val (.long q), .second, .val (.int i), .val (.int n)] [(.int wv)])) _
    refine XS.lloadN X0.here hx rfl (hb hby d5_9) rfl ?_
    refine XS.bipush X0.here hx rfl (hb hby d5_10) ?_
    refine XS.iloadN X0.here hx rfl (hb hby d5_12) rfl ?_
    refine XS.imul X0.here hx rfl (hb hby d5_13) rfl ?_
    refine XS.lushr X0.here hx rfl (hb hby d5_14) rfl ?_
    refine XS.l2i X0.here hx rfl (hb hby d5_15) rfl ?_
    show Steps pP.tables eE below (s₁.setTop (mkF mM 16 #[.val (.ref x), .val (.long q), .second, .val (.int i), .val (.int n)] [(.int ((q.toUInt64 >>> (((8 : Int32) * i) &&& 0x3f).toInt64.toUInt64).toInt64).toInt32), (.int wv)])) _
    refine XS.i2b X0.here hx rfl (hb hby d5_16) rfl ?_
    refine XS.icmpNo X0.here hx rfl (hb hby d5_17) rfl (teq hwv).2 ?_
    refine XS.iconst X0.here hx rfl (hb hby d5_20) ?_
    refine XS.goto X0.here hx rfl (pc0 := 21) (pc' := 25) rfl (hb hby d5_21) (by decide) (by decide) ?_
    exact kg)
  clear pre0
  obtain ⟨fs, hr, hrun, hended, hW, hsame⟩ := X0.leave (v := some (.int (1 : Int32))) (fun h => by rw [Bd.returns] at h; cases h)
  refine ⟨_, _, pr1 _ (retOut X0 hx (t := .boolean) Bd.returns rfl (Or.inl ⟨rfl, Or.inr (Or.inl rfl), _, rfl⟩) (hb hby d5_25) hr), hrun, hended, _, _, rfl, ?_, ⟨_, rfl⟩, hW, hsame.mono (by decide) (by decide)⟩
  show Q5 Z x q i n cl wv h0 n0 _ s₁.heap _
  rw [e0]
  exact ⟨rfl, N0, rfl⟩
theorem own_w0 (q0 : Int64) : nar .byte q0.toInt32.toInt8.toInt32 = ((q0.toUInt64 >>> (((8 : Int32) * (0 : Int32)) &&& 0x3f).toInt64.toUInt64).toInt64).toInt32.toInt8.toInt32 := by
  rw [own_nb]
  show _ = ((q0.toUInt64 >>> ((0 : Int32) &&& 0x3f).toInt64.toUInt64).toInt64).toInt32.toInt8.toInt32
  rw [own_sh0]
theorem own_w1 (q0 : Int64) : nar .byte ((q0.toUInt64 >>> ((8 : Int32) &&& 0x3f).toInt64.toUInt64).toInt64).toInt32.toInt8.toInt32 = ((q0.toUInt64 >>> (((8 : Int32) * (1 : Int32)) &&& 0x3f).toInt64.toUInt64).toInt64).toInt32.toInt8.toInt32 := by
  rw [own_nb]
  rfl
theorem own_w2 (q0 : Int64) : nar .byte ((q0.toUInt64 >>> ((16 : Int32) &&& 0x3f).toInt64.toUInt64).toInt64).toInt32.toInt8.toInt32 = ((q0.toUInt64 >>> (((8 : Int32) * (2 : Int32)) &&& 0x3f).toInt64.toUInt64).toInt64).toInt32.toInt8.toInt32 := by
  rw [own_nb]
  rfl
theorem own_w3 (q0 : Int64) : nar .byte ((q0.toUInt64 >>> ((24 : Int32) &&& 0x3f).toInt64.toUInt64).toInt64).toInt32.toInt8.toInt32 = ((q0.toUInt64 >>> (((8 : Int32) * (3 : Int32)) &&& 0x3f).toInt64.toUInt64).toInt64).toInt32.toInt8.toInt32 := by
  rw [own_nb]
  rfl
theorem own_w4 (q0 : Int64) : nar .byte ((q0.toUInt64 >>> ((32 : Int32) &&& 0x3f).toInt64.toUInt64).toInt64).toInt32.toInt8.toInt32 = ((q0.toUInt64 >>> (((8 : Int32) * (4 : Int32)) &&& 0x3f).toInt64.toUInt64).toInt64).toInt32.toInt8.toInt32 := by
  rw [own_nb]
  rfl
theorem own_w5 (q0 : Int64) : nar .byte ((q0.toUInt64 >>> ((40 : Int32) &&& 0x3f).toInt64.toUInt64).toInt64).toInt32.toInt8.toInt32 = ((q0.toUInt64 >>> (((8 : Int32) * (5 : Int32)) &&& 0x3f).toInt64.toUInt64).toInt64).toInt32.toInt8.toInt32 := by
  rw [own_nb]
  rfl
theorem own_w6 (q0 : Int64) : nar .byte ((q0.toUInt64 >>> ((48 : Int32) &&& 0x3f).toInt64.toUInt64).toInt64).toInt32.toInt8.toInt32 = ((q0.toUInt64 >>> (((8 : Int32) * (6 : Int32)) &&& 0x3f).toInt64.toUInt64).toInt64).toInt32.toInt8.toInt32 := by
  rw [own_nb]
  rfl
theorem own_34 {z : Int32} (h1 : 0 ≤ z.toInt) (h2 : z.toInt < 34) : z = (0 : Int32) ∨ z = (1 : Int32) ∨ z = (2 : Int32) ∨ z = (3 : Int32) ∨ z = (4 : Int32) ∨ z = (5 : Int32) ∨ z = (6 : Int32) ∨ z = (7 : Int32) ∨ z = (8 : Int32) ∨ z = (9 : Int32) ∨ z = (10 : Int32) ∨ z = (11 : Int32) ∨ z = (12 : Int32) ∨ z = (13 : Int32) ∨ z = (14 : Int32) ∨ z = (15 : Int32) ∨ z = (16 : Int32) ∨ z = (17 : Int32) ∨ z = (18 : Int32) ∨ z = (19 : Int32) ∨ z = (20 : Int32) ∨ z = (21 : Int32) ∨ z = (22 : Int32) ∨ z = (23 : Int32) ∨ z = (24 : Int32) ∨ z = (25 : Int32) ∨ z = (26 : Int32) ∨ z = (27 : Int32) ∨ z = (28 : Int32) ∨ z = (29 : Int32) ∨ z = (30 : Int32) ∨ z = (31 : Int32) ∨ z = (32 : Int32) ∨ z = (33 : Int32) := by
  have h : z.toInt = 0 ∨ z.toInt = 1 ∨ z.toInt = 2 ∨ z.toInt = 3 ∨ z.toInt = 4 ∨ z.toInt = 5 ∨ z.toInt = 6 ∨ z.toInt = 7 ∨ z.toInt = 8 ∨ z.toInt = 9 ∨ z.toInt = 10 ∨ z.toInt = 11 ∨ z.toInt = 12 ∨ z.toInt = 13 ∨ z.toInt = 14 ∨ z.toInt = 15 ∨ z.toInt = 16 ∨ z.toInt = 17 ∨ z.toInt = 18 ∨ z.toInt = 19 ∨ z.toInt = 20 ∨ z.toInt = 21 ∨ z.toInt = 22 ∨ z.toInt = 23 ∨ z.toInt = 24 ∨ z.toInt = 25 ∨ z.toInt = 26 ∨ z.toInt = 27 ∨ z.toInt = 28 ∨ z.toInt = 29 ∨ z.toInt = 30 ∨ z.toInt = 31 ∨ z.toInt = 32 ∨ z.toInt = 33 := by omega
  rcases h with h | h | h | h | h | h | h | h | h | h | h | h | h | h | h | h | h | h | h | h | h | h | h | h | h | h | h | h | h | h | h | h | h | h
  · exact Or.inl (Int32.toInt_inj.mp h)
  · exact Or.inr (Or.inl (Int32.toInt_inj.mp h))
  · exact Or.inr (Or.inr (Or.inl (Int32.toInt_inj.mp h)))
  · exact Or.inr (Or.inr (Or.inr (Or.inl (Int32.toInt_inj.mp h))))
  · exact Or.inr (Or.inr (Or.inr (Or.inr (Or.inl (Int32.toInt_inj.mp h)))))
  · exact Or.inr (Or.inr (Or.inr (Or.inr (Or.inr (Or.inl (Int32.toInt_inj.mp h))))))
  · exact Or.inr (Or.inr (Or.inr (Or.inr (Or.inr (Or.inr (Or.inl (Int32.toInt_inj.mp h)))))))
  · exact Or.inr (Or.inr (Or.inr (Or.inr (Or.inr (Or.inr (Or.inr (Or.inl (Int32.toInt_inj.mp h))))))))
  · exact Or.inr (Or.inr (Or.inr (Or.inr (Or.inr (Or.inr (Or.inr (Or.inr (Or.inl (Int32.toInt_inj.mp h)))))))))
  · exact Or.inr (Or.inr (Or.inr (Or.inr (Or.inr (Or.inr (Or.inr (Or.inr (Or.inr (Or.inl (Int32.toInt_inj.mp h))))))))))
  · exact Or.inr (Or.inr (Or.inr (Or.inr (Or.inr (Or.inr (Or.inr (Or.inr (Or.inr (Or.inr (Or.inl (Int32.toInt_inj.mp h)))))))))))
  · exact Or.inr (Or.inr (Or.inr (Or.inr (Or.inr (Or.inr (Or.inr (Or.inr (Or.inr (Or.inr (Or.inr (Or.inl (Int32.toInt_inj.mp h))))))))))))
  · exact Or.inr (Or.inr (Or.inr (Or.inr (Or.inr (Or.inr (Or.inr (Or.inr (Or.inr (Or.inr (Or.inr (Or.inr (Or.inl (Int32.toInt_inj.mp h)))))))))))))
  · exact Or.inr (Or.inr (Or.inr (Or.inr (Or.inr (Or.inr (Or.inr (Or.inr (Or.inr (Or.inr (Or.inr (Or.inr (Or.inr (Or.inl (Int32.toInt_inj.mp h))))))))))))))
  · exact Or.inr (Or.inr (Or.inr (Or.inr (Or.inr (Or.inr (Or.inr (Or.inr (Or.inr (Or.inr (Or.inr (Or.inr (Or.inr (Or.inr (Or.inl (Int32.toInt_inj.mp h)))))))))))))))
  · exact Or.inr (Or.inr (Or.inr (Or.inr (Or.inr (Or.inr (Or.inr (Or.inr (Or.inr (Or.inr (Or.inr (Or.inr (Or.inr (Or.inr (Or.inr (Or.inl (Int32.toInt_inj.mp h))))))))))))))))
  · exact Or.inr (Or.inr (Or.inr (Or.inr (Or.inr (Or.inr (Or.inr (Or.inr (Or.inr (Or.inr (Or.inr (Or.inr (Or.inr (Or.inr (Or.inr (Or.inr (Or.inl (Int32.toInt_inj.mp h)))))))))))))))))
  · exact Or.inr (Or.inr (Or.inr (Or.inr (Or.inr (Or.inr (Or.inr (Or.inr (Or.inr (Or.inr (Or.inr (Or.inr (Or.inr (Or.inr (Or.inr (Or.inr (Or.inr (Or.inl (Int32.toInt_inj.mp h))))))))))))))))))
  · exact Or.inr (Or.inr (Or.inr (Or.inr (Or.inr (Or.inr (Or.inr (Or.inr (Or.inr (Or.inr (Or.inr (Or.inr (Or.inr (Or.inr (Or.inr (Or.inr (Or.inr (Or.inr (Or.inl (Int32.toInt_inj.mp h)))))))))))))))))))
  · exact Or.inr (Or.inr (Or.inr (Or.inr (Or.inr (Or.inr (Or.inr (Or.inr (Or.inr (Or.inr (Or.inr (Or.inr (Or.inr (Or.inr (Or.inr (Or.inr (Or.inr (Or.inr (Or.inr (Or.inl (Int32.toInt_inj.mp h))))))))))))))))))))
  · exact Or.inr (Or.inr (Or.inr (Or.inr (Or.inr (Or.inr (Or.inr (Or.inr (Or.inr (Or.inr (Or.inr (Or.inr (Or.inr (Or.inr (Or.inr (Or.inr (Or.inr (Or.inr (Or.inr (Or.inr (Or.inl (Int32.toInt_inj.mp h)))))))))))))))))))))
  · exact Or.inr (Or.inr (Or.inr (Or.inr (Or.inr (Or.inr (Or.inr (Or.inr (Or.inr (Or.inr (Or.inr (Or.inr (Or.inr (Or.inr (Or.inr (Or.inr (Or.inr (Or.inr (Or.inr (Or.inr (Or.inr (Or.inl (Int32.toInt_inj.mp h))))))))))))))))))))))
  · exact Or.inr (Or.inr (Or.inr (Or.inr (Or.inr (Or.inr (Or.inr (Or.inr (Or.inr (Or.inr (Or.inr (Or.inr (Or.inr (Or.inr (Or.inr (Or.inr (Or.inr (Or.inr (Or.inr (Or.inr (Or.inr (Or.inr (Or.inl (Int32.toInt_inj.mp h)))))))))))))))))))))))
  · exact Or.inr (Or.inr (Or.inr (Or.inr (Or.inr (Or.inr (Or.inr (Or.inr (Or.inr (Or.inr (Or.inr (Or.inr (Or.inr (Or.inr (Or.inr (Or.inr (Or.inr (Or.inr (Or.inr (Or.inr (Or.inr (Or.inr (Or.inr (Or.inl (Int32.toInt_inj.mp h))))))))))))))))))))))))
  · exact Or.inr (Or.inr (Or.inr (Or.inr (Or.inr (Or.inr (Or.inr (Or.inr (Or.inr (Or.inr (Or.inr (Or.inr (Or.inr (Or.inr (Or.inr (Or.inr (Or.inr (Or.inr (Or.inr (Or.inr (Or.inr (Or.inr (Or.inr (Or.inr (Or.inl (Int32.toInt_inj.mp h)))))))))))))))))))))))))
  · exact Or.inr (Or.inr (Or.inr (Or.inr (Or.inr (Or.inr (Or.inr (Or.inr (Or.inr (Or.inr (Or.inr (Or.inr (Or.inr (Or.inr (Or.inr (Or.inr (Or.inr (Or.inr (Or.inr (Or.inr (Or.inr (Or.inr (Or.inr (Or.inr (Or.inr (Or.inl (Int32.toInt_inj.mp h))))))))))))))))))))))))))
  · exact Or.inr (Or.inr (Or.inr (Or.inr (Or.inr (Or.inr (Or.inr (Or.inr (Or.inr (Or.inr (Or.inr (Or.inr (Or.inr (Or.inr (Or.inr (Or.inr (Or.inr (Or.inr (Or.inr (Or.inr (Or.inr (Or.inr (Or.inr (Or.inr (Or.inr (Or.inr (Or.inl (Int32.toInt_inj.mp h)))))))))))))))))))))))))))
  · exact Or.inr (Or.inr (Or.inr (Or.inr (Or.inr (Or.inr (Or.inr (Or.inr (Or.inr (Or.inr (Or.inr (Or.inr (Or.inr (Or.inr (Or.inr (Or.inr (Or.inr (Or.inr (Or.inr (Or.inr (Or.inr (Or.inr (Or.inr (Or.inr (Or.inr (Or.inr (Or.inr (Or.inl (Int32.toInt_inj.mp h))))))))))))))))))))))))))))
  · exact Or.inr (Or.inr (Or.inr (Or.inr (Or.inr (Or.inr (Or.inr (Or.inr (Or.inr (Or.inr (Or.inr (Or.inr (Or.inr (Or.inr (Or.inr (Or.inr (Or.inr (Or.inr (Or.inr (Or.inr (Or.inr (Or.inr (Or.inr (Or.inr (Or.inr (Or.inr (Or.inr (Or.inr (Or.inl (Int32.toInt_inj.mp h)))))))))))))))))))))))))))))
  · exact Or.inr (Or.inr (Or.inr (Or.inr (Or.inr (Or.inr (Or.inr (Or.inr (Or.inr (Or.inr (Or.inr (Or.inr (Or.inr (Or.inr (Or.inr (Or.inr (Or.inr (Or.inr (Or.inr (Or.inr (Or.inr (Or.inr (Or.inr (Or.inr (Or.inr (Or.inr (Or.inr (Or.inr (Or.inr (Or.inl (Int32.toInt_inj.mp h))))))))))))))))))))))))))))))
  · exact Or.inr (Or.inr (Or.inr (Or.inr (Or.inr (Or.inr (Or.inr (Or.inr (Or.inr (Or.inr (Or.inr (Or.inr (Or.inr (Or.inr (Or.inr (Or.inr (Or.inr (Or.inr (Or.inr (Or.inr (Or.inr (Or.inr (Or.inr (Or.inr (Or.inr (Or.inr (Or.inr (Or.inr (Or.inr (Or.inr (Or.inl (Int32.toInt_inj.mp h)))))))))))))))))))))))))))))))
  · exact Or.inr (Or.inr (Or.inr (Or.inr (Or.inr (Or.inr (Or.inr (Or.inr (Or.inr (Or.inr (Or.inr (Or.inr (Or.inr (Or.inr (Or.inr (Or.inr (Or.inr (Or.inr (Or.inr (Or.inr (Or.inr (Or.inr (Or.inr (Or.inr (Or.inr (Or.inr (Or.inr (Or.inr (Or.inr (Or.inr (Or.inr (Or.inl (Int32.toInt_inj.mp h))))))))))))))))))))))))))))))))
  · exact Or.inr (Or.inr (Or.inr (Or.inr (Or.inr (Or.inr (Or.inr (Or.inr (Or.inr (Or.inr (Or.inr (Or.inr (Or.inr (Or.inr (Or.inr (Or.inr (Or.inr (Or.inr (Or.inr (Or.inr (Or.inr (Or.inr (Or.inr (Or.inr (Or.inr (Or.inr (Or.inr (Or.inr (Or.inr (Or.inr (Or.inr (Or.inr (Or.inl (Int32.toInt_inj.mp h)))))))))))))))))))))))))))))))))
  · exact Or.inr (Or.inr (Or.inr (Or.inr (Or.inr (Or.inr (Or.inr (Or.inr (Or.inr (Or.inr (Or.inr (Or.inr (Or.inr (Or.inr (Or.inr (Or.inr (Or.inr (Or.inr (Or.inr (Or.inr (Or.inr (Or.inr (Or.inr (Or.inr (Or.inr (Or.inr (Or.inr (Or.inr (Or.inr (Or.inr (Or.inr (Or.inr (Or.inr (Int32.toInt_inj.mp h)))))))))))))))))))))))))))))))))
theorem own_8 {z : Int32} (h1 : 0 ≤ z.toInt) (h2 : z.toInt < 8) : z = (0 : Int32) ∨ z = (1 : Int32) ∨ z = (2 : Int32) ∨ z = (3 : Int32) ∨ z = (4 : Int32) ∨ z = (5 : Int32) ∨ z = (6 : Int32) ∨ z = (7 : Int32) := by
  have h : z.toInt = 0 ∨ z.toInt = 1 ∨ z.toInt = 2 ∨ z.toInt = 3 ∨ z.toInt = 4 ∨ z.toInt = 5 ∨ z.toInt = 6 ∨ z.toInt = 7 := by omega
  rcases h with h | h | h | h | h | h | h | h
  · exact Or.inl (Int32.toInt_inj.mp h)
  · exact Or.inr (Or.inl (Int32.toInt_inj.mp h))
  · exact Or.inr (Or.inr (Or.inl (Int32.toInt_inj.mp h)))
  · exact Or.inr (Or.inr (Or.inr (Or.inl (Int32.toInt_inj.mp h))))
  · exact Or.inr (Or.inr (Or.inr (Or.inr (Or.inl (Int32.toInt_inj.mp h)))))
  · exact Or.inr (Or.inr (Or.inr (Or.inr (Or.inr (Or.inl (Int32.toInt_inj.mp h))))))
  · exact Or.inr (Or.inr (Or.inr (Or.inr (Or.inr (Or.inr (Or.inl (Int32.toInt_inj.mp h)))))))
  · exact Or.inr (Or.inr (Or.inr (Or.inr (Or.inr (Or.inr (Or.inr (Int32.toInt_inj.mp h)))))))
theorem own_rem34 (k : Int32) : 0 ≤ ((k &&& (2147483647 : Int32)) % (34 : Int32)).toInt ∧ ((k &&& (2147483647 : Int32)) % (34 : Int32)).toInt < 34 := by
  have e1 : (k &&& 2147483647).toInt = k.toInt % 2 ^ 31 := Jvm.Kit.i32_mask k 2147483647 (k := 31) (by decide) (by decide)
  have e5 : (34 : Int32).toInt = 34 := rfl
  have e2 := Jvm.Kit.i32_rem_nonneg (x := k &&& 2147483647) (y := 34) (by omega)
  rw [e5] at e2
  omega
theorem own_and7 (k : Int32) : 0 ≤ (k &&& (7 : Int32)).toInt ∧ (k &&& (7 : Int32)).toInt < 8 := by
  have e1 : (k &&& 7).toInt = k.toInt % 2 ^ 3 := Jvm.Kit.i32_mask k 7 (k := 3) (by decide) (by decide)
  omega
theorem own_in {z n : Int32} (h1 : 0 ≤ z.toInt) (h2 : z.toInt < n.toInt) : ¬ z < 0 ∧ z < n := by
  rw [Int32.lt_iff_toInt_lt, Int32.lt_iff_toInt_lt]
  exact ⟨by rw [show (0 : Int32).toInt = 0 from rfl]; omega, h2⟩
theorem pd_2 : parseMethodDescriptor "([B)[B" = some ⟨[(.array .byte)], some (.array .byte)⟩ := by decide +kernel
theorem pd_3 : parseMethodDescriptor "([BJII)Z" = some ⟨[(.array .byte), .long, .int, .int], some .boolean⟩ := by decide +kernel
theorem ef_0 (mM : MethodId) (x0 : Int32) (x1 : Int32) (x2 : Int64) : entryFrame mM #[(.int x0), (.int x1), (.long x2)] maxLocals = mkF mM 0 #[.val (.int x0), .val (.int x1), .val (.long x2), .second, .unset, .unset, .unset, .unset, .unset, .unset, .unset, .unset, .unset, .unset] [] := by first | (simp [entryFrame, mkF, argsToLocals, Value.category, maxLocals]; done) | rfl
def Q0 (Z : State) (p1 : Int32) (p2 : Int32) (q0 : Int64) (a_AE : Addr) (a_AS : Addr) (a_AT : Addr) (a_CS : Addr) (a_DA : Addr) (a_DS : Addr) (a_DT : Addr) (a_FD : Addr) (a_FL : Addr) (a_IS : Addr) (a_LO : Addr) (a_LT : Addr) (a_OB : Addr) (a_OD : Addr) (a_OF : Addr) (a_OL : Addr) (a_OV : Addr) (a_OW : Addr) (a_PN : Addr) (a_SH : Addr) (a_SL : Addr) (a_SQ : Addr) (a_SS : Addr) (a_ST : Addr) (a_SV : Addr) (a_TM : Addr) (a_UC : Addr) (a_UI : Addr) (a_UL : Addr) (a_UN : Addr) (a_UR : Addr) (a_US : Addr) (a_UT : Addr) (a_UV : Addr) (h0 : Heap) (n0 : Nat) (v : Option Value) (h : Heap) (L : List Loc) : Prop := v = some (.int (1 : Int32)) ∧ Fr n0 L
set_option maxRecDepth 65536 in
set_option maxHeartbeats 40000000 in
theorem rm0 (l : Launch) (Z : State) (a0 : Array Value) (hw : ∀ d ∈ tables_1, d.before a0 Z = true) (ws : List Jvm.Cond) (p1 : Int32) (p2 : Int32) (q0 : Int64) (a_AE : Addr) (a_AS : Addr) (a_AT : Addr) (a_CS : Addr) (a_DA : Addr) (a_DS : Addr) (a_DT : Addr) (a_FD : Addr) (a_FL : Addr) (a_IS : Addr) (a_LO : Addr) (a_LT : Addr) (a_OB : Addr) (a_OD : Addr) (a_OF : Addr) (a_OL : Addr) (a_OV : Addr) (a_OW : Addr) (a_PN : Addr) (a_SH : Addr) (a_SL : Addr) (a_SQ : Addr) (a_SS : Addr) (a_ST : Addr) (a_SV : Addr) (a_TM : Addr) (a_UC : Addr) (a_UI : Addr) (a_UL : Addr) (a_UN : Addr) (a_UR : Addr) (a_US : Addr) (a_UT : Addr) (a_UV : Addr) (h0 : Heap) (n0 : Nat) (Z0 : n0 ≤ h0.size) (O : Old Z n0 h0) (S_AE : Sta Z Z.heap "com/example/tesserae/tesserae/value/Vr" "AE" "Lcom/example/tesserae/tesserae/value/Vr;" (.ref a_AE)) (E_AE : Exa Z Z.heap a_AE "com/example/tesserae/tesserae/value/Vr") (S_AS : Sta Z Z.heap "com/example/tesserae/tesserae/value/Vr" "AS" "Lcom/example/tesserae/tesserae/value/Vr;" (.ref a_AS)) (E_AS : Exa Z Z.heap a_AS "com/example/tesserae/tesserae/value/Vr") (S_AT : Sta Z Z.heap "com/example/tesserae/tesserae/value/Vr" "AT" "Lcom/example/tesserae/tesserae/value/Vr;" (.ref a_AT)) (E_AT : Exa Z Z.heap a_AT "com/example/tesserae/tesserae/value/Vr") (S_CS : Sta Z Z.heap "com/example/tesserae/tesserae/value/Vr" "CS" "Lcom/example/tesserae/tesserae/value/Vr;" (.ref a_CS)) (E_CS : Exa Z Z.heap a_CS "com/example/tesserae/tesserae/value/Vr") (S_DA : Sta Z Z.heap "com/example/tesserae/tesserae/value/Vr" "DA" "Lcom/example/tesserae/tesserae/value/Vr;" (.ref a_DA)) (E_DA : Exa Z Z.heap a_DA "com/example/tesserae/tesserae/value/Vr") (S_DS : Sta Z Z.heap "com/example/tesserae/tesserae/value/Vr" "DS" "Lcom/example/tesserae/tesserae/value/Vr;" (.ref a_DS)) (E_DS : Exa Z Z.heap a_DS "com/example/tesserae/tesserae/value/Vr") (S_DT : Sta Z Z.heap "com/example/tesserae/tesserae/value/Vr" "DT" "Lcom/example/tesserae/tesserae/value/Vr;" (.ref a_DT)) (E_DT : Exa Z Z.heap a_DT "com/example/tesserae/tesserae/value/Vr") (S_FD : Sta Z Z.heap "com/example/tesserae/tesserae/value/Vr" "FD" "Lcom/example/tesserae/tesserae/value/Vr;" (.ref a_FD)) (E_FD : Exa Z Z.heap a_FD "com/example/tesserae/tesserae/value/Vr") (S_FL : Sta Z Z.heap "com/example/tesserae/tesserae/value/Vr" "FL" "Lcom/example/tesserae/tesserae/value/Vr;" (.ref a_FL)) (E_FL : Exa Z Z.heap a_FL "com/example/tesserae/tesserae/value/Vr") (S_IS : Sta Z Z.heap "com/example/tesserae/tesserae/value/Vr" "IS" "Lcom/example/tesserae/tesserae/value/Vr;" (.ref a_IS)) (E_IS : Exa Z Z.heap a_IS "com/example/tesserae/tesserae/value/Vr") (S_LO : Sta Z Z.heap "com/example/tesserae/tesserae/value/Vr" "LO" "Lcom/example/tesserae/tesserae/value/Vr;" (.ref a_LO)) (E_LO : Exa Z Z.heap a_LO "com/example/tesserae/tesserae/value/Vr") (S_LT : Sta Z Z.heap "com/example/tesserae/tesserae/value/Vr" "LT" "Lcom/example/tesserae/tesserae/value/Vr;" (.ref a_LT)) (E_LT : Exa Z Z.heap a_LT "com/example/tesserae/tesserae/value/Vr") (S_OB : Sta Z Z.heap "com/example/tesserae/tesserae/value/Vr" "OB" "Lcom/example/tesserae/tesserae/value/Vr;" (.ref a_OB)) (E_OB : Exa Z Z.heap a_OB "com/example/tesserae/tesserae/value/Vr") (S_OD : Sta Z Z.heap "com/example/tesserae/tesserae/value/Vr" "OD" "Lcom/example/tesserae/tesserae/value/Vr;" (.ref a_OD)) (E_OD : Exa Z Z.heap a_OD "com/example/tesserae/tesserae/value/Vr") (S_OF : Sta Z Z.heap "com/example/tesserae/tesserae/value/Vr" "OF" "Lcom/example/tesserae/tesserae/value/Vr;" (.ref a_OF)) (E_OF : Exa Z Z.heap a_OF "com/example/tesserae/tesserae/value/Vr") (S_OL : Sta Z Z.heap "com/example/tesserae/tesserae/value/Vr" "OL" "Lcom/example/tesserae/tesserae/value/Vr;" (.ref a_OL)) (E_OL : Exa Z Z.heap a_OL "com/example/tesserae/tesserae/value/Vr") (S_OV : Sta Z Z.heap "com/example/tesserae/tesserae/value/Vr" "OV" "Lcom/example/tesserae/tesserae/value/Vr;" (.ref a_OV)) (E_OV : Exa Z Z.heap a_OV "com/example/tesserae/tesserae/value/Vr") (S_OW : Sta Z Z.heap "com/example/tesserae/tesserae/value/Vr" "OW" "Lcom/example/tesserae/tesserae/value/Vr;" (.ref a_OW)) (E_OW : Exa Z Z.heap a_OW "com/example/tesserae/tesserae/value/Vr") (S_PN : Sta Z Z.heap "com/example/tesserae/tesserae/value/Vr" "PN" "Lcom/example/tesserae/tesserae/value/Vr;" (.ref a_PN)) (E_PN : Exa Z Z.heap a_PN "com/example/tesserae/tesserae/value/Vr") (S_SH : Sta Z Z.heap "com/example/tesserae/tesserae/value/Vr" "SH" "Lcom/example/tesserae/tesserae/value/Vr;" (.ref a_SH)) (E_SH : Exa Z Z.heap a_SH "com/example/tesserae/tesserae/value/Vr") (S_SL : Sta Z Z.heap "com/example/tesserae/tesserae/value/Vr" "SL" "Lcom/example/tesserae/tesserae/value/Vr;" (.ref a_SL)) (E_SL : Exa Z Z.heap a_SL "com/example/tesserae/tesserae/value/Vr") (S_SQ : Sta Z Z.heap "com/example/tesserae/tesserae/value/Vr" "SQ" "Lcom/example/tesserae/tesserae/value/Vr;" (.ref a_SQ)) (E_SQ : Exa Z Z.heap a_SQ "com/example/tesserae/tesserae/value/Vr") (S_SS : Sta Z Z.heap "com/example/tesserae/tesserae/value/Vr" "SS" "Lcom/example/tesserae/tesserae/value/Vr;" (.ref a_SS)) (E_SS : Exa Z Z.heap a_SS "com/example/tesserae/tesserae/value/Vr") (S_ST : Sta Z Z.heap "com/example/tesserae/tesserae/value/Vr" "ST" "Lcom/example/tesserae/tesserae/value/Vr;" (.ref a_ST)) (E_ST : Exa Z Z.heap a_ST "com/example/tesserae/tesserae/value/Vr") (S_SV : Sta Z Z.heap "com/example/tesserae/tesserae/value/Vr" "SV" "Lcom/example/tesserae/tesserae/value/Vr;" (.ref a_SV)) (E_SV : Exa Z Z.heap a_SV "com/example/tesserae/tesserae/value/Vr") (S_TM : Sta Z Z.heap "com/example/tesserae/tesserae/value/Vr" "TM" "Lcom/example/tesserae/tesserae/value/Vr;" (.ref a_TM)) (E_TM : Exa Z Z.heap a_TM "com/example/tesserae/tesserae/value/Vr") (S_UC : Sta Z Z.heap "com/example/tesserae/tesserae/value/Vr" "UC" "Lcom/example/tesserae/tesserae/value/Vr;" (.ref a_UC)) (E_UC : Exa Z Z.heap a_UC "com/example/tesserae/tesserae/value/Vr") (S_UI : Sta Z Z.heap "com/example/tesserae/tesserae/value/Vr" "UI" "Lcom/example/tesserae/tesserae/value/Vr;" (.ref a_UI)) (E_UI : Exa Z Z.heap a_UI "com/example/tesserae/tesserae/value/Vr") (S_UL : Sta Z Z.heap "com/example/tesserae/tesserae/value/Vr" "UL" "Lcom/example/tesserae/tesserae/value/Vr;" (.ref a_UL)) (E_UL : Exa Z Z.heap a_UL "com/example/tesserae/tesserae/value/Vr") (S_UN : Sta Z Z.heap "com/example/tesserae/tesserae/value/Vr" "UN" "Lcom/example/tesserae/tesserae/value/Vr;" (.ref a_UN)) (E_UN : Exa Z Z.heap a_UN "com/example/tesserae/tesserae/value/Vr") (S_UR : Sta Z Z.heap "com/example/tesserae/tesserae/value/Vr" "UR" "Lcom/example/tesserae/tesserae/value/Vr;" (.ref a_UR)) (E_UR : Exa Z Z.heap a_UR "com/example/tesserae/tesserae/value/Vr") (S_US : Sta Z Z.heap "com/example/tesserae/tesserae/value/Vr" "US" "Lcom/example/tesserae/tesserae/value/Vr;" (.ref a_US)) (E_US : Exa Z Z.heap a_US "com/example/tesserae/tesserae/value/Vr") (S_UT : Sta Z Z.heap "com/example/tesserae/tesserae/value/Vr" "UT" "Lcom/example/tesserae/tesserae/value/Vr;" (.ref a_UT)) (E_UT : Exa Z Z.heap a_UT "com/example/tesserae/tesserae/value/Vr") (S_UV : Sta Z Z.heap "com/example/tesserae/tesserae/value/Vr" "UV" "Lcom/example/tesserae/tesserae/value/Vr;" (.ref a_UV)) (E_UV : Exa Z Z.heap a_UV "com/example/tesserae/tesserae/value/Vr") (F_AE_text : Fld Z Z.heap a_AE "com/example/tesserae/tesserae/value/Vr" "text" "Z" (.int (1 : Int32))) (F_AE_ordinal : Fld Z Z.heap a_AE "java/lang/Enum" "ordinal" "I" (.int (0 : Int32))) (F_UI_ordinal : Fld Z Z.heap a_UI "java/lang/Enum" "ordinal" "I" (.int (27 : Int32))) (F_OB_text : Fld Z Z.heap a_OB "com/example/tesserae/tesserae/value/Vr" "text" "Z" (.int (0 : Int32))) (F_LT_text : Fld Z Z.heap a_LT "com/example/tesserae/tesserae/value/Vr" "text" "Z" (.int (1 : Int32))) (F_LT_ordinal : Fld Z Z.heap a_LT "java/lang/Enum" "ordinal" "I" (.int (11 : Int32))) (F_PN_text : Fld Z Z.heap a_PN "com/example/tesserae/tesserae/value/Vr" "text" "Z" (.int (1 : Int32))) (F_PN_ordinal : Fld Z Z.heap a_PN "java/lang/Enum" "ordinal" "I" (.int (18 : Int32))) (F_FL_text : Fld Z Z.heap a_FL "com/example/tesserae/tesserae/value/Vr" "text" "Z" (.int (0 : Int32))) (F_LO_text : Fld Z Z.heap a_LO "com/example/tesserae/tesserae/value/Vr" "text" "Z" (.int (1 : Int32))) (F_LO_ordinal : Fld Z Z.heap a_LO "java/lang/Enum" "ordinal" "I" (.int (10 : Int32))) (F_AS_text : Fld Z Z.heap a_AS "com/example/tesserae/tesserae/value/Vr" "text" "Z" (.int (1 : Int32))) (F_AS_ordinal : Fld Z Z.heap a_AS "java/lang/Enum" "ordinal" "I" (.int (1 : Int32))) (F_AT_text : Fld Z Z.heap a_AT "com/example/tesserae/tesserae/value/Vr" "text" "Z" (.int (0 : Int32))) (F_CS_text : Fld Z Z.heap a_CS "com/example/tesserae/tesserae/value/Vr" "text" "Z" (.int (1 : Int32))) (F_CS_ordinal : Fld Z Z.heap a_CS "java/lang/Enum" "ordinal" "I" (.int (3 : Int32))) (F_FD_text : Fld Z Z.heap a_FD "com/example/tesserae/tesserae/value/Vr" "text" "Z" (.int (0 : Int32))) (F_OW_text : Fld Z Z.heap a_OW "com/example/tesserae/tesserae/value/Vr" "text" "Z" (.int (0 : Int32))) (F_IS_text : Fld Z Z.heap a_IS "com/example/tesserae/tesserae/value/Vr" "text" "Z" (.int (1 : Int32))) (F_IS_ordinal : Fld Z Z.heap a_IS "java/lang/Enum" "ordinal" "I" (.int (9 : Int32))) (F_DS_text : Fld Z Z.heap a_DS "com/example/tesserae/tesserae/value/Vr" "text" "Z" (.int (1 : Int32))) (F_DS_ordinal : Fld Z Z.heap a_DS "java/lang/Enum" "ordinal" "I" (.int (5 : Int32))) (F_UV_text : Fld Z Z.heap a_UV "com/example/tesserae/tesserae/value/Vr" "text" "Z" (.int (0 : Int32))) (F_SQ_text : Fld Z Z.heap a_SQ "com/example/tesserae/tesserae/value/Vr" "text" "Z" (.int (0 : Int32))) (F_TM_text : Fld Z Z.heap a_TM "com/example/tesserae/tesserae/value/Vr" "text" "Z" (.int (1 : Int32))) (F_TM_ordinal : Fld Z Z.heap a_TM "java/lang/Enum" "ordinal" "I" (.int (25 : Int32))) (F_UR_text : Fld Z Z.heap a_UR "com/example/tesserae/tesserae/value/Vr" "text" "Z" (.int (1 : Int32))) (F_UR_ordinal : Fld Z Z.heap a_UR "java/lang/Enum" "ordinal" "I" (.int (30 : Int32))) (F_DA_text : Fld Z Z.heap a_DA "com/example/tesserae/tesserae/value/Vr" "text" "Z" (.int (1 : Int32))) (F_DA_ordinal : Fld Z Z.heap a_DA "java/lang/Enum" "ordinal" "I" (.int (4 : Int32))) (F_UN_text : Fld Z Z.heap a_UN "com/example/tesserae/tesserae/value/Vr" "text" "Z" (.int (0 : Int32))) (F_SL_text : Fld Z Z.heap a_SL "com/example/tesserae/tesserae/value/Vr" "text" "Z" (.int (0 : Int32))) (F_OV_text : Fld Z Z.heap a_OV "com/example/tesserae/tesserae/value/Vr" "text" "Z" (.int (0 : Int32))) (F_SV_text : Fld Z Z.heap a_SV "com/example/tesserae/tesserae/value/Vr" "text" "Z" (.int (0 : Int32))) (F_OF_text : Fld Z Z.heap a_OF "com/example/tesserae/tesserae/value/Vr" "text" "Z" (.int (0 : Int32))) (F_OD_text : Fld Z Z.heap a_OD "com/example/tesserae/tesserae/value/Vr" "text" "Z" (.int (0 : Int32))) (F_DT_text : Fld Z Z.heap a_DT "com/example/tesserae/tesserae/value/Vr" "text" "Z" (.int (1 : Int32))) (F_DT_ordinal : Fld Z Z.heap a_DT "java/lang/Enum" "ordinal" "I" (.int (6 : Int32))) (F_SH_text : Fld Z Z.heap a_SH "com/example/tesserae/tesserae/value/Vr" "text" "Z" (.int (1 : Int32))) (F_SH_ordinal : Fld Z Z.heap a_SH "java/lang/Enum" "ordinal" "I" (.int (19 : Int32))) (F_OL_text : Fld Z Z.heap a_OL "com/example/tesserae/tesserae/value/Vr" "text" "Z" (.int (0 : Int32))) (F_ST_text : Fld Z Z.heap a_ST "com/example/tesserae/tesserae/value/Vr" "text" "Z" (.int (1 : Int32))) (F_ST_ordinal : Fld Z Z.heap a_ST "java/lang/Enum" "ordinal" "I" (.int (23 : Int32))) (F_SS_text : Fld Z Z.heap a_SS "com/example/tesserae/tesserae/value/Vr" "text" "Z" (.int (0 : Int32))) (F_US_text : Fld Z Z.heap a_US "com/example/tesserae/tesserae/value/Vr" "text" "Z" (.int (0 : Int32))) (F_UC_text : Fld Z Z.heap a_UC "com/example/tesserae/tesserae/value/Vr" "text" "Z" (.int (1 : Int32))) (F_UC_ordinal : Fld Z Z.heap a_UC "java/lang/Enum" "ordinal" "I" (.int (26 : Int32))) (F_UT_text : Fld Z Z.heap a_UT "com/example/tesserae/tesserae/value/Vr" "text" "Z" (.int (1 : Int32))) (F_UT_ordinal : Fld Z Z.heap a_UT "java/lang/Enum" "ordinal" "I" (.int (32 : Int32))) (F_UI_text : Fld Z Z.heap a_UI "com/example/tesserae/tesserae/value/Vr" "text" "Z" (.int (1 : Int32))) (F_UL_text : Fld Z Z.heap a_UL "com/example/tesserae/tesserae/value/Vr" "text" "Z" (.int (0 : Int32))) :
    MetFree l x (head1 (Jvm.Cond.code x code maxLocals ret :: ws) room_1) (fun aA uU => aA = #[(.int p1), (.int p2), (.long q0)] ∧ Z.Warmed39 uU.vm ∧ uU.heap = h0) (fun _ _ _ _ _ => True) (fun _ uU oO uU' => ∃ vV lL, oO = .returned vV ∧ Q0 Z p1 p2 q0 a_AE a_AS a_AT a_CS a_DA a_DS a_DT a_FD a_FL a_IS a_LO a_LT a_OB a_OD a_OF a_OL a_OV a_OW a_PN a_SH a_SL a_SQ a_SS a_ST a_SV a_TM a_UC a_UI a_UL a_UN a_UR a_US a_UT a_UV h0 n0 vV uU'.heap lL ∧ FrameEnd uU oO uU' lL room_1.cells room_1.slots) := by
  refine MetFree.of_bodySF (plainFor_of_name pn_2) hisR ?_
  intro pP eE sS mM args below meth cC s₁ Bd hml0 hP hK
  obtain ⟨rfl, hZ, hh⟩ := hP
  have hx := Bd.exec
  have hby := Bd.bytes
  have hml : cC.maxLocals = 14 := hml0
  have hown : sS.vm.findClass "com/example/tesserae/tesserae/value/VrPadPinLaw" = some mM.cls := findClass_of_methodNamed Bd.named
  have hnm := (name_of_methodNamed Bd.named Bd.method).1
  have X0 : Stand pP l eE room_1 sS mM #[(.int p1), (.int p2), (.long q0)] below meth cC s₁ [] 0 0 := Stand.of_body Bd
  have e0 : s₁.heap = h0 := by rw [← hh, Bd.state]; rfl
  have N0 := Fr.nil n0
  have pre0 : ∀ tg, Steps pP.tables eE below (s₁.setTop (mkF mM 0 #[.val (.int p1), .val (.int p2), .val (.long q0), .second, .unset, .unset, .unset, .unset, .unset, .unset, .unset, .unset, .unset, .unset] [])) tg → Steps pP.tables eE below (s₁.setTop (entryFrame mM #[(.int p1), (.int p2), (.long q0)] maxLocals)) tg := fun tg kg => castTop (ef_0 mM p1 p2 q0) kg
  have pr1 : ∀ tg, Steps pP.tables eE below (s₁.setTop (mkF mM 2 #[.val (.int p1), .val (.int p2), .val (.long q0), .second, .unset, .unset, .unset, .unset, .unset, .unset, .unset, .unset, .unset, .unset] [(.int (34 : Int32))])) tg → Steps pP.tables eE below (s₁.setTop (entryFrame mM #[(.int p1), (.int p2), (.long q0)] maxLocals)) tg := fun tg kg => pre0 _ (by
    show Steps pP.tables eE below (s₁.setTop (mkF mM 0 #[.val (.int p1), .val (.int p2), .val (.long q0), .second, .unset, .unset, .unset, .unset, .unset, .unset, .unset, .unset, .unset, .unset] [])) _
    refine XS.bipush X0.here hx rfl (hb hby at_0) ?_
    exact kg)
  clear pre0
  obtain ⟨T2, h2, k2, X2, e2, E2, A2, O2, st2⟩ := newR X0 hx hZ hown (hw _ (List.mem_of_getElem? (i := 0) rfl)) (hw _ (List.mem_of_getElem? (i := 1) rfl)) e0 (g := (mkF mM 2 #[.val (.int p1), .val (.int p2), .val (.long q0), .second, .unset, .unset, .unset, .unset, .unset, .unset, .unset, .unset, .unset, .unset] [(.int (34 : Int32))])) rfl (hb hby at_2) rfl (by decide) (cap := 34) (by decide) (by decide) (by decide) (by decide)
  obtain ⟨b2, g2⟩ : ∃ z, z = (h0).size := ⟨_, rfl⟩
  rw [← g2] at A2 st2
  have gn3 : n0 ≤ b2 := Nat.le_trans Z0 (Nat.le_of_eq g2.symm)
  have gs4 : h0.size ≤ b2 := Nat.le_trans (Keep.refl h0 []).1 (Nat.le_of_eq g2.symm)
  have V2 : Arv Z h2 b2 k2 (.object "com/example/tesserae/tesserae/value/Vr") (34 : Int32) [.null, .null, .null, .null, .null, .null, .null, .null, .null, .null, .null, .null, .null, .null, .null, .null, .null, .null, .null, .null, .null, .null, .null, .null, .null, .null, .null, .null, .null, .null, .null, .null, .null, .null] .null := (Arv.new A2 (by decide)).pad (pad_rep [] .null 34)
  have pr5 : ∀ tg, Steps pP.tables eE below (T2.setTop (mkF mM 5 #[.val (.int p1), .val (.int p2), .val (.long q0), .second, .unset, .unset, .unset, .unset, .unset, .unset, .unset, .unset, .unset, .unset] [(.ref b2)])) tg → Steps pP.tables eE below (s₁.setTop (entryFrame mM #[(.int p1), (.int p2), (.long q0)] maxLocals)) tg := fun tg kg => pr1 _ (st2 _ kg)
  clear pr1 st2 X0 e0
  have pr6 : ∀ tg, Steps pP.tables eE below (T2.setTop (mkF mM 7 #[.val (.int p1), .val (.int p2), .val (.long q0), .second, .unset, .unset, .unset, .unset, .unset, .unset, .unset, .unset, .unset, .unset] [(.int (0 : Int32)), (.ref b2), (.ref b2)])) tg → Steps pP.tables eE below (s₁.setTop (entryFrame mM #[(.int p1), (.int p2), (.long q0)] maxLocals)) tg := fun tg kg => pr5 _ (by
    show Steps pP.tables eE below (T2.setTop (mkF mM 5 #[.val (.int p1), .val (.int p2), .val (.long q0), .second, .unset, .unset, .unset, .unset, .unset, .unset, .unset, .unset, .unset, .unset] [(.ref b2)])) _
    refine XS.dup X2.here hx rfl (hb hby at_5) rfl rfl ?_
    refine XS.iconst X2.here hx rfl (hb hby at_6) ?_
    exact kg)
  clear pr5
  have c8 := (Old.ext O E2)
  obtain ⟨T7, X7, e7, st7⟩ := getS2 X2 hx hZ hown (host := "") (Or.inl (hw _ (List.mem_of_getElem? (i := 2) rfl))) Via.refl e2 (Sta.ext (c8).2 S_AE) (g := (mkF mM 7 #[.val (.int p1), .val (.int p2), .val (.long q0), .second, .unset, .unset, .unset, .unset, .unset, .unset, .unset, .unset, .unset, .unset] [(.int (0 : Int32)), (.ref b2), (.ref b2)])) rfl (hb hby at_7)
  have pr9 : ∀ tg, Steps pP.tables eE below (T7.setTop (mkF mM 10 #[.val (.int p1), .val (.int p2), .val (.long q0), .second, .unset, .unset, .unset, .unset, .unset, .unset, .unset, .unset, .unset, .unset] [(.ref a_AE), (.int (0 : Int32)), (.ref b2), (.ref b2)])) tg → Steps pP.tables eE below (s₁.setTop (entryFrame mM #[(.int p1), (.int p2), (.long q0)] maxLocals)) tg := fun tg kg => pr6 _ (st7 _ kg)
  clear pr6 st7 X2 e2
  obtain ⟨cla10, Ara10, qa10, Sa10, Ma10, Ha10, Ga10⟩ := id V2
  have hin11 : ¬ ((0 : Int32) < 0 ∨ cla10.slots.size ≤ ((0 : Int32)).toNatClampNeg) := inb_of Sa10 ⟨by decide, by decide⟩
  obtain ⟨T11, h11, X11, e11, W11, st11⟩ := stR X7 hx hZ e7 Ara10 (j := (0 : Int32)) hin11 rfl (Sto.ofV Ara10 qa10 O2 (Ins.self (Exa.ext (c8).2 E_AE))) (g := (mkF mM 10 #[.val (.int p1), .val (.int p2), .val (.long q0), .second, .unset, .unset, .unset, .unset, .unset, .unset, .unset, .unset, .unset, .unset] [(.ref a_AE), (.int (0 : Int32)), (.ref b2), (.ref b2)])) rfl rfl (hb hby at_10)
  have V11 : Arv Z h11 b2 k2 (.object "com/example/tesserae/tesserae/value/Vr") (34 : Int32) [(.ref a_AE), .null, .null, .null, .null, .null, .null, .null, .null, .null, .null, .null, .null, .null, .null, .null, .null, .null, .null, .null, .null, .null, .null, .null, .null, .null, .null, .null, .null, .null, .null, .null, .null, .null] .null := Arv.set Ara10 qa10 Sa10 Ma10 Ha10 Ga10 rfl W11 0 rfl (Nat.le_of_ble_eq_true rfl)
  have N11 := Fr.snoc X11 N0 gn3
  have pr12 : ∀ tg, Steps pP.tables eE below (T11.setTop (mkF mM 11 #[.val (.int p1), .val (.int p2), .val (.long q0), .second, .unset, .unset, .unset, .unset, .unset, .unset, .unset, .unset, .unset, .unset] [(.ref b2)])) tg → Steps pP.tables eE below (s₁.setTop (entryFrame mM #[(.int p1), (.int p2), (.long q0)] maxLocals)) tg := fun tg kg => pr9 _ (st11 _ kg)
  clear pr9 st11 X7 e7
  have pr13 : ∀ tg, Steps pP.tables eE below (T11.setTop (mkF mM 13 #[.val (.int p1), .val (.int p2), .val (.long q0), .second, .unset, .unset, .unset, .unset, .unset, .unset, .unset, .unset, .unset, .unset] [(.int (1 : Int32)), (.ref b2), (.ref b2)])) tg → Steps pP.tables eE below (s₁.setTop (entryFrame mM #[(.int p1), (.int p2), (.long q0)] maxLocals)) tg := fun tg kg => pr12 _ (by
    show Steps pP.tables eE below (T11.setTop (mkF mM 11 #[.val (.int p1), .val (.int p2), .val (.long q0), .second, .unset, .unset, .unset, .unset, .unset, .unset, .unset, .unset, .unset, .unset] [(.ref b2)])) _
    refine XS.dup X11.here hx rfl (hb hby at_11) rfl rfl ?_
    refine XS.iconst X11.here hx rfl (hb hby at_12) ?_
    exact kg)
  clear pr12
  have c15 := (Old.wr c8 W11 gn3)
  obtain ⟨T14, X14, e14, st14⟩ := getS2 X11 hx hZ hown (host := "") (Or.inl (hw _ (List.mem_of_getElem? (i := 6) rfl))) Via.refl e11 (Sta.ext (c15).2 S_AS) (g := (mkF mM 13 #[.val (.int p1), .val (.int p2), .val (.long q0), .second, .unset, .unset, .unset, .unset, .unset, .unset, .unset, .unset, .unset, .unset] [(.int (1 : Int32)), (.ref b2), (.ref b2)])) rfl (hb hby at_13)
  have pr16 : ∀ tg, Steps pP.tables eE below (T14.setTop (mkF mM 16 #[.val (.int p1), .val (.int p2), .val (.long q0), .second, .unset, .unset, .unset, .unset, .unset, .unset, .unset, .unset, .unset, .unset] [(.ref a_AS), (.int (1 : Int32)), (.ref b2), (.ref b2)])) tg → Steps pP.tables eE below (s₁.setTop (entryFrame mM #[(.int p1), (.int p2), (.long q0)] maxLocals)) tg := fun tg kg => pr13 _ (st14 _ kg)
  clear pr13 st14 X11 e11
  obtain ⟨cla17, Ara17, qa17, Sa17, Ma17, Ha17, Ga17⟩ := id V11
  have hin18 : ¬ ((1 : Int32) < 0 ∨ cla17.slots.size ≤ ((1 : Int32)).toNatClampNeg) := inb_of Sa17 ⟨by decide, by decide⟩
  obtain ⟨T18, h18, X18, e18, W18, st18⟩ := stR X14 hx hZ e14 Ara17 (j := (1 : Int32)) hin18 rfl (Sto.ofV Ara17 qa17 O2 (Ins.self (Exa.ext (c15).2 E_AS))) (g := (mkF mM 16 #[.val (.int p1), .val (.int p2), .val (.long q0), .second, .unset, .unset, .unset, .unset, .unset, .unset, .unset, .unset, .unset, .unset] [(.ref a_AS), (.int (1 : Int32)), (.ref b2), (.ref b2)])) rfl rfl (hb hby at_16)
  have V18 : Arv Z h18 b2 k2 (.object "com/example/tesserae/tesserae/value/Vr") (34 : Int32) [(.ref a_AE), (.ref a_AS), .null, .null, .null, .null, .null, .null, .null, .null, .null, .null, .null, .null, .null, .null, .null, .null, .null, .null, .null, .null, .null, .null, .null, .null, .null, .null, .null, .null, .null, .null, .null, .null] .null := Arv.set Ara17 qa17 Sa17 Ma17 Ha17 Ga17 rfl W18 1 rfl (Nat.le_of_ble_eq_true rfl)
  have N18 := Fr.snoc X18 N11 gn3
  have pr19 : ∀ tg, Steps pP.tables eE below (T18.setTop (mkF mM 17 #[.val (.int p1), .val (.int p2), .val (.long q0), .second, .unset, .unset, .unset, .unset, .unset, .unset, .unset, .unset, .unset, .unset] [(.ref b2)])) tg → Steps pP.tables eE below (s₁.setTop (entryFrame mM #[(.int p1), (.int p2), (.long q0)] maxLocals)) tg := fun tg kg => pr16 _ (st18 _ kg)
  clear pr16 st18 X14 e14
  have pr20 : ∀ tg, Steps pP.tables eE below (T18.setTop (mkF mM 19 #[.val (.int p1), .val (.int p2), .val (.long q0), .second, .unset, .unset, .unset, .unset, .unset, .unset, .unset, .unset, .unset, .unset] [(.int (2 : Int32)), (.ref b2), (.ref b2)])) tg → Steps pP.tables eE below (s₁.setTop (entryFrame mM #[(.int p1), (.int p2), (.long q0)] maxLocals)) tg := fun tg kg => pr19 _ (by
    show Steps pP.tables eE below (T18.setTop (mkF mM 17 #[.val (.int p1), .val (.int p2), .val (.long q0), .second, .unset, .unset, .unset, .unset, .unset, .unset, .unset, .unset, .unset, .unset] [(.ref b2)])) _
    refine XS.dup X18.here hx rfl (hb hby at_17) rfl rfl ?_
    refine XS.iconst X18.here hx rfl (hb hby at_18) ?_
    exact kg)
  clear pr19
  have c22 := (Old.wr c15 W18 gn3)
  obtain ⟨T21, X21, e21, st21⟩ := getS2 X18 hx hZ hown (host := "") (Or.inl (hw _ (List.mem_of_getElem? (i := 8) rfl))) Via.refl e18 (Sta.ext (c22).2 S_AT) (g := (mkF mM 19 #[.val (.int p1), .val (.int p2), .val (.long q0), .second, .unset, .unset, .unset, .unset, .unset, .unset, .unset, .unset, .unset, .unset] [(.int (2 : Int32)), (.ref b2), (.ref b2)])) rfl (hb hby at_19)
  have pr23 : ∀ tg, Steps pP.tables eE below (T21.setTop (mkF mM 22 #[.val (.int p1), .val (.int p2), .val (.long q0), .second, .unset, .unset, .unset, .unset, .unset, .unset, .unset, .unset, .unset, .unset] [(.ref a_AT), (.int (2 : Int32)), (.ref b2), (.ref b2)])) tg → Steps pP.tables eE below (s₁.setTop (entryFrame mM #[(.int p1), (.int p2), (.long q0)] maxLocals)) tg := fun tg kg => pr20 _ (st21 _ kg)
  clear pr20 st21 X18 e18
  obtain ⟨cla24, Ara24, qa24, Sa24, Ma24, Ha24, Ga24⟩ := id V18
  have hin25 : ¬ ((2 : Int32) < 0 ∨ cla24.slots.size ≤ ((2 : Int32)).toNatClampNeg) := inb_of Sa24 ⟨by decide, by decide⟩
  obtain ⟨T25, h25, X25, e25, W25, st25⟩ := stR X21 hx hZ e21 Ara24 (j := (2 : Int32)) hin25 rfl (Sto.ofV Ara24 qa24 O2 (Ins.self (Exa.ext (c22).2 E_AT))) (g := (mkF mM 22 #[.val (.int p1), .val (.int p2), .val (.long q0), .second, .unset, .unset, .unset, .unset, .unset, .unset, .unset, .unset, .unset, .unset] [(.ref a_AT), (.int (2 : Int32)), (.ref b2), (.ref b2)])) rfl rfl (hb hby at_22)
  have V25 : Arv Z h25 b2 k2 (.object "com/example/tesserae/tesserae/value/Vr") (34 : Int32) [(.ref a_AE), (.ref a_AS), (.ref a_AT), .null, .null, .null, .null, .null, .null, .null, .null, .null, .null, .null, .null, .null, .null, .null, .null, .null, .null, .null, .null, .null, .null, .null, .null, .null, .null, .null, .null, .null, .null, .null] .null := Arv.set Ara24 qa24 Sa24 Ma24 Ha24 Ga24 rfl W25 2 rfl (Nat.le_of_ble_eq_true rfl)
  have N25 := Fr.snoc X25 N18 gn3
  have pr26 : ∀ tg, Steps pP.tables eE below (T25.setTop (mkF mM 23 #[.val (.int p1), .val (.int p2), .val (.long q0), .second, .unset, .unset, .unset, .unset, .unset, .unset, .unset, .unset, .unset, .unset] [(.ref b2)])) tg → Steps pP.tables eE below (s₁.setTop (entryFrame mM #[(.int p1), (.int p2), (.long q0)] maxLocals)) tg := fun tg kg => pr23 _ (st25 _ kg)
  clear pr23 st25 X21 e21
  have pr27 : ∀ tg, Steps pP.tables eE below (T25.setTop (mkF mM 25 #[.val (.int p1), .val (.int p2), .val (.long q0), .second, .unset, .unset, .unset, .unset, .unset, .unset, .unset, .unset, .unset, .unset] [(.int (3 : Int32)), (.ref b2), (.ref b2)])) tg → Steps pP.tables eE below (s₁.setTop (entryFrame mM #[(.int p1), (.int p2), (.long q0)] maxLocals)) tg := fun tg kg => pr26 _ (by
    show Steps pP.tables eE below (T25.setTop (mkF mM 23 #[.val (.int p1), .val (.int p2), .val (.long q0), .second, .unset, .unset, .unset, .unset, .unset, .unset, .unset, .unset, .unset, .unset] [(.ref b2)])) _
    refine XS.dup X25.here hx rfl (hb hby at_23) rfl rfl ?_
    refine XS.iconst X25.here hx rfl (hb hby at_24) ?_
    exact kg)
  clear pr26
  have c29 := (Old.wr c22 W25 gn3)
  obtain ⟨T28, X28, e28, st28⟩ := getS2 X25 hx hZ hown (host := "") (Or.inl (hw _ (List.mem_of_getElem? (i := 10) rfl))) Via.refl e25 (Sta.ext (c29).2 S_CS) (g := (mkF mM 25 #[.val (.int p1), .val (.int p2), .val (.long q0), .second, .unset, .unset, .unset, .unset, .unset, .unset, .unset, .unset, .unset, .unset] [(.int (3 : Int32)), (.ref b2), (.ref b2)])) rfl (hb hby at_25)
  have pr30 : ∀ tg, Steps pP.tables eE below (T28.setTop (mkF mM 28 #[.val (.int p1), .val (.int p2), .val (.long q0), .second, .unset, .unset, .unset, .unset, .unset, .unset, .unset, .unset, .unset, .unset] [(.ref a_CS), (.int (3 : Int32)), (.ref b2), (.ref b2)])) tg → Steps pP.tables eE below (s₁.setTop (entryFrame mM #[(.int p1), (.int p2), (.long q0)] maxLocals)) tg := fun tg kg => pr27 _ (st28 _ kg)
  clear pr27 st28 X25 e25
  obtain ⟨cla31, Ara31, qa31, Sa31, Ma31, Ha31, Ga31⟩ := id V25
  have hin32 : ¬ ((3 : Int32) < 0 ∨ cla31.slots.size ≤ ((3 : Int32)).toNatClampNeg) := inb_of Sa31 ⟨by decide, by decide⟩
  obtain ⟨T32, h32, X32, e32, W32, st32⟩ := stR X28 hx hZ e28 Ara31 (j := (3 : Int32)) hin32 rfl (Sto.ofV Ara31 qa31 O2 (Ins.self (Exa.ext (c29).2 E_CS))) (g := (mkF mM 28 #[.val (.int p1), .val (.int p2), .val (.long q0), .second, .unset, .unset, .unset, .unset, .unset, .unset, .unset, .unset, .unset, .unset] [(.ref a_CS), (.int (3 : Int32)), (.ref b2), (.ref b2)])) rfl rfl (hb hby at_28)
  have V32 : Arv Z h32 b2 k2 (.object "com/example/tesserae/tesserae/value/Vr") (34 : Int32) [(.ref a_AE), (.ref a_AS), (.ref a_AT), (.ref a_CS), .null, .null, .null, .null, .null, .null, .null, .null, .null, .null, .null, .null, .null, .null, .null, .null, .null, .null, .null, .null, .null, .null, .null, .null, .null, .null, .null, .null, .null, .null] .null := Arv.set Ara31 qa31 Sa31 Ma31 Ha31 Ga31 rfl W32 3 rfl (Nat.le_of_ble_eq_true rfl)
  have N32 := Fr.snoc X32 N25 gn3
  have pr33 : ∀ tg, Steps pP.tables eE below (T32.setTop (mkF mM 29 #[.val (.int p1), .val (.int p2), .val (.long q0), .second, .unset, .unset, .unset, .unset, .unset, .unset, .unset, .unset, .unset, .unset] [(.ref b2)])) tg → Steps pP.tables eE below (s₁.setTop (entryFrame mM #[(.int p1), (.int p2), (.long q0)] maxLocals)) tg := fun tg kg => pr30 _ (st32 _ kg)
  clear pr30 st32 X28 e28
  have pr34 : ∀ tg, Steps pP.tables eE below (T32.setTop (mkF mM 31 #[.val (.int p1), .val (.int p2), .val (.long q0), .second, .unset, .unset, .unset, .unset, .unset, .unset, .unset, .unset, .unset, .unset] [(.int (4 : Int32)), (.ref b2), (.ref b2)])) tg → Steps pP.tables eE below (s₁.setTop (entryFrame mM #[(.int p1), (.int p2), (.long q0)] maxLocals)) tg := fun tg kg => pr33 _ (by
    show Steps pP.tables eE below (T32.setTop (mkF mM 29 #[.val (.int p1), .val (.int p2), .val (.long q0), .second, .unset, .unset, .unset, .unset, .unset, .unset, .unset, .unset, .unset, .unset] [(.ref b2)])) _
    refine XS.dup X32.here hx rfl (hb hby at_29) rfl rfl ?_
    refine XS.iconst X32.here hx rfl (hb hby at_30) ?_
    exact kg)
  clear pr33
  have c36 := (Old.wr c29 W32 gn3)
  obtain ⟨T35, X35, e35, st35⟩ := getS2 X32 hx hZ hown (host := "") (Or.inl (hw _ (List.mem_of_getElem? (i := 12) rfl))) Via.refl e32 (Sta.ext (c36).2 S_DA) (g := (mkF mM 31 #[.val (.int p1), .val (.int p2), .val (.long q0), .second, .unset, .unset, .unset, .unset, .unset, .unset, .unset, .unset, .unset, .unset] [(.int (4 : Int32)), (.ref b2), (.ref b2)])) rfl (hb hby at_31)
  have pr37 : ∀ tg, Steps pP.tables eE below (T35.setTop (mkF mM 34 #[.val (.int p1), .val (.int p2), .val (.long q0), .second, .unset, .unset, .unset, .unset, .unset, .unset, .unset, .unset, .unset, .unset] [(.ref a_DA), (.int (4 : Int32)), (.ref b2), (.ref b2)])) tg → Steps pP.tables eE below (s₁.setTop (entryFrame mM #[(.int p1), (.int p2), (.long q0)] maxLocals)) tg := fun tg kg => pr34 _ (st35 _ kg)
  clear pr34 st35 X32 e32
  obtain ⟨cla38, Ara38, qa38, Sa38, Ma38, Ha38, Ga38⟩ := id V32
  have hin39 : ¬ ((4 : Int32) < 0 ∨ cla38.slots.size ≤ ((4 : Int32)).toNatClampNeg) := inb_of Sa38 ⟨by decide, by decide⟩
  obtain ⟨T39, h39, X39, e39, W39, st39⟩ := stR X35 hx hZ e35 Ara38 (j := (4 : Int32)) hin39 rfl (Sto.ofV Ara38 qa38 O2 (Ins.self (Exa.ext (c36).2 E_DA))) (g := (mkF mM 34 #[.val (.int p1), .val (.int p2), .val (.long q0), .second, .unset, .unset, .unset, .unset, .unset, .unset, .unset, .unset, .unset, .unset] [(.ref a_DA), (.int (4 : Int32)), (.ref b2), (.ref b2)])) rfl rfl (hb hby at_34)
  have V39 : Arv Z h39 b2 k2 (.object "com/example/tesserae/tesserae/value/Vr") (34 : Int32) [(.ref a_AE), (.ref a_AS), (.ref a_AT), (.ref a_CS), (.ref a_DA), .null, .null, .null, .null, .null, .null, .null, .null, .null, .null, .null, .null, .null, .null, .null, .null, .null, .null, .null, .null, .null, .null, .null, .null, .null, .null, .null, .null, .null] .null := Arv.set Ara38 qa38 Sa38 Ma38 Ha38 Ga38 rfl W39 4 rfl (Nat.le_of_ble_eq_true rfl)
  have N39 := Fr.snoc X39 N32 gn3
  have pr40 : ∀ tg, Steps pP.tables eE below (T39.setTop (mkF mM 35 #[.val (.int p1), .val (.int p2), .val (.long q0), .second, .unset, .unset, .unset, .unset, .unset, .unset, .unset, .unset, .unset, .unset] [(.ref b2)])) tg → Steps pP.tables eE below (s₁.setTop (entryFrame mM #[(.int p1), (.int p2), (.long q0)] maxLocals)) tg := fun tg kg => pr37 _ (st39 _ kg)
  clear pr37 st39 X35 e35
  have pr41 : ∀ tg, Steps pP.tables eE below (T39.setTop (mkF mM 37 #[.val (.int p1), .val (.int p2), .val (.long q0), .second, .unset, .unset, .unset, .unset, .unset, .unset, .unset, .unset, .unset, .unset] [(.int (5 : Int32)), (.ref b2), (.ref b2)])) tg → Steps pP.tables eE below (s₁.setTop (entryFrame mM #[(.int p1), (.int p2), (.long q0)] maxLocals)) tg := fun tg kg => pr40 _ (by
    show Steps pP.tables eE below (T39.setTop (mkF mM 35 #[.val (.int p1), .val (.int p2), .val (.long q0), .second, .unset, .unset, .unset, .unset, .unset, .unset, .unset, .unset, .unset, .unset] [(.ref b2)])) _
    refine XS.dup X39.here hx rfl (hb hby at_35) rfl rfl ?_
    refine XS.iconst X39.here hx rfl (hb hby at_36) ?_
    exact kg)
  clear pr40
  have c43 := (Old.wr c36 W39 gn3)
  obtain ⟨T42, X42, e42, st42⟩ := getS2 X39 hx hZ hown (host := "") (Or.inl (hw _ (List.mem_of_getElem? (i := 14) rfl))) Via.refl e39 (Sta.ext (c43).2 S_DS) (g := (mkF mM 37 #[.val (.int p1), .val (.int p2), .val (.long q0), .second, .unset, .unset, .unset, .unset, .unset, .unset, .unset, .unset, .unset, .unset] [(.int (5 : Int32)), (.ref b2), (.ref b2)])) rfl (hb hby at_37)
  have pr44 : ∀ tg, Steps pP.tables eE below (T42.setTop (mkF mM 40 #[.val (.int p1), .val (.int p2), .val (.long q0), .second, .unset, .unset, .unset, .unset, .unset, .unset, .unset, .unset, .unset, .unset] [(.ref a_DS), (.int (5 : Int32)), (.ref b2), (.ref b2)])) tg → Steps pP.tables eE below (s₁.setTop (entryFrame mM #[(.int p1), (.int p2), (.long q0)] maxLocals)) tg := fun tg kg => pr41 _ (st42 _ kg)
  clear pr41 st42 X39 e39
  obtain ⟨cla45, Ara45, qa45, Sa45, Ma45, Ha45, Ga45⟩ := id V39
  have hin46 : ¬ ((5 : Int32) < 0 ∨ cla45.slots.size ≤ ((5 : Int32)).toNatClampNeg) := inb_of Sa45 ⟨by decide, by decide⟩
  obtain ⟨T46, h46, X46, e46, W46, st46⟩ := stR X42 hx hZ e42 Ara45 (j := (5 : Int32)) hin46 rfl (Sto.ofV Ara45 qa45 O2 (Ins.self (Exa.ext (c43).2 E_DS))) (g := (mkF mM 40 #[.val (.int p1), .val (.int p2), .val (.long q0), .second, .unset, .unset, .unset, .unset, .unset, .unset, .unset, .unset, .unset, .unset] [(.ref a_DS), (.int (5 : Int32)), (.ref b2), (.ref b2)])) rfl rfl (hb hby at_40)
  have V46 : Arv Z h46 b2 k2 (.object "com/example/tesserae/tesserae/value/Vr") (34 : Int32) [(.ref a_AE), (.ref a_AS), (.ref a_AT), (.ref a_CS), (.ref a_DA), (.ref a_DS), .null, .null, .null, .null, .null, .null, .null, .null, .null, .null, .null, .null, .null, .null, .null, .null, .null, .null, .null, .null, .null, .null, .null, .null, .null, .null, .null, .null] .null := Arv.set Ara45 qa45 Sa45 Ma45 Ha45 Ga45 rfl W46 5 rfl (Nat.le_of_ble_eq_true rfl)
  have N46 := Fr.snoc X46 N39 gn3
  have pr47 : ∀ tg, Steps pP.tables eE below (T46.setTop (mkF mM 41 #[.val (.int p1), .val (.int p2), .val (.long q0), .second, .unset, .unset, .unset, .unset, .unset, .unset, .unset, .unset, .unset, .unset] [(.ref b2)])) tg → Steps pP.tables eE below (s₁.setTop (entryFrame mM #[(.int p1), (.int p2), (.long q0)] maxLocals)) tg := fun tg kg => pr44 _ (st46 _ kg)
  clear pr44 st46 X42 e42
  have pr48 : ∀ tg, Steps pP.tables eE below (T46.setTop (mkF mM 44 #[.val (.int p1), .val (.int p2), .val (.long q0), .second, .unset, .unset, .unset, .unset, .unset, .unset, .unset, .unset, .unset, .unset] [(.int (6 : Int32)), (.ref b2), (.ref b2)])) tg → Steps pP.tables eE below (s₁.setTop (entryFrame mM #[(.int p1), (.int p2), (.long q0)] maxLocals)) tg := fun tg kg => pr47 _ (by
    show Steps pP.tables eE below (T46.setTop (mkF mM 41 #[.val (.int p1), .val (.int p2), .val (.long q0), .second, .unset, .unset, .unset, .unset, .unset, .unset, .unset, .unset, .unset, .unset] [(.ref b2)])) _
    refine XS.dup X46.here hx rfl (hb hby at_41) rfl rfl ?_
    refine XS.bipush X46.here hx rfl (hb hby at_42) ?_
    exact kg)
  clear pr47
  have c50 := (Old.wr c43 W46 gn3)
  obtain ⟨T49, X49, e49, st49⟩ := getS2 X46 hx hZ hown (host := "") (Or.inl (hw _ (List.mem_of_getElem? (i := 16) rfl))) Via.refl e46 (Sta.ext (c50).2 S_DT) (g := (mkF mM 44 #[.val (.int p1), .val (.int p2), .val (.long q0), .second, .unset, .unset, .unset, .unset, .unset, .unset, .unset, .unset, .unset, .unset] [(.int (6 : Int32)), (.ref b2), (.ref b2)])) rfl (hb hby at_44)
  have pr51 : ∀ tg, Steps pP.tables eE below (T49.setTop (mkF mM 47 #[.val (.int p1), .val (.int p2), .val (.long q0), .second, .unset, .unset, .unset, .unset, .unset, .unset, .unset, .unset, .unset, .unset] [(.ref a_DT), (.int (6 : Int32)), (.ref b2), (.ref b2)])) tg → Steps pP.tables eE below (s₁.setTop (entryFrame mM #[(.int p1), (.int p2), (.long q0)] maxLocals)) tg := fun tg kg => pr48 _ (st49 _ kg)
  clear pr48 st49 X46 e46
  obtain ⟨cla52, Ara52, qa52, Sa52, Ma52, Ha52, Ga52⟩ := id V46
  have hin53 : ¬ ((6 : Int32) < 0 ∨ cla52.slots.size ≤ ((6 : Int32)).toNatClampNeg) := inb_of Sa52 ⟨by decide, by decide⟩
  obtain ⟨T53, h53, X53, e53, W53, st53⟩ := stR X49 hx hZ e49 Ara52 (j := (6 : Int32)) hin53 rfl (Sto.ofV Ara52 qa52 O2 (Ins.self (Exa.ext (c50).2 E_DT))) (g := (mkF mM 47 #[.val (.int p1), .val (.int p2), .val (.long q0), .second, .unset, .unset, .unset, .unset, .unset, .unset, .unset, .unset, .unset, .unset] [(.ref a_DT), (.int (6 : Int32)), (.ref b2), (.ref b2)])) rfl rfl (hb hby at_47)
  have V53 : Arv Z h53 b2 k2 (.object "com/example/tesserae/tesserae/value/Vr") (34 : Int32) [(.ref a_AE), (.ref a_AS), (.ref a_AT), (.ref a_CS), (.ref a_DA), (.ref a_DS), (.ref a_DT), .null, .null, .null, .null, .null, .null, .null, .null, .null, .null, .null, .null, .null, .null, .null, .null, .null, .null, .null, .null, .null, .null, .null, .null, .null, .null, .null] .null := Arv.set Ara52 qa52 Sa52 Ma52 Ha52 Ga52 rfl W53 6 rfl (Nat.le_of_ble_eq_true rfl)
  have N53 := Fr.snoc X53 N46 gn3
  have pr54 : ∀ tg, Steps pP.tables eE below (T53.setTop (mkF mM 48 #[.val (.int p1), .val (.int p2), .val (.long q0), .second, .unset, .unset, .unset, .unset, .unset, .unset, .unset, .unset, .unset, .unset] [(.ref b2)])) tg → Steps pP.tables eE below (s₁.setTop (entryFrame mM #[(.int p1), (.int p2), (.long q0)] maxLocals)) tg := fun tg kg => pr51 _ (st53 _ kg)
  clear pr51 st53 X49 e49
  have pr55 : ∀ tg, Steps pP.tables eE below (T53.setTop (mkF mM 51 #[.val (.int p1), .val (.int p2), .val (.long q0), .second, .unset, .unset, .unset, .unset, .unset, .unset, .unset, .unset, .unset, .unset] [(.int (7 : Int32)), (.ref b2), (.ref b2)])) tg → Steps pP.tables eE below (s₁.setTop (entryFrame mM #[(.int p1), (.int p2), (.long q0)] maxLocals)) tg := fun tg kg => pr54 _ (by
    show Steps pP.tables eE below (T53.setTop (mkF mM 48 #[.val (.int p1), .val (.int p2), .val (.long q0), .second, .unset, .unset, .unset, .unset, .unset, .unset, .unset, .unset, .unset, .unset] [(.ref b2)])) _
    refine XS.dup X53.here hx rfl (hb hby at_48) rfl rfl ?_
    refine XS.bipush X53.here hx rfl (hb hby at_49) ?_
    exact kg)
  clear pr54
  have c57 := (Old.wr c50 W53 gn3)
  obtain ⟨T56, X56, e56, st56⟩ := getS2 X53 hx hZ hown (host := "") (Or.inl (hw _ (List.mem_of_getElem? (i := 18) rfl))) Via.refl e53 (Sta.ext (c57).2 S_FD) (g := (mkF mM 51 #[.val (.int p1), .val (.int p2), .val (.long q0), .second, .unset, .unset, .unset, .unset, .unset, .unset, .unset, .unset, .unset, .unset] [(.int (7 : Int32)), (.ref b2), (.ref b2)])) rfl (hb hby at_51)
  have pr58 : ∀ tg, Steps pP.tables eE below (T56.setTop (mkF mM 54 #[.val (.int p1), .val (.int p2), .val (.long q0), .second, .unset, .unset, .unset, .unset, .unset, .unset, .unset, .unset, .unset, .unset] [(.ref a_FD), (.int (7 : Int32)), (.ref b2), (.ref b2)])) tg → Steps pP.tables eE below (s₁.setTop (entryFrame mM #[(.int p1), (.int p2), (.long q0)] maxLocals)) tg := fun tg kg => pr55 _ (st56 _ kg)
  clear pr55 st56 X53 e53
  obtain ⟨cla59, Ara59, qa59, Sa59, Ma59, Ha59, Ga59⟩ := id V53
  have hin60 : ¬ ((7 : Int32) < 0 ∨ cla59.slots.size ≤ ((7 : Int32)).toNatClampNeg) := inb_of Sa59 ⟨by decide, by decide⟩
  obtain ⟨T60, h60, X60, e60, W60, st60⟩ := stR X56 hx hZ e56 Ara59 (j := (7 : Int32)) hin60 rfl (Sto.ofV Ara59 qa59 O2 (Ins.self (Exa.ext (c57).2 E_FD))) (g := (mkF mM 54 #[.val (.int p1), .val (.int p2), .val (.long q0), .second, .unset, .unset, .unset, .unset, .unset, .unset, .unset, .unset, .unset, .unset] [(.ref a_FD), (.int (7 : Int32)), (.ref b2), (.ref b2)])) rfl rfl (hb hby at_54)
  have V60 : Arv Z h60 b2 k2 (.object "com/example/tesserae/tesserae/value/Vr") (34 : Int32) [(.ref a_AE), (.ref a_AS), (.ref a_AT), (.ref a_CS), (.ref a_DA), (.ref a_DS), (.ref a_DT), (.ref a_FD), .null, .null, .null, .null, .null, .null, .null, .null, .null, .null, .null, .null, .null, .null, .null, .null, .null, .null, .null, .null, .null, .null, .null, .null, .null, .null] .null := Arv.set Ara59 qa59 Sa59 Ma59 Ha59 Ga59 rfl W60 7 rfl (Nat.le_of_ble_eq_true rfl)
  have N60 := Fr.snoc X60 N53 gn3
  have pr61 : ∀ tg, Steps pP.tables eE below (T60.setTop (mkF mM 55 #[.val (.int p1), .val (.int p2), .val (.long q0), .second, .unset, .unset, .unset, .unset, .unset, .unset, .unset, .unset, .unset, .unset] [(.ref b2)])) tg → Steps pP.tables eE below (s₁.setTop (entryFrame mM #[(.int p1), (.int p2), (.long q0)] maxLocals)) tg := fun tg kg => pr58 _ (st60 _ kg)
  clear pr58 st60 X56 e56
  have pr62 : ∀ tg, Steps pP.tables eE below (T60.setTop (mkF mM 58 #[.val (.int p1), .val (.int p2), .val (.long q0), .second, .unset, .unset, .unset, .unset, .unset, .unset, .unset, .unset, .unset, .unset] [(.int (8 : Int32)), (.ref b2), (.ref b2)])) tg → Steps pP.tables eE below (s₁.setTop (entryFrame mM #[(.int p1), (.int p2), (.long q0)] maxLocals)) tg := fun tg kg => pr61 _ (by
    show Steps pP.tables eE below (T60.setTop (mkF mM 55 #[.val (.int p1), .val (.int p2), .val (.long q0), .second, .unset, .unset, .unset, .unset, .unset, .unset, .unset, .unset, .unset, .unset] [(.ref b2)])) _
    refine XS.dup X60.here hx rfl (hb hby at_55) rfl rfl ?_
    refine XS.bipush X60.here hx rfl (hb hby at_56) ?_
    exact kg)
  clear pr61
  have c64 := (Old.wr c57 W60 gn3)
  obtain ⟨T63, X63, e63, st63⟩ := getS2 X60 hx hZ hown (host := "") (Or.inl (hw _ (List.mem_of_getElem? (i := 20) rfl))) Via.refl e60 (Sta.ext (c64).2 S_FL) (g := (mkF mM 58 #[.val (.int p1), .val (.int p2), .val (.long q0), .second, .unset, .unset, .unset, .unset, .unset, .unset, .unset, .unset, .unset, .unset] [(.int (8 : Int32)), (.ref b2), (.ref b2)])) rfl (hb hby at_58)
  have pr65 : ∀ tg, Steps pP.tables eE below (T63.setTop (mkF mM 61 #[.val (.int p1), .val (.int p2), .val (.long q0), .second, .unset, .unset, .unset, .unset, .unset, .unset, .unset, .unset, .unset, .unset] [(.ref a_FL), (.int (8 : Int32)), (.ref b2), (.ref b2)])) tg → Steps pP.tables eE below (s₁.setTop (entryFrame mM #[(.int p1), (.int p2), (.long q0)] maxLocals)) tg := fun tg kg => pr62 _ (st63 _ kg)
  clear pr62 st63 X60 e60
  obtain ⟨cla66, Ara66, qa66, Sa66, Ma66, Ha66, Ga66⟩ := id V60
  have hin67 : ¬ ((8 : Int32) < 0 ∨ cla66.slots.size ≤ ((8 : Int32)).toNatClampNeg) := inb_of Sa66 ⟨by decide, by decide⟩
  obtain ⟨T67, h67, X67, e67, W67, st67⟩ := stR X63 hx hZ e63 Ara66 (j := (8 : Int32)) hin67 rfl (Sto.ofV Ara66 qa66 O2 (Ins.self (Exa.ext (c64).2 E_FL))) (g := (mkF mM 61 #[.val (.int p1), .val (.int p2), .val (.long q0), .second, .unset, .unset, .unset, .unset, .unset, .unset, .unset, .unset, .unset, .unset] [(.ref a_FL), (.int (8 : Int32)), (.ref b2), (.ref b2)])) rfl rfl (hb hby at_61)
  have V67 : Arv Z h67 b2 k2 (.object "com/example/tesserae/tesserae/value/Vr") (34 : Int32) [(.ref a_AE), (.ref a_AS), (.ref a_AT), (.ref a_CS), (.ref a_DA), (.ref a_DS), (.ref a_DT), (.ref a_FD), (.ref a_FL), .null, .null, .null, .null, .null, .null, .null, .null, .null, .null, .null, .null, .null, .null, .null, .null, .null, .null, .null, .null, .null, .null, .null, .null, .null] .null := Arv.set Ara66 qa66 Sa66 Ma66 Ha66 Ga66 rfl W67 8 rfl (Nat.le_of_ble_eq_true rfl)
  have N67 := Fr.snoc X67 N60 gn3
  have pr68 : ∀ tg, Steps pP.tables eE below (T67.setTop (mkF mM 62 #[.val (.int p1), .val (.int p2), .val (.long q0), .second, .unset, .unset, .unset, .unset, .unset, .unset, .unset, .unset, .unset, .unset] [(.ref b2)])) tg → Steps pP.tables eE below (s₁.setTop (entryFrame mM #[(.int p1), (.int p2), (.long q0)] maxLocals)) tg := fun tg kg => pr65 _ (st67 _ kg)
  clear pr65 st67 X63 e63
  have pr69 : ∀ tg, Steps pP.tables eE below (T67.setTop (mkF mM 65 #[.val (.int p1), .val (.int p2), .val (.long q0), .second, .unset, .unset, .unset, .unset, .unset, .unset, .unset, .unset, .unset, .unset] [(.int (9 : Int32)), (.ref b2), (.ref b2)])) tg → Steps pP.tables eE below (s₁.setTop (entryFrame mM #[(.int p1), (.int p2), (.long q0)] maxLocals)) tg := fun tg kg => pr68 _ (by
    show Steps pP.tables eE below (T67.setTop (mkF mM 62 #[.val (.int p1), .val (.int p2), .val (.long q0), .second, .unset, .unset, .unset, .unset, .unset, .unset, .unset, .unset, .unset, .unset] [(.ref b2)])) _
    refine XS.dup X67.here hx rfl (hb hby at_62) rfl rfl ?_
    refine XS.bipush X67.here hx rfl (hb hby at_63) ?_
    exact kg)
  clear pr68
  have c71 := (Old.wr c64 W67 gn3)
  obtain ⟨T70, X70, e70, st70⟩ := getS2 X67 hx hZ hown (host := "") (Or.inl (hw _ (List.mem_of_getElem? (i := 22) rfl))) Via.refl e67 (Sta.ext (c71).2 S_IS) (g := (mkF mM 65 #[.val (.int p1), .val (.int p2), .val (.long q0), .second, .unset, .unset, .unset, .unset, .unset, .unset, .unset, .unset, .unset, .unset] [(.int (9 : Int32)), (.ref b2), (.ref b2)])) rfl (hb hby at_65)
  have pr72 : ∀ tg, Steps pP.tables eE below (T70.setTop (mkF mM 68 #[.val (.int p1), .val (.int p2), .val (.long q0), .second, .unset, .unset, .unset, .unset, .unset, .unset, .unset, .unset, .unset, .unset] [(.ref a_IS), (.int (9 : Int32)), (.ref b2), (.ref b2)])) tg → Steps pP.tables eE below (s₁.setTop (entryFrame mM #[(.int p1), (.int p2), (.long q0)] maxLocals)) tg := fun tg kg => pr69 _ (st70 _ kg)
  clear pr69 st70 X67 e67
  obtain ⟨cla73, Ara73, qa73, Sa73, Ma73, Ha73, Ga73⟩ := id V67
  have hin74 : ¬ ((9 : Int32) < 0 ∨ cla73.slots.size ≤ ((9 : Int32)).toNatClampNeg) := inb_of Sa73 ⟨by decide, by decide⟩
  obtain ⟨T74, h74, X74, e74, W74, st74⟩ := stR X70 hx hZ e70 Ara73 (j := (9 : Int32)) hin74 rfl (Sto.ofV Ara73 qa73 O2 (Ins.self (Exa.ext (c71).2 E_IS))) (g := (mkF mM 68 #[.val (.int p1), .val (.int p2), .val (.long q0), .second, .unset, .unset, .unset, .unset, .unset, .unset, .unset, .unset, .unset, .unset] [(.ref a_IS), (.int (9 : Int32)), (.ref b2), (.ref b2)])) rfl rfl (hb hby at_68)
  have V74 : Arv Z h74 b2 k2 (.object "com/example/tesserae/tesserae/value/Vr") (34 : Int32) [(.ref a_AE), (.ref a_AS), (.ref a_AT), (.ref a_CS), (.ref a_DA), (.ref a_DS), (.ref a_DT), (.ref a_FD), (.ref a_FL), (.ref a_IS), .null, .null, .null, .null, .null, .null, .null, .null, .null, .null, .null, .null, .null, .null, .null, .null, .null, .null, .null, .null, .null, .null, .null, .null] .null := Arv.set Ara73 qa73 Sa73 Ma73 Ha73 Ga73 rfl W74 9 rfl (Nat.le_of_ble_eq_true rfl)
  have N74 := Fr.snoc X74 N67 gn3
  have pr75 : ∀ tg, Steps pP.tables eE below (T74.setTop (mkF mM 69 #[.val (.int p1), .val (.int p2), .val (.long q0), .second, .unset, .unset, .unset, .unset, .unset, .unset, .unset, .unset, .unset, .unset] [(.ref b2)])) tg → Steps pP.tables eE below (s₁.setTop (entryFrame mM #[(.int p1), (.int p2), (.long q0)] maxLocals)) tg := fun tg kg => pr72 _ (st74 _ kg)
  clear pr72 st74 X70 e70
  have pr76 : ∀ tg, Steps pP.tables eE below (T74.setTop (mkF mM 72 #[.val (.int p1), .val (.int p2), .val (.long q0), .second, .unset, .unset, .unset, .unset, .unset, .unset, .unset, .unset, .unset, .unset] [(.int (10 : Int32)), (.ref b2), (.ref b2)])) tg → Steps pP.tables eE below (s₁.setTop (entryFrame mM #[(.int p1), (.int p2), (.long q0)] maxLocals)) tg := fun tg kg => pr75 _ (by
    show Steps pP.tables eE below (T74.setTop (mkF mM 69 #[.val (.int p1), .val (.int p2), .val (.long q0), .second, .unset, .unset, .unset, .unset, .unset, .unset, .unset, .unset, .unset, .unset] [(.ref b2)])) _
    refine XS.dup X74.here hx rfl (hb hby at_69) rfl rfl ?_
    refine XS.bipush X74.here hx rfl (hb hby at_70) ?_
    exact kg)
  clear pr75
  have c78 := (Old.wr c71 W74 gn3)
  obtain ⟨T77, X77, e77, st77⟩ := getS2 X74 hx hZ hown (host := "") (Or.inl (hw _ (List.mem_of_getElem? (i := 24) rfl))) Via.refl e74 (Sta.ext (c78).2 S_LO) (g := (mkF mM 72 #[.val (.int p1), .val (.int p2), .val (.long q0), .second, .unset, .unset, .unset, .unset, .unset, .unset, .unset, .unset, .unset, .unset] [(.int (10 : Int32)), (.ref b2), (.ref b2)])) rfl (hb hby at_72)
  have pr79 : ∀ tg, Steps pP.tables eE below (T77.setTop (mkF mM 75 #[.val (.int p1), .val (.int p2), .val (.long q0), .second, .unset, .unset, .unset, .unset, .unset, .unset, .unset, .unset, .unset, .unset] [(.ref a_LO), (.int (10 : Int32)), (.ref b2), (.ref b2)])) tg → Steps pP.tables eE below (s₁.setTop (entryFrame mM #[(.int p1), (.int p2), (.long q0)] maxLocals)) tg := fun tg kg => pr76 _ (st77 _ kg)
  clear pr76 st77 X74 e74
  obtain ⟨cla80, Ara80, qa80, Sa80, Ma80, Ha80, Ga80⟩ := id V74
  have hin81 : ¬ ((10 : Int32) < 0 ∨ cla80.slots.size ≤ ((10 : Int32)).toNatClampNeg) := inb_of Sa80 ⟨by decide, by decide⟩
  obtain ⟨T81, h81, X81, e81, W81, st81⟩ := stR X77 hx hZ e77 Ara80 (j := (10 : Int32)) hin81 rfl (Sto.ofV Ara80 qa80 O2 (Ins.self (Exa.ext (c78).2 E_LO))) (g := (mkF mM 75 #[.val (.int p1), .val (.int p2), .val (.long q0), .second, .unset, .unset, .unset, .unset, .unset, .unset, .unset, .unset, .unset, .unset] [(.ref a_LO), (.int (10 : Int32)), (.ref b2), (.ref b2)])) rfl rfl (hb hby at_75)
  have V81 : Arv Z h81 b2 k2 (.object "com/example/tesserae/tesserae/value/Vr") (34 : Int32) [(.ref a_AE), (.ref a_AS), (.ref a_AT), (.ref a_CS), (.ref a_DA), (.ref a_DS), (.ref a_DT), (.ref a_FD), (.ref a_FL), (.ref a_IS), (.ref a_LO), .null, .null, .null, .null, .null, .null, .null, .null, .null, .null, .null, .null, .null, .null, .null, .null, .null, .null, .null, .null, .null, .null, .null] .null := Arv.set Ara80 qa80 Sa80 Ma80 Ha80 Ga80 rfl W81 10 rfl (Nat.le_of_ble_eq_true rfl)
  have N81 := Fr.snoc X81 N74 gn3
  have pr82 : ∀ tg, Steps pP.tables eE below (T81.setTop (mkF mM 76 #[.val (.int p1), .val (.int p2), .val (.long q0), .second, .unset, .unset, .unset, .unset, .unset, .unset, .unset, .unset, .unset, .unset] [(.ref b2)])) tg → Steps pP.tables eE below (s₁.setTop (entryFrame mM #[(.int p1), (.int p2), (.long q0)] maxLocals)) tg := fun tg kg => pr79 _ (st81 _ kg)
  clear pr79 st81 X77 e77
  have pr83 : ∀ tg, Steps pP.tables eE below (T81.setTop (mkF mM 79 #[.val (.int p1), .val (.int p2), .val (.long q0), .second, .unset, .unset, .unset, .unset, .unset, .unset, .unset, .unset, .unset, .unset] [(.int (11 : Int32)), (.ref b2), (.ref b2)])) tg → Steps pP.tables eE below (s₁.setTop (entryFrame mM #[(.int p1), (.int p2), (.long q0)] maxLocals)) tg := fun tg kg => pr82 _ (by
    show Steps pP.tables eE below (T81.setTop (mkF mM 76 #[.val (.int p1), .val (.int p2), .val (.long q0), .second, .unset, .unset, .unset, .unset, .unset, .unset, .unset, .unset, .unset, .unset] [(.ref b2)])) _
    refine XS.dup X81.here hx rfl (hb hby at_76) rfl rfl ?_
    refine XS.bipush X81.here hx rfl (hb hby at_77) ?_
    exact kg)
  clear pr82
  have c85 := (Old.wr c78 W81 gn3)
  obtain ⟨T84, X84, e84, st84⟩ := getS2 X81 hx hZ hown (host := "") (Or.inl (hw _ (List.mem_of_getElem? (i := 26) rfl))) Via.refl e81 (Sta.ext (c85).2 S_LT) (g := (mkF mM 79 #[.val (.int p1), .val (.int p2), .val (.long q0), .second, .unset, .unset, .unset, .unset, .unset, .unset, .unset, .unset, .unset, .unset] [(.int (11 : Int32)), (.ref b2), (.ref b2)])) rfl (hb hby at_79)
  have pr86 : ∀ tg, Steps pP.tables eE below (T84.setTop (mkF mM 82 #[.val (.int p1), .val (.int p2), .val (.long q0), .second, .unset, .unset, .unset, .unset, .unset, .unset, .unset, .unset, .unset, .unset] [(.ref a_LT), (.int (11 : Int32)), (.ref b2), (.ref b2)])) tg → Steps pP.tables eE below (s₁.setTop (entryFrame mM #[(.int p1), (.int p2), (.long q0)] maxLocals)) tg := fun tg kg => pr83 _ (st84 _ kg)
  clear pr83 st84 X81 e81
  obtain ⟨cla87, Ara87, qa87, Sa87, Ma87, Ha87, Ga87⟩ := id V81
  have hin88 : ¬ ((11 : Int32) < 0 ∨ cla87.slots.size ≤ ((11 : Int32)).toNatClampNeg) := inb_of Sa87 ⟨by decide, by decide⟩
  obtain ⟨T88, h88, X88, e88, W88, st88⟩ := stR X84 hx hZ e84 Ara87 (j := (11 : Int32)) hin88 rfl (Sto.ofV Ara87 qa87 O2 (Ins.self (Exa.ext (c85).2 E_LT))) (g := (mkF mM 82 #[.val (.int p1), .val (.int p2), .val (.long q0), .second, .unset, .unset, .unset, .unset, .unset, .unset, .unset, .unset, .unset, .unset] [(.ref a_LT), (.int (11 : Int32)), (.ref b2), (.ref b2)])) rfl rfl (hb hby at_82)
  have V88 : Arv Z h88 b2 k2 (.object "com/example/tesserae/tesserae/value/Vr") (34 : Int32) [(.ref a_AE), (.ref a_AS), (.ref a_AT), (.ref a_CS), (.ref a_DA), (.ref a_DS), (.ref a_DT), (.ref a_FD), (.ref a_FL), (.ref a_IS), (.ref a_LO), (.ref a_LT), .null, .null, .null, .null, .null, .null, .null, .null, .null, .null, .null, .null, .null, .null, .null, .null, .null, .null, .null, .null, .null, .null] .null := Arv.set Ara87 qa87 Sa87 Ma87 Ha87 Ga87 rfl W88 11 rfl (Nat.le_of_ble_eq_true rfl)
  have N88 := Fr.snoc X88 N81 gn3
  have pr89 : ∀ tg, Steps pP.tables eE below (T88.setTop (mkF mM 83 #[.val (.int p1), .val (.int p2), .val (.long q0), .second, .unset, .unset, .unset, .unset, .unset, .unset, .unset, .unset, .unset, .unset] [(.ref b2)])) tg → Steps pP.tables eE below (s₁.setTop (entryFrame mM #[(.int p1), (.int p2), (.long q0)] maxLocals)) tg := fun tg kg => pr86 _ (st88 _ kg)
  clear pr86 st88 X84 e84
  have pr90 : ∀ tg, Steps pP.tables eE below (T88.setTop (mkF mM 86 #[.val (.int p1), .val (.int p2), .val (.long q0), .second, .unset, .unset, .unset, .unset, .unset, .unset, .unset, .unset, .unset, .unset] [(.int (12 : Int32)), (.ref b2), (.ref b2)])) tg → Steps pP.tables eE below (s₁.setTop (entryFrame mM #[(.int p1), (.int p2), (.long q0)] maxLocals)) tg := fun tg kg => pr89 _ (by
    show Steps pP.tables eE below (T88.setTop (mkF mM 83 #[.val (.int p1), .val (.int p2), .val (.long q0), .second, .unset, .unset, .unset, .unset, .unset, .unset, .unset, .unset, .unset, .unset] [(.ref b2)])) _
    refine XS.dup X88.here hx rfl (hb hby at_83) rfl rfl ?_
    refine XS.bipush X88.here hx rfl (hb hby at_84) ?_
    exact kg)
  clear pr89
  have c92 := (Old.wr c85 W88 gn3)
  obtain ⟨T91, X91, e91, st91⟩ := getS2 X88 hx hZ hown (host := "") (Or.inl (hw _ (List.mem_of_getElem? (i := 28) rfl))) Via.refl e88 (Sta.ext (c92).2 S_OB) (g := (mkF mM 86 #[.val (.int p1), .val (.int p2), .val (.long q0), .second, .unset, .unset, .unset, .unset, .unset, .unset, .unset, .unset, .unset, .unset] [(.int (12 : Int32)), (.ref b2), (.ref b2)])) rfl (hb hby at_86)
  have pr93 : ∀ tg, Steps pP.tables eE below (T91.setTop (mkF mM 89 #[.val (.int p1), .val (.int p2), .val (.long q0), .second, .unset, .unset, .unset, .unset, .unset, .unset, .unset, .unset, .unset, .unset] [(.ref a_OB), (.int (12 : Int32)), (.ref b2), (.ref b2)])) tg → Steps pP.tables eE below (s₁.setTop (entryFrame mM #[(.int p1), (.int p2), (.long q0)] maxLocals)) tg := fun tg kg => pr90 _ (st91 _ kg)
  clear pr90 st91 X88 e88
  obtain ⟨cla94, Ara94, qa94, Sa94, Ma94, Ha94, Ga94⟩ := id V88
  have hin95 : ¬ ((12 : Int32) < 0 ∨ cla94.slots.size ≤ ((12 : Int32)).toNatClampNeg) := inb_of Sa94 ⟨by decide, by decide⟩
  obtain ⟨T95, h95, X95, e95, W95, st95⟩ := stR X91 hx hZ e91 Ara94 (j := (12 : Int32)) hin95 rfl (Sto.ofV Ara94 qa94 O2 (Ins.self (Exa.ext (c92).2 E_OB))) (g := (mkF mM 89 #[.val (.int p1), .val (.int p2), .val (.long q0), .second, .unset, .unset, .unset, .unset, .unset, .unset, .unset, .unset, .unset, .unset] [(.ref a_OB), (.int (12 : Int32)), (.ref b2), (.ref b2)])) rfl rfl (hb hby at_89)
  have V95 : Arv Z h95 b2 k2 (.object "com/example/tesserae/tesserae/value/Vr") (34 : Int32) [(.ref a_AE), (.ref a_AS), (.ref a_AT), (.ref a_CS), (.ref a_DA), (.ref a_DS), (.ref a_DT), (.ref a_FD), (.ref a_FL), (.ref a_IS), (.ref a_LO), (.ref a_LT), (.ref a_OB), .null, .null, .null, .null, .null, .null, .null, .null, .null, .null, .null, .null, .null, .null, .null, .null, .null, .null, .null, .null, .null] .null := Arv.set Ara94 qa94 Sa94 Ma94 Ha94 Ga94 rfl W95 12 rfl (Nat.le_of_ble_eq_true rfl)
  have N95 := Fr.snoc X95 N88 gn3
  have pr96 : ∀ tg, Steps pP.tables eE below (T95.setTop (mkF mM 90 #[.val (.int p1), .val (.int p2), .val (.long q0), .second, .unset, .unset, .unset, .unset, .unset, .unset, .unset, .unset, .unset, .unset] [(.ref b2)])) tg → Steps pP.tables eE below (s₁.setTop (entryFrame mM #[(.int p1), (.int p2), (.long q0)] maxLocals)) tg := fun tg kg => pr93 _ (st95 _ kg)
  clear pr93 st95 X91 e91
  have pr97 : ∀ tg, Steps pP.tables eE below (T95.setTop (mkF mM 93 #[.val (.int p1), .val (.int p2), .val (.long q0), .second, .unset, .unset, .unset, .unset, .unset, .unset, .unset, .unset, .unset, .unset] [(.int (13 : Int32)), (.ref b2), (.ref b2)])) tg → Steps pP.tables eE below (s₁.setTop (entryFrame mM #[(.int p1), (.int p2), (.long q0)] maxLocals)) tg := fun tg kg => pr96 _ (by
    show Steps pP.tables eE below (T95.setTop (mkF mM 90 #[.val (.int p1), .val (.int p2), .val (.long q0), .second, .unset, .unset, .unset, .unset, .unset, .unset, .unset, .unset, .unset, .unset] [(.ref b2)])) _
    refine XS.dup X95.here hx rfl (hb hby at_90) rfl rfl ?_
    refine XS.bipush X95.here hx rfl (hb hby at_91) ?_
    exact kg)
  clear pr96
  have c99 := (Old.wr c92 W95 gn3)
  obtain ⟨T98, X98, e98, st98⟩ := getS2 X95 hx hZ hown (host := "") (Or.inl (hw _ (List.mem_of_getElem? (i := 30) rfl))) Via.refl e95 (Sta.ext (c99).2 S_OD) (g := (mkF mM 93 #[.val (.int p1), .val (.int p2), .val (.long q0), .second, .unset, .unset, .unset, .unset, .unset, .unset, .unset, .unset, .unset, .unset] [(.int (13 : Int32)), (.ref b2), (.ref b2)])) rfl (hb hby at_93)
  have pr100 : ∀ tg, Steps pP.tables eE below (T98.setTop (mkF mM 96 #[.val (.int p1), .val (.int p2), .val (.long q0), .second, .unset, .unset, .unset, .unset, .unset, .unset, .unset, .unset, .unset, .unset] [(.ref a_OD), (.int (13 : Int32)), (.ref b2), (.ref b2)])) tg → Steps pP.tables eE below (s₁.setTop (entryFrame mM #[(.int p1), (.int p2), (.long q0)] maxLocals)) tg := fun tg kg => pr97 _ (st98 _ kg)
  clear pr97 st98 X95 e95
  obtain ⟨cla101, Ara101, qa101, Sa101, Ma101, Ha101, Ga101⟩ := id V95
  have hin102 : ¬ ((13 : Int32) < 0 ∨ cla101.slots.size ≤ ((13 : Int32)).toNatClampNeg) := inb_of Sa101 ⟨by decide, by decide⟩
  obtain ⟨T102, h102, X102, e102, W102, st102⟩ := stR X98 hx hZ e98 Ara101 (j := (13 : Int32)) hin102 rfl (Sto.ofV Ara101 qa101 O2 (Ins.self (Exa.ext (c99).2 E_OD))) (g := (mkF mM 96 #[.val (.int p1), .val (.int p2), .val (.long q0), .second, .unset, .unset, .unset, .unset, .unset, .unset, .unset, .unset, .unset, .unset] [(.ref a_OD), (.int (13 : Int32)), (.ref b2), (.ref b2)])) rfl rfl (hb hby at_96)
  have V102 : Arv Z h102 b2 k2 (.object "com/example/tesserae/tesserae/value/Vr") (34 : Int32) [(.ref a_AE), (.ref a_AS), (.ref a_AT), (.ref a_CS), (.ref a_DA), (.ref a_DS), (.ref a_DT), (.ref a_FD), (.ref a_FL), (.ref a_IS), (.ref a_LO), (.ref a_LT), (.ref a_OB), (.ref a_OD), .null, .null, .null, .null, .null, .null, .null, .null, .null, .null, .null, .null, .null, .null, .null, .null, .null, .null, .null, .null] .null := Arv.set Ara101 qa101 Sa101 Ma101 Ha101 Ga101 rfl W102 13 rfl (Nat.le_of_ble_eq_true rfl)
  have N102 := Fr.snoc X102 N95 gn3
  have pr103 : ∀ tg, Steps pP.tables eE below (T102.setTop (mkF mM 97 #[.val (.int p1), .val (.int p2), .val (.long q0), .second, .unset, .unset, .unset, .unset, .unset, .unset, .unset, .unset, .unset, .unset] [(.ref b2)])) tg → Steps pP.tables eE below (s₁.setTop (entryFrame mM #[(.int p1), (.int p2), (.long q0)] maxLocals)) tg := fun tg kg => pr100 _ (st102 _ kg)
  clear pr100 st102 X98 e98
  have pr104 : ∀ tg, Steps pP.tables eE below (T102.setTop (mkF mM 100 #[.val (.int p1), .val (.int p2), .val (.long q0), .second, .unset, .unset, .unset, .unset, .unset, .unset, .unset, .unset, .unset, .unset] [(.int (14 : Int32)), (.ref b2), (.ref b2)])) tg → Steps pP.tables eE below (s₁.setTop (entryFrame mM #[(.int p1), (.int p2), (.long q0)] maxLocals)) tg := fun tg kg => pr103 _ (by
    show Steps pP.tables eE below (T102.setTop (mkF mM 97 #[.val (.int p1), .val (.int p2), .val (.long q0), .second, .unset, .unset, .unset, .unset, .unset, .unset, .unset, .unset, .unset, .unset] [(.ref b2)])) _
    refine XS.dup X102.here hx rfl (hb hby at_97) rfl rfl ?_
    refine XS.bipush X102.here hx rfl (hb hby at_98) ?_
    exact kg)
  clear pr103
  have c106 := (Old.wr c99 W102 gn3)
  obtain ⟨T105, X105, e105, st105⟩ := getS2 X102 hx hZ hown (host := "") (Or.inl (hw _ (List.mem_of_getElem? (i := 32) rfl))) Via.refl e102 (Sta.ext (c106).2 S_OF) (g := (mkF mM 100 #[.val (.int p1), .val (.int p2), .val (.long q0), .second, .unset, .unset, .unset, .unset, .unset, .unset, .unset, .unset, .unset, .unset] [(.int (14 : Int32)), (.ref b2), (.ref b2)])) rfl (hb hby at_100)
  have pr107 : ∀ tg, Steps pP.tables eE below (T105.setTop (mkF mM 103 #[.val (.int p1), .val (.int p2), .val (.long q0), .second, .unset, .unset, .unset, .unset, .unset, .unset, .unset, .unset, .unset, .unset] [(.ref a_OF), (.int (14 : Int32)), (.ref b2), (.ref b2)])) tg → Steps pP.tables eE below (s₁.setTop (entryFrame mM #[(.int p1), (.int p2), (.long q0)] maxLocals)) tg := fun tg kg => pr104 _ (st105 _ kg)
  clear pr104 st105 X102 e102
  obtain ⟨cla108, Ara108, qa108, Sa108, Ma108, Ha108, Ga108⟩ := id V102
  have hin109 : ¬ ((14 : Int32) < 0 ∨ cla108.slots.size ≤ ((14 : Int32)).toNatClampNeg) := inb_of Sa108 ⟨by decide, by decide⟩
  obtain ⟨T109, h109, X109, e109, W109, st109⟩ := stR X105 hx hZ e105 Ara108 (j := (14 : Int32)) hin109 rfl (Sto.ofV Ara108 qa108 O2 (Ins.self (Exa.ext (c106).2 E_OF))) (g := (mkF mM 103 #[.val (.int p1), .val (.int p2), .val (.long q0), .second, .unset, .unset, .unset, .unset, .unset, .unset, .unset, .unset, .unset, .unset] [(.ref a_OF), (.int (14 : Int32)), (.ref b2), (.ref b2)])) rfl rfl (hb hby at_103)
  have V109 : Arv Z h109 b2 k2 (.object "com/example/tesserae/tesserae/value/Vr") (34 : Int32) [(.ref a_AE), (.ref a_AS), (.ref a_AT), (.ref a_CS), (.ref a_DA), (.ref a_DS), (.ref a_DT), (.ref a_FD), (.ref a_FL), (.ref a_IS), (.ref a_LO), (.ref a_LT), (.ref a_OB), (.ref a_OD), (.ref a_OF), .null, .null, .null, .null, .null, .null, .null, .null, .null, .null, .null, .null, .null, .null, .null, .null, .null, .null, .null] .null := Arv.set Ara108 qa108 Sa108 Ma108 Ha108 Ga108 rfl W109 14 rfl (Nat.le_of_ble_eq_true rfl)
  have N109 := Fr.snoc X109 N102 gn3
  have pr110 : ∀ tg, Steps pP.tables eE below (T109.setTop (mkF mM 104 #[.val (.int p1), .val (.int p2), .val (.long q0), .second, .unset, .unset, .unset, .unset, .unset, .unset, .unset, .unset, .unset, .unset] [(.ref b2)])) tg → Steps pP.tables eE below (s₁.setTop (entryFrame mM #[(.int p1), (.int p2), (.long q0)] maxLocals)) tg := fun tg kg => pr107 _ (st109 _ kg)
  clear pr107 st109 X105 e105
  have pr111 : ∀ tg, Steps pP.tables eE below (T109.setTop (mkF mM 107 #[.val (.int p1), .val (.int p2), .val (.long q0), .second, .unset, .unset, .unset, .unset, .unset, .unset, .unset, .unset, .unset, .unset] [(.int (15 : Int32)), (.ref b2), (.ref b2)])) tg → Steps pP.tables eE below (s₁.setTop (entryFrame mM #[(.int p1), (.int p2), (.long q0)] maxLocals)) tg := fun tg kg => pr110 _ (by
    show Steps pP.tables eE below (T109.setTop (mkF mM 104 #[.val (.int p1), .val (.int p2), .val (.long q0), .second, .unset, .unset, .unset, .unset, .unset, .unset, .unset, .unset, .unset, .unset] [(.ref b2)])) _
    refine XS.dup X109.here hx rfl (hb hby at_104) rfl rfl ?_
    refine XS.bipush X109.here hx rfl (hb hby at_105) ?_
    exact kg)
  clear pr110
  have c113 := (Old.wr c106 W109 gn3)
  obtain ⟨T112, X112, e112, st112⟩ := getS2 X109 hx hZ hown (host := "") (Or.inl (hw _ (List.mem_of_getElem? (i := 34) rfl))) Via.refl e109 (Sta.ext (c113).2 S_OL) (g := (mkF mM 107 #[.val (.int p1), .val (.int p2), .val (.long q0), .second, .unset, .unset, .unset, .unset, .unset, .unset, .unset, .unset, .unset, .unset] [(.int (15 : Int32)), (.ref b2), (.ref b2)])) rfl (hb hby at_107)
  have pr114 : ∀ tg, Steps pP.tables eE below (T112.setTop (mkF mM 110 #[.val (.int p1), .val (.int p2), .val (.long q0), .second, .unset, .unset, .unset, .unset, .unset, .unset, .unset, .unset, .unset, .unset] [(.ref a_OL), (.int (15 : Int32)), (.ref b2), (.ref b2)])) tg → Steps pP.tables eE below (s₁.setTop (entryFrame mM #[(.int p1), (.int p2), (.long q0)] maxLocals)) tg := fun tg kg => pr111 _ (st112 _ kg)
  clear pr111 st112 X109 e109
  obtain ⟨cla115, Ara115, qa115, Sa115, Ma115, Ha115, Ga115⟩ := id V109
  have hin116 : ¬ ((15 : Int32) < 0 ∨ cla115.slots.size ≤ ((15 : Int32)).toNatClampNeg) := inb_of Sa115 ⟨by decide, by decide⟩
  obtain ⟨T116, h116, X116, e116, W116, st116⟩ := stR X112 hx hZ e112 Ara115 (j := (15 : Int32)) hin116 rfl (Sto.ofV Ara115 qa115 O2 (Ins.self (Exa.ext (c113).2 E_OL))) (g := (mkF mM 110 #[.val (.int p1), .val (.int p2), .val (.long q0), .second, .unset, .unset, .unset, .unset, .unset, .unset, .unset, .unset, .unset, .unset] [(.ref a_OL), (.int (15 : Int32)), (.ref b2), (.ref b2)])) rfl rfl (hb hby at_110)
  have V116 : Arv Z h116 b2 k2 (.object "com/example/tesserae/tesserae/value/Vr") (34 : Int32) [(.ref a_AE), (.ref a_AS), (.ref a_AT), (.ref a_CS), (.ref a_DA), (.ref a_DS), (.ref a_DT), (.ref a_FD), (.ref a_FL), (.ref a_IS), (.ref a_LO), (.ref a_LT), (.ref a_OB), (.ref a_OD), (.ref a_OF), (.ref a_OL), .null, .null, .null, .null, .null, .null, .null, .null, .null, .null, .null, .null, .null, .null, .null, .null, .null, .null] .null := Arv.set Ara115 qa115 Sa115 Ma115 Ha115 Ga115 rfl W116 15 rfl (Nat.le_of_ble_eq_true rfl)
  have N116 := Fr.snoc X116 N109 gn3
  have pr117 : ∀ tg, Steps pP.tables eE below (T116.setTop (mkF mM 111 #[.val (.int p1), .val (.int p2), .val (.long q0), .second, .unset, .unset, .unset, .unset, .unset, .unset, .unset, .unset, .unset, .unset] [(.ref b2)])) tg → Steps pP.tables eE below (s₁.setTop (entryFrame mM #[(.int p1), (.int p2), (.long q0)] maxLocals)) tg := fun tg kg => pr114 _ (st116 _ kg)
  clear pr114 st116 X112 e112
  have pr118 : ∀ tg, Steps pP.tables eE below (T116.setTop (mkF mM 114 #[.val (.int p1), .val (.int p2), .val (.long q0), .second, .unset, .unset, .unset, .unset, .unset, .unset, .unset, .unset, .unset, .unset] [(.int (16 : Int32)), (.ref b2), (.ref b2)])) tg → Steps pP.tables eE below (s₁.setTop (entryFrame mM #[(.int p1), (.int p2), (.long q0)] maxLocals)) tg := fun tg kg => pr117 _ (by
    show Steps pP.tables eE below (T116.setTop (mkF mM 111 #[.val (.int p1), .val (.int p2), .val (.long q0), .second, .unset, .unset, .unset, .unset, .unset, .unset, .unset, .unset, .unset, .unset] [(.ref b2)])) _
    refine XS.dup X116.here hx rfl (hb hby at_111) rfl rfl ?_
    refine XS.bipush X116.here hx rfl (hb hby at_112) ?_
    exact kg)
  clear pr117
  have c120 := (Old.wr c113 W116 gn3)
  obtain ⟨T119, X119, e119, st119⟩ := getS2 X116 hx hZ hown (host := "") (Or.inl (hw _ (List.mem_of_getElem? (i := 36) rfl))) Via.refl e116 (Sta.ext (c120).2 S_OV) (g := (mkF mM 114 #[.val (.int p1), .val (.int p2), .val (.long q0), .second, .unset, .unset, .unset, .unset, .unset, .unset, .unset, .unset, .unset, .unset] [(.int (16 : Int32)), (.ref b2), (.ref b2)])) rfl (hb hby at_114)
  have pr121 : ∀ tg, Steps pP.tables eE below (T119.setTop (mkF mM 117 #[.val (.int p1), .val (.int p2), .val (.long q0), .second, .unset, .unset, .unset, .unset, .unset, .unset, .unset, .unset, .unset, .unset] [(.ref a_OV), (.int (16 : Int32)), (.ref b2), (.ref b2)])) tg → Steps pP.tables eE below (s₁.setTop (entryFrame mM #[(.int p1), (.int p2), (.long q0)] maxLocals)) tg := fun tg kg => pr118 _ (st119 _ kg)
  clear pr118 st119 X116 e116
  obtain ⟨cla122, Ara122, qa122, Sa122, Ma122, Ha122, Ga122⟩ := id V116
  have hin123 : ¬ ((16 : Int32) < 0 ∨ cla122.slots.size ≤ ((16 : Int32)).toNatClampNeg) := inb_of Sa122 ⟨by decide, by decide⟩
  obtain ⟨T123, h123, X123, e123, W123, st123⟩ := stR X119 hx hZ e119 Ara122 (j := (16 : Int32)) hin123 rfl (Sto.ofV Ara122 qa122 O2 (Ins.self (Exa.ext (c120).2 E_OV))) (g := (mkF mM 117 #[.val (.int p1), .val (.int p2), .val (.long q0), .second, .unset, .unset, .unset, .unset, .unset, .unset, .unset, .unset, .unset, .unset] [(.ref a_OV), (.int (16 : Int32)), (.ref b2), (.ref b2)])) rfl rfl (hb hby at_117)
  have V123 : Arv Z h123 b2 k2 (.object "com/example/tesserae/tesserae/value/Vr") (34 : Int32) [(.ref a_AE), (.ref a_AS), (.ref a_AT), (.ref a_CS), (.ref a_DA), (.ref a_DS), (.ref a_DT), (.ref a_FD), (.ref a_FL), (.ref a_IS), (.ref a_LO), (.ref a_LT), (.ref a_OB), (.ref a_OD), (.ref a_OF), (.ref a_OL), (.ref a_OV), .null, .null, .null, .null, .null, .null, .null, .null, .null, .null, .null, .null, .null, .null, .null, .null, .null] .null := Arv.set Ara122 qa122 Sa122 Ma122 Ha122 Ga122 rfl W123 16 rfl (Nat.le_of_ble_eq_true rfl)
  have N123 := Fr.snoc X123 N116 gn3
  have pr124 : ∀ tg, Steps pP.tables eE below (T123.setTop (mkF mM 118 #[.val (.int p1), .val (.int p2), .val (.long q0), .second, .unset, .unset, .unset, .unset, .unset, .unset, .unset, .unset, .unset, .unset] [(.ref b2)])) tg → Steps pP.tables eE below (s₁.setTop (entryFrame mM #[(.int p1), (.int p2), (.long q0)] maxLocals)) tg := fun tg kg => pr121 _ (st123 _ kg)
  clear pr121 st123 X119 e119
  have pr125 : ∀ tg, Steps pP.tables eE below (T123.setTop (mkF mM 121 #[.val (.int p1), .val (.int p2), .val (.long q0), .second, .unset, .unset, .unset, .unset, .unset, .unset, .unset, .unset, .unset, .unset] [(.int (17 : Int32)), (.ref b2), (.ref b2)])) tg → Steps pP.tables eE below (s₁.setTop (entryFrame mM #[(.int p1), (.int p2), (.long q0)] maxLocals)) tg := fun tg kg => pr124 _ (by
    show Steps pP.tables eE below (T123.setTop (mkF mM 118 #[.val (.int p1), .val (.int p2), .val (.long q0), .second, .unset, .unset, .unset, .unset, .unset, .unset, .unset, .unset, .unset, .unset] [(.ref b2)])) _
    refine XS.dup X123.here hx rfl (hb hby at_118) rfl rfl ?_
    refine XS.bipush X123.here hx rfl (hb hby at_119) ?_
    exact kg)
  clear pr124
  have c127 := (Old.wr c120 W123 gn3)
  obtain ⟨T126, X126, e126, st126⟩ := getS2 X123 hx hZ hown (host := "") (Or.inl (hw _ (List.mem_of_getElem? (i := 38) rfl))) Via.refl e123 (Sta.ext (c127).2 S_OW) (g := (mkF mM 121 #[.val (.int p1), .val (.int p2), .val (.long q0), .second, .unset, .unset, .unset, .unset, .unset, .unset, .unset, .unset, .unset, .unset] [(.int (17 : Int32)), (.ref b2), (.ref b2)])) rfl (hb hby at_121)
  have pr128 : ∀ tg, Steps pP.tables eE below (T126.setTop (mkF mM 124 #[.val (.int p1), .val (.int p2), .val (.long q0), .second, .unset, .unset, .unset, .unset, .unset, .unset, .unset, .unset, .unset, .unset] [(.ref a_OW), (.int (17 : Int32)), (.ref b2), (.ref b2)])) tg → Steps pP.tables eE below (s₁.setTop (entryFrame mM #[(.int p1), (.int p2), (.long q0)] maxLocals)) tg := fun tg kg => pr125 _ (st126 _ kg)
  clear pr125 st126 X123 e123
  obtain ⟨cla129, Ara129, qa129, Sa129, Ma129, Ha129, Ga129⟩ := id V123
  have hin130 : ¬ ((17 : Int32) < 0 ∨ cla129.slots.size ≤ ((17 : Int32)).toNatClampNeg) := inb_of Sa129 ⟨by decide, by decide⟩
  obtain ⟨T130, h130, X130, e130, W130, st130⟩ := stR X126 hx hZ e126 Ara129 (j := (17 : Int32)) hin130 rfl (Sto.ofV Ara129 qa129 O2 (Ins.self (Exa.ext (c127).2 E_OW))) (g := (mkF mM 124 #[.val (.int p1), .val (.int p2), .val (.long q0), .second, .unset, .unset, .unset, .unset, .unset, .unset, .unset, .unset, .unset, .unset] [(.ref a_OW), (.int (17 : Int32)), (.ref b2), (.ref b2)])) rfl rfl (hb hby at_124)
  have V130 : Arv Z h130 b2 k2 (.object "com/example/tesserae/tesserae/value/Vr") (34 : Int32) [(.ref a_AE), (.ref a_AS), (.ref a_AT), (.ref a_CS), (.ref a_DA), (.ref a_DS), (.ref a_DT), (.ref a_FD), (.ref a_FL), (.ref a_IS), (.ref a_LO), (.ref a_LT), (.ref a_OB), (.ref a_OD), (.ref a_OF), (.ref a_OL), (.ref a_OV), (.ref a_OW), .null, .null, .null, .null, .null, .null, .null, .null, .null, .null, .null, .null, .null, .null, .null, .null] .null := Arv.set Ara129 qa129 Sa129 Ma129 Ha129 Ga129 rfl W130 17 rfl (Nat.le_of_ble_eq_true rfl)
  have N130 := Fr.snoc X130 N123 gn3
  have pr131 : ∀ tg, Steps pP.tables eE below (T130.setTop (mkF mM 125 #[.val (.int p1), .val (.int p2), .val (.long q0), .second, .unset, .unset, .unset, .unset, .unset, .unset, .unset, .unset, .unset, .unset] [(.ref b2)])) tg → Steps pP.tables eE below (s₁.setTop (entryFrame mM #[(.int p1), (.int p2), (.long q0)] maxLocals)) tg := fun tg kg => pr128 _ (st130 _ kg)
  clear pr128 st130 X126 e126
  have pr132 : ∀ tg, Steps pP.tables eE below (T130.setTop (mkF mM 128 #[.val (.int p1), .val (.int p2), .val (.long q0), .second, .unset, .unset, .unset, .unset, .unset, .unset, .unset, .unset, .unset, .unset] [(.int (18 : Int32)), (.ref b2), (.ref b2)])) tg → Steps pP.tables eE below (s₁.setTop (entryFrame mM #[(.int p1), (.int p2), (.long q0)] maxLocals)) tg := fun tg kg => pr131 _ (by
    show Steps pP.tables eE below (T130.setTop (mkF mM 125 #[.val (.int p1), .val (.int p2), .val (.long q0), .second, .unset, .unset, .unset, .unset, .unset, .unset, .unset, .unset, .unset, .unset] [(.ref b2)])) _
    refine XS.dup X130.here hx rfl (hb hby at_125) rfl rfl ?_
    refine XS.bipush X130.here hx rfl (hb hby at_126) ?_
    exact kg)
  clear pr131
  have c134 := (Old.wr c127 W130 gn3)
  obtain ⟨T133, X133, e133, st133⟩ := getS2 X130 hx hZ hown (host := "") (Or.inl (hw _ (List.mem_of_getElem? (i := 40) rfl))) Via.refl e130 (Sta.ext (c134).2 S_PN) (g := (mkF mM 128 #[.val (.int p1), .val (.int p2), .val (.long q0), .second, .unset, .unset, .unset, .unset, .unset, .unset, .unset, .unset, .unset, .unset] [(.int (18 : Int32)), (.ref b2), (.ref b2)])) rfl (hb hby at_128)
  have pr135 : ∀ tg, Steps pP.tables eE below (T133.setTop (mkF mM 131 #[.val (.int p1), .val (.int p2), .val (.long q0), .second, .unset, .unset, .unset, .unset, .unset, .unset, .unset, .unset, .unset, .unset] [(.ref a_PN), (.int (18 : Int32)), (.ref b2), (.ref b2)])) tg → Steps pP.tables eE below (s₁.setTop (entryFrame mM #[(.int p1), (.int p2), (.long q0)] maxLocals)) tg := fun tg kg => pr132 _ (st133 _ kg)
  clear pr132 st133 X130 e130
  obtain ⟨cla136, Ara136, qa136, Sa136, Ma136, Ha136, Ga136⟩ := id V130
  have hin137 : ¬ ((18 : Int32) < 0 ∨ cla136.slots.size ≤ ((18 : Int32)).toNatClampNeg) := inb_of Sa136 ⟨by decide, by decide⟩
  obtain ⟨T137, h137, X137, e137, W137, st137⟩ := stR X133 hx hZ e133 Ara136 (j := (18 : Int32)) hin137 rfl (Sto.ofV Ara136 qa136 O2 (Ins.self (Exa.ext (c134).2 E_PN))) (g := (mkF mM 131 #[.val (.int p1), .val (.int p2), .val (.long q0), .second, .unset, .unset, .unset, .unset, .unset, .unset, .unset, .unset, .unset, .unset] [(.ref a_PN), (.int (18 : Int32)), (.ref b2), (.ref b2)])) rfl rfl (hb hby at_131)
  have V137 : Arv Z h137 b2 k2 (.object "com/example/tesserae/tesserae/value/Vr") (34 : Int32) [(.ref a_AE), (.ref a_AS), (.ref a_AT), (.ref a_CS), (.ref a_DA), (.ref a_DS), (.ref a_DT), (.ref a_FD), (.ref a_FL), (.ref a_IS), (.ref a_LO), (.ref a_LT), (.ref a_OB), (.ref a_OD), (.ref a_OF), (.ref a_OL), (.ref a_OV), (.ref a_OW), (.ref a_PN), .null, .null, .null, .null, .null, .null, .null, .null, .null, .null, .null, .null, .null, .null, .null] .null := Arv.set Ara136 qa136 Sa136 Ma136 Ha136 Ga136 rfl W137 18 rfl (Nat.le_of_ble_eq_true rfl)
  have N137 := Fr.snoc X137 N130 gn3
  have pr138 : ∀ tg, Steps pP.tables eE below (T137.setTop (mkF mM 132 #[.val (.int p1), .val (.int p2), .val (.long q0), .second, .unset, .unset, .unset, .unset, .unset, .unset, .unset, .unset, .unset, .unset] [(.ref b2)])) tg → Steps pP.tables eE below (s₁.setTop (entryFrame mM #[(.int p1), (.int p2), (.long q0)] maxLocals)) tg := fun tg kg => pr135 _ (st137 _ kg)
  clear pr135 st137 X133 e133
  have pr139 : ∀ tg, Steps pP.tables eE below (T137.setTop (mkF mM 135 #[.val (.int p1), .val (.int p2), .val (.long q0), .second, .unset, .unset, .unset, .unset, .unset, .unset, .unset, .unset, .unset, .unset] [(.int (19 : Int32)), (.ref b2), (.ref b2)])) tg → Steps pP.tables eE below (s₁.setTop (entryFrame mM #[(.int p1), (.int p2), (.long q0)] maxLocals)) tg := fun tg kg => pr138 _ (by
    show Steps pP.tables eE below (T137.setTop (mkF mM 132 #[.val (.int p1), .val (.int p2), .val (.long q0), .second, .unset, .unset, .unset, .unset, .unset, .unset, .unset, .unset, .unset, .unset] [(.ref b2)])) _
    refine XS.dup X137.here hx rfl (hb hby at_132) rfl rfl ?_
    refine XS.bipush X137.here hx rfl (hb hby at_133) ?_
    exact kg)
  clear pr138
  have c141 := (Old.wr c134 W137 gn3)
  obtain ⟨T140, X140, e140, st140⟩ := getS2 X137 hx hZ hown (host := "") (Or.inl (hw _ (List.mem_of_getElem? (i := 42) rfl))) Via.refl e137 (Sta.ext (c141).2 S_SH) (g := (mkF mM 135 #[.val (.int p1), .val (.int p2), .val (.long q0), .second, .unset, .unset, .unset, .unset, .unset, .unset, .unset, .unset, .unset, .unset] [(.int (19 : Int32)), (.ref b2), (.ref b2)])) rfl (hb hby at_135)
  have pr142 : ∀ tg, Steps pP.tables eE below (T140.setTop (mkF mM 138 #[.val (.int p1), .val (.int p2), .val (.long q0), .second, .unset, .unset, .unset, .unset, .unset, .unset, .unset, .unset, .unset, .unset] [(.ref a_SH), (.int (19 : Int32)), (.ref b2), (.ref b2)])) tg → Steps pP.tables eE below (s₁.setTop (entryFrame mM #[(.int p1), (.int p2), (.long q0)] maxLocals)) tg := fun tg kg => pr139 _ (st140 _ kg)
  clear pr139 st140 X137 e137
  obtain ⟨cla143, Ara143, qa143, Sa143, Ma143, Ha143, Ga143⟩ := id V137
  have hin144 : ¬ ((19 : Int32) < 0 ∨ cla143.slots.size ≤ ((19 : Int32)).toNatClampNeg) := inb_of Sa143 ⟨by decide, by decide⟩
  obtain ⟨T144, h144, X144, e144, W144, st144⟩ := stR X140 hx hZ e140 Ara143 (j := (19 : Int32)) hin144 rfl (Sto.ofV Ara143 qa143 O2 (Ins.self (Exa.ext (c141).2 E_SH))) (g := (mkF mM 138 #[.val (.int p1), .val (.int p2), .val (.long q0), .second, .unset, .unset, .unset, .unset, .unset, .unset, .unset, .unset, .unset, .unset] [(.ref a_SH), (.int (19 : Int32)), (.ref b2), (.ref b2)])) rfl rfl (hb hby at_138)
  have V144 : Arv Z h144 b2 k2 (.object "com/example/tesserae/tesserae/value/Vr") (34 : Int32) [(.ref a_AE), (.ref a_AS), (.ref a_AT), (.ref a_CS), (.ref a_DA), (.ref a_DS), (.ref a_DT), (.ref a_FD), (.ref a_FL), (.ref a_IS), (.ref a_LO), (.ref a_LT), (.ref a_OB), (.ref a_OD), (.ref a_OF), (.ref a_OL), (.ref a_OV), (.ref a_OW), (.ref a_PN), (.ref a_SH), .null, .null, .null, .null, .null, .null, .null, .null, .null, .null, .null, .null, .null, .null] .null := Arv.set Ara143 qa143 Sa143 Ma143 Ha143 Ga143 rfl W144 19 rfl (Nat.le_of_ble_eq_true rfl)
  have N144 := Fr.snoc X144 N137 gn3
  have pr145 : ∀ tg, Steps pP.tables eE below (T144.setTop (mkF mM 139 #[.val (.int p1), .val (.int p2), .val (.long q0), .second, .unset, .unset, .unset, .unset, .unset, .unset, .unset, .unset, .unset, .unset] [(.ref b2)])) tg → Steps pP.tables eE below (s₁.setTop (entryFrame mM #[(.int p1), (.int p2), (.long q0)] maxLocals)) tg := fun tg kg => pr142 _ (st144 _ kg)
  clear pr142 st144 X140 e140
  have pr146 : ∀ tg, Steps pP.tables eE below (T144.setTop (mkF mM 142 #[.val (.int p1), .val (.int p2), .val (.long q0), .second, .unset, .unset, .unset, .unset, .unset, .unset, .unset, .unset, .unset, .unset] [(.int (20 : Int32)), (.ref b2), (.ref b2)])) tg → Steps pP.tables eE below (s₁.setTop (entryFrame mM #[(.int p1), (.int p2), (.long q0)] maxLocals)) tg := fun tg kg => pr145 _ (by
    show Steps pP.tables eE below (T144.setTop (mkF mM 139 #[.val (.int p1), .val (.int p2), .val (.long q0), .second, .unset, .unset, .unset, .unset, .unset, .unset, .unset, .unset, .unset, .unset] [(.ref b2)])) _
    refine XS.dup X144.here hx rfl (hb hby at_139) rfl rfl ?_
    refine XS.bipush X144.here hx rfl (hb hby at_140) ?_
    exact kg)
  clear pr145
  have c148 := (Old.wr c141 W144 gn3)
  obtain ⟨T147, X147, e147, st147⟩ := getS2 X144 hx hZ hown (host := "") (Or.inl (hw _ (List.mem_of_getElem? (i := 44) rfl))) Via.refl e144 (Sta.ext (c148).2 S_SL) (g := (mkF mM 142 #[.val (.int p1), .val (.int p2), .val (.long q0), .second, .unset, .unset, .unset, .unset, .unset, .unset, .unset, .unset, .unset, .unset] [(.int (20 : Int32)), (.ref b2), (.ref b2)])) rfl (hb hby at_142)
  have pr149 : ∀ tg, Steps pP.tables eE below (T147.setTop (mkF mM 145 #[.val (.int p1), .val (.int p2), .val (.long q0), .second, .unset, .unset, .unset, .unset, .unset, .unset, .unset, .unset, .unset, .unset] [(.ref a_SL), (.int (20 : Int32)), (.ref b2), (.ref b2)])) tg → Steps pP.tables eE below (s₁.setTop (entryFrame mM #[(.int p1), (.int p2), (.long q0)] maxLocals)) tg := fun tg kg => pr146 _ (st147 _ kg)
  clear pr146 st147 X144 e144
  obtain ⟨cla150, Ara150, qa150, Sa150, Ma150, Ha150, Ga150⟩ := id V144
  have hin151 : ¬ ((20 : Int32) < 0 ∨ cla150.slots.size ≤ ((20 : Int32)).toNatClampNeg) := inb_of Sa150 ⟨by decide, by decide⟩
  obtain ⟨T151, h151, X151, e151, W151, st151⟩ := stR X147 hx hZ e147 Ara150 (j := (20 : Int32)) hin151 rfl (Sto.ofV Ara150 qa150 O2 (Ins.self (Exa.ext (c148).2 E_SL))) (g := (mkF mM 145 #[.val (.int p1), .val (.int p2), .val (.long q0), .second, .unset, .unset, .unset, .unset, .unset, .unset, .unset, .unset, .unset, .unset] [(.ref a_SL), (.int (20 : Int32)), (.ref b2), (.ref b2)])) rfl rfl (hb hby at_145)
  have V151 : Arv Z h151 b2 k2 (.object "com/example/tesserae/tesserae/value/Vr") (34 : Int32) [(.ref a_AE), (.ref a_AS), (.ref a_AT), (.ref a_CS), (.ref a_DA), (.ref a_DS), (.ref a_DT), (.ref a_FD), (.ref a_FL), (.ref a_IS), (.ref a_LO), (.ref a_LT), (.ref a_OB), (.ref a_OD), (.ref a_OF), (.ref a_OL), (.ref a_OV), (.ref a_OW), (.ref a_PN), (.ref a_SH), (.ref a_SL), .null, .null, .null, .null, .null, .null, .null, .null, .null, .null, .null, .null, .null] .null := Arv.set Ara150 qa150 Sa150 Ma150 Ha150 Ga150 rfl W151 20 rfl (Nat.le_of_ble_eq_true rfl)
  have N151 := Fr.snoc X151 N144 gn3
  have pr152 : ∀ tg, Steps pP.tables eE below (T151.setTop (mkF mM 146 #[.val (.int p1), .val (.int p2), .val (.long q0), .second, .unset, .unset, .unset, .unset, .unset, .unset, .unset, .unset, .unset, .unset] [(.ref b2)])) tg → Steps pP.tables eE below (s₁.setTop (entryFrame mM #[(.int p1), (.int p2), (.long q0)] maxLocals)) tg := fun tg kg => pr149 _ (st151 _ kg)
  clear pr149 st151 X147 e147
  have pr153 : ∀ tg, Steps pP.tables eE below (T151.setTop (mkF mM 149 #[.val (.int p1), .val (.int p2), .val (.long q0), .second, .unset, .unset, .unset, .unset, .unset, .unset, .unset, .unset, .unset, .unset] [(.int (21 : Int32)), (.ref b2), (.ref b2)])) tg → Steps pP.tables eE below (s₁.setTop (entryFrame mM #[(.int p1), (.int p2), (.long q0)] maxLocals)) tg := fun tg kg => pr152 _ (by
    show Steps pP.tables eE below (T151.setTop (mkF mM 146 #[.val (.int p1), .val (.int p2), .val (.long q0), .second, .unset, .unset, .unset, .unset, .unset, .unset, .unset, .unset, .unset, .unset] [(.ref b2)])) _
    refine XS.dup X151.here hx rfl (hb hby at_146) rfl rfl ?_
    refine XS.bipush X151.here hx rfl (hb hby at_147) ?_
    exact kg)
  clear pr152
  have c155 := (Old.wr c148 W151 gn3)
  obtain ⟨T154, X154, e154, st154⟩ := getS2 X151 hx hZ hown (host := "") (Or.inl (hw _ (List.mem_of_getElem? (i := 46) rfl))) Via.refl e151 (Sta.ext (c155).2 S_SQ) (g := (mkF mM 149 #[.val (.int p1), .val (.int p2), .val (.long q0), .second, .unset, .unset, .unset, .unset, .unset, .unset, .unset, .unset, .unset, .unset] [(.int (21 : Int32)), (.ref b2), (.ref b2)])) rfl (hb hby at_149)
  have pr156 : ∀ tg, Steps pP.tables eE below (T154.setTop (mkF mM 152 #[.val (.int p1), .val (.int p2), .val (.long q0), .second, .unset, .unset, .unset, .unset, .unset, .unset, .unset, .unset, .unset, .unset] [(.ref a_SQ), (.int (21 : Int32)), (.ref b2), (.ref b2)])) tg → Steps pP.tables eE below (s₁.setTop (entryFrame mM #[(.int p1), (.int p2), (.long q0)] maxLocals)) tg := fun tg kg => pr153 _ (st154 _ kg)
  clear pr153 st154 X151 e151
  obtain ⟨cla157, Ara157, qa157, Sa157, Ma157, Ha157, Ga157⟩ := id V151
  have hin158 : ¬ ((21 : Int32) < 0 ∨ cla157.slots.size ≤ ((21 : Int32)).toNatClampNeg) := inb_of Sa157 ⟨by decide, by decide⟩
  obtain ⟨T158, h158, X158, e158, W158, st158⟩ := stR X154 hx hZ e154 Ara157 (j := (21 : Int32)) hin158 rfl (Sto.ofV Ara157 qa157 O2 (Ins.self (Exa.ext (c155).2 E_SQ))) (g := (mkF mM 152 #[.val (.int p1), .val (.int p2), .val (.long q0), .second, .unset, .unset, .unset, .unset, .unset, .unset, .unset, .unset, .unset, .unset] [(.ref a_SQ), (.int (21 : Int32)), (.ref b2), (.ref b2)])) rfl rfl (hb hby at_152)
  have V158 : Arv Z h158 b2 k2 (.object "com/example/tesserae/tesserae/value/Vr") (34 : Int32) [(.ref a_AE), (.ref a_AS), (.ref a_AT), (.ref a_CS), (.ref a_DA), (.ref a_DS), (.ref a_DT), (.ref a_FD), (.ref a_FL), (.ref a_IS), (.ref a_LO), (.ref a_LT), (.ref a_OB), (.ref a_OD), (.ref a_OF), (.ref a_OL), (.ref a_OV), (.ref a_OW), (.ref a_PN), (.ref a_SH), (.ref a_SL), (.ref a_SQ), .null, .null, .null, .null, .null, .null, .null, .null, .null, .null, .null, .null] .null := Arv.set Ara157 qa157 Sa157 Ma157 Ha157 Ga157 rfl W158 21 rfl (Nat.le_of_ble_eq_true rfl)
  have N158 := Fr.snoc X158 N151 gn3
  have pr159 : ∀ tg, Steps pP.tables eE below (T158.setTop (mkF mM 153 #[.val (.int p1), .val (.int p2), .val (.long q0), .second, .unset, .unset, .unset, .unset, .unset, .unset, .unset, .unset, .unset, .unset] [(.ref b2)])) tg → Steps pP.tables eE below (s₁.setTop (entryFrame mM #[(.int p1), (.int p2), (.long q0)] maxLocals)) tg := fun tg kg => pr156 _ (st158 _ kg)
  clear pr156 st158 X154 e154
  have pr160 : ∀ tg, Steps pP.tables eE below (T158.setTop (mkF mM 156 #[.val (.int p1), .val (.int p2), .val (.long q0), .second, .unset, .unset, .unset, .unset, .unset, .unset, .unset, .unset, .unset, .unset] [(.int (22 : Int32)), (.ref b2), (.ref b2)])) tg → Steps pP.tables eE below (s₁.setTop (entryFrame mM #[(.int p1), (.int p2), (.long q0)] maxLocals)) tg := fun tg kg => pr159 _ (by
    show Steps pP.tables eE below (T158.setTop (mkF mM 153 #[.val (.int p1), .val (.int p2), .val (.long q0), .second, .unset, .unset, .unset, .unset, .unset, .unset, .unset, .unset, .unset, .unset] [(.ref b2)])) _
    refine XS.dup X158.here hx rfl (hb hby at_153) rfl rfl ?_
    refine XS.bipush X158.here hx rfl (hb hby at_154) ?_
    exact kg)
  clear pr159
  have c162 := (Old.wr c155 W158 gn3)
  obtain ⟨T161, X161, e161, st161⟩ := getS2 X158 hx hZ hown (host := "") (Or.inl (hw _ (List.mem_of_getElem? (i := 48) rfl))) Via.refl e158 (Sta.ext (c162).2 S_SS) (g := (mkF mM 156 #[.val (.int p1), .val (.int p2), .val (.long q0), .second, .unset, .unset, .unset, .unset, .unset, .unset, .unset, .unset, .unset, .unset] [(.int (22 : Int32)), (.ref b2), (.ref b2)])) rfl (hb hby at_156)
  have pr163 : ∀ tg, Steps pP.tables eE below (T161.setTop (mkF mM 159 #[.val (.int p1), .val (.int p2), .val (.long q0), .second, .unset, .unset, .unset, .unset, .unset, .unset, .unset, .unset, .unset, .unset] [(.ref a_SS), (.int (22 : Int32)), (.ref b2), (.ref b2)])) tg → Steps pP.tables eE below (s₁.setTop (entryFrame mM #[(.int p1), (.int p2), (.long q0)] maxLocals)) tg := fun tg kg => pr160 _ (st161 _ kg)
  clear pr160 st161 X158 e158
  obtain ⟨cla164, Ara164, qa164, Sa164, Ma164, Ha164, Ga164⟩ := id V158
  have hin165 : ¬ ((22 : Int32) < 0 ∨ cla164.slots.size ≤ ((22 : Int32)).toNatClampNeg) := inb_of Sa164 ⟨by decide, by decide⟩
  obtain ⟨T165, h165, X165, e165, W165, st165⟩ := stR X161 hx hZ e161 Ara164 (j := (22 : Int32)) hin165 rfl (Sto.ofV Ara164 qa164 O2 (Ins.self (Exa.ext (c162).2 E_SS))) (g := (mkF mM 159 #[.val (.int p1), .val (.int p2), .val (.long q0), .second, .unset, .unset, .unset, .unset, .unset, .unset, .unset, .unset, .unset, .unset] [(.ref a_SS), (.int (22 : Int32)), (.ref b2), (.ref b2)])) rfl rfl (hb hby at_159)
  have V165 : Arv Z h165 b2 k2 (.object "com/example/tesserae/tesserae/value/Vr") (34 : Int32) [(.ref a_AE), (.ref a_AS), (.ref a_AT), (.ref a_CS), (.ref a_DA), (.ref a_DS), (.ref a_DT), (.ref a_FD), (.ref a_FL), (.ref a_IS), (.ref a_LO), (.ref a_LT), (.ref a_OB), (.ref a_OD), (.ref a_OF), (.ref a_OL), (.ref a_OV), (.ref a_OW), (.ref a_PN), (.ref a_SH), (.ref a_SL), (.ref a_SQ), (.ref a_SS), .null, .null, .null, .null, .null, .null, .null, .null, .null, .null, .null] .null := Arv.set Ara164 qa164 Sa164 Ma164 Ha164 Ga164 rfl W165 22 rfl (Nat.le_of_ble_eq_true rfl)
  have N165 := Fr.snoc X165 N158 gn3
  have pr166 : ∀ tg, Steps pP.tables eE below (T165.setTop (mkF mM 160 #[.val (.int p1), .val (.int p2), .val (.long q0), .second, .unset, .unset, .unset, .unset, .unset, .unset, .unset, .unset, .unset, .unset] [(.ref b2)])) tg → Steps pP.tables eE below (s₁.setTop (entryFrame mM #[(.int p1), (.int p2), (.long q0)] maxLocals)) tg := fun tg kg => pr163 _ (st165 _ kg)
  clear pr163 st165 X161 e161
  have pr167 : ∀ tg, Steps pP.tables eE below (T165.setTop (mkF mM 163 #[.val (.int p1), .val (.int p2), .val (.long q0), .second, .unset, .unset, .unset, .unset, .unset, .unset, .unset, .unset, .unset, .unset] [(.int (23 : Int32)), (.ref b2), (.ref b2)])) tg → Steps pP.tables eE below (s₁.setTop (entryFrame mM #[(.int p1), (.int p2), (.long q0)] maxLocals)) tg := fun tg kg => pr166 _ (by
    show Steps pP.tables eE below (T165.setTop (mkF mM 160 #[.val (.int p1), .val (.int p2), .val (.long q0), .second, .unset, .unset, .unset, .unset, .unset, .unset, .unset, .unset, .unset, .unset] [(.ref b2)])) _
    refine XS.dup X165.here hx rfl (hb hby at_160) rfl rfl ?_
    refine XS.bipush X165.here hx rfl (hb hby at_161) ?_
    exact kg)
  clear pr166
  have c169 := (Old.wr c162 W165 gn3)
  obtain ⟨T168, X168, e168, st168⟩ := getS2 X165 hx hZ hown (host := "") (Or.inl (hw _ (List.mem_of_getElem? (i := 50) rfl))) Via.refl e165 (Sta.ext (c169).2 S_ST) (g := (mkF mM 163 #[.val (.int p1), .val (.int p2), .val (.long q0), .second, .unset, .unset, .unset, .unset, .unset, .unset, .unset, .unset, .unset, .unset] [(.int (23 : Int32)), (.ref b2), (.ref b2)])) rfl (hb hby at_163)
  have pr170 : ∀ tg, Steps pP.tables eE below (T168.setTop (mkF mM 166 #[.val (.int p1), .val (.int p2), .val (.long q0), .second, .unset, .unset, .unset, .unset, .unset, .unset, .unset, .unset, .unset, .unset] [(.ref a_ST), (.int (23 : Int32)), (.ref b2), (.ref b2)])) tg → Steps pP.tables eE below (s₁.setTop (entryFrame mM #[(.int p1), (.int p2), (.long q0)] maxLocals)) tg := fun tg kg => pr167 _ (st168 _ kg)
  clear pr167 st168 X165 e165
  obtain ⟨cla171, Ara171, qa171, Sa171, Ma171, Ha171, Ga171⟩ := id V165
  have hin172 : ¬ ((23 : Int32) < 0 ∨ cla171.slots.size ≤ ((23 : Int32)).toNatClampNeg) := inb_of Sa171 ⟨by decide, by decide⟩
  obtain ⟨T172, h172, X172, e172, W172, st172⟩ := stR X168 hx hZ e168 Ara171 (j := (23 : Int32)) hin172 rfl (Sto.ofV Ara171 qa171 O2 (Ins.self (Exa.ext (c169).2 E_ST))) (g := (mkF mM 166 #[.val (.int p1), .val (.int p2), .val (.long q0), .second, .unset, .unset, .unset, .unset, .unset, .unset, .unset, .unset, .unset, .unset] [(.ref a_ST), (.int (23 : Int32)), (.ref b2), (.ref b2)])) rfl rfl (hb hby at_166)
  have V172 : Arv Z h172 b2 k2 (.object "com/example/tesserae/tesserae/value/Vr") (34 : Int32) [(.ref a_AE), (.ref a_AS), (.ref a_AT), (.ref a_CS), (.ref a_DA), (.ref a_DS), (.ref a_DT), (.ref a_FD), (.ref a_FL), (.ref a_IS), (.ref a_LO), (.ref a_LT), (.ref a_OB), (.ref a_OD), (.ref a_OF), (.ref a_OL), (.ref a_OV), (.ref a_OW), (.ref a_PN), (.ref a_SH), (.ref a_SL), (.ref a_SQ), (.ref a_SS), (.ref a_ST), .null, .null, .null, .null, .null, .null, .null, .null, .null, .null] .null := Arv.set Ara171 qa171 Sa171 Ma171 Ha171 Ga171 rfl W172 23 rfl (Nat.le_of_ble_eq_true rfl)
  have N172 := Fr.snoc X172 N165 gn3
  have pr173 : ∀ tg, Steps pP.tables eE below (T172.setTop (mkF mM 167 #[.val (.int p1), .val (.int p2), .val (.long q0), .second, .unset, .unset, .unset, .unset, .unset, .unset, .unset, .unset, .unset, .unset] [(.ref b2)])) tg → Steps pP.tables eE below (s₁.setTop (entryFrame mM #[(.int p1), (.int p2), (.long q0)] maxLocals)) tg := fun tg kg => pr170 _ (st172 _ kg)
  clear pr170 st172 X168 e168
  have pr174 : ∀ tg, Steps pP.tables eE below (T172.setTop (mkF mM 170 #[.val (.int p1), .val (.int p2), .val (.long q0), .second, .unset, .unset, .unset, .unset, .unset, .unset, .unset, .unset, .unset, .unset] [(.int (24 : Int32)), (.ref b2), (.ref b2)])) tg → Steps pP.tables eE below (s₁.setTop (entryFrame mM #[(.int p1), (.int p2), (.long q0)] maxLocals)) tg := fun tg kg => pr173 _ (by
    show Steps pP.tables eE below (T172.setTop (mkF mM 167 #[.val (.int p1), .val (.int p2), .val (.long q0), .second, .unset, .unset, .unset, .unset, .unset, .unset, .unset, .unset, .unset, .unset] [(.ref b2)])) _
    refine XS.dup X172.here hx rfl (hb hby at_167) rfl rfl ?_
    refine XS.bipush X172.here hx rfl (hb hby at_168) ?_
    exact kg)
  clear pr173
  have c176 := (Old.wr c169 W172 gn3)
  obtain ⟨T175, X175, e175, st175⟩ := getS2 X172 hx hZ hown (host := "") (Or.inl (hw _ (List.mem_of_getElem? (i := 52) rfl))) Via.refl e172 (Sta.ext (c176).2 S_SV) (g := (mkF mM 170 #[.val (.int p1), .val (.int p2), .val (.long q0), .second, .unset, .unset, .unset, .unset, .unset, .unset, .unset, .unset, .unset, .unset] [(.int (24 : Int32)), (.ref b2), (.ref b2)])) rfl (hb hby at_170)
  have pr177 : ∀ tg, Steps pP.tables eE below (T175.setTop (mkF mM 173 #[.val (.int p1), .val (.int p2), .val (.long q0), .second, .unset, .unset, .unset, .unset, .unset, .unset, .unset, .unset, .unset, .unset] [(.ref a_SV), (.int (24 : Int32)), (.ref b2), (.ref b2)])) tg → Steps pP.tables eE below (s₁.setTop (entryFrame mM #[(.int p1), (.int p2), (.long q0)] maxLocals)) tg := fun tg kg => pr174 _ (st175 _ kg)
  clear pr174 st175 X172 e172
  obtain ⟨cla178, Ara178, qa178, Sa178, Ma178, Ha178, Ga178⟩ := id V172
  have hin179 : ¬ ((24 : Int32) < 0 ∨ cla178.slots.size ≤ ((24 : Int32)).toNatClampNeg) := inb_of Sa178 ⟨by decide, by decide⟩
  obtain ⟨T179, h179, X179, e179, W179, st179⟩ := stR X175 hx hZ e175 Ara178 (j := (24 : Int32)) hin179 rfl (Sto.ofV Ara178 qa178 O2 (Ins.self (Exa.ext (c176).2 E_SV))) (g := (mkF mM 173 #[.val (.int p1), .val (.int p2), .val (.long q0), .second, .unset, .unset, .unset, .unset, .unset, .unset, .unset, .unset, .unset, .unset] [(.ref a_SV), (.int (24 : Int32)), (.ref b2), (.ref b2)])) rfl rfl (hb hby at_173)
  have V179 : Arv Z h179 b2 k2 (.object "com/example/tesserae/tesserae/value/Vr") (34 : Int32) [(.ref a_AE), (.ref a_AS), (.ref a_AT), (.ref a_CS), (.ref a_DA), (.ref a_DS), (.ref a_DT), (.ref a_FD), (.ref a_FL), (.ref a_IS), (.ref a_LO), (.ref a_LT), (.ref a_OB), (.ref a_OD), (.ref a_OF), (.ref a_OL), (.ref a_OV), (.ref a_OW), (.ref a_PN), (.ref a_SH), (.ref a_SL), (.ref a_SQ), (.ref a_SS), (.ref a_ST), (.ref a_SV), .null, .null, .null, .null, .null, .null, .null, .null, .null] .null := Arv.set Ara178 qa178 Sa178 Ma178 Ha178 Ga178 rfl W179 24 rfl (Nat.le_of_ble_eq_true rfl)
  have N179 := Fr.snoc X179 N172 gn3
  have pr180 : ∀ tg, Steps pP.tables eE below (T179.setTop (mkF mM 174 #[.val (.int p1), .val (.int p2), .val (.long q0), .second, .unset, .unset, .unset, .unset, .unset, .unset, .unset, .unset, .unset, .unset] [(.ref b2)])) tg → Steps pP.tables eE below (s₁.setTop (entryFrame mM #[(.int p1), (.int p2), (.long q0)] maxLocals)) tg := fun tg kg => pr177 _ (st179 _ kg)
  clear pr177 st179 X175 e175
  have pr181 : ∀ tg, Steps pP.tables eE below (T179.setTop (mkF mM 177 #[.val (.int p1), .val (.int p2), .val (.long q0), .second, .unset, .unset, .unset, .unset, .unset, .unset, .unset, .unset, .unset, .unset] [(.int (25 : Int32)), (.ref b2), (.ref b2)])) tg → Steps pP.tables eE below (s₁.setTop (entryFrame mM #[(.int p1), (.int p2), (.long q0)] maxLocals)) tg := fun tg kg => pr180 _ (by
    show Steps pP.tables eE below (T179.setTop (mkF mM 174 #[.val (.int p1), .val (.int p2), .val (.long q0), .second, .unset, .unset, .unset, .unset, .unset, .unset, .unset, .unset, .unset, .unset] [(.ref b2)])) _
    refine XS.dup X179.here hx rfl (hb hby at_174) rfl rfl ?_
    refine XS.bipush X179.here hx rfl (hb hby at_175) ?_
    exact kg)
  clear pr180
  have c183 := (Old.wr c176 W179 gn3)
  obtain ⟨T182, X182, e182, st182⟩ := getS2 X179 hx hZ hown (host := "") (Or.inl (hw _ (List.mem_of_getElem? (i := 54) rfl))) Via.refl e179 (Sta.ext (c183).2 S_TM) (g := (mkF mM 177 #[.val (.int p1), .val (.int p2), .val (.long q0), .second, .unset, .unset, .unset, .unset, .unset, .unset, .unset, .unset, .unset, .unset] [(.int (25 : Int32)), (.ref b2), (.ref b2)])) rfl (hb hby at_177)
  have pr184 : ∀ tg, Steps pP.tables eE below (T182.setTop (mkF mM 180 #[.val (.int p1), .val (.int p2), .val (.long q0), .second, .unset, .unset, .unset, .unset, .unset, .unset, .unset, .unset, .unset, .unset] [(.ref a_TM), (.int (25 : Int32)), (.ref b2), (.ref b2)])) tg → Steps pP.tables eE below (s₁.setTop (entryFrame mM #[(.int p1), (.int p2), (.long q0)] maxLocals)) tg := fun tg kg => pr181 _ (st182 _ kg)
  clear pr181 st182 X179 e179
  obtain ⟨cla185, Ara185, qa185, Sa185, Ma185, Ha185, Ga185⟩ := id V179
  have hin186 : ¬ ((25 : Int32) < 0 ∨ cla185.slots.size ≤ ((25 : Int32)).toNatClampNeg) := inb_of Sa185 ⟨by decide, by decide⟩
  obtain ⟨T186, h186, X186, e186, W186, st186⟩ := stR X182 hx hZ e182 Ara185 (j := (25 : Int32)) hin186 rfl (Sto.ofV Ara185 qa185 O2 (Ins.self (Exa.ext (c183).2 E_TM))) (g := (mkF mM 180 #[.val (.int p1), .val (.int p2), .val (.long q0), .second, .unset, .unset, .unset, .unset, .unset, .unset, .unset, .unset, .unset, .unset] [(.ref a_TM), (.int (25 : Int32)), (.ref b2), (.ref b2)])) rfl rfl (hb hby at_180)
  have V186 : Arv Z h186 b2 k2 (.object "com/example/tesserae/tesserae/value/Vr") (34 : Int32) [(.ref a_AE), (.ref a_AS), (.ref a_AT), (.ref a_CS), (.ref a_DA), (.ref a_DS), (.ref a_DT), (.ref a_FD), (.ref a_FL), (.ref a_IS), (.ref a_LO), (.ref a_LT), (.ref a_OB), (.ref a_OD), (.ref a_OF), (.ref a_OL), (.ref a_OV), (.ref a_OW), (.ref a_PN), (.ref a_SH), (.ref a_SL), (.ref a_SQ), (.ref a_SS), (.ref a_ST), (.ref a_SV), (.ref a_TM), .null, .null, .null, .null, .null, .null, .null, .null] .null := Arv.set Ara185 qa185 Sa185 Ma185 Ha185 Ga185 rfl W186 25 rfl (Nat.le_of_ble_eq_true rfl)
  have N186 := Fr.snoc X186 N179 gn3
  have pr187 : ∀ tg, Steps pP.tables eE below (T186.setTop (mkF mM 181 #[.val (.int p1), .val (.int p2), .val (.long q0), .second, .unset, .unset, .unset, .unset, .unset, .unset, .unset, .unset, .unset, .unset] [(.ref b2)])) tg → Steps pP.tables eE below (s₁.setTop (entryFrame mM #[(.int p1), (.int p2), (.long q0)] maxLocals)) tg := fun tg kg => pr184 _ (st186 _ kg)
  clear pr184 st186 X182 e182
  have pr188 : ∀ tg, Steps pP.tables eE below (T186.setTop (mkF mM 184 #[.val (.int p1), .val (.int p2), .val (.long q0), .second, .unset, .unset, .unset, .unset, .unset, .unset, .unset, .unset, .unset, .unset] [(.int (26 : Int32)), (.ref b2), (.ref b2)])) tg → Steps pP.tables eE below (s₁.setTop (entryFrame mM #[(.int p1), (.int p2), (.long q0)] maxLocals)) tg := fun tg kg => pr187 _ (by
    show Steps pP.tables eE below (T186.setTop (mkF mM 181 #[.val (.int p1), .val (.int p2), .val (.long q0), .second, .unset, .unset, .unset, .unset, .unset, .unset, .unset, .unset, .unset, .unset] [(.ref b2)])) _
    refine XS.dup X186.here hx rfl (hb hby at_181) rfl rfl ?_
    refine XS.bipush X186.here hx rfl (hb hby at_182) ?_
    exact kg)
  clear pr187
  have c190 := (Old.wr c183 W186 gn3)
  obtain ⟨T189, X189, e189, st189⟩ := getS2 X186 hx hZ hown (host := "") (Or.inl (hw _ (List.mem_of_getElem? (i := 56) rfl))) Via.refl e186 (Sta.ext (c190).2 S_UC) (g := (mkF mM 184 #[.val (.int p1), .val (.int p2), .val (.long q0), .second, .unset, .unset, .unset, .unset, .unset, .unset, .unset, .unset, .unset, .unset] [(.int (26 : Int32)), (.ref b2), (.ref b2)])) rfl (hb hby at_184)
  have pr191 : ∀ tg, Steps pP.tables eE below (T189.setTop (mkF mM 187 #[.val (.int p1), .val (.int p2), .val (.long q0), .second, .unset, .unset, .unset, .unset, .unset, .unset, .unset, .unset, .unset, .unset] [(.ref a_UC), (.int (26 : Int32)), (.ref b2), (.ref b2)])) tg → Steps pP.tables eE below (s₁.setTop (entryFrame mM #[(.int p1), (.int p2), (.long q0)] maxLocals)) tg := fun tg kg => pr188 _ (st189 _ kg)
  clear pr188 st189 X186 e186
  obtain ⟨cla192, Ara192, qa192, Sa192, Ma192, Ha192, Ga192⟩ := id V186
  have hin193 : ¬ ((26 : Int32) < 0 ∨ cla192.slots.size ≤ ((26 : Int32)).toNatClampNeg) := inb_of Sa192 ⟨by decide, by decide⟩
  obtain ⟨T193, h193, X193, e193, W193, st193⟩ := stR X189 hx hZ e189 Ara192 (j := (26 : Int32)) hin193 rfl (Sto.ofV Ara192 qa192 O2 (Ins.self (Exa.ext (c190).2 E_UC))) (g := (mkF mM 187 #[.val (.int p1), .val (.int p2), .val (.long q0), .second, .unset, .unset, .unset, .unset, .unset, .unset, .unset, .unset, .unset, .unset] [(.ref a_UC), (.int (26 : Int32)), (.ref b2), (.ref b2)])) rfl rfl (hb hby at_187)
  have V193 : Arv Z h193 b2 k2 (.object "com/example/tesserae/tesserae/value/Vr") (34 : Int32) [(.ref a_AE), (.ref a_AS), (.ref a_AT), (.ref a_CS), (.ref a_DA), (.ref a_DS), (.ref a_DT), (.ref a_FD), (.ref a_FL), (.ref a_IS), (.ref a_LO), (.ref a_LT), (.ref a_OB), (.ref a_OD), (.ref a_OF), (.ref a_OL), (.ref a_OV), (.ref a_OW), (.ref a_PN), (.ref a_SH), (.ref a_SL), (.ref a_SQ), (.ref a_SS), (.ref a_ST), (.ref a_SV), (.ref a_TM), (.ref a_UC), .null, .null, .null, .null, .null, .null, .null] .null := Arv.set Ara192 qa192 Sa192 Ma192 Ha192 Ga192 rfl W193 26 rfl (Nat.le_of_ble_eq_true rfl)
  have N193 := Fr.snoc X193 N186 gn3
  have pr194 : ∀ tg, Steps pP.tables eE below (T193.setTop (mkF mM 188 #[.val (.int p1), .val (.int p2), .val (.long q0), .second, .unset, .unset, .unset, .unset, .unset, .unset, .unset, .unset, .unset, .unset] [(.ref b2)])) tg → Steps pP.tables eE below (s₁.setTop (entryFrame mM #[(.int p1), (.int p2), (.long q0)] maxLocals)) tg := fun tg kg => pr191 _ (st193 _ kg)
  clear pr191 st193 X189 e189
  have pr195 : ∀ tg, Steps pP.tables eE below (T193.setTop (mkF mM 191 #[.val (.int p1), .val (.int p2), .val (.long q0), .second, .unset, .unset, .unset, .unset, .unset, .unset, .unset, .unset, .unset, .unset] [(.int (27 : Int32)), (.ref b2), (.ref b2)])) tg → Steps pP.tables eE below (s₁.setTop (entryFrame mM #[(.int p1), (.int p2), (.long q0)] maxLocals)) tg := fun tg kg => pr194 _ (by
    show Steps pP.tables eE below (T193.setTop (mkF mM 188 #[.val (.int p1), .val (.int p2), .val (.long q0), .second, .unset, .unset, .unset, .unset, .unset, .unset, .unset, .unset, .unset, .unset] [(.ref b2)])) _
    refine XS.dup X193.here hx rfl (hb hby at_188) rfl rfl ?_
    refine XS.bipush X193.here hx rfl (hb hby at_189) ?_
    exact kg)
  clear pr194
  have c197 := (Old.wr c190 W193 gn3)
  obtain ⟨T196, X196, e196, st196⟩ := getS2 X193 hx hZ hown (host := "") (Or.inl (hw _ (List.mem_of_getElem? (i := 58) rfl))) Via.refl e193 (Sta.ext (c197).2 S_UI) (g := (mkF mM 191 #[.val (.int p1), .val (.int p2), .val (.long q0), .second, .unset, .unset, .unset, .unset, .unset, .unset, .unset, .unset, .unset, .unset] [(.int (27 : Int32)), (.ref b2), (.ref b2)])) rfl (hb hby at_191)
  have pr198 : ∀ tg, Steps pP.tables eE below (T196.setTop (mkF mM 194 #[.val (.int p1), .val (.int p2), .val (.long q0), .second, .unset, .unset, .unset, .unset, .unset, .unset, .unset, .unset, .unset, .unset] [(.ref a_UI), (.int (27 : Int32)), (.ref b2), (.ref b2)])) tg → Steps pP.tables eE below (s₁.setTop (entryFrame mM #[(.int p1), (.int p2), (.long q0)] maxLocals)) tg := fun tg kg => pr195 _ (st196 _ kg)
  clear pr195 st196 X193 e193
  obtain ⟨cla199, Ara199, qa199, Sa199, Ma199, Ha199, Ga199⟩ := id V193
  have hin200 : ¬ ((27 : Int32) < 0 ∨ cla199.slots.size ≤ ((27 : Int32)).toNatClampNeg) := inb_of Sa199 ⟨by decide, by decide⟩
  obtain ⟨T200, h200, X200, e200, W200, st200⟩ := stR X196 hx hZ e196 Ara199 (j := (27 : Int32)) hin200 rfl (Sto.ofV Ara199 qa199 O2 (Ins.self (Exa.ext (c197).2 E_UI))) (g := (mkF mM 194 #[.val (.int p1), .val (.int p2), .val (.long q0), .second, .unset, .unset, .unset, .unset, .unset, .unset, .unset, .unset, .unset, .unset] [(.ref a_UI), (.int (27 : Int32)), (.ref b2), (.ref b2)])) rfl rfl (hb hby at_194)
  have V200 : Arv Z h200 b2 k2 (.object "com/example/tesserae/tesserae/value/Vr") (34 : Int32) [(.ref a_AE), (.ref a_AS), (.ref a_AT), (.ref a_CS), (.ref a_DA), (.ref a_DS), (.ref a_DT), (.ref a_FD), (.ref a_FL), (.ref a_IS), (.ref a_LO), (.ref a_LT), (.ref a_OB), (.ref a_OD), (.ref a_OF), (.ref a_OL), (.ref a_OV), (.ref a_OW), (.ref a_PN), (.ref a_SH), (.ref a_SL), (.ref a_SQ), (.ref a_SS), (.ref a_ST), (.ref a_SV), (.ref a_TM), (.ref a_UC), (.ref a_UI), .null, .null, .null, .null, .null, .null] .null := Arv.set Ara199 qa199 Sa199 Ma199 Ha199 Ga199 rfl W200 27 rfl (Nat.le_of_ble_eq_true rfl)
  have N200 := Fr.snoc X200 N193 gn3
  have pr201 : ∀ tg, Steps pP.tables eE below (T200.setTop (mkF mM 195 #[.val (.int p1), .val (.int p2), .val (.long q0), .second, .unset, .unset, .unset, .unset, .unset, .unset, .unset, .unset, .unset, .unset] [(.ref b2)])) tg → Steps pP.tables eE below (s₁.setTop (entryFrame mM #[(.int p1), (.int p2), (.long q0)] maxLocals)) tg := fun tg kg => pr198 _ (st200 _ kg)
  clear pr198 st200 X196 e196
  have pr202 : ∀ tg, Steps pP.tables eE below (T200.setTop (mkF mM 198 #[.val (.int p1), .val (.int p2), .val (.long q0), .second, .unset, .unset, .unset, .unset, .unset, .unset, .unset, .unset, .unset, .unset] [(.int (28 : Int32)), (.ref b2), (.ref b2)])) tg → Steps pP.tables eE below (s₁.setTop (entryFrame mM #[(.int p1), (.int p2), (.long q0)] maxLocals)) tg := fun tg kg => pr201 _ (by
    show Steps pP.tables eE below (T200.setTop (mkF mM 195 #[.val (.int p1), .val (.int p2), .val (.long q0), .second, .unset, .unset, .unset, .unset, .unset, .unset, .unset, .unset, .unset, .unset] [(.ref b2)])) _
    refine XS.dup X200.here hx rfl (hb hby at_195) rfl rfl ?_
    refine XS.bipush X200.here hx rfl (hb hby at_196) ?_
    exact kg)
  clear pr201
  have c204 := (Old.wr c197 W200 gn3)
  obtain ⟨T203, X203, e203, st203⟩ := getS2 X200 hx hZ hown (host := "") (Or.inl (hw _ (List.mem_of_getElem? (i := 60) rfl))) Via.refl e200 (Sta.ext (c204).2 S_UL) (g := (mkF mM 198 #[.val (.int p1), .val (.int p2), .val (.long q0), .second, .unset, .unset, .unset, .unset, .unset, .unset, .unset, .unset, .unset, .unset] [(.int (28 : Int32)), (.ref b2), (.ref b2)])) rfl (hb hby at_198)
  have pr205 : ∀ tg, Steps pP.tables eE below (T203.setTop (mkF mM 201 #[.val (.int p1), .val (.int p2), .val (.long q0), .second, .unset, .unset, .unset, .unset, .unset, .unset, .unset, .unset, .unset, .unset] [(.ref a_UL), (.int (28 : Int32)), (.ref b2), (.ref b2)])) tg → Steps pP.tables eE below (s₁.setTop (entryFrame mM #[(.int p1), (.int p2), (.long q0)] maxLocals)) tg := fun tg kg => pr202 _ (st203 _ kg)
  clear pr202 st203 X200 e200
  obtain ⟨cla206, Ara206, qa206, Sa206, Ma206, Ha206, Ga206⟩ := id V200
  have hin207 : ¬ ((28 : Int32) < 0 ∨ cla206.slots.size ≤ ((28 : Int32)).toNatClampNeg) := inb_of Sa206 ⟨by decide, by decide⟩
  obtain ⟨T207, h207, X207, e207, W207, st207⟩ := stR X203 hx hZ e203 Ara206 (j := (28 : Int32)) hin207 rfl (Sto.ofV Ara206 qa206 O2 (Ins.self (Exa.ext (c204).2 E_UL))) (g := (mkF mM 201 #[.val (.int p1), .val (.int p2), .val (.long q0), .second, .unset, .unset, .unset, .unset, .unset, .unset, .unset, .unset, .unset, .unset] [(.ref a_UL), (.int (28 : Int32)), (.ref b2), (.ref b2)])) rfl rfl (hb hby at_201)
  have V207 : Arv Z h207 b2 k2 (.object "com/example/tesserae/tesserae/value/Vr") (34 : Int32) [(.ref a_AE), (.ref a_AS), (.ref a_AT), (.ref a_CS), (.ref a_DA), (.ref a_DS), (.ref a_DT), (.ref a_FD), (.ref a_FL), (.ref a_IS), (.ref a_LO), (.ref a_LT), (.ref a_OB), (.ref a_OD), (.ref a_OF), (.ref a_OL), (.ref a_OV), (.ref a_OW), (.ref a_PN), (.ref a_SH), (.ref a_SL), (.ref a_SQ), (.ref a_SS), (.ref a_ST), (.ref a_SV), (.ref a_TM), (.ref a_UC), (.ref a_UI), (.ref a_UL), .null, .null, .null, .null, .null] .null := Arv.set Ara206 qa206 Sa206 Ma206 Ha206 Ga206 rfl W207 28 rfl (Nat.le_of_ble_eq_true rfl)
  have N207 := Fr.snoc X207 N200 gn3
  have pr208 : ∀ tg, Steps pP.tables eE below (T207.setTop (mkF mM 202 #[.val (.int p1), .val (.int p2), .val (.long q0), .second, .unset, .unset, .unset, .unset, .unset, .unset, .unset, .unset, .unset, .unset] [(.ref b2)])) tg → Steps pP.tables eE below (s₁.setTop (entryFrame mM #[(.int p1), (.int p2), (.long q0)] maxLocals)) tg := fun tg kg => pr205 _ (st207 _ kg)
  clear pr205 st207 X203 e203
  have pr209 : ∀ tg, Steps pP.tables eE below (T207.setTop (mkF mM 205 #[.val (.int p1), .val (.int p2), .val (.long q0), .second, .unset, .unset, .unset, .unset, .unset, .unset, .unset, .unset, .unset, .unset] [(.int (29 : Int32)), (.ref b2), (.ref b2)])) tg → Steps pP.tables eE below (s₁.setTop (entryFrame mM #[(.int p1), (.int p2), (.long q0)] maxLocals)) tg := fun tg kg => pr208 _ (by
    show Steps pP.tables eE below (T207.setTop (mkF mM 202 #[.val (.int p1), .val (.int p2), .val (.long q0), .second, .unset, .unset, .unset, .unset, .unset, .unset, .unset, .unset, .unset, .unset] [(.ref b2)])) _
    refine XS.dup X207.here hx rfl (hb hby at_202) rfl rfl ?_
    refine XS.bipush X207.here hx rfl (hb hby at_203) ?_
    exact kg)
  clear pr208
  have c211 := (Old.wr c204 W207 gn3)
  obtain ⟨T210, X210, e210, st210⟩ := getS2 X207 hx hZ hown (host := "") (Or.inl (hw _ (List.mem_of_getElem? (i := 62) rfl))) Via.refl e207 (Sta.ext (c211).2 S_UN) (g := (mkF mM 205 #[.val (.int p1), .val (.int p2), .val (.long q0), .second, .unset, .unset, .unset, .unset, .unset, .unset, .unset, .unset, .unset, .unset] [(.int (29 : Int32)), (.ref b2), (.ref b2)])) rfl (hb hby at_205)
  have pr212 : ∀ tg, Steps pP.tables eE below (T210.setTop (mkF mM 208 #[.val (.int p1), .val (.int p2), .val (.long q0), .second, .unset, .unset, .unset, .unset, .unset, .unset, .unset, .unset, .unset, .unset] [(.ref a_UN), (.int (29 : Int32)), (.ref b2), (.ref b2)])) tg → Steps pP.tables eE below (s₁.setTop (entryFrame mM #[(.int p1), (.int p2), (.long q0)] maxLocals)) tg := fun tg kg => pr209 _ (st210 _ kg)
  clear pr209 st210 X207 e207
  obtain ⟨cla213, Ara213, qa213, Sa213, Ma213, Ha213, Ga213⟩ := id V207
  have hin214 : ¬ ((29 : Int32) < 0 ∨ cla213.slots.size ≤ ((29 : Int32)).toNatClampNeg) := inb_of Sa213 ⟨by decide, by decide⟩
  obtain ⟨T214, h214, X214, e214, W214, st214⟩ := stR X210 hx hZ e210 Ara213 (j := (29 : Int32)) hin214 rfl (Sto.ofV Ara213 qa213 O2 (Ins.self (Exa.ext (c211).2 E_UN))) (g := (mkF mM 208 #[.val (.int p1), .val (.int p2), .val (.long q0), .second, .unset, .unset, .unset, .unset, .unset, .unset, .unset, .unset, .unset, .unset] [(.ref a_UN), (.int (29 : Int32)), (.ref b2), (.ref b2)])) rfl rfl (hb hby at_208)
  have V214 : Arv Z h214 b2 k2 (.object "com/example/tesserae/tesserae/value/Vr") (34 : Int32) [(.ref a_AE), (.ref a_AS), (.ref a_AT), (.ref a_CS), (.ref a_DA), (.ref a_DS), (.ref a_DT), (.ref a_FD), (.ref a_FL), (.ref a_IS), (.ref a_LO), (.ref a_LT), (.ref a_OB), (.ref a_OD), (.ref a_OF), (.ref a_OL), (.ref a_OV), (.ref a_OW), (.ref a_PN), (.ref a_SH), (.ref a_SL), (.ref a_SQ), (.ref a_SS), (.ref a_ST), (.ref a_SV), (.ref a_TM), (.ref a_UC), (.ref a_UI), (.ref a_UL), (.ref a_UN), .null, .null, .null, .null] .null := Arv.set Ara213 qa213 Sa213 Ma213 Ha213 Ga213 rfl W214 29 rfl (Nat.le_of_ble_eq_true rfl)
  have N214 := Fr.snoc X214 N207 gn3
  have pr215 : ∀ tg, Steps pP.tables eE below (T214.setTop (mkF mM 209 #[.val (.int p1), .val (.int p2), .val (.long q0), .second, .unset, .unset, .unset, .unset, .unset, .unset, .unset, .unset, .unset, .unset] [(.ref b2)])) tg → Steps pP.tables eE below (s₁.setTop (entryFrame mM #[(.int p1), (.int p2), (.long q0)] maxLocals)) tg := fun tg kg => pr212 _ (st214 _ kg)
  clear pr212 st214 X210 e210
  have pr216 : ∀ tg, Steps pP.tables eE below (T214.setTop (mkF mM 212 #[.val (.int p1), .val (.int p2), .val (.long q0), .second, .unset, .unset, .unset, .unset, .unset, .unset, .unset, .unset, .unset, .unset] [(.int (30 : Int32)), (.ref b2), (.ref b2)])) tg → Steps pP.tables eE below (s₁.setTop (entryFrame mM #[(.int p1), (.int p2), (.long q0)] maxLocals)) tg := fun tg kg => pr215 _ (by
    show Steps pP.tables eE below (T214.setTop (mkF mM 209 #[.val (.int p1), .val (.int p2), .val (.long q0), .second, .unset, .unset, .unset, .unset, .unset, .unset, .unset, .unset, .unset, .unset] [(.ref b2)])) _
    refine XS.dup X214.here hx rfl (hb hby at_209) rfl rfl ?_
    refine XS.bipush X214.here hx rfl (hb hby at_210) ?_
    exact kg)
  clear pr215
  have c218 := (Old.wr c211 W214 gn3)
  obtain ⟨T217, X217, e217, st217⟩ := getS2 X214 hx hZ hown (host := "") (Or.inl (hw _ (List.mem_of_getElem? (i := 64) rfl))) Via.refl e214 (Sta.ext (c218).2 S_UR) (g := (mkF mM 212 #[.val (.int p1), .val (.int p2), .val (.long q0), .second, .unset, .unset, .unset, .unset, .unset, .unset, .unset, .unset, .unset, .unset] [(.int (30 : Int32)), (.ref b2), (.ref b2)])) rfl (hb hby at_212)
  have pr219 : ∀ tg, Steps pP.tables eE below (T217.setTop (mkF mM 215 #[.val (.int p1), .val (.int p2), .val (.long q0), .second, .unset, .unset, .unset, .unset, .unset, .unset, .unset, .unset, .unset, .unset] [(.ref a_UR), (.int (30 : Int32)), (.ref b2), (.ref b2)])) tg → Steps pP.tables eE below (s₁.setTop (entryFrame mM #[(.int p1), (.int p2), (.long q0)] maxLocals)) tg := fun tg kg => pr216 _ (st217 _ kg)
  clear pr216 st217 X214 e214
  obtain ⟨cla220, Ara220, qa220, Sa220, Ma220, Ha220, Ga220⟩ := id V214
  have hin221 : ¬ ((30 : Int32) < 0 ∨ cla220.slots.size ≤ ((30 : Int32)).toNatClampNeg) := inb_of Sa220 ⟨by decide, by decide⟩
  obtain ⟨T221, h221, X221, e221, W221, st221⟩ := stR X217 hx hZ e217 Ara220 (j := (30 : Int32)) hin221 rfl (Sto.ofV Ara220 qa220 O2 (Ins.self (Exa.ext (c218).2 E_UR))) (g := (mkF mM 215 #[.val (.int p1), .val (.int p2), .val (.long q0), .second, .unset, .unset, .unset, .unset, .unset, .unset, .unset, .unset, .unset, .unset] [(.ref a_UR), (.int (30 : Int32)), (.ref b2), (.ref b2)])) rfl rfl (hb hby at_215)
  have V221 : Arv Z h221 b2 k2 (.object "com/example/tesserae/tesserae/value/Vr") (34 : Int32) [(.ref a_AE), (.ref a_AS), (.ref a_AT), (.ref a_CS), (.ref a_DA), (.ref a_DS), (.ref a_DT), (.ref a_FD), (.ref a_FL), (.ref a_IS), (.ref a_LO), (.ref a_LT), (.ref a_OB), (.ref a_OD), (.ref a_OF), (.ref a_OL), (.ref a_OV), (.ref a_OW), (.ref a_PN), (.ref a_SH), (.ref a_SL), (.ref a_SQ), (.ref a_SS), (.ref a_ST), (.ref a_SV), (.ref a_TM), (.ref a_UC), (.ref a_UI), (.ref a_UL), (.ref a_UN), (.ref a_UR), .null, .null, .null] .null := Arv.set Ara220 qa220 Sa220 Ma220 Ha220 Ga220 rfl W221 30 rfl (Nat.le_of_ble_eq_true rfl)
  have N221 := Fr.snoc X221 N214 gn3
  have pr222 : ∀ tg, Steps pP.tables eE below (T221.setTop (mkF mM 216 #[.val (.int p1), .val (.int p2), .val (.long q0), .second, .unset, .unset, .unset, .unset, .unset, .unset, .unset, .unset, .unset, .unset] [(.ref b2)])) tg → Steps pP.tables eE below (s₁.setTop (entryFrame mM #[(.int p1), (.int p2), (.long q0)] maxLocals)) tg := fun tg kg => pr219 _ (st221 _ kg)
  clear pr219 st221 X217 e217
  have pr223 : ∀ tg, Steps pP.tables eE below (T221.setTop (mkF mM 219 #[.val (.int p1), .val (.int p2), .val (.long q0), .second, .unset, .unset, .unset, .unset, .unset, .unset, .unset, .unset, .unset, .unset] [(.int (31 : Int32)), (.ref b2), (.ref b2)])) tg → Steps pP.tables eE below (s₁.setTop (entryFrame mM #[(.int p1), (.int p2), (.long q0)] maxLocals)) tg := fun tg kg => pr222 _ (by
    show Steps pP.tables eE below (T221.setTop (mkF mM 216 #[.val (.int p1), .val (.int p2), .val (.long q0), .second, .unset, .unset, .unset, .unset, .unset, .unset, .unset, .unset, .unset, .unset] [(.ref b2)])) _
    refine XS.dup X221.here hx rfl (hb hby at_216) rfl rfl ?_
    refine XS.bipush X221.here hx rfl (hb hby at_217) ?_
    exact kg)
  clear pr222
  have c225 := (Old.wr c218 W221 gn3)
  obtain ⟨T224, X224, e224, st224⟩ := getS2 X221 hx hZ hown (host := "") (Or.inl (hw _ (List.mem_of_getElem? (i := 66) rfl))) Via.refl e221 (Sta.ext (c225).2 S_US) (g := (mkF mM 219 #[.val (.int p1), .val (.int p2), .val (.long q0), .second, .unset, .unset, .unset, .unset, .unset, .unset, .unset, .unset, .unset, .unset] [(.int (31 : Int32)), (.ref b2), (.ref b2)])) rfl (hb hby at_219)
  have pr226 : ∀ tg, Steps pP.tables eE below (T224.setTop (mkF mM 222 #[.val (.int p1), .val (.int p2), .val (.long q0), .second, .unset, .unset, .unset, .unset, .unset, .unset, .unset, .unset, .unset, .unset] [(.ref a_US), (.int (31 : Int32)), (.ref b2), (.ref b2)])) tg → Steps pP.tables eE below (s₁.setTop (entryFrame mM #[(.int p1), (.int p2), (.long q0)] maxLocals)) tg := fun tg kg => pr223 _ (st224 _ kg)
  clear pr223 st224 X221 e221
  obtain ⟨cla227, Ara227, qa227, Sa227, Ma227, Ha227, Ga227⟩ := id V221
  have hin228 : ¬ ((31 : Int32) < 0 ∨ cla227.slots.size ≤ ((31 : Int32)).toNatClampNeg) := inb_of Sa227 ⟨by decide, by decide⟩
  obtain ⟨T228, h228, X228, e228, W228, st228⟩ := stR X224 hx hZ e224 Ara227 (j := (31 : Int32)) hin228 rfl (Sto.ofV Ara227 qa227 O2 (Ins.self (Exa.ext (c225).2 E_US))) (g := (mkF mM 222 #[.val (.int p1), .val (.int p2), .val (.long q0), .second, .unset, .unset, .unset, .unset, .unset, .unset, .unset, .unset, .unset, .unset] [(.ref a_US), (.int (31 : Int32)), (.ref b2), (.ref b2)])) rfl rfl (hb hby at_222)
  have V228 : Arv Z h228 b2 k2 (.object "com/example/tesserae/tesserae/value/Vr") (34 : Int32) [(.ref a_AE), (.ref a_AS), (.ref a_AT), (.ref a_CS), (.ref a_DA), (.ref a_DS), (.ref a_DT), (.ref a_FD), (.ref a_FL), (.ref a_IS), (.ref a_LO), (.ref a_LT), (.ref a_OB), (.ref a_OD), (.ref a_OF), (.ref a_OL), (.ref a_OV), (.ref a_OW), (.ref a_PN), (.ref a_SH), (.ref a_SL), (.ref a_SQ), (.ref a_SS), (.ref a_ST), (.ref a_SV), (.ref a_TM), (.ref a_UC), (.ref a_UI), (.ref a_UL), (.ref a_UN), (.ref a_UR), (.ref a_US), .null, .null] .null := Arv.set Ara227 qa227 Sa227 Ma227 Ha227 Ga227 rfl W228 31 rfl (Nat.le_of_ble_eq_true rfl)
  have N228 := Fr.snoc X228 N221 gn3
  have pr229 : ∀ tg, Steps pP.tables eE below (T228.setTop (mkF mM 223 #[.val (.int p1), .val (.int p2), .val (.long q0), .second, .unset, .unset, .unset, .unset, .unset, .unset, .unset, .unset, .unset, .unset] [(.ref b2)])) tg → Steps pP.tables eE below (s₁.setTop (entryFrame mM #[(.int p1), (.int p2), (.long q0)] maxLocals)) tg := fun tg kg => pr226 _ (st228 _ kg)
  clear pr226 st228 X224 e224
  have pr230 : ∀ tg, Steps pP.tables eE below (T228.setTop (mkF mM 226 #[.val (.int p1), .val (.int p2), .val (.long q0), .second, .unset, .unset, .unset, .unset, .unset, .unset, .unset, .unset, .unset, .unset] [(.int (32 : Int32)), (.ref b2), (.ref b2)])) tg → Steps pP.tables eE below (s₁.setTop (entryFrame mM #[(.int p1), (.int p2), (.long q0)] maxLocals)) tg := fun tg kg => pr229 _ (by
    show Steps pP.tables eE below (T228.setTop (mkF mM 223 #[.val (.int p1), .val (.int p2), .val (.long q0), .second, .unset, .unset, .unset, .unset, .unset, .unset, .unset, .unset, .unset, .unset] [(.ref b2)])) _
    refine XS.dup X228.here hx rfl (hb hby at_223) rfl rfl ?_
    refine XS.bipush X228.here hx rfl (hb hby at_224) ?_
    exact kg)
  clear pr229
  have c232 := (Old.wr c225 W228 gn3)
  obtain ⟨T231, X231, e231, st231⟩ := getS2 X228 hx hZ hown (host := "") (Or.inl (hw _ (List.mem_of_getElem? (i := 68) rfl))) Via.refl e228 (Sta.ext (c232).2 S_UT) (g := (mkF mM 226 #[.val (.int p1), .val (.int p2), .val (.long q0), .second, .unset, .unset, .unset, .unset, .unset, .unset, .unset, .unset, .unset, .unset] [(.int (32 : Int32)), (.ref b2), (.ref b2)])) rfl (hb hby at_226)
  have pr233 : ∀ tg, Steps pP.tables eE below (T231.setTop (mkF mM 229 #[.val (.int p1), .val (.int p2), .val (.long q0), .second, .unset, .unset, .unset, .unset, .unset, .unset, .unset, .unset, .unset, .unset] [(.ref a_UT), (.int (32 : Int32)), (.ref b2), (.ref b2)])) tg → Steps pP.tables eE below (s₁.setTop (entryFrame mM #[(.int p1), (.int p2), (.long q0)] maxLocals)) tg := fun tg kg => pr230 _ (st231 _ kg)
  clear pr230 st231 X228 e228
  obtain ⟨cla234, Ara234, qa234, Sa234, Ma234, Ha234, Ga234⟩ := id V228
  have hin235 : ¬ ((32 : Int32) < 0 ∨ cla234.slots.size ≤ ((32 : Int32)).toNatClampNeg) := inb_of Sa234 ⟨by decide, by decide⟩
  obtain ⟨T235, h235, X235, e235, W235, st235⟩ := stR X231 hx hZ e231 Ara234 (j := (32 : Int32)) hin235 rfl (Sto.ofV Ara234 qa234 O2 (Ins.self (Exa.ext (c232).2 E_UT))) (g := (mkF mM 229 #[.val (.int p1), .val (.int p2), .val (.long q0), .second, .unset, .unset, .unset, .unset, .unset, .unset, .unset, .unset, .unset, .unset] [(.ref a_UT), (.int (32 : Int32)), (.ref b2), (.ref b2)])) rfl rfl (hb hby at_229)
  have V235 : Arv Z h235 b2 k2 (.object "com/example/tesserae/tesserae/value/Vr") (34 : Int32) [(.ref a_AE), (.ref a_AS), (.ref a_AT), (.ref a_CS), (.ref a_DA), (.ref a_DS), (.ref a_DT), (.ref a_FD), (.ref a_FL), (.ref a_IS), (.ref a_LO), (.ref a_LT), (.ref a_OB), (.ref a_OD), (.ref a_OF), (.ref a_OL), (.ref a_OV), (.ref a_OW), (.ref a_PN), (.ref a_SH), (.ref a_SL), (.ref a_SQ), (.ref a_SS), (.ref a_ST), (.ref a_SV), (.ref a_TM), (.ref a_UC), (.ref a_UI), (.ref a_UL), (.ref a_UN), (.ref a_UR), (.ref a_US), (.ref a_UT), .null] .null := Arv.set Ara234 qa234 Sa234 Ma234 Ha234 Ga234 rfl W235 32 rfl (Nat.le_of_ble_eq_true rfl)
  have N235 := Fr.snoc X235 N228 gn3
  have pr236 : ∀ tg, Steps pP.tables eE below (T235.setTop (mkF mM 230 #[.val (.int p1), .val (.int p2), .val (.long q0), .second, .unset, .unset, .unset, .unset, .unset, .unset, .unset, .unset, .unset, .unset] [(.ref b2)])) tg → Steps pP.tables eE below (s₁.setTop (entryFrame mM #[(.int p1), (.int p2), (.long q0)] maxLocals)) tg := fun tg kg => pr233 _ (st235 _ kg)
  clear pr233 st235 X231 e231
  have pr237 : ∀ tg, Steps pP.tables eE below (T235.setTop (mkF mM 233 #[.val (.int p1), .val (.int p2), .val (.long q0), .second, .unset, .unset, .unset, .unset, .unset, .unset, .unset, .unset, .unset, .unset] [(.int (33 : Int32)), (.ref b2), (.ref b2)])) tg → Steps pP.tables eE below (s₁.setTop (entryFrame mM #[(.int p1), (.int p2), (.long q0)] maxLocals)) tg := fun tg kg => pr236 _ (by
    show Steps pP.tables eE below (T235.setTop (mkF mM 230 #[.val (.int p1), .val (.int p2), .val (.long q0), .second, .unset, .unset, .unset, .unset, .unset, .unset, .unset, .unset, .unset, .unset] [(.ref b2)])) _
    refine XS.dup X235.here hx rfl (hb hby at_230) rfl rfl ?_
    refine XS.bipush X235.here hx rfl (hb hby at_231) ?_
    exact kg)
  clear pr236
  have c239 := (Old.wr c232 W235 gn3)
  obtain ⟨T238, X238, e238, st238⟩ := getS2 X235 hx hZ hown (host := "") (Or.inl (hw _ (List.mem_of_getElem? (i := 70) rfl))) Via.refl e235 (Sta.ext (c239).2 S_UV) (g := (mkF mM 233 #[.val (.int p1), .val (.int p2), .val (.long q0), .second, .unset, .unset, .unset, .unset, .unset, .unset, .unset, .unset, .unset, .unset] [(.int (33 : Int32)), (.ref b2), (.ref b2)])) rfl (hb hby at_233)
  have pr240 : ∀ tg, Steps pP.tables eE below (T238.setTop (mkF mM 236 #[.val (.int p1), .val (.int p2), .val (.long q0), .second, .unset, .unset, .unset, .unset, .unset, .unset, .unset, .unset, .unset, .unset] [(.ref a_UV), (.int (33 : Int32)), (.ref b2), (.ref b2)])) tg → Steps pP.tables eE below (s₁.setTop (entryFrame mM #[(.int p1), (.int p2), (.long q0)] maxLocals)) tg := fun tg kg => pr237 _ (st238 _ kg)
  clear pr237 st238 X235 e235
  obtain ⟨cla241, Ara241, qa241, Sa241, Ma241, Ha241, Ga241⟩ := id V235
  have hin242 : ¬ ((33 : Int32) < 0 ∨ cla241.slots.size ≤ ((33 : Int32)).toNatClampNeg) := inb_of Sa241 ⟨by decide, by decide⟩
  obtain ⟨T242, h242, X242, e242, W242, st242⟩ := stR X238 hx hZ e238 Ara241 (j := (33 : Int32)) hin242 rfl (Sto.ofV Ara241 qa241 O2 (Ins.self (Exa.ext (c239).2 E_UV))) (g := (mkF mM 236 #[.val (.int p1), .val (.int p2), .val (.long q0), .second, .unset, .unset, .unset, .unset, .unset, .unset, .unset, .unset, .unset, .unset] [(.ref a_UV), (.int (33 : Int32)), (.ref b2), (.ref b2)])) rfl rfl (hb hby at_236)
  have V242 : Arv Z h242 b2 k2 (.object "com/example/tesserae/tesserae/value/Vr") (34 : Int32) [(.ref a_AE), (.ref a_AS), (.ref a_AT), (.ref a_CS), (.ref a_DA), (.ref a_DS), (.ref a_DT), (.ref a_FD), (.ref a_FL), (.ref a_IS), (.ref a_LO), (.ref a_LT), (.ref a_OB), (.ref a_OD), (.ref a_OF), (.ref a_OL), (.ref a_OV), (.ref a_OW), (.ref a_PN), (.ref a_SH), (.ref a_SL), (.ref a_SQ), (.ref a_SS), (.ref a_ST), (.ref a_SV), (.ref a_TM), (.ref a_UC), (.ref a_UI), (.ref a_UL), (.ref a_UN), (.ref a_UR), (.ref a_US), (.ref a_UT), (.ref a_UV)] .null := Arv.set Ara241 qa241 Sa241 Ma241 Ha241 Ga241 rfl W242 33 rfl (Nat.le_of_ble_eq_true rfl)
  have N242 := Fr.snoc X242 N235 gn3
  have pr243 : ∀ tg, Steps pP.tables eE below (T242.setTop (mkF mM 237 #[.val (.int p1), .val (.int p2), .val (.long q0), .second, .unset, .unset, .unset, .unset, .unset, .unset, .unset, .unset, .unset, .unset] [(.ref b2)])) tg → Steps pP.tables eE below (s₁.setTop (entryFrame mM #[(.int p1), (.int p2), (.long q0)] maxLocals)) tg := fun tg kg => pr240 _ (st242 _ kg)
  clear pr240 st242 X238 e238
  have pr244 : ∀ tg, Steps pP.tables eE below (T242.setTop (mkF mM 257 #[.val (.int p1), .val (.int p2), .val (.long q0), .second, .val (.ref b2), .val (.long (5478551163 : Int64)), .second, .val (.int ((p1 &&& (2147483647 : Int32)) % (34 : Int32))), .unset, .unset, .unset, .unset, .unset, .unset] [(.int ((p1 &&& (2147483647 : Int32)) % (34 : Int32))), (.ref b2)])) tg → Steps pP.tables eE below (s₁.setTop (entryFrame mM #[(.int p1), (.int p2), (.long q0)] maxLocals)) tg := fun tg kg => pr243 _ (by
    show Steps pP.tables eE below (T242.setTop (mkF mM 237 #[.val (.int p1), .val (.int p2), .val (.long q0), .second, .unset, .unset, .unset, .unset, .unset, .unset, .unset, .unset, .unset, .unset] [(.ref b2)])) _
    refine XS.astore X242.here hx rfl (hb hby at_237) rfl rfl (l' := #[.val (.int p1), .val (.int p2), .val (.long q0), .second, .val (.ref b2), .unset, .unset, .unset, .unset, .unset, .unset, .unset, .unset, .unset]) rfl ?_
    show Steps pP.tables eE below (T242.setTop (mkF mM 239 #[.val (.int p1), .val (.int p2), .val (.long q0), .second, .val (.ref b2), .unset, .unset, .unset, .unset, .unset, .unset, .unset, .unset, .unset] [])) _
    refine Jvm.Stand.ldc2J X242 hx hown (v := (5478551163 : Int64)) (mvT hZ (hw _ (List.mem_of_getElem? (i := 72) rfl))) rfl (hb hby at_239) ?_
    show Steps pP.tables eE below (T242.setTop (mkF mM 242 #[.val (.int p1), .val (.int p2), .val (.long q0), .second, .val (.ref b2), .unset, .unset, .unset, .unset, .unset, .unset, .unset, .unset, .unset] [(.long (5478551163 : Int64))])) _
    refine XS.lstore X242.here hx rfl (hb hby at_242) rfl (l' := #[.val (.int p1), .val (.int p2), .val (.long q0), .second, .val (.ref b2), .val (.long (5478551163 : Int64)), .second, .unset, .unset, .unset, .unset, .unset, .unset, .unset]) rfl ?_
    refine XS.iloadN X242.here hx rfl (hb hby at_244) rfl ?_
    show Steps pP.tables eE below (T242.setTop (mkF mM 245 #[.val (.int p1), .val (.int p2), .val (.long q0), .second, .val (.ref b2), .val (.long (5478551163 : Int64)), .second, .unset, .unset, .unset, .unset, .unset, .unset, .unset] [(.int p1)])) _
    refine Jvm.Stand.ldcI X242 hx hown (v := (2147483647 : Int32)) (mvT hZ (hw _ (List.mem_of_getElem? (i := 73) rfl))) rfl (hb hby at_245) ?_
    show Steps pP.tables eE below (T242.setTop (mkF mM 247 #[.val (.int p1), .val (.int p2), .val (.long q0), .second, .val (.ref b2), .val (.long (5478551163 : Int64)), .second, .unset, .unset, .unset, .unset, .unset, .unset, .unset] [(.int (2147483647 : Int32)), (.int p1)])) _
    refine XS.iand X242.here hx rfl (hb hby at_247) rfl ?_
    refine XS.bipush X242.here hx rfl (hb hby at_248) ?_
    show Steps pP.tables eE below (T242.setTop (mkF mM 250 #[.val (.int p1), .val (.int p2), .val (.long q0), .second, .val (.ref b2), .val (.long (5478551163 : Int64)), .second, .unset, .unset, .unset, .unset, .unset, .unset, .unset] [(.int (34 : Int32)), (.int (p1 &&& (2147483647 : Int32)))])) _
    refine iremM (g := (mkF mM 250 #[.val (.int p1), .val (.int p2), .val (.long q0), .second, .val (.ref b2), .val (.long (5478551163 : Int64)), .second, .unset, .unset, .unset, .unset, .unset, .unset, .unset] [(.int (34 : Int32)), (.int (p1 &&& (2147483647 : Int32)))])) X242 hx rfl (hb hby at_250) rfl (by decide) ?_
    show Steps pP.tables eE below (T242.setTop (mkF mM 251 #[.val (.int p1), .val (.int p2), .val (.long q0), .second, .val (.ref b2), .val (.long (5478551163 : Int64)), .second, .unset, .unset, .unset, .unset, .unset, .unset, .unset] [(.int ((p1 &&& (2147483647 : Int32)) % (34 : Int32)))])) _
    refine XS.istore X242.here hx rfl (hb hby at_251) rfl (l' := #[.val (.int p1), .val (.int p2), .val (.long q0), .second, .val (.ref b2), .val (.long (5478551163 : Int64)), .second, .val (.int ((p1 &&& (2147483647 : Int32)) % (34 : Int32))), .unset, .unset, .unset, .unset, .unset, .unset]) rfl ?_
    refine XS.aload X242.here hx rfl (hb hby at_253) rfl rfl ?_
    refine XS.iload X242.here hx rfl (hb hby at_255) rfl ?_
    exact kg)
  clear pr243
  obtain ⟨z245, hz245⟩ : ∃ z, z = ((p1 &&& (2147483647 : Int32)) % (34 : Int32)) := ⟨_, rfl⟩
  have pr246 : ∀ tg, Steps pP.tables eE below (T242.setTop (mkF mM 257 #[.val (.int p1), .val (.int p2), .val (.long q0), .second, .val (.ref b2), .val (.long (5478551163 : Int64)), .second, .val (.int z245), .unset, .unset, .unset, .unset, .unset, .unset] [(.int z245), (.ref b2)])) tg → Steps pP.tables eE below (s₁.setTop (entryFrame mM #[(.int p1), (.int p2), (.long q0)] maxLocals)) tg := by
    rw [hz245]; exact pr244
  have hbd : 0 ≤ z245.toInt ∧ z245.toInt < 34 := by rw [hz245]; exact own_rem34 _
  obtain ⟨r, tx, pv, hx1, hx2, hx3, hx4, hx5⟩ : ∃ (r : Addr) (tx pv : Int32), ([(.ref a_AE), (.ref a_AS), (.ref a_AT), (.ref a_CS), (.ref a_DA), (.ref a_DS), (.ref a_DT), (.ref a_FD), (.ref a_FL), (.ref a_IS), (.ref a_LO), (.ref a_LT), (.ref a_OB), (.ref a_OD), (.ref a_OF), (.ref a_OL), (.ref a_OV), (.ref a_OW), (.ref a_PN), (.ref a_SH), (.ref a_SL), (.ref a_SQ), (.ref a_SS), (.ref a_ST), (.ref a_SV), (.ref a_TM), (.ref a_UC), (.ref a_UI), (.ref a_UL), (.ref a_UN), (.ref a_UR), (.ref a_US), (.ref a_UT), (.ref a_UV)] : List Value).getD (z245).toNatClampNeg .null = .ref r ∧ Exa Z Z.heap r "com/example/tesserae/tesserae/value/Vr" ∧ Fld Z Z.heap r "com/example/tesserae/tesserae/value/Vr" "text" "Z" (.int tx) ∧ ((tx = (0 : Int32) ∧ pv = (0 : Int32)) ∨ (tx = (1 : Int32) ∧ a_UI = r ∧ pv = (0 : Int32)) ∨ (tx = (1 : Int32) ∧ r ≠ a_UI ∧ pv = (32 : Int32))) ∧ pv = (if (((5478551163 : Int64).toUInt64 >>> (z245 &&& 0x3f).toInt64.toUInt64).toInt64 &&& (1 : Int64)) = (0 : Int64) then (0 : Int32) else (32 : Int32)) := by
    rcases own_34 hbd.1 hbd.2 with rfl | rfl | rfl | rfl | rfl | rfl | rfl | rfl | rfl | rfl | rfl | rfl | rfl | rfl | rfl | rfl | rfl | rfl | rfl | rfl | rfl | rfl | rfl | rfl | rfl | rfl | rfl | rfl | rfl | rfl | rfl | rfl | rfl | rfl
    · exact ⟨_, (1 : Int32), (32 : Int32), rfl, E_AE, F_AE_text, Or.inr (Or.inr ⟨rfl, Fld.ne F_AE_ordinal F_UI_ordinal (by decide), rfl⟩), (if_neg (by decide)).symm⟩
    · exact ⟨_, (1 : Int32), (32 : Int32), rfl, E_AS, F_AS_text, Or.inr (Or.inr ⟨rfl, Fld.ne F_AS_ordinal F_UI_ordinal (by decide), rfl⟩), (if_neg (by decide)).symm⟩
    · exact ⟨_, (0 : Int32), (0 : Int32), rfl, E_AT, F_AT_text, Or.inl ⟨rfl, rfl⟩, (if_pos (by decide)).symm⟩
    · exact ⟨_, (1 : Int32), (32 : Int32), rfl, E_CS, F_CS_text, Or.inr (Or.inr ⟨rfl, Fld.ne F_CS_ordinal F_UI_ordinal (by decide), rfl⟩), (if_neg (by decide)).symm⟩
    · exact ⟨_, (1 : Int32), (32 : Int32), rfl, E_DA, F_DA_text, Or.inr (Or.inr ⟨rfl, Fld.ne F_DA_ordinal F_UI_ordinal (by decide), rfl⟩), (if_neg (by decide)).symm⟩
    · exact ⟨_, (1 : Int32), (32 : Int32), rfl, E_DS, F_DS_text, Or.inr (Or.inr ⟨rfl, Fld.ne F_DS_ordinal F_UI_ordinal (by decide), rfl⟩), (if_neg (by decide)).symm⟩
    · exact ⟨_, (1 : Int32), (32 : Int32), rfl, E_DT, F_DT_text, Or.inr (Or.inr ⟨rfl, Fld.ne F_DT_ordinal F_UI_ordinal (by decide), rfl⟩), (if_neg (by decide)).symm⟩
    · exact ⟨_, (0 : Int32), (0 : Int32), rfl, E_FD, F_FD_text, Or.inl ⟨rfl, rfl⟩, (if_pos (by decide)).symm⟩
    · exact ⟨_, (0 : Int32), (0 : Int32), rfl, E_FL, F_FL_text, Or.inl ⟨rfl, rfl⟩, (if_pos (by decide)).symm⟩
    · exact ⟨_, (1 : Int32), (32 : Int32), rfl, E_IS, F_IS_text, Or.inr (Or.inr ⟨rfl, Fld.ne F_IS_ordinal F_UI_ordinal (by decide), rfl⟩), (if_neg (by decide)).symm⟩
    · exact ⟨_, (1 : Int32), (32 : Int32), rfl, E_LO, F_LO_text, Or.inr (Or.inr ⟨rfl, Fld.ne F_LO_ordinal F_UI_ordinal (by decide), rfl⟩), (if_neg (by decide)).symm⟩
    · exact ⟨_, (1 : Int32), (32 : Int32), rfl, E_LT, F_LT_text, Or.inr (Or.inr ⟨rfl, Fld.ne F_LT_ordinal F_UI_ordinal (by decide), rfl⟩), (if_neg (by decide)).symm⟩
    · exact ⟨_, (0 : Int32), (0 : Int32), rfl, E_OB, F_OB_text, Or.inl ⟨rfl, rfl⟩, (if_pos (by decide)).symm⟩
    · exact ⟨_, (0 : Int32), (0 : Int32), rfl, E_OD, F_OD_text, Or.inl ⟨rfl, rfl⟩, (if_pos (by decide)).symm⟩
    · exact ⟨_, (0 : Int32), (0 : Int32), rfl, E_OF, F_OF_text, Or.inl ⟨rfl, rfl⟩, (if_pos (by decide)).symm⟩
    · exact ⟨_, (0 : Int32), (0 : Int32), rfl, E_OL, F_OL_text, Or.inl ⟨rfl, rfl⟩, (if_pos (by decide)).symm⟩
    · exact ⟨_, (0 : Int32), (0 : Int32), rfl, E_OV, F_OV_text, Or.inl ⟨rfl, rfl⟩, (if_pos (by decide)).symm⟩
    · exact ⟨_, (0 : Int32), (0 : Int32), rfl, E_OW, F_OW_text, Or.inl ⟨rfl, rfl⟩, (if_pos (by decide)).symm⟩
    · exact ⟨_, (1 : Int32), (32 : Int32), rfl, E_PN, F_PN_text, Or.inr (Or.inr ⟨rfl, Fld.ne F_PN_ordinal F_UI_ordinal (by decide), rfl⟩), (if_neg (by decide)).symm⟩
    · exact ⟨_, (1 : Int32), (32 : Int32), rfl, E_SH, F_SH_text, Or.inr (Or.inr ⟨rfl, Fld.ne F_SH_ordinal F_UI_ordinal (by decide), rfl⟩), (if_neg (by decide)).symm⟩
    · exact ⟨_, (0 : Int32), (0 : Int32), rfl, E_SL, F_SL_text, Or.inl ⟨rfl, rfl⟩, (if_pos (by decide)).symm⟩
    · exact ⟨_, (0 : Int32), (0 : Int32), rfl, E_SQ, F_SQ_text, Or.inl ⟨rfl, rfl⟩, (if_pos (by decide)).symm⟩
    · exact ⟨_, (0 : Int32), (0 : Int32), rfl, E_SS, F_SS_text, Or.inl ⟨rfl, rfl⟩, (if_pos (by decide)).symm⟩
    · exact ⟨_, (1 : Int32), (32 : Int32), rfl, E_ST, F_ST_text, Or.inr (Or.inr ⟨rfl, Fld.ne F_ST_ordinal F_UI_ordinal (by decide), rfl⟩), (if_neg (by decide)).symm⟩
    · exact ⟨_, (0 : Int32), (0 : Int32), rfl, E_SV, F_SV_text, Or.inl ⟨rfl, rfl⟩, (if_pos (by decide)).symm⟩
    · exact ⟨_, (1 : Int32), (32 : Int32), rfl, E_TM, F_TM_text, Or.inr (Or.inr ⟨rfl, Fld.ne F_TM_ordinal F_UI_ordinal (by decide), rfl⟩), (if_neg (by decide)).symm⟩
    · exact ⟨_, (1 : Int32), (32 : Int32), rfl, E_UC, F_UC_text, Or.inr (Or.inr ⟨rfl, Fld.ne F_UC_ordinal F_UI_ordinal (by decide), rfl⟩), (if_neg (by decide)).symm⟩
    · exact ⟨_, (1 : Int32), (0 : Int32), rfl, E_UI, F_UI_text, Or.inr (Or.inl ⟨rfl, rfl, rfl⟩), (if_pos (by decide)).symm⟩
    · exact ⟨_, (0 : Int32), (0 : Int32), rfl, E_UL, F_UL_text, Or.inl ⟨rfl, rfl⟩, (if_pos (by decide)).symm⟩
    · exact ⟨_, (0 : Int32), (0 : Int32), rfl, E_UN, F_UN_text, Or.inl ⟨rfl, rfl⟩, (if_pos (by decide)).symm⟩
    · exact ⟨_, (1 : Int32), (32 : Int32), rfl, E_UR, F_UR_text, Or.inr (Or.inr ⟨rfl, Fld.ne F_UR_ordinal F_UI_ordinal (by decide), rfl⟩), (if_neg (by decide)).symm⟩
    · exact ⟨_, (0 : Int32), (0 : Int32), rfl, E_US, F_US_text, Or.inl ⟨rfl, rfl⟩, (if_pos (by decide)).symm⟩
    · exact ⟨_, (1 : Int32), (32 : Int32), rfl, E_UT, F_UT_text, Or.inr (Or.inr ⟨rfl, Fld.ne F_UT_ordinal F_UI_ordinal (by decide), rfl⟩), (if_neg (by decide)).symm⟩
    · exact ⟨_, (0 : Int32), (0 : Int32), rfl, E_UV, F_UV_text, Or.inl ⟨rfl, rfl⟩, (if_pos (by decide)).symm⟩
  obtain ⟨cla247, Ara247, qa247, Sa247, Ma247, Ha247, Ga247⟩ := id V242
  have hin248 : ¬ (z245 < 0 ∨ cla247.slots.size ≤ (z245).toNatClampNeg) := inb_of Sa247 (own_in (n := (34 : Int32)) hbd.1 hbd.2)
  have hat248 : cla247.slots[(z245).toNatClampNeg]? = some (.ref r) := Has.at Ha247 hin248 hx1
  have pr249 : ∀ tg, Steps pP.tables eE below (T242.setTop (mkF mM 266 #[.val (.int p1), .val (.int p2), .val (.long q0), .second, .val (.ref b2), .val (.long (5478551163 : Int64)), .second, .val (.int z245), .val (.ref r), .val (.int (p2 &&& (7 : Int32))), .unset, .unset, .unset, .unset] [])) tg → Steps pP.tables eE below (s₁.setTop (entryFrame mM #[(.int p1), (.int p2), (.long q0)] maxLocals)) tg := fun tg kg => pr246 _ (by
    show Steps pP.tables eE below (T242.setTop (mkF mM 257 #[.val (.int p1), .val (.int p2), .val (.long q0), .second, .val (.ref b2), .val (.long (5478551163 : Int64)), .second, .val (.int z245), .unset, .unset, .unset, .unset, .unset, .unset] [(.int z245), (.ref b2)])) _
    refine X242.aaload hx (j := z245) (v := (.ref r)) (by rw [e242]; exact Ara247.1) (State.isArrayOf_alike hZ.alike Ara247.2.1) rfl Ara247.2.2 hin248 hat248 (g := (mkF mM 257 #[.val (.int p1), .val (.int p2), .val (.long q0), .second, .val (.ref b2), .val (.long (5478551163 : Int64)), .second, .val (.int z245), .unset, .unset, .unset, .unset, .unset, .unset] [(.int z245), (.ref b2)])) rfl rfl (hb hby at_257) _ ?_
    show Steps pP.tables eE below (T242.setTop (mkF mM 258 #[.val (.int p1), .val (.int p2), .val (.long q0), .second, .val (.ref b2), .val (.long (5478551163 : Int64)), .second, .val (.int z245), .unset, .unset, .unset, .unset, .unset, .unset] [(.ref r)])) _
    refine XS.astore X242.here hx rfl (hb hby at_258) rfl rfl (l' := #[.val (.int p1), .val (.int p2), .val (.long q0), .second, .val (.ref b2), .val (.long (5478551163 : Int64)), .second, .val (.int z245), .val (.ref r), .unset, .unset, .unset, .unset, .unset]) rfl ?_
    refine XS.iloadN X242.here hx rfl (hb hby at_260) rfl ?_
    refine XS.bipush X242.here hx rfl (hb hby at_261) ?_
    refine XS.iand X242.here hx rfl (hb hby at_263) rfl ?_
    refine XS.istore X242.here hx rfl (hb hby at_264) rfl (l' := #[.val (.int p1), .val (.int p2), .val (.long q0), .second, .val (.ref b2), .val (.long (5478551163 : Int64)), .second, .val (.int z245), .val (.ref r), .val (.int (p2 &&& (7 : Int32))), .unset, .unset, .unset, .unset]) rfl ?_
    exact kg)
  clear pr246
  obtain ⟨z250, hz250⟩ : ∃ z, z = (p2 &&& (7 : Int32)) := ⟨_, rfl⟩
  have pr251 : ∀ tg, Steps pP.tables eE below (T242.setTop (mkF mM 266 #[.val (.int p1), .val (.int p2), .val (.long q0), .second, .val (.ref b2), .val (.long (5478551163 : Int64)), .second, .val (.int z245), .val (.ref r), .val (.int z250), .unset, .unset, .unset, .unset] [])) tg → Steps pP.tables eE below (s₁.setTop (entryFrame mM #[(.int p1), (.int p2), (.long q0)] maxLocals)) tg := by
    rw [hz250]; exact pr249
  have hb9 : 0 ≤ z250.toInt ∧ z250.toInt < 8 := by rw [hz250]; exact own_and7 _
  rcases (own_8 hb9.1 hb9.2) with rfl | rfl | rfl | rfl | rfl | rfl | rfl | rfl
  ·
    have pr252 : ∀ tg, Steps pP.tables eE below (T242.setTop (mkF mM 268 #[.val (.int p1), .val (.int p2), .val (.long q0), .second, .val (.ref b2), .val (.long (5478551163 : Int64)), .second, .val (.int z245), .val (.ref r), .val (.int (0 : Int32)), .unset, .unset, .unset, .unset] [(.int (0 : Int32))])) tg → Steps pP.tables eE below (s₁.setTop (entryFrame mM #[(.int p1), (.int p2), (.long q0)] maxLocals)) tg := fun tg kg => pr251 _ (by
      show Steps pP.tables eE below (T242.setTop (mkF mM 266 #[.val (.int p1), .val (.int p2), .val (.long q0), .second, .val (.ref b2), .val (.long (5478551163 : Int64)), .second, .val (.int z245), .val (.ref r), .val (.int (0 : Int32)), .unset, .unset, .unset, .unset] [])) _
      refine XS.iload X242.here hx rfl (hb hby at_266) rfl ?_
      exact kg)
    clear pr251
    obtain ⟨T253, h253, k253, X253, e253, E253, A253, Ex253, st253⟩ := newPE X242 hx hZ (hw _ (List.mem_of_getElem? (i := 74) rfl)) e242 (g := (mkF mM 268 #[.val (.int p1), .val (.int p2), .val (.long q0), .second, .val (.ref b2), .val (.long (5478551163 : Int64)), .second, .val (.int z245), .val (.ref r), .val (.int (0 : Int32)), .unset, .unset, .unset, .unset] [(.int (0 : Int32))])) rfl (hb hby at_268) rfl (by decide) (cap := 0) (by decide) (by decide) (by decide) (by decide) (ad := "[B") rfl
    obtain ⟨b253, g253⟩ : ∃ z, z = (h242).size := ⟨_, rfl⟩
    rw [← g253] at A253 Ex253 st253
    have ne254 : b2 ≠ b253 := Nat.ne_of_lt (Nat.lt_of_lt_of_le (V242).lt (Nat.le_of_eq g253.symm))
    have c256 := (Nat.le_trans (Nat.le_trans (Nat.le_trans (Nat.le_trans (Nat.le_trans (Nat.le_trans (Nat.le_trans (Nat.le_trans (Nat.le_trans (Nat.le_trans (Nat.le_trans (Nat.le_trans (Nat.le_trans (Nat.le_trans (Nat.le_trans (Nat.le_trans (Nat.le_trans (Nat.le_trans (Nat.le_trans (Nat.le_trans (Nat.le_trans (Nat.le_trans (Nat.le_trans (Nat.le_trans (Nat.le_trans (Nat.le_trans (Nat.le_trans (Nat.le_trans (Nat.le_trans (Nat.le_trans (Nat.le_trans (Nat.le_trans (Nat.le_trans (Nat.le_trans (Nat.le_trans Z0 E2.1) (Keep.of_wr W11).1) (Keep.of_wr W18).1) (Keep.of_wr W25).1) (Keep.of_wr W32).1) (Keep.of_wr W39).1) (Keep.of_wr W46).1) (Keep.of_wr W53).1) (Keep.of_wr W60).1) (Keep.of_wr W67).1) (Keep.of_wr W74).1) (Keep.of_wr W81).1) (Keep.of_wr W88).1) (Keep.of_wr W95).1) (Keep.of_wr W102).1) (Keep.of_wr W109).1) (Keep.of_wr W116).1) (Keep.of_wr W123).1) (Keep.of_wr W130).1) (Keep.of_wr W137).1) (Keep.of_wr W144).1) (Keep.of_wr W151).1) (Keep.of_wr W158).1) (Keep.of_wr W165).1) (Keep.of_wr W172).1) (Keep.of_wr W179).1) (Keep.of_wr W186).1) (Keep.of_wr W193).1) (Keep.of_wr W200).1) (Keep.of_wr W207).1) (Keep.of_wr W214).1) (Keep.of_wr W221).1) (Keep.of_wr W228).1) (Keep.of_wr W235).1) (Keep.of_wr W242).1)
    have gn255 : n0 ≤ b253 := Nat.le_trans c256 (Nat.le_of_eq g253.symm)
    have c258 := (Keep.wr (Keep.wr (Keep.wr (Keep.wr (Keep.wr (Keep.wr (Keep.wr (Keep.wr (Keep.wr (Keep.wr (Keep.wr (Keep.wr (Keep.wr (Keep.wr (Keep.wr (Keep.wr (Keep.wr (Keep.wr (Keep.wr (Keep.wr (Keep.wr (Keep.wr (Keep.wr (Keep.wr (Keep.wr (Keep.wr (Keep.wr (Keep.wr (Keep.wr (Keep.wr (Keep.wr (Keep.wr (Keep.wr (Keep.wr (Keep.ext (Keep.refl h0 []) E2) W11 (Or.inr gs4)) W18 (Or.inr gs4)) W25 (Or.inr gs4)) W32 (Or.inr gs4)) W39 (Or.inr gs4)) W46 (Or.inr gs4)) W53 (Or.inr gs4)) W60 (Or.inr gs4)) W67 (Or.inr gs4)) W74 (Or.inr gs4)) W81 (Or.inr gs4)) W88 (Or.inr gs4)) W95 (Or.inr gs4)) W102 (Or.inr gs4)) W109 (Or.inr gs4)) W116 (Or.inr gs4)) W123 (Or.inr gs4)) W130 (Or.inr gs4)) W137 (Or.inr gs4)) W144 (Or.inr gs4)) W151 (Or.inr gs4)) W158 (Or.inr gs4)) W165 (Or.inr gs4)) W172 (Or.inr gs4)) W179 (Or.inr gs4)) W186 (Or.inr gs4)) W193 (Or.inr gs4)) W200 (Or.inr gs4)) W207 (Or.inr gs4)) W214 (Or.inr gs4)) W221 (Or.inr gs4)) W228 (Or.inr gs4)) W235 (Or.inr gs4)) W242 (Or.inr gs4))
    have gs257 : h0.size ≤ b253 := Nat.le_trans c258.1 (Nat.le_of_eq g253.symm)
    have c259 := (Old.wr c239 W242 gn3)
    have V253 : Arv Z h253 b253 k253 .byte (0 : Int32) [] (.int (0 : Int32)) := Arv.new A253 (by decide)
    have pr260 : ∀ tg, Steps pP.tables eE below (T253.setTop (mkF mM 270 #[.val (.int p1), .val (.int p2), .val (.long q0), .second, .val (.ref b2), .val (.long (5478551163 : Int64)), .second, .val (.int z245), .val (.ref r), .val (.int (0 : Int32)), .unset, .unset, .unset, .unset] [(.ref b253)])) tg → Steps pP.tables eE below (s₁.setTop (entryFrame mM #[(.int p1), (.int p2), (.long q0)] maxLocals)) tg := fun tg kg => pr252 _ (st253 _ kg)
    clear pr252 st253 X242 e242
    have pr261 : ∀ tg, Steps pP.tables eE below (T253.setTop (mkF mM 386 #[.val (.int p1), .val (.int p2), .val (.long q0), .second, .val (.ref b2), .val (.long (5478551163 : Int64)), .second, .val (.int z245), .val (.ref r), .val (.int (0 : Int32)), .val (.ref b253), .unset, .unset, .unset] [(.ref b253), (.ref r)])) tg → Steps pP.tables eE below (s₁.setTop (entryFrame mM #[(.int p1), (.int p2), (.long q0)] maxLocals)) tg := fun tg kg => pr260 _ (by
      show Steps pP.tables eE below (T253.setTop (mkF mM 270 #[.val (.int p1), .val (.int p2), .val (.long q0), .second, .val (.ref b2), .val (.long (5478551163 : Int64)), .second, .val (.int z245), .val (.ref r), .val (.int (0 : Int32)), .unset, .unset, .unset, .unset] [(.ref b253)])) _
      refine XS.astore X253.here hx rfl (hb hby at_270) rfl rfl (l' := #[.val (.int p1), .val (.int p2), .val (.long q0), .second, .val (.ref b2), .val (.long (5478551163 : Int64)), .second, .val (.int z245), .val (.ref r), .val (.int (0 : Int32)), .val (.ref b253), .unset, .unset, .unset]) rfl ?_
      refine XS.iload X253.here hx rfl (hb hby at_272) rfl ?_
      refine XS.ifYes X253.here hx rfl (pc0 := 274) (pc' := 284) rfl (hb hby at_274) rfl ((if0 _ _).trans (flt (by decide)).2.2.2) (by decide) (by decide) ?_
      refine XS.iload X253.here hx rfl (hb hby at_284) rfl ?_
      refine XS.iconst X253.here hx rfl (hb hby at_286) ?_
      refine XS.icmpYes X253.here hx rfl (pc0 := 287) (pc' := 300) rfl (hb hby at_287) rfl (flt (by decide)).2.2.2 (by decide) (by decide) ?_
      show Steps pP.tables eE below (T253.setTop (mkF mM 300 #[.val (.int p1), .val (.int p2), .val (.long q0), .second, .val (.ref b2), .val (.long (5478551163 : Int64)), .second, .val (.int z245), .val (.ref r), .val (.int (0 : Int32)), .val (.ref b253), .unset, .unset, .unset] [])) _
      refine XS.iload X253.here hx rfl (hb hby at_300) rfl ?_
      refine XS.iconst X253.here hx rfl (hb hby at_302) ?_
      refine XS.icmpYes X253.here hx rfl (pc0 := 303) (pc' := 316) rfl (hb hby at_303) rfl (flt (by decide)).2.2.2 (by decide) (by decide) ?_
      refine XS.iload X253.here hx rfl (hb hby at_316) rfl ?_
      refine XS.iconst X253.here hx rfl (hb hby at_318) ?_
      refine XS.icmpYes X253.here hx rfl (pc0 := 319) (pc' := 332) rfl (hb hby at_319) rfl (flt (by decide)).2.2.2 (by decide) (by decide) ?_
      show Steps pP.tables eE below (T253.setTop (mkF mM 332 #[.val (.int p1), .val (.int p2), .val (.long q0), .second, .val (.ref b2), .val (.long (5478551163 : Int64)), .second, .val (.int z245), .val (.ref r), .val (.int (0 : Int32)), .val (.ref b253), .unset, .unset, .unset] [])) _
      refine XS.iload X253.here hx rfl (hb hby at_332) rfl ?_
      refine XS.iconst X253.here hx rfl (hb hby at_334) ?_
      refine XS.icmpYes X253.here hx rfl (pc0 := 335) (pc' := 348) rfl (hb hby at_335) rfl (flt (by decide)).2.2.2 (by decide) (by decide) ?_
      refine XS.iload X253.here hx rfl (hb hby at_348) rfl ?_
      refine XS.iconst X253.here hx rfl (hb hby at_350) ?_
      refine XS.icmpYes X253.here hx rfl (pc0 := 351) (pc' := 364) rfl (hb hby at_351) rfl (flt (by decide)).2.2.2 (by decide) (by decide) ?_
      show Steps pP.tables eE below (T253.setTop (mkF mM 364 #[.val (.int p1), .val (.int p2), .val (.long q0), .second, .val (.ref b2), .val (.long (5478551163 : Int64)), .second, .val (.int z245), .val (.ref r), .val (.int (0 : Int32)), .val (.ref b253), .unset, .unset, .unset] [])) _
      refine XS.iload X253.here hx rfl (hb hby at_364) rfl ?_
      refine XS.bipush X253.here hx rfl (hb hby at_366) ?_
      refine XS.icmpYes X253.here hx rfl (pc0 := 368) (pc' := 382) rfl (hb hby at_368) rfl (flt (by decide)).2.2.2 (by decide) (by decide) ?_
      refine XS.aload X253.here hx rfl (hb hby at_382) rfl rfl ?_
      refine XS.aload X253.here hx rfl (hb hby at_384) rfl rfl ?_
      exact kg)
    clear pr260
    have c262 := (Nat.le_trans c256 E253.1)
    obtain ⟨Ls263, X263, N263⟩ := own_hide X253 N242
    clear X253 N242
    have c265 := (Old.ext c259 E253)
    obtain ⟨cq264, kq264, qa264, qb264, qc264⟩ := isOf hZ e253 (Exa.ext (c265).2 hx2)
    obtain ⟨_, _, ⟨T264, L264, kk264, nn264⟩, -, X264, ⟨Lc264, hQ264, l264, y264, z264⟩, st264⟩ := X263.virtualBack hx (y := (⟨"com/example/tesserae/tesserae/value/Vr", "pad", "([B)[B"⟩ : MethodName)) (z := (⟨"com/example/tesserae/tesserae/value/Vr", "pad", "([B)[B"⟩ : MethodName)) hown (mvT hZ (hw _ (List.mem_of_getElem? (i := 75) rfl))) (mvT hZ (hw _ (List.mem_of_getElem? (i := 76) rfl))) (notFace_of_selects (args := #[]) (mvT hZ (hw _ (List.mem_of_getElem? (i := 78) rfl)))) (mvT hZ (hw _ (List.mem_of_getElem? (i := 78) rfl))) (mvT hZ (hw _ (List.mem_of_getElem? (i := 77) rfl))) (by decide) (backOf (W := 0) (rm30 l Z a0 hw [] r b253 k253  h253 n0 c262 V253) hZ (hw _ (List.mem_of_getElem? (i := 79) rfl)) (hw _ (List.mem_of_getElem? (i := 3) rfl)) (by decide) (by decide)) qa264 qc264 (g := (mkF mM 386 #[.val (.int p1), .val (.int p2), .val (.long q0), .second, .val (.ref b2), .val (.long (5478551163 : Int64)), .second, .val (.int z245), .val (.ref r), .val (.int (0 : Int32)), .val (.ref b253), .unset, .unset, .unset] [(.ref b253), (.ref r)])) rfl (by rw [hml]; rfl) (Steps.refl _) (argsL := [(.ref b253)]) (rest := []) (lenOf pd_2 rfl) rfl (by show 2 * 0 + _ ≤ _; exact Nat.le_of_eq rfl) (hb hby at_386) (fun _ _ => ⟨rfl, e253, (by decide : 2 + 0 ≤ _), (by decide : 34 + 0 ≤ _)⟩)
    dsimp only [Pt.U, Pt.locs, Pt.cells, Pt.slots] at X264 l264 y264 z264 st264 hQ264
    subst l264 y264 z264
    obtain ⟨rfl, Nq264, e264⟩ := hQ264
    have N264 := Fr.app N263 Nq264
    have pr266 : ∀ tg, Steps pP.tables eE below (T264.setTop (mkF mM 389 #[.val (.int p1), .val (.int p2), .val (.long q0), .second, .val (.ref b2), .val (.long (5478551163 : Int64)), .second, .val (.int z245), .val (.ref r), .val (.int (0 : Int32)), .val (.ref b253), .unset, .unset, .unset] [(.ref b253)])) tg → Steps pP.tables eE below (s₁.setTop (entryFrame mM #[(.int p1), (.int p2), (.long q0)] maxLocals)) tg := fun tg kg => pr261 _ (st264.trans kg)
    clear pr261 st264 X263 e253
    obtain ⟨cla267, Ara267, qa267, Sa267, Ma267, Ha267, Ga267⟩ := id V253
    have pr268 : ∀ tg, Steps pP.tables eE below (T264.setTop (mkF mM 405 #[.val (.int p1), .val (.int p2), .val (.long q0), .second, .val (.ref b2), .val (.long (5478551163 : Int64)), .second, .val (.int z245), .val (.ref r), .val (.int (0 : Int32)), .val (.ref b253), .val (.ref b253), .unset, .unset] [(.int (0 : Int32)), (.int (0 : Int32)), (.long q0), (.ref b253)])) tg → Steps pP.tables eE below (s₁.setTop (entryFrame mM #[(.int p1), (.int p2), (.long q0)] maxLocals)) tg := fun tg kg => pr266 _ (by
      show Steps pP.tables eE below (T264.setTop (mkF mM 389 #[.val (.int p1), .val (.int p2), .val (.long q0), .second, .val (.ref b2), .val (.long (5478551163 : Int64)), .second, .val (.int z245), .val (.ref r), .val (.int (0 : Int32)), .val (.ref b253), .unset, .unset, .unset] [(.ref b253)])) _
      refine XS.astore X264.here hx rfl (hb hby at_389) rfl rfl (l' := #[.val (.int p1), .val (.int p2), .val (.long q0), .second, .val (.ref b2), .val (.long (5478551163 : Int64)), .second, .val (.int z245), .val (.ref r), .val (.int (0 : Int32)), .val (.ref b253), .val (.ref b253), .unset, .unset]) rfl ?_
      refine XS.aload X264.here hx rfl (hb hby at_391) rfl rfl ?_
      show Steps pP.tables eE below (T264.setTop (mkF mM 393 #[.val (.int p1), .val (.int p2), .val (.long q0), .second, .val (.ref b2), .val (.long (5478551163 : Int64)), .second, .val (.int z245), .val (.ref r), .val (.int (0 : Int32)), .val (.ref b253), .val (.ref b253), .unset, .unset] [(.ref b253)])) _
      refine X264.arraylength hx (by rw [e264]; exact Ara267.1) (State.isArrayOf_alike hZ.alike Ara267.2.1) (g := (mkF mM 393 #[.val (.int p1), .val (.int p2), .val (.long q0), .second, .val (.ref b2), .val (.long (5478551163 : Int64)), .second, .val (.int z245), .val (.ref r), .val (.int (0 : Int32)), .val (.ref b253), .val (.ref b253), .unset, .unset] [(.ref b253)])) rfl rfl (hb hby at_393) _ ?_
      rw [len_of Sa267 Ma267]
      show Steps pP.tables eE below (T264.setTop (mkF mM 394 #[.val (.int p1), .val (.int p2), .val (.long q0), .second, .val (.ref b2), .val (.long (5478551163 : Int64)), .second, .val (.int z245), .val (.ref r), .val (.int (0 : Int32)), .val (.ref b253), .val (.ref b253), .unset, .unset] [(.int (0 : Int32))])) _
      refine XS.iload X264.here hx rfl (hb hby at_394) rfl ?_
      refine XS.icmpNo X264.here hx rfl (hb hby at_396) rfl (teq (by decide)).2 ?_
      refine XS.aload X264.here hx rfl (hb hby at_399) rfl rfl ?_
      refine XS.lloadN X264.here hx rfl (hb hby at_401) rfl ?_
      refine XS.iconst X264.here hx rfl (hb hby at_402) ?_
      refine XS.iload X264.here hx rfl (hb hby at_403) rfl ?_
      exact kg)
    clear pr266
    obtain ⟨Ls269, X269, N269⟩ := own_hide X264 N264
    clear X264 N264
    obtain ⟨_, _, ⟨T270, L270, kk270, nn270⟩, -, X270, ⟨Lc270, hQ270, l270, y270, z270⟩, st270⟩ := Jvm.LawKit.callS X269 hx (y := (⟨"com/example/tesserae/tesserae/value/VrPadPinLaw", "sameAt", "([BJII)Z"⟩ : MethodName)) hown (mvT hZ (hw _ (List.mem_of_getElem? (i := 95) rfl))) (mvT hZ (hw _ (List.mem_of_getElem? (i := 96) rfl))) (mvT hZ (hw _ (List.mem_of_getElem? (i := 97) rfl))) (mvT hZ (hw _ (List.mem_of_getElem? (i := 98) rfl))) (by decide) (backOf (W := 0) (rm4 l Z a0 hw [] b253 q0 (0 : Int32) (0 : Int32) h253 n0 c262 (by decide)) hZ (hw _ (List.mem_of_getElem? (i := 98) rfl)) (hw _ (List.mem_of_getElem? (i := 97) rfl)) (by decide) (by decide)) (g := (mkF mM 405 #[.val (.int p1), .val (.int p2), .val (.long q0), .second, .val (.ref b2), .val (.long (5478551163 : Int64)), .second, .val (.int z245), .val (.ref r), .val (.int (0 : Int32)), .val (.ref b253), .val (.ref b253), .unset, .unset] [(.int (0 : Int32)), (.int (0 : Int32)), (.long q0), (.ref b253)])) rfl (by rw [hml]; rfl) (argsL := [(.ref b253), (.long q0), (.int (0 : Int32)), (.int (0 : Int32))]) (rest := []) (lenOf pd_3 rfl) rfl (by show 2 * 0 + _ ≤ _; exact Nat.le_of_eq rfl) (hb hby at_405) (fun _ _ => ⟨rfl, e264, (by decide : 2 + 0 ≤ _), (by decide : 34 + 0 ≤ _)⟩)
    dsimp only [Pt.U, Pt.locs, Pt.cells, Pt.slots] at X270 l270 y270 z270 st270 hQ270
    subst l270 y270 z270
    obtain ⟨rfl, Nq270, e270⟩ := hQ270
    have N270 := Fr.app N269 Nq270
    have pr271 : ∀ tg, Steps pP.tables eE below (T270.setTop (mkF mM 408 #[.val (.int p1), .val (.int p2), .val (.long q0), .second, .val (.ref b2), .val (.long (5478551163 : Int64)), .second, .val (.int z245), .val (.ref r), .val (.int (0 : Int32)), .val (.ref b253), .val (.ref b253), .unset, .unset] [(.int (1 : Int32))])) tg → Steps pP.tables eE below (s₁.setTop (entryFrame mM #[(.int p1), (.int p2), (.long q0)] maxLocals)) tg := fun tg kg => pr268 _ (st270 _ kg)
    clear pr268 st270 X269 e264
    have pr272 : ∀ tg, Steps pP.tables eE below (T270.setTop (mkF mM 417 #[.val (.int p1), .val (.int p2), .val (.long q0), .second, .val (.ref b2), .val (.long (5478551163 : Int64)), .second, .val (.int z245), .val (.ref r), .val (.int (0 : Int32)), .val (.ref b253), .val (.ref b253), .unset, .unset] [(.int (0 : Int32)), (.int (1 : Int32)), (.long q0), (.ref b253)])) tg → Steps pP.tables eE below (s₁.setTop (entryFrame mM #[(.int p1), (.int p2), (.long q0)] maxLocals)) tg := fun tg kg => pr271 _ (by
      show Steps pP.tables eE below (T270.setTop (mkF mM 408 #[.val (.int p1), .val (.int p2), .val (.long q0), .second, .val (.ref b2), .val (.long (5478551163 : Int64)), .second, .val (.int z245), .val (.ref r), .val (.int (0 : Int32)), .val (.ref b253), .val (.ref b253), .unset, .unset] [(.int (1 : Int32))])) _
      refine XS.ifNo X270.here hx rfl (hb hby at_408) rfl ((if0 _ _).trans (feq (by decide)).1) ?_
      refine XS.aload X270.here hx rfl (hb hby at_411) rfl rfl ?_
      refine XS.lloadN X270.here hx rfl (hb hby at_413) rfl ?_
      refine XS.iconst X270.here hx rfl (hb hby at_414) ?_
      refine XS.iload X270.here hx rfl (hb hby at_415) rfl ?_
      exact kg)
    clear pr271
    obtain ⟨Ls273, X273, N273⟩ := own_hide X270 N270
    clear X270 N270
    obtain ⟨_, _, ⟨T274, L274, kk274, nn274⟩, -, X274, ⟨Lc274, hQ274, l274, y274, z274⟩, st274⟩ := Jvm.LawKit.callS X273 hx (y := (⟨"com/example/tesserae/tesserae/value/VrPadPinLaw", "sameAt", "([BJII)Z"⟩ : MethodName)) hown (mvT hZ (hw _ (List.mem_of_getElem? (i := 95) rfl))) (mvT hZ (hw _ (List.mem_of_getElem? (i := 96) rfl))) (mvT hZ (hw _ (List.mem_of_getElem? (i := 97) rfl))) (mvT hZ (hw _ (List.mem_of_getElem? (i := 98) rfl))) (by decide) (backOf (W := 0) (rm4 l Z a0 hw [] b253 q0 (1 : Int32) (0 : Int32) h253 n0 c262 (by decide)) hZ (hw _ (List.mem_of_getElem? (i := 98) rfl)) (hw _ (List.mem_of_getElem? (i := 97) rfl)) (by decide) (by decide)) (g := (mkF mM 417 #[.val (.int p1), .val (.int p2), .val (.long q0), .second, .val (.ref b2), .val (.long (5478551163 : Int64)), .second, .val (.int z245), .val (.ref r), .val (.int (0 : Int32)), .val (.ref b253), .val (.ref b253), .unset, .unset] [(.int (0 : Int32)), (.int (1 : Int32)), (.long q0), (.ref b253)])) rfl (by rw [hml]; rfl) (argsL := [(.ref b253), (.long q0), (.int (1 : Int32)), (.int (0 : Int32))]) (rest := []) (lenOf pd_3 rfl) rfl (by show 2 * 0 + _ ≤ _; exact Nat.le_of_eq rfl) (hb hby at_417) (fun _ _ => ⟨rfl, e270, (by decide : 2 + 0 ≤ _), (by decide : 34 + 0 ≤ _)⟩)
    dsimp only [Pt.U, Pt.locs, Pt.cells, Pt.slots] at X274 l274 y274 z274 st274 hQ274
    subst l274 y274 z274
    obtain ⟨rfl, Nq274, e274⟩ := hQ274
    have N274 := Fr.app N273 Nq274
    have pr275 : ∀ tg, Steps pP.tables eE below (T274.setTop (mkF mM 420 #[.val (.int p1), .val (.int p2), .val (.long q0), .second, .val (.ref b2), .val (.long (5478551163 : Int64)), .second, .val (.int z245), .val (.ref r), .val (.int (0 : Int32)), .val (.ref b253), .val (.ref b253), .unset, .unset] [(.int (1 : Int32))])) tg → Steps pP.tables eE below (s₁.setTop (entryFrame mM #[(.int p1), (.int p2), (.long q0)] maxLocals)) tg := fun tg kg => pr272 _ (st274 _ kg)
    clear pr272 st274 X273 e270
    have pr276 : ∀ tg, Steps pP.tables eE below (T274.setTop (mkF mM 429 #[.val (.int p1), .val (.int p2), .val (.long q0), .second, .val (.ref b2), .val (.long (5478551163 : Int64)), .second, .val (.int z245), .val (.ref r), .val (.int (0 : Int32)), .val (.ref b253), .val (.ref b253), .unset, .unset] [(.int (0 : Int32)), (.int (2 : Int32)), (.long q0), (.ref b253)])) tg → Steps pP.tables eE below (s₁.setTop (entryFrame mM #[(.int p1), (.int p2), (.long q0)] maxLocals)) tg := fun tg kg => pr275 _ (by
      show Steps pP.tables eE below (T274.setTop (mkF mM 420 #[.val (.int p1), .val (.int p2), .val (.long q0), .second, .val (.ref b2), .val (.long (5478551163 : Int64)), .second, .val (.int z245), .val (.ref r), .val (.int (0 : Int32)), .val (.ref b253), .val (.ref b253), .unset, .unset] [(.int (1 : Int32))])) _
      refine XS.ifNo X274.here hx rfl (hb hby at_420) rfl ((if0 _ _).trans (feq (by decide)).1) ?_
      refine XS.aload X274.here hx rfl (hb hby at_423) rfl rfl ?_
      refine XS.lloadN X274.here hx rfl (hb hby at_425) rfl ?_
      refine XS.iconst X274.here hx rfl (hb hby at_426) ?_
      refine XS.iload X274.here hx rfl (hb hby at_427) rfl ?_
      exact kg)
    clear pr275
    obtain ⟨Ls277, X277, N277⟩ := own_hide X274 N274
    clear X274 N274
    obtain ⟨_, _, ⟨T278, L278, kk278, nn278⟩, -, X278, ⟨Lc278, hQ278, l278, y278, z278⟩, st278⟩ := Jvm.LawKit.callS X277 hx (y := (⟨"com/example/tesserae/tesserae/value/VrPadPinLaw", "sameAt", "([BJII)Z"⟩ : MethodName)) hown (mvT hZ (hw _ (List.mem_of_getElem? (i := 95) rfl))) (mvT hZ (hw _ (List.mem_of_getElem? (i := 96) rfl))) (mvT hZ (hw _ (List.mem_of_getElem? (i := 97) rfl))) (mvT hZ (hw _ (List.mem_of_getElem? (i := 98) rfl))) (by decide) (backOf (W := 0) (rm4 l Z a0 hw [] b253 q0 (2 : Int32) (0 : Int32) h253 n0 c262 (by decide)) hZ (hw _ (List.mem_of_getElem? (i := 98) rfl)) (hw _ (List.mem_of_getElem? (i := 97) rfl)) (by decide) (by decide)) (g := (mkF mM 429 #[.val (.int p1), .val (.int p2), .val (.long q0), .second, .val (.ref b2), .val (.long (5478551163 : Int64)), .second, .val (.int z245), .val (.ref r), .val (.int (0 : Int32)), .val (.ref b253), .val (.ref b253), .unset, .unset] [(.int (0 : Int32)), (.int (2 : Int32)), (.long q0), (.ref b253)])) rfl (by rw [hml]; rfl) (argsL := [(.ref b253), (.long q0), (.int (2 : Int32)), (.int (0 : Int32))]) (rest := []) (lenOf pd_3 rfl) rfl (by show 2 * 0 + _ ≤ _; exact Nat.le_of_eq rfl) (hb hby at_429) (fun _ _ => ⟨rfl, e274, (by decide : 2 + 0 ≤ _), (by decide : 34 + 0 ≤ _)⟩)
    dsimp only [Pt.U, Pt.locs, Pt.cells, Pt.slots] at X278 l278 y278 z278 st278 hQ278
    subst l278 y278 z278
    obtain ⟨rfl, Nq278, e278⟩ := hQ278
    have N278 := Fr.app N277 Nq278
    have pr279 : ∀ tg, Steps pP.tables eE below (T278.setTop (mkF mM 432 #[.val (.int p1), .val (.int p2), .val (.long q0), .second, .val (.ref b2), .val (.long (5478551163 : Int64)), .second, .val (.int z245), .val (.ref r), .val (.int (0 : Int32)), .val (.ref b253), .val (.ref b253), .unset, .unset] [(.int (1 : Int32))])) tg → Steps pP.tables eE below (s₁.setTop (entryFrame mM #[(.int p1), (.int p2), (.long q0)] maxLocals)) tg := fun tg kg => pr276 _ (st278 _ kg)
    clear pr276 st278 X277 e274
    have pr280 : ∀ tg, Steps pP.tables eE below (T278.setTop (mkF mM 441 #[.val (.int p1), .val (.int p2), .val (.long q0), .second, .val (.ref b2), .val (.long (5478551163 : Int64)), .second, .val (.int z245), .val (.ref r), .val (.int (0 : Int32)), .val (.ref b253), .val (.ref b253), .unset, .unset] [(.int (0 : Int32)), (.int (3 : Int32)), (.long q0), (.ref b253)])) tg → Steps pP.tables eE below (s₁.setTop (entryFrame mM #[(.int p1), (.int p2), (.long q0)] maxLocals)) tg := fun tg kg => pr279 _ (by
      show Steps pP.tables eE below (T278.setTop (mkF mM 432 #[.val (.int p1), .val (.int p2), .val (.long q0), .second, .val (.ref b2), .val (.long (5478551163 : Int64)), .second, .val (.int z245), .val (.ref r), .val (.int (0 : Int32)), .val (.ref b253), .val (.ref b253), .unset, .unset] [(.int (1 : Int32))])) _
      refine XS.ifNo X278.here hx rfl (hb hby at_432) rfl ((if0 _ _).trans (feq (by decide)).1) ?_
      refine XS.aload X278.here hx rfl (hb hby at_435) rfl rfl ?_
      refine XS.lloadN X278.here hx rfl (hb hby at_437) rfl ?_
      refine XS.iconst X278.here hx rfl (hb hby at_438) ?_
      refine XS.iload X278.here hx rfl (hb hby at_439) rfl ?_
      exact kg)
    clear pr279
    obtain ⟨Ls281, X281, N281⟩ := own_hide X278 N278
    clear X278 N278
    obtain ⟨_, _, ⟨T282, L282, kk282, nn282⟩, -, X282, ⟨Lc282, hQ282, l282, y282, z282⟩, st282⟩ := Jvm.LawKit.callS X281 hx (y := (⟨"com/example/tesserae/tesserae/value/VrPadPinLaw", "sameAt", "([BJII)Z"⟩ : MethodName)) hown (mvT hZ (hw _ (List.mem_of_getElem? (i := 95) rfl))) (mvT hZ (hw _ (List.mem_of_getElem? (i := 96) rfl))) (mvT hZ (hw _ (List.mem_of_getElem? (i := 97) rfl))) (mvT hZ (hw _ (List.mem_of_getElem? (i := 98) rfl))) (by decide) (backOf (W := 0) (rm4 l Z a0 hw [] b253 q0 (3 : Int32) (0 : Int32) h253 n0 c262 (by decide)) hZ (hw _ (List.mem_of_getElem? (i := 98) rfl)) (hw _ (List.mem_of_getElem? (i := 97) rfl)) (by decide) (by decide)) (g := (mkF mM 441 #[.val (.int p1), .val (.int p2), .val (.long q0), .second, .val (.ref b2), .val (.long (5478551163 : Int64)), .second, .val (.int z245), .val (.ref r), .val (.int (0 : Int32)), .val (.ref b253), .val (.ref b253), .unset, .unset] [(.int (0 : Int32)), (.int (3 : Int32)), (.long q0), (.ref b253)])) rfl (by rw [hml]; rfl) (argsL := [(.ref b253), (.long q0), (.int (3 : Int32)), (.int (0 : Int32))]) (rest := []) (lenOf pd_3 rfl) rfl (by show 2 * 0 + _ ≤ _; exact Nat.le_of_eq rfl) (hb hby at_441) (fun _ _ => ⟨rfl, e278, (by decide : 2 + 0 ≤ _), (by decide : 34 + 0 ≤ _)⟩)
    dsimp only [Pt.U, Pt.locs, Pt.cells, Pt.slots] at X282 l282 y282 z282 st282 hQ282
    subst l282 y282 z282
    obtain ⟨rfl, Nq282, e282⟩ := hQ282
    have N282 := Fr.app N281 Nq282
    have pr283 : ∀ tg, Steps pP.tables eE below (T282.setTop (mkF mM 444 #[.val (.int p1), .val (.int p2), .val (.long q0), .second, .val (.ref b2), .val (.long (5478551163 : Int64)), .second, .val (.int z245), .val (.ref r), .val (.int (0 : Int32)), .val (.ref b253), .val (.ref b253), .unset, .unset] [(.int (1 : Int32))])) tg → Steps pP.tables eE below (s₁.setTop (entryFrame mM #[(.int p1), (.int p2), (.long q0)] maxLocals)) tg := fun tg kg => pr280 _ (st282 _ kg)
    clear pr280 st282 X281 e278
    have pr284 : ∀ tg, Steps pP.tables eE below (T282.setTop (mkF mM 453 #[.val (.int p1), .val (.int p2), .val (.long q0), .second, .val (.ref b2), .val (.long (5478551163 : Int64)), .second, .val (.int z245), .val (.ref r), .val (.int (0 : Int32)), .val (.ref b253), .val (.ref b253), .unset, .unset] [(.int (0 : Int32)), (.int (4 : Int32)), (.long q0), (.ref b253)])) tg → Steps pP.tables eE below (s₁.setTop (entryFrame mM #[(.int p1), (.int p2), (.long q0)] maxLocals)) tg := fun tg kg => pr283 _ (by
      show Steps pP.tables eE below (T282.setTop (mkF mM 444 #[.val (.int p1), .val (.int p2), .val (.long q0), .second, .val (.ref b2), .val (.long (5478551163 : Int64)), .second, .val (.int z245), .val (.ref r), .val (.int (0 : Int32)), .val (.ref b253), .val (.ref b253), .unset, .unset] [(.int (1 : Int32))])) _
      refine XS.ifNo X282.here hx rfl (hb hby at_444) rfl ((if0 _ _).trans (feq (by decide)).1) ?_
      refine XS.aload X282.here hx rfl (hb hby at_447) rfl rfl ?_
      refine XS.lloadN X282.here hx rfl (hb hby at_449) rfl ?_
      refine XS.iconst X282.here hx rfl (hb hby at_450) ?_
      refine XS.iload X282.here hx rfl (hb hby at_451) rfl ?_
      exact kg)
    clear pr283
    obtain ⟨Ls285, X285, N285⟩ := own_hide X282 N282
    clear X282 N282
    obtain ⟨_, _, ⟨T286, L286, kk286, nn286⟩, -, X286, ⟨Lc286, hQ286, l286, y286, z286⟩, st286⟩ := Jvm.LawKit.callS X285 hx (y := (⟨"com/example/tesserae/tesserae/value/VrPadPinLaw", "sameAt", "([BJII)Z"⟩ : MethodName)) hown (mvT hZ (hw _ (List.mem_of_getElem? (i := 95) rfl))) (mvT hZ (hw _ (List.mem_of_getElem? (i := 96) rfl))) (mvT hZ (hw _ (List.mem_of_getElem? (i := 97) rfl))) (mvT hZ (hw _ (List.mem_of_getElem? (i := 98) rfl))) (by decide) (backOf (W := 0) (rm4 l Z a0 hw [] b253 q0 (4 : Int32) (0 : Int32) h253 n0 c262 (by decide)) hZ (hw _ (List.mem_of_getElem? (i := 98) rfl)) (hw _ (List.mem_of_getElem? (i := 97) rfl)) (by decide) (by decide)) (g := (mkF mM 453 #[.val (.int p1), .val (.int p2), .val (.long q0), .second, .val (.ref b2), .val (.long (5478551163 : Int64)), .second, .val (.int z245), .val (.ref r), .val (.int (0 : Int32)), .val (.ref b253), .val (.ref b253), .unset, .unset] [(.int (0 : Int32)), (.int (4 : Int32)), (.long q0), (.ref b253)])) rfl (by rw [hml]; rfl) (argsL := [(.ref b253), (.long q0), (.int (4 : Int32)), (.int (0 : Int32))]) (rest := []) (lenOf pd_3 rfl) rfl (by show 2 * 0 + _ ≤ _; exact Nat.le_of_eq rfl) (hb hby at_453) (fun _ _ => ⟨rfl, e282, (by decide : 2 + 0 ≤ _), (by decide : 34 + 0 ≤ _)⟩)
    dsimp only [Pt.U, Pt.locs, Pt.cells, Pt.slots] at X286 l286 y286 z286 st286 hQ286
    subst l286 y286 z286
    obtain ⟨rfl, Nq286, e286⟩ := hQ286
    have N286 := Fr.app N285 Nq286
    have pr287 : ∀ tg, Steps pP.tables eE below (T286.setTop (mkF mM 456 #[.val (.int p1), .val (.int p2), .val (.long q0), .second, .val (.ref b2), .val (.long (5478551163 : Int64)), .second, .val (.int z245), .val (.ref r), .val (.int (0 : Int32)), .val (.ref b253), .val (.ref b253), .unset, .unset] [(.int (1 : Int32))])) tg → Steps pP.tables eE below (s₁.setTop (entryFrame mM #[(.int p1), (.int p2), (.long q0)] maxLocals)) tg := fun tg kg => pr284 _ (st286 _ kg)
    clear pr284 st286 X285 e282
    have pr288 : ∀ tg, Steps pP.tables eE below (T286.setTop (mkF mM 465 #[.val (.int p1), .val (.int p2), .val (.long q0), .second, .val (.ref b2), .val (.long (5478551163 : Int64)), .second, .val (.int z245), .val (.ref r), .val (.int (0 : Int32)), .val (.ref b253), .val (.ref b253), .unset, .unset] [(.int (0 : Int32)), (.int (5 : Int32)), (.long q0), (.ref b253)])) tg → Steps pP.tables eE below (s₁.setTop (entryFrame mM #[(.int p1), (.int p2), (.long q0)] maxLocals)) tg := fun tg kg => pr287 _ (by
      show Steps pP.tables eE below (T286.setTop (mkF mM 456 #[.val (.int p1), .val (.int p2), .val (.long q0), .second, .val (.ref b2), .val (.long (5478551163 : Int64)), .second, .val (.int z245), .val (.ref r), .val (.int (0 : Int32)), .val (.ref b253), .val (.ref b253), .unset, .unset] [(.int (1 : Int32))])) _
      refine XS.ifNo X286.here hx rfl (hb hby at_456) rfl ((if0 _ _).trans (feq (by decide)).1) ?_
      refine XS.aload X286.here hx rfl (hb hby at_459) rfl rfl ?_
      refine XS.lloadN X286.here hx rfl (hb hby at_461) rfl ?_
      refine XS.iconst X286.here hx rfl (hb hby at_462) ?_
      refine XS.iload X286.here hx rfl (hb hby at_463) rfl ?_
      exact kg)
    clear pr287
    obtain ⟨Ls289, X289, N289⟩ := own_hide X286 N286
    clear X286 N286
    obtain ⟨_, _, ⟨T290, L290, kk290, nn290⟩, -, X290, ⟨Lc290, hQ290, l290, y290, z290⟩, st290⟩ := Jvm.LawKit.callS X289 hx (y := (⟨"com/example/tesserae/tesserae/value/VrPadPinLaw", "sameAt", "([BJII)Z"⟩ : MethodName)) hown (mvT hZ (hw _ (List.mem_of_getElem? (i := 95) rfl))) (mvT hZ (hw _ (List.mem_of_getElem? (i := 96) rfl))) (mvT hZ (hw _ (List.mem_of_getElem? (i := 97) rfl))) (mvT hZ (hw _ (List.mem_of_getElem? (i := 98) rfl))) (by decide) (backOf (W := 0) (rm4 l Z a0 hw [] b253 q0 (5 : Int32) (0 : Int32) h253 n0 c262 (by decide)) hZ (hw _ (List.mem_of_getElem? (i := 98) rfl)) (hw _ (List.mem_of_getElem? (i := 97) rfl)) (by decide) (by decide)) (g := (mkF mM 465 #[.val (.int p1), .val (.int p2), .val (.long q0), .second, .val (.ref b2), .val (.long (5478551163 : Int64)), .second, .val (.int z245), .val (.ref r), .val (.int (0 : Int32)), .val (.ref b253), .val (.ref b253), .unset, .unset] [(.int (0 : Int32)), (.int (5 : Int32)), (.long q0), (.ref b253)])) rfl (by rw [hml]; rfl) (argsL := [(.ref b253), (.long q0), (.int (5 : Int32)), (.int (0 : Int32))]) (rest := []) (lenOf pd_3 rfl) rfl (by show 2 * 0 + _ ≤ _; exact Nat.le_of_eq rfl) (hb hby at_465) (fun _ _ => ⟨rfl, e286, (by decide : 2 + 0 ≤ _), (by decide : 34 + 0 ≤ _)⟩)
    dsimp only [Pt.U, Pt.locs, Pt.cells, Pt.slots] at X290 l290 y290 z290 st290 hQ290
    subst l290 y290 z290
    obtain ⟨rfl, Nq290, e290⟩ := hQ290
    have N290 := Fr.app N289 Nq290
    have pr291 : ∀ tg, Steps pP.tables eE below (T290.setTop (mkF mM 468 #[.val (.int p1), .val (.int p2), .val (.long q0), .second, .val (.ref b2), .val (.long (5478551163 : Int64)), .second, .val (.int z245), .val (.ref r), .val (.int (0 : Int32)), .val (.ref b253), .val (.ref b253), .unset, .unset] [(.int (1 : Int32))])) tg → Steps pP.tables eE below (s₁.setTop (entryFrame mM #[(.int p1), (.int p2), (.long q0)] maxLocals)) tg := fun tg kg => pr288 _ (st290 _ kg)
    clear pr288 st290 X289 e286
    have pr292 : ∀ tg, Steps pP.tables eE below (T290.setTop (mkF mM 478 #[.val (.int p1), .val (.int p2), .val (.long q0), .second, .val (.ref b2), .val (.long (5478551163 : Int64)), .second, .val (.int z245), .val (.ref r), .val (.int (0 : Int32)), .val (.ref b253), .val (.ref b253), .unset, .unset] [(.int (0 : Int32)), (.int (6 : Int32)), (.long q0), (.ref b253)])) tg → Steps pP.tables eE below (s₁.setTop (entryFrame mM #[(.int p1), (.int p2), (.long q0)] maxLocals)) tg := fun tg kg => pr291 _ (by
      show Steps pP.tables eE below (T290.setTop (mkF mM 468 #[.val (.int p1), .val (.int p2), .val (.long q0), .second, .val (.ref b2), .val (.long (5478551163 : Int64)), .second, .val (.int z245), .val (.ref r), .val (.int (0 : Int32)), .val (.ref b253), .val (.ref b253), .unset, .unset] [(.int (1 : Int32))])) _
      refine XS.ifNo X290.here hx rfl (hb hby at_468) rfl ((if0 _ _).trans (feq (by decide)).1) ?_
      refine XS.aload X290.here hx rfl (hb hby at_471) rfl rfl ?_
      refine XS.lloadN X290.here hx rfl (hb hby at_473) rfl ?_
      refine XS.bipush X290.here hx rfl (hb hby at_474) ?_
      refine XS.iload X290.here hx rfl (hb hby at_476) rfl ?_
      exact kg)
    clear pr291
    obtain ⟨Ls293, X293, N293⟩ := own_hide X290 N290
    clear X290 N290
    obtain ⟨_, _, ⟨T294, L294, kk294, nn294⟩, -, X294, ⟨Lc294, hQ294, l294, y294, z294⟩, st294⟩ := Jvm.LawKit.callS X293 hx (y := (⟨"com/example/tesserae/tesserae/value/VrPadPinLaw", "sameAt", "([BJII)Z"⟩ : MethodName)) hown (mvT hZ (hw _ (List.mem_of_getElem? (i := 95) rfl))) (mvT hZ (hw _ (List.mem_of_getElem? (i := 96) rfl))) (mvT hZ (hw _ (List.mem_of_getElem? (i := 97) rfl))) (mvT hZ (hw _ (List.mem_of_getElem? (i := 98) rfl))) (by decide) (backOf (W := 0) (rm4 l Z a0 hw [] b253 q0 (6 : Int32) (0 : Int32) h253 n0 c262 (by decide)) hZ (hw _ (List.mem_of_getElem? (i := 98) rfl)) (hw _ (List.mem_of_getElem? (i := 97) rfl)) (by decide) (by decide)) (g := (mkF mM 478 #[.val (.int p1), .val (.int p2), .val (.long q0), .second, .val (.ref b2), .val (.long (5478551163 : Int64)), .second, .val (.int z245), .val (.ref r), .val (.int (0 : Int32)), .val (.ref b253), .val (.ref b253), .unset, .unset] [(.int (0 : Int32)), (.int (6 : Int32)), (.long q0), (.ref b253)])) rfl (by rw [hml]; rfl) (argsL := [(.ref b253), (.long q0), (.int (6 : Int32)), (.int (0 : Int32))]) (rest := []) (lenOf pd_3 rfl) rfl (by show 2 * 0 + _ ≤ _; exact Nat.le_of_eq rfl) (hb hby at_478) (fun _ _ => ⟨rfl, e290, (by decide : 2 + 0 ≤ _), (by decide : 34 + 0 ≤ _)⟩)
    dsimp only [Pt.U, Pt.locs, Pt.cells, Pt.slots] at X294 l294 y294 z294 st294 hQ294
    subst l294 y294 z294
    obtain ⟨rfl, Nq294, e294⟩ := hQ294
    have N294 := Fr.app N293 Nq294
    have pr295 : ∀ tg, Steps pP.tables eE below (T294.setTop (mkF mM 481 #[.val (.int p1), .val (.int p2), .val (.long q0), .second, .val (.ref b2), .val (.long (5478551163 : Int64)), .second, .val (.int z245), .val (.ref r), .val (.int (0 : Int32)), .val (.ref b253), .val (.ref b253), .unset, .unset] [(.int (1 : Int32))])) tg → Steps pP.tables eE below (s₁.setTop (entryFrame mM #[(.int p1), (.int p2), (.long q0)] maxLocals)) tg := fun tg kg => pr292 _ (st294 _ kg)
    clear pr292 st294 X293 e290
    have pr296 : ∀ tg, Steps pP.tables eE below (T294.setTop (mkF mM 515 #[.val (.int p1), .val (.int p2), .val (.long q0), .second, .val (.ref b2), .val (.long (5478551163 : Int64)), .second, .val (.int z245), .val (.ref r), .val (.int (0 : Int32)), .val (.ref b253), .val (.ref b253), .val (.int (1 : Int32)), .unset] [(.int (1 : Int32))])) tg → Steps pP.tables eE below (s₁.setTop (entryFrame mM #[(.int p1), (.int p2), (.long q0)] maxLocals)) tg := fun tg kg => pr295 _ (by
      show Steps pP.tables eE below (T294.setTop (mkF mM 481 #[.val (.int p1), .val (.int p2), .val (.long q0), .second, .val (.ref b2), .val (.long (5478551163 : Int64)), .second, .val (.int z245), .val (.ref r), .val (.int (0 : Int32)), .val (.ref b253), .val (.ref b253), .unset, .unset] [(.int (1 : Int32))])) _
      refine XS.ifNo X294.here hx rfl (hb hby at_481) rfl ((if0 _ _).trans (feq (by decide)).1) ?_
      refine XS.iconst X294.here hx rfl (hb hby at_484) ?_
      refine XS.goto X294.here hx rfl (pc0 := 485) (pc' := 489) rfl (hb hby at_485) (by decide) (by decide) ?_
      refine XS.istore X294.here hx rfl (hb hby at_489) rfl (l' := #[.val (.int p1), .val (.int p2), .val (.long q0), .second, .val (.ref b2), .val (.long (5478551163 : Int64)), .second, .val (.int z245), .val (.ref r), .val (.int (0 : Int32)), .val (.ref b253), .val (.ref b253), .val (.int (1 : Int32)), .unset]) rfl ?_
      refine XS.iload X294.here hx rfl (hb hby at_491) rfl ?_
      refine XS.iconst X294.here hx rfl (hb hby at_493) ?_
      show Steps pP.tables eE below (T294.setTop (mkF mM 494 #[.val (.int p1), .val (.int p2), .val (.long q0), .second, .val (.ref b2), .val (.long (5478551163 : Int64)), .second, .val (.int z245), .val (.ref r), .val (.int (0 : Int32)), .val (.ref b253), .val (.ref b253), .val (.int (1 : Int32)), .unset] [(.int (1 : Int32)), (.int (0 : Int32))])) _
      refine XS.iand X294.here hx rfl (hb hby at_494) rfl ?_
      refine XS.ifNo X294.here hx rfl (hb hby at_495) rfl ((if0 _ _).trans (teq (by decide)).2) ?_
      refine XS.iload X294.here hx rfl (hb hby at_498) rfl ?_
      refine XS.ifNo X294.here hx rfl (hb hby at_500) rfl ((if0 _ _).trans (feq (by decide)).1) ?_
      refine XS.aload X294.here hx rfl (hb hby at_503) rfl rfl ?_
      refine XS.aload X294.here hx rfl (hb hby at_505) rfl rfl ?_
      show Steps pP.tables eE below (T294.setTop (mkF mM 507 #[.val (.int p1), .val (.int p2), .val (.long q0), .second, .val (.ref b2), .val (.long (5478551163 : Int64)), .second, .val (.int z245), .val (.ref r), .val (.int (0 : Int32)), .val (.ref b253), .val (.ref b253), .val (.int (1 : Int32)), .unset] [(.ref b253), (.ref b253)])) _
      refine Jvm.RoadKit.acmp (g := (mkF mM 507 #[.val (.int p1), .val (.int p2), .val (.long q0), .second, .val (.ref b2), .val (.long (5478551163 : Int64)), .second, .val (.int z245), .val (.ref r), .val (.int (0 : Int32)), .val (.ref b253), .val (.ref b253), .val (.int (1 : Int32)), .unset] [(.ref b253), (.ref b253)])) X294 hx rfl rfl rfl (pc0 := 507) (pc' := 510) (same := true) rfl (hb hby at_507) rfl (decide_eq_true rfl) (by decide) (by decide) ?_
      show Steps pP.tables eE below (T294.setTop (mkF mM 510 #[.val (.int p1), .val (.int p2), .val (.long q0), .second, .val (.ref b2), .val (.long (5478551163 : Int64)), .second, .val (.int z245), .val (.ref r), .val (.int (0 : Int32)), .val (.ref b253), .val (.ref b253), .val (.int (1 : Int32)), .unset] [])) _
      refine XS.iconst X294.here hx rfl (hb hby at_510) ?_
      refine XS.goto X294.here hx rfl (pc0 := 511) (pc' := 515) rfl (hb hby at_511) (by decide) (by decide) ?_
      exact kg)
    clear pr295
    obtain ⟨fs, hr, hrun, hended, hW, hsame⟩ := X294.leave (v := some (.int (1 : Int32))) (fun h => by rw [Bd.returns] at h; cases h)
    refine ⟨_, _, pr296 _ (retOut X294 hx (t := .boolean) Bd.returns rfl (Or.inl ⟨rfl, Or.inr (Or.inl rfl), _, rfl⟩) (hb hby at_515) hr), hrun, hended, _, _, rfl, ?_, ⟨_, rfl⟩, hW, hsame.mono (by decide) (by decide)⟩
    show Q0 Z p1 p2 q0 a_AE a_AS a_AT a_CS a_DA a_DS a_DT a_FD a_FL a_IS a_LO a_LT a_OB a_OD a_OF a_OL a_OV a_OW a_PN a_SH a_SL a_SQ a_SS a_ST a_SV a_TM a_UC a_UI a_UL a_UN a_UR a_US a_UT a_UV h0 n0 _ T294.heap _
    rw [e294]
    exact ⟨rfl, N294⟩
  ·
    have pr297 : ∀ tg, Steps pP.tables eE below (T242.setTop (mkF mM 268 #[.val (.int p1), .val (.int p2), .val (.long q0), .second, .val (.ref b2), .val (.long (5478551163 : Int64)), .second, .val (.int z245), .val (.ref r), .val (.int (1 : Int32)), .unset, .unset, .unset, .unset] [(.int (1 : Int32))])) tg → Steps pP.tables eE below (s₁.setTop (entryFrame mM #[(.int p1), (.int p2), (.long q0)] maxLocals)) tg := fun tg kg => pr251 _ (by
      show Steps pP.tables eE below (T242.setTop (mkF mM 266 #[.val (.int p1), .val (.int p2), .val (.long q0), .second, .val (.ref b2), .val (.long (5478551163 : Int64)), .second, .val (.int z245), .val (.ref r), .val (.int (1 : Int32)), .unset, .unset, .unset, .unset] [])) _
      refine XS.iload X242.here hx rfl (hb hby at_266) rfl ?_
      exact kg)
    clear pr251
    obtain ⟨T298, h298, k298, X298, e298, E298, A298, Ex298, st298⟩ := newPE X242 hx hZ (hw _ (List.mem_of_getElem? (i := 74) rfl)) e242 (g := (mkF mM 268 #[.val (.int p1), .val (.int p2), .val (.long q0), .second, .val (.ref b2), .val (.long (5478551163 : Int64)), .second, .val (.int z245), .val (.ref r), .val (.int (1 : Int32)), .unset, .unset, .unset, .unset] [(.int (1 : Int32))])) rfl (hb hby at_268) rfl (by decide) (cap := 1) (by decide) (by decide) (by decide) (by decide) (ad := "[B") rfl
    obtain ⟨b298, g298⟩ : ∃ z, z = (h242).size := ⟨_, rfl⟩
    rw [← g298] at A298 Ex298 st298
    have ne299 : b2 ≠ b298 := Nat.ne_of_lt (Nat.lt_of_lt_of_le (V242).lt (Nat.le_of_eq g298.symm))
    have c301 := (Nat.le_trans (Nat.le_trans (Nat.le_trans (Nat.le_trans (Nat.le_trans (Nat.le_trans (Nat.le_trans (Nat.le_trans (Nat.le_trans (Nat.le_trans (Nat.le_trans (Nat.le_trans (Nat.le_trans (Nat.le_trans (Nat.le_trans (Nat.le_trans (Nat.le_trans (Nat.le_trans (Nat.le_trans (Nat.le_trans (Nat.le_trans (Nat.le_trans (Nat.le_trans (Nat.le_trans (Nat.le_trans (Nat.le_trans (Nat.le_trans (Nat.le_trans (Nat.le_trans (Nat.le_trans (Nat.le_trans (Nat.le_trans (Nat.le_trans (Nat.le_trans (Nat.le_trans Z0 E2.1) (Keep.of_wr W11).1) (Keep.of_wr W18).1) (Keep.of_wr W25).1) (Keep.of_wr W32).1) (Keep.of_wr W39).1) (Keep.of_wr W46).1) (Keep.of_wr W53).1) (Keep.of_wr W60).1) (Keep.of_wr W67).1) (Keep.of_wr W74).1) (Keep.of_wr W81).1) (Keep.of_wr W88).1) (Keep.of_wr W95).1) (Keep.of_wr W102).1) (Keep.of_wr W109).1) (Keep.of_wr W116).1) (Keep.of_wr W123).1) (Keep.of_wr W130).1) (Keep.of_wr W137).1) (Keep.of_wr W144).1) (Keep.of_wr W151).1) (Keep.of_wr W158).1) (Keep.of_wr W165).1) (Keep.of_wr W172).1) (Keep.of_wr W179).1) (Keep.of_wr W186).1) (Keep.of_wr W193).1) (Keep.of_wr W200).1) (Keep.of_wr W207).1) (Keep.of_wr W214).1) (Keep.of_wr W221).1) (Keep.of_wr W228).1) (Keep.of_wr W235).1) (Keep.of_wr W242).1)
    have gn300 : n0 ≤ b298 := Nat.le_trans c301 (Nat.le_of_eq g298.symm)
    have c303 := (Keep.wr (Keep.wr (Keep.wr (Keep.wr (Keep.wr (Keep.wr (Keep.wr (Keep.wr (Keep.wr (Keep.wr (Keep.wr (Keep.wr (Keep.wr (Keep.wr (Keep.wr (Keep.wr (Keep.wr (Keep.wr (Keep.wr (Keep.wr (Keep.wr (Keep.wr (Keep.wr (Keep.wr (Keep.wr (Keep.wr (Keep.wr (Keep.wr (Keep.wr (Keep.wr (Keep.wr (Keep.wr (Keep.wr (Keep.wr (Keep.ext (Keep.refl h0 []) E2) W11 (Or.inr gs4)) W18 (Or.inr gs4)) W25 (Or.inr gs4)) W32 (Or.inr gs4)) W39 (Or.inr gs4)) W46 (Or.inr gs4)) W53 (Or.inr gs4)) W60 (Or.inr gs4)) W67 (Or.inr gs4)) W74 (Or.inr gs4)) W81 (Or.inr gs4)) W88 (Or.inr gs4)) W95 (Or.inr gs4)) W102 (Or.inr gs4)) W109 (Or.inr gs4)) W116 (Or.inr gs4)) W123 (Or.inr gs4)) W130 (Or.inr gs4)) W137 (Or.inr gs4)) W144 (Or.inr gs4)) W151 (Or.inr gs4)) W158 (Or.inr gs4)) W165 (Or.inr gs4)) W172 (Or.inr gs4)) W179 (Or.inr gs4)) W186 (Or.inr gs4)) W193 (Or.inr gs4)) W200 (Or.inr gs4)) W207 (Or.inr gs4)) W214 (Or.inr gs4)) W221 (Or.inr gs4)) W228 (Or.inr gs4)) W235 (Or.inr gs4)) W242 (Or.inr gs4))
    have gs302 : h0.size ≤ b298 := Nat.le_trans c303.1 (Nat.le_of_eq g298.symm)
    have c304 := (Old.wr c239 W242 gn3)
    have V298 : Arv Z h298 b298 k298 .byte (1 : Int32) [(.int (0 : Int32))] (.int (0 : Int32)) := (Arv.new A298 (by decide)).pad (pad_rep [] (.int (0 : Int32)) 1)
    have pr305 : ∀ tg, Steps pP.tables eE below (T298.setTop (mkF mM 270 #[.val (.int p1), .val (.int p2), .val (.long q0), .second, .val (.ref b2), .val (.long (5478551163 : Int64)), .second, .val (.int z245), .val (.ref r), .val (.int (1 : Int32)), .unset, .unset, .unset, .unset] [(.ref b298)])) tg → Steps pP.tables eE below (s₁.setTop (entryFrame mM #[(.int p1), (.int p2), (.long q0)] maxLocals)) tg := fun tg kg => pr297 _ (st298 _ kg)
    clear pr297 st298 X242 e242
    have pr306 : ∀ tg, Steps pP.tables eE below (T298.setTop (mkF mM 283 #[.val (.int p1), .val (.int p2), .val (.long q0), .second, .val (.ref b2), .val (.long (5478551163 : Int64)), .second, .val (.int z245), .val (.ref r), .val (.int (1 : Int32)), .val (.ref b298), .unset, .unset, .unset] [(.int q0.toInt32.toInt8.toInt32), (.int (0 : Int32)), (.ref b298)])) tg → Steps pP.tables eE below (s₁.setTop (entryFrame mM #[(.int p1), (.int p2), (.long q0)] maxLocals)) tg := fun tg kg => pr305 _ (by
      show Steps pP.tables eE below (T298.setTop (mkF mM 270 #[.val (.int p1), .val (.int p2), .val (.long q0), .second, .val (.ref b2), .val (.long (5478551163 : Int64)), .second, .val (.int z245), .val (.ref r), .val (.int (1 : Int32)), .unset, .unset, .unset, .unset] [(.ref b298)])) _
      refine XS.astore X298.here hx rfl (hb hby at_270) rfl rfl (l' := #[.val (.int p1), .val (.int p2), .val (.long q0), .second, .val (.ref b2), .val (.long (5478551163 : Int64)), .second, .val (.int z245), .val (.ref r), .val (.int (1 : Int32)), .val (.ref b298), .unset, .unset, .unset]) rfl ?_
      refine XS.iload X298.here hx rfl (hb hby at_272) rfl ?_
      refine XS.ifNo X298.here hx rfl (hb hby at_274) rfl ((if0 _ _).trans (tlt (by decide)).2.2.2) ?_
      refine XS.aload X298.here hx rfl (hb hby at_277) rfl rfl ?_
      refine XS.iconst X298.here hx rfl (hb hby at_279) ?_
      refine XS.lloadN X298.here hx rfl (hb hby at_280) rfl ?_
      show Steps pP.tables eE below (T298.setTop (mkF mM 281 #[.val (.int p1), .val (.int p2), .val (.long q0), .second, .val (.ref b2), .val (.long (5478551163 : Int64)), .second, .val (.int z245), .val (.ref r), .val (.int (1 : Int32)), .val (.ref b298), .unset, .unset, .unset] [(.long q0), (.int (0 : Int32)), (.ref b298)])) _
      refine XS.l2i X298.here hx rfl (hb hby at_281) rfl ?_
      refine XS.i2b X298.here hx rfl (hb hby at_282) rfl ?_
      exact kg)
    clear pr305
    obtain ⟨cla307, Ara307, qa307, Sa307, Ma307, Ha307, Ga307⟩ := id V298
    have hin308 : ¬ ((0 : Int32) < 0 ∨ cla307.slots.size ≤ ((0 : Int32)).toNatClampNeg) := inb_of Sa307 ⟨by decide, by decide⟩
    obtain ⟨T308, h308, X308, e308, W308, st308⟩ := stB X298 hx hZ e298 Ara307 (j := (0 : Int32)) hin308 (g := (mkF mM 283 #[.val (.int p1), .val (.int p2), .val (.long q0), .second, .val (.ref b2), .val (.long (5478551163 : Int64)), .second, .val (.int z245), .val (.ref r), .val (.int (1 : Int32)), .val (.ref b298), .unset, .unset, .unset] [(.int q0.toInt32.toInt8.toInt32), (.int (0 : Int32)), (.ref b298)])) rfl rfl (hb hby at_283)
    have V308 : Arv Z h308 b298 k298 .byte (1 : Int32) [(.int (nar .byte q0.toInt32.toInt8.toInt32))] (.int (0 : Int32)) := Arv.set Ara307 qa307 Sa307 Ma307 Ha307 Ga307 (fits_nar_byte _) W308 0 rfl (Nat.le_of_ble_eq_true rfl)
    have N308 := Fr.snoc X308 N242 gn300
    have pr309 : ∀ tg, Steps pP.tables eE below (T308.setTop (mkF mM 284 #[.val (.int p1), .val (.int p2), .val (.long q0), .second, .val (.ref b2), .val (.long (5478551163 : Int64)), .second, .val (.int z245), .val (.ref r), .val (.int (1 : Int32)), .val (.ref b298), .unset, .unset, .unset] [])) tg → Steps pP.tables eE below (s₁.setTop (entryFrame mM #[(.int p1), (.int p2), (.long q0)] maxLocals)) tg := fun tg kg => pr306 _ (st308 _ kg)
    clear pr306 st308 X298 e298
    have c310 := (Old.wr (Old.ext c304 E298) W308 gn300)
    have pr311 : ∀ tg, Steps pP.tables eE below (T308.setTop (mkF mM 386 #[.val (.int p1), .val (.int p2), .val (.long q0), .second, .val (.ref b2), .val (.long (5478551163 : Int64)), .second, .val (.int z245), .val (.ref r), .val (.int (1 : Int32)), .val (.ref b298), .unset, .unset, .unset] [(.ref b298), (.ref r)])) tg → Steps pP.tables eE below (s₁.setTop (entryFrame mM #[(.int p1), (.int p2), (.long q0)] maxLocals)) tg := fun tg kg => pr309 _ (by
      show Steps pP.tables eE below (T308.setTop (mkF mM 284 #[.val (.int p1), .val (.int p2), .val (.long q0), .second, .val (.ref b2), .val (.long (5478551163 : Int64)), .second, .val (.int z245), .val (.ref r), .val (.int (1 : Int32)), .val (.ref b298), .unset, .unset, .unset] [])) _
      refine XS.iload X308.here hx rfl (hb hby at_284) rfl ?_
      refine XS.iconst X308.here hx rfl (hb hby at_286) ?_
      refine XS.icmpYes X308.here hx rfl (pc0 := 287) (pc' := 300) rfl (hb hby at_287) rfl (flt (by decide)).2.2.2 (by decide) (by decide) ?_
      refine XS.iload X308.here hx rfl (hb hby at_300) rfl ?_
      refine XS.iconst X308.here hx rfl (hb hby at_302) ?_
      refine XS.icmpYes X308.here hx rfl (pc0 := 303) (pc' := 316) rfl (hb hby at_303) rfl (flt (by decide)).2.2.2 (by decide) (by decide) ?_
      show Steps pP.tables eE below (T308.setTop (mkF mM 316 #[.val (.int p1), .val (.int p2), .val (.long q0), .second, .val (.ref b2), .val (.long (5478551163 : Int64)), .second, .val (.int z245), .val (.ref r), .val (.int (1 : Int32)), .val (.ref b298), .unset, .unset, .unset] [])) _
      refine XS.iload X308.here hx rfl (hb hby at_316) rfl ?_
      refine XS.iconst X308.here hx rfl (hb hby at_318) ?_
      refine XS.icmpYes X308.here hx rfl (pc0 := 319) (pc' := 332) rfl (hb hby at_319) rfl (flt (by decide)).2.2.2 (by decide) (by decide) ?_
      refine XS.iload X308.here hx rfl (hb hby at_332) rfl ?_
      refine XS.iconst X308.here hx rfl (hb hby at_334) ?_
      refine XS.icmpYes X308.here hx rfl (pc0 := 335) (pc' := 348) rfl (hb hby at_335) rfl (flt (by decide)).2.2.2 (by decide) (by decide) ?_
      show Steps pP.tables eE below (T308.setTop (mkF mM 348 #[.val (.int p1), .val (.int p2), .val (.long q0), .second, .val (.ref b2), .val (.long (5478551163 : Int64)), .second, .val (.int z245), .val (.ref r), .val (.int (1 : Int32)), .val (.ref b298), .unset, .unset, .unset] [])) _
      refine XS.iload X308.here hx rfl (hb hby at_348) rfl ?_
      refine XS.iconst X308.here hx rfl (hb hby at_350) ?_
      refine XS.icmpYes X308.here hx rfl (pc0 := 351) (pc' := 364) rfl (hb hby at_351) rfl (flt (by decide)).2.2.2 (by decide) (by decide) ?_
      refine XS.iload X308.here hx rfl (hb hby at_364) rfl ?_
      refine XS.bipush X308.here hx rfl (hb hby at_366) ?_
      refine XS.icmpYes X308.here hx rfl (pc0 := 368) (pc' := 382) rfl (hb hby at_368) rfl (flt (by decide)).2.2.2 (by decide) (by decide) ?_
      show Steps pP.tables eE below (T308.setTop (mkF mM 382 #[.val (.int p1), .val (.int p2), .val (.long q0), .second, .val (.ref b2), .val (.long (5478551163 : Int64)), .second, .val (.int z245), .val (.ref r), .val (.int (1 : Int32)), .val (.ref b298), .unset, .unset, .unset] [])) _
      refine XS.aload X308.here hx rfl (hb hby at_382) rfl rfl ?_
      refine XS.aload X308.here hx rfl (hb hby at_384) rfl rfl ?_
      exact kg)
    clear pr309
    have c312 := (Nat.le_trans (Nat.le_trans c301 E298.1) (Keep.of_wr W308).1)
    obtain ⟨Ls313, X313, N313⟩ := own_hide X308 N308
    clear X308 N308
    obtain ⟨cq314, kq314, qa314, qb314, qc314⟩ := isOf hZ e308 (Exa.ext (c310).2 hx2)
    obtain ⟨_, _, ⟨T314, L314, kk314, nn314⟩, -, X314, ⟨Lc314, hQ314, l314, y314, z314⟩, st314⟩ := X313.virtualBack hx (y := (⟨"com/example/tesserae/tesserae/value/Vr", "pad", "([B)[B"⟩ : MethodName)) (z := (⟨"com/example/tesserae/tesserae/value/Vr", "pad", "([B)[B"⟩ : MethodName)) hown (mvT hZ (hw _ (List.mem_of_getElem? (i := 75) rfl))) (mvT hZ (hw _ (List.mem_of_getElem? (i := 76) rfl))) (notFace_of_selects (args := #[]) (mvT hZ (hw _ (List.mem_of_getElem? (i := 78) rfl)))) (mvT hZ (hw _ (List.mem_of_getElem? (i := 78) rfl))) (mvT hZ (hw _ (List.mem_of_getElem? (i := 77) rfl))) (by decide) (backOf (W := 0) (rm31 l Z a0 hw [] r tx pv a_UI b298 k298 (nar .byte q0.toInt32.toInt8.toInt32) h308 n0 c312 c310 S_UI hx2 hx3 hx4 V308) hZ (hw _ (List.mem_of_getElem? (i := 79) rfl)) (hw _ (List.mem_of_getElem? (i := 3) rfl)) (by decide) (by decide)) qa314 qc314 (g := (mkF mM 386 #[.val (.int p1), .val (.int p2), .val (.long q0), .second, .val (.ref b2), .val (.long (5478551163 : Int64)), .second, .val (.int z245), .val (.ref r), .val (.int (1 : Int32)), .val (.ref b298), .unset, .unset, .unset] [(.ref b298), (.ref r)])) rfl (by rw [hml]; rfl) (Steps.refl _) (argsL := [(.ref b298)]) (rest := []) (lenOf pd_2 rfl) rfl (by show 2 * 0 + _ ≤ _; exact Nat.le_of_eq rfl) (hb hby at_386) (fun _ _ => ⟨rfl, e308, (by decide : 2 + 1 ≤ _), (by decide : 35 + 2 ≤ _)⟩)
    dsimp only [Pt.U, Pt.locs, Pt.cells, Pt.slots] at X314 l314 y314 z314 st314 hQ314
    subst l314 y314 z314
    obtain ⟨bp314, rfl, ge314, Nq314, K314, kp314, V314⟩ := hQ314
    have N314 := Fr.app N313 Nq314
    have c316 := (Arv.other (Arv.ext V242 E298) W308 ne299)
    have ne315 : b2 ≠ bp314 := Nat.ne_of_lt (Nat.lt_of_lt_of_le (c316).lt ge314)
    have ne317 : b298 ≠ bp314 := Nat.ne_of_lt (Nat.lt_of_lt_of_le (V308).lt ge314)
    have gn318 : n0 ≤ bp314 := Nat.le_trans c312 ge314
    have c320 := (Keep.wr (Keep.ext c303 E298) W308 (Or.inr gs302))
    have gs319 : h0.size ≤ bp314 := Nat.le_trans c320.1 ge314
    have pr321 : ∀ tg, Steps pP.tables eE below (T314.setTop (mkF mM 389 #[.val (.int p1), .val (.int p2), .val (.long q0), .second, .val (.ref b2), .val (.long (5478551163 : Int64)), .second, .val (.int z245), .val (.ref r), .val (.int (1 : Int32)), .val (.ref b298), .unset, .unset, .unset] [(.ref bp314)])) tg → Steps pP.tables eE below (s₁.setTop (entryFrame mM #[(.int p1), (.int p2), (.long q0)] maxLocals)) tg := fun tg kg => pr311 _ (st314.trans kg)
    clear pr311 st314 X313 e308
    have c322 := (Arv.keep V308 K314 nin0)
    obtain ⟨cla323, Ara323, qa323, Sa323, Ma323, Ha323, Ga323⟩ := id c322
    have hin324 : ¬ ((0 : Int32) < 0 ∨ cla323.slots.size ≤ ((0 : Int32)).toNatClampNeg) := inb_of Sa323 ⟨by decide, by decide⟩
    have hat324 : cla323.slots[((0 : Int32)).toNatClampNeg]? = some (.int (nar .byte q0.toInt32.toInt8.toInt32)) := Has.at Ha323 hin324 rfl
    have pr325 : ∀ tg, Steps pP.tables eE below (T314.setTop (mkF mM 405 #[.val (.int p1), .val (.int p2), .val (.long q0), .second, .val (.ref b2), .val (.long (5478551163 : Int64)), .second, .val (.int z245), .val (.ref r), .val (.int (1 : Int32)), .val (.ref b298), .val (.ref bp314), .unset, .unset] [(.int (1 : Int32)), (.int (0 : Int32)), (.long q0), (.ref b298)])) tg → Steps pP.tables eE below (s₁.setTop (entryFrame mM #[(.int p1), (.int p2), (.long q0)] maxLocals)) tg := fun tg kg => pr321 _ (by
      show Steps pP.tables eE below (T314.setTop (mkF mM 389 #[.val (.int p1), .val (.int p2), .val (.long q0), .second, .val (.ref b2), .val (.long (5478551163 : Int64)), .second, .val (.int z245), .val (.ref r), .val (.int (1 : Int32)), .val (.ref b298), .unset, .unset, .unset] [(.ref bp314)])) _
      refine XS.astore X314.here hx rfl (hb hby at_389) rfl rfl (l' := #[.val (.int p1), .val (.int p2), .val (.long q0), .second, .val (.ref b2), .val (.long (5478551163 : Int64)), .second, .val (.int z245), .val (.ref r), .val (.int (1 : Int32)), .val (.ref b298), .val (.ref bp314), .unset, .unset]) rfl ?_
      refine XS.aload X314.here hx rfl (hb hby at_391) rfl rfl ?_
      show Steps pP.tables eE below (T314.setTop (mkF mM 393 #[.val (.int p1), .val (.int p2), .val (.long q0), .second, .val (.ref b2), .val (.long (5478551163 : Int64)), .second, .val (.int z245), .val (.ref r), .val (.int (1 : Int32)), .val (.ref b298), .val (.ref bp314), .unset, .unset] [(.ref b298)])) _
      refine X314.arraylength hx Ara323.1 (State.isArrayOf_alike hZ.alike Ara323.2.1) (g := (mkF mM 393 #[.val (.int p1), .val (.int p2), .val (.long q0), .second, .val (.ref b2), .val (.long (5478551163 : Int64)), .second, .val (.int z245), .val (.ref r), .val (.int (1 : Int32)), .val (.ref b298), .val (.ref bp314), .unset, .unset] [(.ref b298)])) rfl rfl (hb hby at_393) _ ?_
      rw [len_of Sa323 Ma323]
      show Steps pP.tables eE below (T314.setTop (mkF mM 394 #[.val (.int p1), .val (.int p2), .val (.long q0), .second, .val (.ref b2), .val (.long (5478551163 : Int64)), .second, .val (.int z245), .val (.ref r), .val (.int (1 : Int32)), .val (.ref b298), .val (.ref bp314), .unset, .unset] [(.int (1 : Int32))])) _
      refine XS.iload X314.here hx rfl (hb hby at_394) rfl ?_
      refine XS.icmpNo X314.here hx rfl (hb hby at_396) rfl (teq (by decide)).2 ?_
      refine XS.aload X314.here hx rfl (hb hby at_399) rfl rfl ?_
      refine XS.lloadN X314.here hx rfl (hb hby at_401) rfl ?_
      refine XS.iconst X314.here hx rfl (hb hby at_402) ?_
      refine XS.iload X314.here hx rfl (hb hby at_403) rfl ?_
      exact kg)
    clear pr321
    have c326 := (Nat.le_trans c312 K314.1)
    obtain ⟨Ls327, X327, N327⟩ := own_hide X314 N314
    clear X314 N314
    obtain ⟨_, _, ⟨T328, L328, kk328, nn328⟩, -, X328, ⟨Lc328, hQ328, l328, y328, z328⟩, st328⟩ := Jvm.LawKit.callS X327 hx (y := (⟨"com/example/tesserae/tesserae/value/VrPadPinLaw", "sameAt", "([BJII)Z"⟩ : MethodName)) hown (mvT hZ (hw _ (List.mem_of_getElem? (i := 95) rfl))) (mvT hZ (hw _ (List.mem_of_getElem? (i := 96) rfl))) (mvT hZ (hw _ (List.mem_of_getElem? (i := 97) rfl))) (mvT hZ (hw _ (List.mem_of_getElem? (i := 98) rfl))) (by decide) (backOf (W := 0) (rm5 l Z a0 hw [] b298 q0 (0 : Int32) (1 : Int32) cla323 (nar .byte q0.toInt32.toInt8.toInt32) T314.heap n0 c326 (by decide) Ara323 hin324 hat324 (own_w0 q0)) hZ (hw _ (List.mem_of_getElem? (i := 98) rfl)) (hw _ (List.mem_of_getElem? (i := 97) rfl)) (by decide) (by decide)) (g := (mkF mM 405 #[.val (.int p1), .val (.int p2), .val (.long q0), .second, .val (.ref b2), .val (.long (5478551163 : Int64)), .second, .val (.int z245), .val (.ref r), .val (.int (1 : Int32)), .val (.ref b298), .val (.ref bp314), .unset, .unset] [(.int (1 : Int32)), (.int (0 : Int32)), (.long q0), (.ref b298)])) rfl (by rw [hml]; rfl) (argsL := [(.ref b298), (.long q0), (.int (0 : Int32)), (.int (1 : Int32))]) (rest := []) (lenOf pd_3 rfl) rfl (by show 2 * 0 + _ ≤ _; exact Nat.le_of_eq rfl) (hb hby at_405) (fun _ _ => ⟨rfl, rfl, (by decide : 3 + 0 ≤ _), (by decide : 37 + 0 ≤ _)⟩)
    dsimp only [Pt.U, Pt.locs, Pt.cells, Pt.slots] at X328 l328 y328 z328 st328 hQ328
    subst l328 y328 z328
    obtain ⟨rfl, Nq328, e328⟩ := hQ328
    have N328 := Fr.app N327 Nq328
    have pr329 : ∀ tg, Steps pP.tables eE below (T328.setTop (mkF mM 408 #[.val (.int p1), .val (.int p2), .val (.long q0), .second, .val (.ref b2), .val (.long (5478551163 : Int64)), .second, .val (.int z245), .val (.ref r), .val (.int (1 : Int32)), .val (.ref b298), .val (.ref bp314), .unset, .unset] [(.int (1 : Int32))])) tg → Steps pP.tables eE below (s₁.setTop (entryFrame mM #[(.int p1), (.int p2), (.long q0)] maxLocals)) tg := fun tg kg => pr325 _ (st328 _ kg)
    clear pr325 st328 X327
    have pr330 : ∀ tg, Steps pP.tables eE below (T328.setTop (mkF mM 417 #[.val (.int p1), .val (.int p2), .val (.long q0), .second, .val (.ref b2), .val (.long (5478551163 : Int64)), .second, .val (.int z245), .val (.ref r), .val (.int (1 : Int32)), .val (.ref b298), .val (.ref bp314), .unset, .unset] [(.int (1 : Int32)), (.int (1 : Int32)), (.long q0), (.ref b298)])) tg → Steps pP.tables eE below (s₁.setTop (entryFrame mM #[(.int p1), (.int p2), (.long q0)] maxLocals)) tg := fun tg kg => pr329 _ (by
      show Steps pP.tables eE below (T328.setTop (mkF mM 408 #[.val (.int p1), .val (.int p2), .val (.long q0), .second, .val (.ref b2), .val (.long (5478551163 : Int64)), .second, .val (.int z245), .val (.ref r), .val (.int (1 : Int32)), .val (.ref b298), .val (.ref bp314), .unset, .unset] [(.int (1 : Int32))])) _
      refine XS.ifNo X328.here hx rfl (hb hby at_408) rfl ((if0 _ _).trans (feq (by decide)).1) ?_
      refine XS.aload X328.here hx rfl (hb hby at_411) rfl rfl ?_
      refine XS.lloadN X328.here hx rfl (hb hby at_413) rfl ?_
      refine XS.iconst X328.here hx rfl (hb hby at_414) ?_
      refine XS.iload X328.here hx rfl (hb hby at_415) rfl ?_
      exact kg)
    clear pr329
    obtain ⟨Ls331, X331, N331⟩ := own_hide X328 N328
    clear X328 N328
    obtain ⟨_, _, ⟨T332, L332, kk332, nn332⟩, -, X332, ⟨Lc332, hQ332, l332, y332, z332⟩, st332⟩ := Jvm.LawKit.callS X331 hx (y := (⟨"com/example/tesserae/tesserae/value/VrPadPinLaw", "sameAt", "([BJII)Z"⟩ : MethodName)) hown (mvT hZ (hw _ (List.mem_of_getElem? (i := 95) rfl))) (mvT hZ (hw _ (List.mem_of_getElem? (i := 96) rfl))) (mvT hZ (hw _ (List.mem_of_getElem? (i := 97) rfl))) (mvT hZ (hw _ (List.mem_of_getElem? (i := 98) rfl))) (by decide) (backOf (W := 0) (rm4 l Z a0 hw [] b298 q0 (1 : Int32) (1 : Int32) T314.heap n0 c326 (by decide)) hZ (hw _ (List.mem_of_getElem? (i := 98) rfl)) (hw _ (List.mem_of_getElem? (i := 97) rfl)) (by decide) (by decide)) (g := (mkF mM 417 #[.val (.int p1), .val (.int p2), .val (.long q0), .second, .val (.ref b2), .val (.long (5478551163 : Int64)), .second, .val (.int z245), .val (.ref r), .val (.int (1 : Int32)), .val (.ref b298), .val (.ref bp314), .unset, .unset] [(.int (1 : Int32)), (.int (1 : Int32)), (.long q0), (.ref b298)])) rfl (by rw [hml]; rfl) (argsL := [(.ref b298), (.long q0), (.int (1 : Int32)), (.int (1 : Int32))]) (rest := []) (lenOf pd_3 rfl) rfl (by show 2 * 0 + _ ≤ _; exact Nat.le_of_eq rfl) (hb hby at_417) (fun _ _ => ⟨rfl, e328, (by decide : 3 + 0 ≤ _), (by decide : 37 + 0 ≤ _)⟩)
    dsimp only [Pt.U, Pt.locs, Pt.cells, Pt.slots] at X332 l332 y332 z332 st332 hQ332
    subst l332 y332 z332
    obtain ⟨rfl, Nq332, e332⟩ := hQ332
    have N332 := Fr.app N331 Nq332
    have pr333 : ∀ tg, Steps pP.tables eE below (T332.setTop (mkF mM 420 #[.val (.int p1), .val (.int p2), .val (.long q0), .second, .val (.ref b2), .val (.long (5478551163 : Int64)), .second, .val (.int z245), .val (.ref r), .val (.int (1 : Int32)), .val (.ref b298), .val (.ref bp314), .unset, .unset] [(.int (1 : Int32))])) tg → Steps pP.tables eE below (s₁.setTop (entryFrame mM #[(.int p1), (.int p2), (.long q0)] maxLocals)) tg := fun tg kg => pr330 _ (st332 _ kg)
    clear pr330 st332 X331 e328
    have pr334 : ∀ tg, Steps pP.tables eE below (T332.setTop (mkF mM 429 #[.val (.int p1), .val (.int p2), .val (.long q0), .second, .val (.ref b2), .val (.long (5478551163 : Int64)), .second, .val (.int z245), .val (.ref r), .val (.int (1 : Int32)), .val (.ref b298), .val (.ref bp314), .unset, .unset] [(.int (1 : Int32)), (.int (2 : Int32)), (.long q0), (.ref b298)])) tg → Steps pP.tables eE below (s₁.setTop (entryFrame mM #[(.int p1), (.int p2), (.long q0)] maxLocals)) tg := fun tg kg => pr333 _ (by
      show Steps pP.tables eE below (T332.setTop (mkF mM 420 #[.val (.int p1), .val (.int p2), .val (.long q0), .second, .val (.ref b2), .val (.long (5478551163 : Int64)), .second, .val (.int z245), .val (.ref r), .val (.int (1 : Int32)), .val (.ref b298), .val (.ref bp314), .unset, .unset] [(.int (1 : Int32))])) _
      refine XS.ifNo X332.here hx rfl (hb hby at_420) rfl ((if0 _ _).trans (feq (by decide)).1) ?_
      refine XS.aload X332.here hx rfl (hb hby at_423) rfl rfl ?_
      refine XS.lloadN X332.here hx rfl (hb hby at_425) rfl ?_
      refine XS.iconst X332.here hx rfl (hb hby at_426) ?_
      refine XS.iload X332.here hx rfl (hb hby at_427) rfl ?_
      exact kg)
    clear pr333
    obtain ⟨Ls335, X335, N335⟩ := own_hide X332 N332
    clear X332 N332
    obtain ⟨_, _, ⟨T336, L336, kk336, nn336⟩, -, X336, ⟨Lc336, hQ336, l336, y336, z336⟩, st336⟩ := Jvm.LawKit.callS X335 hx (y := (⟨"com/example/tesserae/tesserae/value/VrPadPinLaw", "sameAt", "([BJII)Z"⟩ : MethodName)) hown (mvT hZ (hw _ (List.mem_of_getElem? (i := 95) rfl))) (mvT hZ (hw _ (List.mem_of_getElem? (i := 96) rfl))) (mvT hZ (hw _ (List.mem_of_getElem? (i := 97) rfl))) (mvT hZ (hw _ (List.mem_of_getElem? (i := 98) rfl))) (by decide) (backOf (W := 0) (rm4 l Z a0 hw [] b298 q0 (2 : Int32) (1 : Int32) T314.heap n0 c326 (by decide)) hZ (hw _ (List.mem_of_getElem? (i := 98) rfl)) (hw _ (List.mem_of_getElem? (i := 97) rfl)) (by decide) (by decide)) (g := (mkF mM 429 #[.val (.int p1), .val (.int p2), .val (.long q0), .second, .val (.ref b2), .val (.long (5478551163 : Int64)), .second, .val (.int z245), .val (.ref r), .val (.int (1 : Int32)), .val (.ref b298), .val (.ref bp314), .unset, .unset] [(.int (1 : Int32)), (.int (2 : Int32)), (.long q0), (.ref b298)])) rfl (by rw [hml]; rfl) (argsL := [(.ref b298), (.long q0), (.int (2 : Int32)), (.int (1 : Int32))]) (rest := []) (lenOf pd_3 rfl) rfl (by show 2 * 0 + _ ≤ _; exact Nat.le_of_eq rfl) (hb hby at_429) (fun _ _ => ⟨rfl, e332, (by decide : 3 + 0 ≤ _), (by decide : 37 + 0 ≤ _)⟩)
    dsimp only [Pt.U, Pt.locs, Pt.cells, Pt.slots] at X336 l336 y336 z336 st336 hQ336
    subst l336 y336 z336
    obtain ⟨rfl, Nq336, e336⟩ := hQ336
    have N336 := Fr.app N335 Nq336
    have pr337 : ∀ tg, Steps pP.tables eE below (T336.setTop (mkF mM 432 #[.val (.int p1), .val (.int p2), .val (.long q0), .second, .val (.ref b2), .val (.long (5478551163 : Int64)), .second, .val (.int z245), .val (.ref r), .val (.int (1 : Int32)), .val (.ref b298), .val (.ref bp314), .unset, .unset] [(.int (1 : Int32))])) tg → Steps pP.tables eE below (s₁.setTop (entryFrame mM #[(.int p1), (.int p2), (.long q0)] maxLocals)) tg := fun tg kg => pr334 _ (st336 _ kg)
    clear pr334 st336 X335 e332
    have pr338 : ∀ tg, Steps pP.tables eE below (T336.setTop (mkF mM 441 #[.val (.int p1), .val (.int p2), .val (.long q0), .second, .val (.ref b2), .val (.long (5478551163 : Int64)), .second, .val (.int z245), .val (.ref r), .val (.int (1 : Int32)), .val (.ref b298), .val (.ref bp314), .unset, .unset] [(.int (1 : Int32)), (.int (3 : Int32)), (.long q0), (.ref b298)])) tg → Steps pP.tables eE below (s₁.setTop (entryFrame mM #[(.int p1), (.int p2), (.long q0)] maxLocals)) tg := fun tg kg => pr337 _ (by
      show Steps pP.tables eE below (T336.setTop (mkF mM 432 #[.val (.int p1), .val (.int p2), .val (.long q0), .second, .val (.ref b2), .val (.long (5478551163 : Int64)), .second, .val (.int z245), .val (.ref r), .val (.int (1 : Int32)), .val (.ref b298), .val (.ref bp314), .unset, .unset] [(.int (1 : Int32))])) _
      refine XS.ifNo X336.here hx rfl (hb hby at_432) rfl ((if0 _ _).trans (feq (by decide)).1) ?_
      refine XS.aload X336.here hx rfl (hb hby at_435) rfl rfl ?_
      refine XS.lloadN X336.here hx rfl (hb hby at_437) rfl ?_
      refine XS.iconst X336.here hx rfl (hb hby at_438) ?_
      refine XS.iload X336.here hx rfl (hb hby at_439) rfl ?_
      exact kg)
    clear pr337
    obtain ⟨Ls339, X339, N339⟩ := own_hide X336 N336
    clear X336 N336
    obtain ⟨_, _, ⟨T340, L340, kk340, nn340⟩, -, X340, ⟨Lc340, hQ340, l340, y340, z340⟩, st340⟩ := Jvm.LawKit.callS X339 hx (y := (⟨"com/example/tesserae/tesserae/value/VrPadPinLaw", "sameAt", "([BJII)Z"⟩ : MethodName)) hown (mvT hZ (hw _ (List.mem_of_getElem? (i := 95) rfl))) (mvT hZ (hw _ (List.mem_of_getElem? (i := 96) rfl))) (mvT hZ (hw _ (List.mem_of_getElem? (i := 97) rfl))) (mvT hZ (hw _ (List.mem_of_getElem? (i := 98) rfl))) (by decide) (backOf (W := 0) (rm4 l Z a0 hw [] b298 q0 (3 : Int32) (1 : Int32) T314.heap n0 c326 (by decide)) hZ (hw _ (List.mem_of_getElem? (i := 98) rfl)) (hw _ (List.mem_of_getElem? (i := 97) rfl)) (by decide) (by decide)) (g := (mkF mM 441 #[.val (.int p1), .val (.int p2), .val (.long q0), .second, .val (.ref b2), .val (.long (5478551163 : Int64)), .second, .val (.int z245), .val (.ref r), .val (.int (1 : Int32)), .val (.ref b298), .val (.ref bp314), .unset, .unset] [(.int (1 : Int32)), (.int (3 : Int32)), (.long q0), (.ref b298)])) rfl (by rw [hml]; rfl) (argsL := [(.ref b298), (.long q0), (.int (3 : Int32)), (.int (1 : Int32))]) (rest := []) (lenOf pd_3 rfl) rfl (by show 2 * 0 + _ ≤ _; exact Nat.le_of_eq rfl) (hb hby at_441) (fun _ _ => ⟨rfl, e336, (by decide : 3 + 0 ≤ _), (by decide : 37 + 0 ≤ _)⟩)
    dsimp only [Pt.U, Pt.locs, Pt.cells, Pt.slots] at X340 l340 y340 z340 st340 hQ340
    subst l340 y340 z340
    obtain ⟨rfl, Nq340, e340⟩ := hQ340
    have N340 := Fr.app N339 Nq340
    have pr341 : ∀ tg, Steps pP.tables eE below (T340.setTop (mkF mM 444 #[.val (.int p1), .val (.int p2), .val (.long q0), .second, .val (.ref b2), .val (.long (5478551163 : Int64)), .second, .val (.int z245), .val (.ref r), .val (.int (1 : Int32)), .val (.ref b298), .val (.ref bp314), .unset, .unset] [(.int (1 : Int32))])) tg → Steps pP.tables eE below (s₁.setTop (entryFrame mM #[(.int p1), (.int p2), (.long q0)] maxLocals)) tg := fun tg kg => pr338 _ (st340 _ kg)
    clear pr338 st340 X339 e336
    have pr342 : ∀ tg, Steps pP.tables eE below (T340.setTop (mkF mM 453 #[.val (.int p1), .val (.int p2), .val (.long q0), .second, .val (.ref b2), .val (.long (5478551163 : Int64)), .second, .val (.int z245), .val (.ref r), .val (.int (1 : Int32)), .val (.ref b298), .val (.ref bp314), .unset, .unset] [(.int (1 : Int32)), (.int (4 : Int32)), (.long q0), (.ref b298)])) tg → Steps pP.tables eE below (s₁.setTop (entryFrame mM #[(.int p1), (.int p2), (.long q0)] maxLocals)) tg := fun tg kg => pr341 _ (by
      show Steps pP.tables eE below (T340.setTop (mkF mM 444 #[.val (.int p1), .val (.int p2), .val (.long q0), .second, .val (.ref b2), .val (.long (5478551163 : Int64)), .second, .val (.int z245), .val (.ref r), .val (.int (1 : Int32)), .val (.ref b298), .val (.ref bp314), .unset, .unset] [(.int (1 : Int32))])) _
      refine XS.ifNo X340.here hx rfl (hb hby at_444) rfl ((if0 _ _).trans (feq (by decide)).1) ?_
      refine XS.aload X340.here hx rfl (hb hby at_447) rfl rfl ?_
      refine XS.lloadN X340.here hx rfl (hb hby at_449) rfl ?_
      refine XS.iconst X340.here hx rfl (hb hby at_450) ?_
      refine XS.iload X340.here hx rfl (hb hby at_451) rfl ?_
      exact kg)
    clear pr341
    obtain ⟨Ls343, X343, N343⟩ := own_hide X340 N340
    clear X340 N340
    obtain ⟨_, _, ⟨T344, L344, kk344, nn344⟩, -, X344, ⟨Lc344, hQ344, l344, y344, z344⟩, st344⟩ := Jvm.LawKit.callS X343 hx (y := (⟨"com/example/tesserae/tesserae/value/VrPadPinLaw", "sameAt", "([BJII)Z"⟩ : MethodName)) hown (mvT hZ (hw _ (List.mem_of_getElem? (i := 95) rfl))) (mvT hZ (hw _ (List.mem_of_getElem? (i := 96) rfl))) (mvT hZ (hw _ (List.mem_of_getElem? (i := 97) rfl))) (mvT hZ (hw _ (List.mem_of_getElem? (i := 98) rfl))) (by decide) (backOf (W := 0) (rm4 l Z a0 hw [] b298 q0 (4 : Int32) (1 : Int32) T314.heap n0 c326 (by decide)) hZ (hw _ (List.mem_of_getElem? (i := 98) rfl)) (hw _ (List.mem_of_getElem? (i := 97) rfl)) (by decide) (by decide)) (g := (mkF mM 453 #[.val (.int p1), .val (.int p2), .val (.long q0), .second, .val (.ref b2), .val (.long (5478551163 : Int64)), .second, .val (.int z245), .val (.ref r), .val (.int (1 : Int32)), .val (.ref b298), .val (.ref bp314), .unset, .unset] [(.int (1 : Int32)), (.int (4 : Int32)), (.long q0), (.ref b298)])) rfl (by rw [hml]; rfl) (argsL := [(.ref b298), (.long q0), (.int (4 : Int32)), (.int (1 : Int32))]) (rest := []) (lenOf pd_3 rfl) rfl (by show 2 * 0 + _ ≤ _; exact Nat.le_of_eq rfl) (hb hby at_453) (fun _ _ => ⟨rfl, e340, (by decide : 3 + 0 ≤ _), (by decide : 37 + 0 ≤ _)⟩)
    dsimp only [Pt.U, Pt.locs, Pt.cells, Pt.slots] at X344 l344 y344 z344 st344 hQ344
    subst l344 y344 z344
    obtain ⟨rfl, Nq344, e344⟩ := hQ344
    have N344 := Fr.app N343 Nq344
    have pr345 : ∀ tg, Steps pP.tables eE below (T344.setTop (mkF mM 456 #[.val (.int p1), .val (.int p2), .val (.long q0), .second, .val (.ref b2), .val (.long (5478551163 : Int64)), .second, .val (.int z245), .val (.ref r), .val (.int (1 : Int32)), .val (.ref b298), .val (.ref bp314), .unset, .unset] [(.int (1 : Int32))])) tg → Steps pP.tables eE below (s₁.setTop (entryFrame mM #[(.int p1), (.int p2), (.long q0)] maxLocals)) tg := fun tg kg => pr342 _ (st344 _ kg)
    clear pr342 st344 X343 e340
    have pr346 : ∀ tg, Steps pP.tables eE below (T344.setTop (mkF mM 465 #[.val (.int p1), .val (.int p2), .val (.long q0), .second, .val (.ref b2), .val (.long (5478551163 : Int64)), .second, .val (.int z245), .val (.ref r), .val (.int (1 : Int32)), .val (.ref b298), .val (.ref bp314), .unset, .unset] [(.int (1 : Int32)), (.int (5 : Int32)), (.long q0), (.ref b298)])) tg → Steps pP.tables eE below (s₁.setTop (entryFrame mM #[(.int p1), (.int p2), (.long q0)] maxLocals)) tg := fun tg kg => pr345 _ (by
      show Steps pP.tables eE below (T344.setTop (mkF mM 456 #[.val (.int p1), .val (.int p2), .val (.long q0), .second, .val (.ref b2), .val (.long (5478551163 : Int64)), .second, .val (.int z245), .val (.ref r), .val (.int (1 : Int32)), .val (.ref b298), .val (.ref bp314), .unset, .unset] [(.int (1 : Int32))])) _
      refine XS.ifNo X344.here hx rfl (hb hby at_456) rfl ((if0 _ _).trans (feq (by decide)).1) ?_
      refine XS.aload X344.here hx rfl (hb hby at_459) rfl rfl ?_
      refine XS.lloadN X344.here hx rfl (hb hby at_461) rfl ?_
      refine XS.iconst X344.here hx rfl (hb hby at_462) ?_
      refine XS.iload X344.here hx rfl (hb hby at_463) rfl ?_
      exact kg)
    clear pr345
    obtain ⟨Ls347, X347, N347⟩ := own_hide X344 N344
    clear X344 N344
    obtain ⟨_, _, ⟨T348, L348, kk348, nn348⟩, -, X348, ⟨Lc348, hQ348, l348, y348, z348⟩, st348⟩ := Jvm.LawKit.callS X347 hx (y := (⟨"com/example/tesserae/tesserae/value/VrPadPinLaw", "sameAt", "([BJII)Z"⟩ : MethodName)) hown (mvT hZ (hw _ (List.mem_of_getElem? (i := 95) rfl))) (mvT hZ (hw _ (List.mem_of_getElem? (i := 96) rfl))) (mvT hZ (hw _ (List.mem_of_getElem? (i := 97) rfl))) (mvT hZ (hw _ (List.mem_of_getElem? (i := 98) rfl))) (by decide) (backOf (W := 0) (rm4 l Z a0 hw [] b298 q0 (5 : Int32) (1 : Int32) T314.heap n0 c326 (by decide)) hZ (hw _ (List.mem_of_getElem? (i := 98) rfl)) (hw _ (List.mem_of_getElem? (i := 97) rfl)) (by decide) (by decide)) (g := (mkF mM 465 #[.val (.int p1), .val (.int p2), .val (.long q0), .second, .val (.ref b2), .val (.long (5478551163 : Int64)), .second, .val (.int z245), .val (.ref r), .val (.int (1 : Int32)), .val (.ref b298), .val (.ref bp314), .unset, .unset] [(.int (1 : Int32)), (.int (5 : Int32)), (.long q0), (.ref b298)])) rfl (by rw [hml]; rfl) (argsL := [(.ref b298), (.long q0), (.int (5 : Int32)), (.int (1 : Int32))]) (rest := []) (lenOf pd_3 rfl) rfl (by show 2 * 0 + _ ≤ _; exact Nat.le_of_eq rfl) (hb hby at_465) (fun _ _ => ⟨rfl, e344, (by decide : 3 + 0 ≤ _), (by decide : 37 + 0 ≤ _)⟩)
    dsimp only [Pt.U, Pt.locs, Pt.cells, Pt.slots] at X348 l348 y348 z348 st348 hQ348
    subst l348 y348 z348
    obtain ⟨rfl, Nq348, e348⟩ := hQ348
    have N348 := Fr.app N347 Nq348
    have pr349 : ∀ tg, Steps pP.tables eE below (T348.setTop (mkF mM 468 #[.val (.int p1), .val (.int p2), .val (.long q0), .second, .val (.ref b2), .val (.long (5478551163 : Int64)), .second, .val (.int z245), .val (.ref r), .val (.int (1 : Int32)), .val (.ref b298), .val (.ref bp314), .unset, .unset] [(.int (1 : Int32))])) tg → Steps pP.tables eE below (s₁.setTop (entryFrame mM #[(.int p1), (.int p2), (.long q0)] maxLocals)) tg := fun tg kg => pr346 _ (st348 _ kg)
    clear pr346 st348 X347 e344
    have pr350 : ∀ tg, Steps pP.tables eE below (T348.setTop (mkF mM 478 #[.val (.int p1), .val (.int p2), .val (.long q0), .second, .val (.ref b2), .val (.long (5478551163 : Int64)), .second, .val (.int z245), .val (.ref r), .val (.int (1 : Int32)), .val (.ref b298), .val (.ref bp314), .unset, .unset] [(.int (1 : Int32)), (.int (6 : Int32)), (.long q0), (.ref b298)])) tg → Steps pP.tables eE below (s₁.setTop (entryFrame mM #[(.int p1), (.int p2), (.long q0)] maxLocals)) tg := fun tg kg => pr349 _ (by
      show Steps pP.tables eE below (T348.setTop (mkF mM 468 #[.val (.int p1), .val (.int p2), .val (.long q0), .second, .val (.ref b2), .val (.long (5478551163 : Int64)), .second, .val (.int z245), .val (.ref r), .val (.int (1 : Int32)), .val (.ref b298), .val (.ref bp314), .unset, .unset] [(.int (1 : Int32))])) _
      refine XS.ifNo X348.here hx rfl (hb hby at_468) rfl ((if0 _ _).trans (feq (by decide)).1) ?_
      refine XS.aload X348.here hx rfl (hb hby at_471) rfl rfl ?_
      refine XS.lloadN X348.here hx rfl (hb hby at_473) rfl ?_
      refine XS.bipush X348.here hx rfl (hb hby at_474) ?_
      refine XS.iload X348.here hx rfl (hb hby at_476) rfl ?_
      exact kg)
    clear pr349
    obtain ⟨Ls351, X351, N351⟩ := own_hide X348 N348
    clear X348 N348
    obtain ⟨_, _, ⟨T352, L352, kk352, nn352⟩, -, X352, ⟨Lc352, hQ352, l352, y352, z352⟩, st352⟩ := Jvm.LawKit.callS X351 hx (y := (⟨"com/example/tesserae/tesserae/value/VrPadPinLaw", "sameAt", "([BJII)Z"⟩ : MethodName)) hown (mvT hZ (hw _ (List.mem_of_getElem? (i := 95) rfl))) (mvT hZ (hw _ (List.mem_of_getElem? (i := 96) rfl))) (mvT hZ (hw _ (List.mem_of_getElem? (i := 97) rfl))) (mvT hZ (hw _ (List.mem_of_getElem? (i := 98) rfl))) (by decide) (backOf (W := 0) (rm4 l Z a0 hw [] b298 q0 (6 : Int32) (1 : Int32) T314.heap n0 c326 (by decide)) hZ (hw _ (List.mem_of_getElem? (i := 98) rfl)) (hw _ (List.mem_of_getElem? (i := 97) rfl)) (by decide) (by decide)) (g := (mkF mM 478 #[.val (.int p1), .val (.int p2), .val (.long q0), .second, .val (.ref b2), .val (.long (5478551163 : Int64)), .second, .val (.int z245), .val (.ref r), .val (.int (1 : Int32)), .val (.ref b298), .val (.ref bp314), .unset, .unset] [(.int (1 : Int32)), (.int (6 : Int32)), (.long q0), (.ref b298)])) rfl (by rw [hml]; rfl) (argsL := [(.ref b298), (.long q0), (.int (6 : Int32)), (.int (1 : Int32))]) (rest := []) (lenOf pd_3 rfl) rfl (by show 2 * 0 + _ ≤ _; exact Nat.le_of_eq rfl) (hb hby at_478) (fun _ _ => ⟨rfl, e348, (by decide : 3 + 0 ≤ _), (by decide : 37 + 0 ≤ _)⟩)
    dsimp only [Pt.U, Pt.locs, Pt.cells, Pt.slots] at X352 l352 y352 z352 st352 hQ352
    subst l352 y352 z352
    obtain ⟨rfl, Nq352, e352⟩ := hQ352
    have N352 := Fr.app N351 Nq352
    have pr353 : ∀ tg, Steps pP.tables eE below (T352.setTop (mkF mM 481 #[.val (.int p1), .val (.int p2), .val (.long q0), .second, .val (.ref b2), .val (.long (5478551163 : Int64)), .second, .val (.int z245), .val (.ref r), .val (.int (1 : Int32)), .val (.ref b298), .val (.ref bp314), .unset, .unset] [(.int (1 : Int32))])) tg → Steps pP.tables eE below (s₁.setTop (entryFrame mM #[(.int p1), (.int p2), (.long q0)] maxLocals)) tg := fun tg kg => pr350 _ (st352 _ kg)
    clear pr350 st352 X351 e348
    have pr354 : ∀ tg, Steps pP.tables eE below (T352.setTop (mkF mM 525 #[.val (.int p1), .val (.int p2), .val (.long q0), .second, .val (.ref b2), .val (.long (5478551163 : Int64)), .second, .val (.int z245), .val (.ref r), .val (.int (1 : Int32)), .val (.ref b298), .val (.ref bp314), .val (.int (1 : Int32)), .unset] [(.int (lcmpW ((((5478551163 : Int64).toUInt64 >>> (z245 &&& 0x3f).toInt64.toUInt64).toInt64) &&& (1 : Int64)) (0 : Int64)))])) tg → Steps pP.tables eE below (s₁.setTop (entryFrame mM #[(.int p1), (.int p2), (.long q0)] maxLocals)) tg := fun tg kg => pr353 _ (by
      show Steps pP.tables eE below (T352.setTop (mkF mM 481 #[.val (.int p1), .val (.int p2), .val (.long q0), .second, .val (.ref b2), .val (.long (5478551163 : Int64)), .second, .val (.int z245), .val (.ref r), .val (.int (1 : Int32)), .val (.ref b298), .val (.ref bp314), .unset, .unset] [(.int (1 : Int32))])) _
      refine XS.ifNo X352.here hx rfl (hb hby at_481) rfl ((if0 _ _).trans (feq (by decide)).1) ?_
      refine XS.iconst X352.here hx rfl (hb hby at_484) ?_
      refine XS.goto X352.here hx rfl (pc0 := 485) (pc' := 489) rfl (hb hby at_485) (by decide) (by decide) ?_
      refine XS.istore X352.here hx rfl (hb hby at_489) rfl (l' := #[.val (.int p1), .val (.int p2), .val (.long q0), .second, .val (.ref b2), .val (.long (5478551163 : Int64)), .second, .val (.int z245), .val (.ref r), .val (.int (1 : Int32)), .val (.ref b298), .val (.ref bp314), .val (.int (1 : Int32)), .unset]) rfl ?_
      refine XS.iload X352.here hx rfl (hb hby at_491) rfl ?_
      refine XS.iconst X352.here hx rfl (hb hby at_493) ?_
      show Steps pP.tables eE below (T352.setTop (mkF mM 494 #[.val (.int p1), .val (.int p2), .val (.long q0), .second, .val (.ref b2), .val (.long (5478551163 : Int64)), .second, .val (.int z245), .val (.ref r), .val (.int (1 : Int32)), .val (.ref b298), .val (.ref bp314), .val (.int (1 : Int32)), .unset] [(.int (1 : Int32)), (.int (1 : Int32))])) _
      refine XS.iand X352.here hx rfl (hb hby at_494) rfl ?_
      refine XS.ifYes X352.here hx rfl (pc0 := 495) (pc' := 516) rfl (hb hby at_495) rfl ((if0 _ _).trans (feq (by decide)).2) (by decide) (by decide) ?_
      refine XS.lload X352.here hx rfl (hb hby at_516) rfl ?_
      refine XS.iload X352.here hx rfl (hb hby at_518) rfl ?_
      refine XS.lushr X352.here hx rfl (hb hby at_520) rfl ?_
      refine XS.lconst X352.here hx rfl (hb hby at_521) ?_
      show Steps pP.tables eE below (T352.setTop (mkF mM 522 #[.val (.int p1), .val (.int p2), .val (.long q0), .second, .val (.ref b2), .val (.long (5478551163 : Int64)), .second, .val (.int z245), .val (.ref r), .val (.int (1 : Int32)), .val (.ref b298), .val (.ref bp314), .val (.int (1 : Int32)), .unset] [(.long (1 : Int64)), (.long (((5478551163 : Int64).toUInt64 >>> (z245 &&& 0x3f).toInt64.toUInt64).toInt64))])) _
      refine XS.land X352.here hx rfl (hb hby at_522) rfl ?_
      refine XS.lconst X352.here hx rfl (hb hby at_523) ?_
      refine XS.lcmp X352.here hx rfl (hb hby at_524) rfl ?_
      exact kg)
    clear pr353
    obtain ⟨j356, hj356, st357⟩ : ∃ (j356 : Int32), j356 = (if ((((5478551163 : Int64).toUInt64 >>> (z245 &&& 0x3f).toInt64.toUInt64).toInt64) &&& (1 : Int64)) = (0 : Int64) then (0 : Int32) else (32 : Int32)) ∧ ∀ tg, Steps pP.tables eE below (T352.setTop (mkF mM 534 #[.val (.int p1), .val (.int p2), .val (.long q0), .second, .val (.ref b2), .val (.long (5478551163 : Int64)), .second, .val (.int z245), .val (.ref r), .val (.int (1 : Int32)), .val (.ref b298), .val (.ref bp314), .val (.int (1 : Int32)), .unset] [(.int j356)])) tg → Steps pP.tables eE below (T352.setTop (mkF mM 525 #[.val (.int p1), .val (.int p2), .val (.long q0), .second, .val (.ref b2), .val (.long (5478551163 : Int64)), .second, .val (.int z245), .val (.ref r), .val (.int (1 : Int32)), .val (.ref b298), .val (.ref bp314), .val (.int (1 : Int32)), .unset] [(.int (lcmpW ((((5478551163 : Int64).toUInt64 >>> (z245 &&& 0x3f).toInt64.toUInt64).toInt64) &&& (1 : Int64)) (0 : Int64)))])) tg := by
      by_cases hj525_355 : ((((5478551163 : Int64).toUInt64 >>> (z245 &&& 0x3f).toInt64.toUInt64).toInt64) &&& (1 : Int64)) = (0 : Int64)
      ·
        refine ⟨(0 : Int32), (by rw [if_pos hj525_355]), fun tg kg => ?_⟩
        show Steps pP.tables eE below (T352.setTop (mkF mM 525 #[.val (.int p1), .val (.int p2), .val (.long q0), .second, .val (.ref b2), .val (.long (5478551163 : Int64)), .second, .val (.int z245), .val (.ref r), .val (.int (1 : Int32)), .val (.ref b298), .val (.ref bp314), .val (.int (1 : Int32)), .unset] [(.int (lcmpW ((((5478551163 : Int64).toUInt64 >>> (z245 &&& 0x3f).toInt64.toUInt64).toInt64) &&& (1 : Int64)) (0 : Int64)))])) _
        refine XS.ifYes X352.here hx rfl (pc0 := 525) (pc' := 533) rfl (hb hby at_525) rfl ((if0 _ _).trans (teq ((lw_eq _ _).mpr hj525_355)).1) (by decide) (by decide) ?_
        refine XS.iconst X352.here hx rfl (hb hby at_533) ?_
        exact kg
      ·
        refine ⟨(32 : Int32), (by rw [if_neg hj525_355]), fun tg kg => ?_⟩
        show Steps pP.tables eE below (T352.setTop (mkF mM 525 #[.val (.int p1), .val (.int p2), .val (.long q0), .second, .val (.ref b2), .val (.long (5478551163 : Int64)), .second, .val (.int z245), .val (.ref r), .val (.int (1 : Int32)), .val (.ref b298), .val (.ref bp314), .val (.int (1 : Int32)), .unset] [(.int (lcmpW ((((5478551163 : Int64).toUInt64 >>> (z245 &&& 0x3f).toInt64.toUInt64).toInt64) &&& (1 : Int64)) (0 : Int64)))])) _
        refine XS.ifNo X352.here hx rfl (hb hby at_525) rfl ((if0 _ _).trans (feq (fun q => hj525_355 ((lw_eq _ _).mp q))).1) ?_
        refine XS.bipush X352.here hx rfl (hb hby at_528) ?_
        refine XS.goto X352.here hx rfl (pc0 := 530) (pc' := 534) rfl (hb hby at_530) (by decide) (by decide) ?_
        exact kg
    have pr358 : ∀ tg, Steps pP.tables eE below (T352.setTop (mkF mM 534 #[.val (.int p1), .val (.int p2), .val (.long q0), .second, .val (.ref b2), .val (.long (5478551163 : Int64)), .second, .val (.int z245), .val (.ref r), .val (.int (1 : Int32)), .val (.ref b298), .val (.ref bp314), .val (.int (1 : Int32)), .unset] [(.int j356)])) tg → Steps pP.tables eE below (s₁.setTop (entryFrame mM #[(.int p1), (.int p2), (.long q0)] maxLocals)) tg := fun tg kg => pr354 _ (st357 _ kg)
    clear pr354 st357
    obtain ⟨cla359, Ara359, qa359, Sa359, Ma359, Ha359, Ga359⟩ := id V314
    have hin360 : ¬ ((0 : Int32) < 0 ∨ cla359.slots.size ≤ ((0 : Int32)).toNatClampNeg) := inb_of Sa359 ⟨by decide, by decide⟩
    have hat360 : cla359.slots[((0 : Int32)).toNatClampNeg]? = some (.int (nar .byte q0.toInt32.toInt8.toInt32)) := Has.at Ha359 hin360 rfl
    have pr361 : ∀ tg, Steps pP.tables eE below (T352.setTop (mkF mM 564 #[.val (.int p1), .val (.int p2), .val (.long q0), .second, .val (.ref b2), .val (.long (5478551163 : Int64)), .second, .val (.int z245), .val (.ref r), .val (.int (1 : Int32)), .val (.ref b298), .val (.ref bp314), .val (.int (1 : Int32)), .val (.int j356)] [(.int (1 : Int32)), (.int (0 : Int32)), (.long q0), (.ref bp314)])) tg → Steps pP.tables eE below (s₁.setTop (entryFrame mM #[(.int p1), (.int p2), (.long q0)] maxLocals)) tg := fun tg kg => pr358 _ (by
      show Steps pP.tables eE below (T352.setTop (mkF mM 534 #[.val (.int p1), .val (.int p2), .val (.long q0), .second, .val (.ref b2), .val (.long (5478551163 : Int64)), .second, .val (.int z245), .val (.ref r), .val (.int (1 : Int32)), .val (.ref b298), .val (.ref bp314), .val (.int (1 : Int32)), .unset] [(.int j356)])) _
      refine XS.istore X352.here hx rfl (hb hby at_534) rfl (l' := #[.val (.int p1), .val (.int p2), .val (.long q0), .second, .val (.ref b2), .val (.long (5478551163 : Int64)), .second, .val (.int z245), .val (.ref r), .val (.int (1 : Int32)), .val (.ref b298), .val (.ref bp314), .val (.int (1 : Int32)), .val (.int j356)]) rfl ?_
      refine XS.iload X352.here hx rfl (hb hby at_536) rfl ?_
      refine XS.ifNo X352.here hx rfl (hb hby at_538) rfl ((if0 _ _).trans (feq (by decide)).1) ?_
      refine XS.aload X352.here hx rfl (hb hby at_541) rfl rfl ?_
      refine XS.aload X352.here hx rfl (hb hby at_543) rfl rfl ?_
      show Steps pP.tables eE below (T352.setTop (mkF mM 545 #[.val (.int p1), .val (.int p2), .val (.long q0), .second, .val (.ref b2), .val (.long (5478551163 : Int64)), .second, .val (.int z245), .val (.ref r), .val (.int (1 : Int32)), .val (.ref b298), .val (.ref bp314), .val (.int (1 : Int32)), .val (.int j356)] [(.ref b298), (.ref bp314)])) _
      refine Jvm.RoadKit.acmp (g := (mkF mM 545 #[.val (.int p1), .val (.int p2), .val (.long q0), .second, .val (.ref b2), .val (.long (5478551163 : Int64)), .second, .val (.int z245), .val (.ref r), .val (.int (1 : Int32)), .val (.ref b298), .val (.ref bp314), .val (.int (1 : Int32)), .val (.int j356)] [(.ref b298), (.ref bp314)])) X352 hx rfl rfl rfl (pc0 := 545) (pc' := 548) (same := false) rfl (hb hby at_545) rfl (decide_eq_false fun q => (Ne.symm ne317) (Value.ref.inj q)) (by decide) (by decide) ?_
      show Steps pP.tables eE below (T352.setTop (mkF mM 548 #[.val (.int p1), .val (.int p2), .val (.long q0), .second, .val (.ref b2), .val (.long (5478551163 : Int64)), .second, .val (.int z245), .val (.ref r), .val (.int (1 : Int32)), .val (.ref b298), .val (.ref bp314), .val (.int (1 : Int32)), .val (.int j356)] [])) _
      refine XS.aload X352.here hx rfl (hb hby at_548) rfl rfl ?_
      show Steps pP.tables eE below (T352.setTop (mkF mM 550 #[.val (.int p1), .val (.int p2), .val (.long q0), .second, .val (.ref b2), .val (.long (5478551163 : Int64)), .second, .val (.int z245), .val (.ref r), .val (.int (1 : Int32)), .val (.ref b298), .val (.ref bp314), .val (.int (1 : Int32)), .val (.int j356)] [(.ref bp314)])) _
      refine X352.arraylength hx (by rw [e352]; exact Ara359.1) (State.isArrayOf_alike hZ.alike Ara359.2.1) (g := (mkF mM 550 #[.val (.int p1), .val (.int p2), .val (.long q0), .second, .val (.ref b2), .val (.long (5478551163 : Int64)), .second, .val (.int z245), .val (.ref r), .val (.int (1 : Int32)), .val (.ref b298), .val (.ref bp314), .val (.int (1 : Int32)), .val (.int j356)] [(.ref bp314)])) rfl rfl (hb hby at_550) _ ?_
      rw [len_of Sa359 Ma359]
      show Steps pP.tables eE below (T352.setTop (mkF mM 551 #[.val (.int p1), .val (.int p2), .val (.long q0), .second, .val (.ref b2), .val (.long (5478551163 : Int64)), .second, .val (.int z245), .val (.ref r), .val (.int (1 : Int32)), .val (.ref b298), .val (.ref bp314), .val (.int (1 : Int32)), .val (.int j356)] [(.int (2 : Int32))])) _
      refine XS.iload X352.here hx rfl (hb hby at_551) rfl ?_
      refine XS.iconst X352.here hx rfl (hb hby at_553) ?_
      refine XS.iadd X352.here hx rfl (hb hby at_554) rfl ?_
      refine XS.icmpNo X352.here hx rfl (hb hby at_555) rfl (teq (by decide)).2 ?_
      refine XS.aload X352.here hx rfl (hb hby at_558) rfl rfl ?_
      refine XS.lloadN X352.here hx rfl (hb hby at_560) rfl ?_
      show Steps pP.tables eE below (T352.setTop (mkF mM 561 #[.val (.int p1), .val (.int p2), .val (.long q0), .second, .val (.ref b2), .val (.long (5478551163 : Int64)), .second, .val (.int z245), .val (.ref r), .val (.int (1 : Int32)), .val (.ref b298), .val (.ref bp314), .val (.int (1 : Int32)), .val (.int j356)] [(.long q0), (.ref bp314)])) _
      refine XS.iconst X352.here hx rfl (hb hby at_561) ?_
      refine XS.iload X352.here hx rfl (hb hby at_562) rfl ?_
      exact kg)
    clear pr358
    obtain ⟨Ls362, X362, N362⟩ := own_hide X352 N352
    clear X352 N352
    obtain ⟨_, _, ⟨T363, L363, kk363, nn363⟩, -, X363, ⟨Lc363, hQ363, l363, y363, z363⟩, st363⟩ := Jvm.LawKit.callS X362 hx (y := (⟨"com/example/tesserae/tesserae/value/VrPadPinLaw", "sameAt", "([BJII)Z"⟩ : MethodName)) hown (mvT hZ (hw _ (List.mem_of_getElem? (i := 95) rfl))) (mvT hZ (hw _ (List.mem_of_getElem? (i := 96) rfl))) (mvT hZ (hw _ (List.mem_of_getElem? (i := 97) rfl))) (mvT hZ (hw _ (List.mem_of_getElem? (i := 98) rfl))) (by decide) (backOf (W := 0) (rm5 l Z a0 hw [] bp314 q0 (0 : Int32) (1 : Int32) cla359 (nar .byte q0.toInt32.toInt8.toInt32) T314.heap n0 c326 (by decide) Ara359 hin360 hat360 (own_w0 q0)) hZ (hw _ (List.mem_of_getElem? (i := 98) rfl)) (hw _ (List.mem_of_getElem? (i := 97) rfl)) (by decide) (by decide)) (g := (mkF mM 564 #[.val (.int p1), .val (.int p2), .val (.long q0), .second, .val (.ref b2), .val (.long (5478551163 : Int64)), .second, .val (.int z245), .val (.ref r), .val (.int (1 : Int32)), .val (.ref b298), .val (.ref bp314), .val (.int (1 : Int32)), .val (.int j356)] [(.int (1 : Int32)), (.int (0 : Int32)), (.long q0), (.ref bp314)])) rfl (by rw [hml]; rfl) (argsL := [(.ref bp314), (.long q0), (.int (0 : Int32)), (.int (1 : Int32))]) (rest := []) (lenOf pd_3 rfl) rfl (by show 2 * 0 + _ ≤ _; exact Nat.le_of_eq rfl) (hb hby at_564) (fun _ _ => ⟨rfl, e352, (by decide : 3 + 0 ≤ _), (by decide : 37 + 0 ≤ _)⟩)
    dsimp only [Pt.U, Pt.locs, Pt.cells, Pt.slots] at X363 l363 y363 z363 st363 hQ363
    subst l363 y363 z363
    obtain ⟨rfl, Nq363, e363⟩ := hQ363
    have N363 := Fr.app N362 Nq363
    have pr364 : ∀ tg, Steps pP.tables eE below (T363.setTop (mkF mM 567 #[.val (.int p1), .val (.int p2), .val (.long q0), .second, .val (.ref b2), .val (.long (5478551163 : Int64)), .second, .val (.int z245), .val (.ref r), .val (.int (1 : Int32)), .val (.ref b298), .val (.ref bp314), .val (.int (1 : Int32)), .val (.int j356)] [(.int (1 : Int32))])) tg → Steps pP.tables eE below (s₁.setTop (entryFrame mM #[(.int p1), (.int p2), (.long q0)] maxLocals)) tg := fun tg kg => pr361 _ (st363 _ kg)
    clear pr361 st363 X362 e352
    have pr365 : ∀ tg, Steps pP.tables eE below (T363.setTop (mkF mM 576 #[.val (.int p1), .val (.int p2), .val (.long q0), .second, .val (.ref b2), .val (.long (5478551163 : Int64)), .second, .val (.int z245), .val (.ref r), .val (.int (1 : Int32)), .val (.ref b298), .val (.ref bp314), .val (.int (1 : Int32)), .val (.int j356)] [(.int (1 : Int32)), (.int (1 : Int32)), (.long q0), (.ref bp314)])) tg → Steps pP.tables eE below (s₁.setTop (entryFrame mM #[(.int p1), (.int p2), (.long q0)] maxLocals)) tg := fun tg kg => pr364 _ (by
      show Steps pP.tables eE below (T363.setTop (mkF mM 567 #[.val (.int p1), .val (.int p2), .val (.long q0), .second, .val (.ref b2), .val (.long (5478551163 : Int64)), .second, .val (.int z245), .val (.ref r), .val (.int (1 : Int32)), .val (.ref b298), .val (.ref bp314), .val (.int (1 : Int32)), .val (.int j356)] [(.int (1 : Int32))])) _
      refine XS.ifNo X363.here hx rfl (hb hby at_567) rfl ((if0 _ _).trans (feq (by decide)).1) ?_
      refine XS.aload X363.here hx rfl (hb hby at_570) rfl rfl ?_
      refine XS.lloadN X363.here hx rfl (hb hby at_572) rfl ?_
      refine XS.iconst X363.here hx rfl (hb hby at_573) ?_
      refine XS.iload X363.here hx rfl (hb hby at_574) rfl ?_
      exact kg)
    clear pr364
    obtain ⟨Ls366, X366, N366⟩ := own_hide X363 N363
    clear X363 N363
    obtain ⟨_, _, ⟨T367, L367, kk367, nn367⟩, -, X367, ⟨Lc367, hQ367, l367, y367, z367⟩, st367⟩ := Jvm.LawKit.callS X366 hx (y := (⟨"com/example/tesserae/tesserae/value/VrPadPinLaw", "sameAt", "([BJII)Z"⟩ : MethodName)) hown (mvT hZ (hw _ (List.mem_of_getElem? (i := 95) rfl))) (mvT hZ (hw _ (List.mem_of_getElem? (i := 96) rfl))) (mvT hZ (hw _ (List.mem_of_getElem? (i := 97) rfl))) (mvT hZ (hw _ (List.mem_of_getElem? (i := 98) rfl))) (by decide) (backOf (W := 0) (rm4 l Z a0 hw [] bp314 q0 (1 : Int32) (1 : Int32) T314.heap n0 c326 (by decide)) hZ (hw _ (List.mem_of_getElem? (i := 98) rfl)) (hw _ (List.mem_of_getElem? (i := 97) rfl)) (by decide) (by decide)) (g := (mkF mM 576 #[.val (.int p1), .val (.int p2), .val (.long q0), .second, .val (.ref b2), .val (.long (5478551163 : Int64)), .second, .val (.int z245), .val (.ref r), .val (.int (1 : Int32)), .val (.ref b298), .val (.ref bp314), .val (.int (1 : Int32)), .val (.int j356)] [(.int (1 : Int32)), (.int (1 : Int32)), (.long q0), (.ref bp314)])) rfl (by rw [hml]; rfl) (argsL := [(.ref bp314), (.long q0), (.int (1 : Int32)), (.int (1 : Int32))]) (rest := []) (lenOf pd_3 rfl) rfl (by show 2 * 0 + _ ≤ _; exact Nat.le_of_eq rfl) (hb hby at_576) (fun _ _ => ⟨rfl, e363, (by decide : 3 + 0 ≤ _), (by decide : 37 + 0 ≤ _)⟩)
    dsimp only [Pt.U, Pt.locs, Pt.cells, Pt.slots] at X367 l367 y367 z367 st367 hQ367
    subst l367 y367 z367
    obtain ⟨rfl, Nq367, e367⟩ := hQ367
    have N367 := Fr.app N366 Nq367
    have pr368 : ∀ tg, Steps pP.tables eE below (T367.setTop (mkF mM 579 #[.val (.int p1), .val (.int p2), .val (.long q0), .second, .val (.ref b2), .val (.long (5478551163 : Int64)), .second, .val (.int z245), .val (.ref r), .val (.int (1 : Int32)), .val (.ref b298), .val (.ref bp314), .val (.int (1 : Int32)), .val (.int j356)] [(.int (1 : Int32))])) tg → Steps pP.tables eE below (s₁.setTop (entryFrame mM #[(.int p1), (.int p2), (.long q0)] maxLocals)) tg := fun tg kg => pr365 _ (st367 _ kg)
    clear pr365 st367 X366 e363
    have pr369 : ∀ tg, Steps pP.tables eE below (T367.setTop (mkF mM 588 #[.val (.int p1), .val (.int p2), .val (.long q0), .second, .val (.ref b2), .val (.long (5478551163 : Int64)), .second, .val (.int z245), .val (.ref r), .val (.int (1 : Int32)), .val (.ref b298), .val (.ref bp314), .val (.int (1 : Int32)), .val (.int j356)] [(.int (1 : Int32)), (.int (2 : Int32)), (.long q0), (.ref bp314)])) tg → Steps pP.tables eE below (s₁.setTop (entryFrame mM #[(.int p1), (.int p2), (.long q0)] maxLocals)) tg := fun tg kg => pr368 _ (by
      show Steps pP.tables eE below (T367.setTop (mkF mM 579 #[.val (.int p1), .val (.int p2), .val (.long q0), .second, .val (.ref b2), .val (.long (5478551163 : Int64)), .second, .val (.int z245), .val (.ref r), .val (.int (1 : Int32)), .val (.ref b298), .val (.ref bp314), .val (.int (1 : Int32)), .val (.int j356)] [(.int (1 : Int32))])) _
      refine XS.ifNo X367.here hx rfl (hb hby at_579) rfl ((if0 _ _).trans (feq (by decide)).1) ?_
      refine XS.aload X367.here hx rfl (hb hby at_582) rfl rfl ?_
      refine XS.lloadN X367.here hx rfl (hb hby at_584) rfl ?_
      refine XS.iconst X367.here hx rfl (hb hby at_585) ?_
      refine XS.iload X367.here hx rfl (hb hby at_586) rfl ?_
      exact kg)
    clear pr368
    obtain ⟨Ls370, X370, N370⟩ := own_hide X367 N367
    clear X367 N367
    obtain ⟨_, _, ⟨T371, L371, kk371, nn371⟩, -, X371, ⟨Lc371, hQ371, l371, y371, z371⟩, st371⟩ := Jvm.LawKit.callS X370 hx (y := (⟨"com/example/tesserae/tesserae/value/VrPadPinLaw", "sameAt", "([BJII)Z"⟩ : MethodName)) hown (mvT hZ (hw _ (List.mem_of_getElem? (i := 95) rfl))) (mvT hZ (hw _ (List.mem_of_getElem? (i := 96) rfl))) (mvT hZ (hw _ (List.mem_of_getElem? (i := 97) rfl))) (mvT hZ (hw _ (List.mem_of_getElem? (i := 98) rfl))) (by decide) (backOf (W := 0) (rm4 l Z a0 hw [] bp314 q0 (2 : Int32) (1 : Int32) T314.heap n0 c326 (by decide)) hZ (hw _ (List.mem_of_getElem? (i := 98) rfl)) (hw _ (List.mem_of_getElem? (i := 97) rfl)) (by decide) (by decide)) (g := (mkF mM 588 #[.val (.int p1), .val (.int p2), .val (.long q0), .second, .val (.ref b2), .val (.long (5478551163 : Int64)), .second, .val (.int z245), .val (.ref r), .val (.int (1 : Int32)), .val (.ref b298), .val (.ref bp314), .val (.int (1 : Int32)), .val (.int j356)] [(.int (1 : Int32)), (.int (2 : Int32)), (.long q0), (.ref bp314)])) rfl (by rw [hml]; rfl) (argsL := [(.ref bp314), (.long q0), (.int (2 : Int32)), (.int (1 : Int32))]) (rest := []) (lenOf pd_3 rfl) rfl (by show 2 * 0 + _ ≤ _; exact Nat.le_of_eq rfl) (hb hby at_588) (fun _ _ => ⟨rfl, e367, (by decide : 3 + 0 ≤ _), (by decide : 37 + 0 ≤ _)⟩)
    dsimp only [Pt.U, Pt.locs, Pt.cells, Pt.slots] at X371 l371 y371 z371 st371 hQ371
    subst l371 y371 z371
    obtain ⟨rfl, Nq371, e371⟩ := hQ371
    have N371 := Fr.app N370 Nq371
    have pr372 : ∀ tg, Steps pP.tables eE below (T371.setTop (mkF mM 591 #[.val (.int p1), .val (.int p2), .val (.long q0), .second, .val (.ref b2), .val (.long (5478551163 : Int64)), .second, .val (.int z245), .val (.ref r), .val (.int (1 : Int32)), .val (.ref b298), .val (.ref bp314), .val (.int (1 : Int32)), .val (.int j356)] [(.int (1 : Int32))])) tg → Steps pP.tables eE below (s₁.setTop (entryFrame mM #[(.int p1), (.int p2), (.long q0)] maxLocals)) tg := fun tg kg => pr369 _ (st371 _ kg)
    clear pr369 st371 X370 e367
    have pr373 : ∀ tg, Steps pP.tables eE below (T371.setTop (mkF mM 600 #[.val (.int p1), .val (.int p2), .val (.long q0), .second, .val (.ref b2), .val (.long (5478551163 : Int64)), .second, .val (.int z245), .val (.ref r), .val (.int (1 : Int32)), .val (.ref b298), .val (.ref bp314), .val (.int (1 : Int32)), .val (.int j356)] [(.int (1 : Int32)), (.int (3 : Int32)), (.long q0), (.ref bp314)])) tg → Steps pP.tables eE below (s₁.setTop (entryFrame mM #[(.int p1), (.int p2), (.long q0)] maxLocals)) tg := fun tg kg => pr372 _ (by
      show Steps pP.tables eE below (T371.setTop (mkF mM 591 #[.val (.int p1), .val (.int p2), .val (.long q0), .second, .val (.ref b2), .val (.long (5478551163 : Int64)), .second, .val (.int z245), .val (.ref r), .val (.int (1 : Int32)), .val (.ref b298), .val (.ref bp314), .val (.int (1 : Int32)), .val (.int j356)] [(.int (1 : Int32))])) _
      refine XS.ifNo X371.here hx rfl (hb hby at_591) rfl ((if0 _ _).trans (feq (by decide)).1) ?_
      refine XS.aload X371.here hx rfl (hb hby at_594) rfl rfl ?_
      refine XS.lloadN X371.here hx rfl (hb hby at_596) rfl ?_
      refine XS.iconst X371.here hx rfl (hb hby at_597) ?_
      refine XS.iload X371.here hx rfl (hb hby at_598) rfl ?_
      exact kg)
    clear pr372
    obtain ⟨Ls374, X374, N374⟩ := own_hide X371 N371
    clear X371 N371
    obtain ⟨_, _, ⟨T375, L375, kk375, nn375⟩, -, X375, ⟨Lc375, hQ375, l375, y375, z375⟩, st375⟩ := Jvm.LawKit.callS X374 hx (y := (⟨"com/example/tesserae/tesserae/value/VrPadPinLaw", "sameAt", "([BJII)Z"⟩ : MethodName)) hown (mvT hZ (hw _ (List.mem_of_getElem? (i := 95) rfl))) (mvT hZ (hw _ (List.mem_of_getElem? (i := 96) rfl))) (mvT hZ (hw _ (List.mem_of_getElem? (i := 97) rfl))) (mvT hZ (hw _ (List.mem_of_getElem? (i := 98) rfl))) (by decide) (backOf (W := 0) (rm4 l Z a0 hw [] bp314 q0 (3 : Int32) (1 : Int32) T314.heap n0 c326 (by decide)) hZ (hw _ (List.mem_of_getElem? (i := 98) rfl)) (hw _ (List.mem_of_getElem? (i := 97) rfl)) (by decide) (by decide)) (g := (mkF mM 600 #[.val (.int p1), .val (.int p2), .val (.long q0), .second, .val (.ref b2), .val (.long (5478551163 : Int64)), .second, .val (.int z245), .val (.ref r), .val (.int (1 : Int32)), .val (.ref b298), .val (.ref bp314), .val (.int (1 : Int32)), .val (.int j356)] [(.int (1 : Int32)), (.int (3 : Int32)), (.long q0), (.ref bp314)])) rfl (by rw [hml]; rfl) (argsL := [(.ref bp314), (.long q0), (.int (3 : Int32)), (.int (1 : Int32))]) (rest := []) (lenOf pd_3 rfl) rfl (by show 2 * 0 + _ ≤ _; exact Nat.le_of_eq rfl) (hb hby at_600) (fun _ _ => ⟨rfl, e371, (by decide : 3 + 0 ≤ _), (by decide : 37 + 0 ≤ _)⟩)
    dsimp only [Pt.U, Pt.locs, Pt.cells, Pt.slots] at X375 l375 y375 z375 st375 hQ375
    subst l375 y375 z375
    obtain ⟨rfl, Nq375, e375⟩ := hQ375
    have N375 := Fr.app N374 Nq375
    have pr376 : ∀ tg, Steps pP.tables eE below (T375.setTop (mkF mM 603 #[.val (.int p1), .val (.int p2), .val (.long q0), .second, .val (.ref b2), .val (.long (5478551163 : Int64)), .second, .val (.int z245), .val (.ref r), .val (.int (1 : Int32)), .val (.ref b298), .val (.ref bp314), .val (.int (1 : Int32)), .val (.int j356)] [(.int (1 : Int32))])) tg → Steps pP.tables eE below (s₁.setTop (entryFrame mM #[(.int p1), (.int p2), (.long q0)] maxLocals)) tg := fun tg kg => pr373 _ (st375 _ kg)
    clear pr373 st375 X374 e371
    have pr377 : ∀ tg, Steps pP.tables eE below (T375.setTop (mkF mM 612 #[.val (.int p1), .val (.int p2), .val (.long q0), .second, .val (.ref b2), .val (.long (5478551163 : Int64)), .second, .val (.int z245), .val (.ref r), .val (.int (1 : Int32)), .val (.ref b298), .val (.ref bp314), .val (.int (1 : Int32)), .val (.int j356)] [(.int (1 : Int32)), (.int (4 : Int32)), (.long q0), (.ref bp314)])) tg → Steps pP.tables eE below (s₁.setTop (entryFrame mM #[(.int p1), (.int p2), (.long q0)] maxLocals)) tg := fun tg kg => pr376 _ (by
      show Steps pP.tables eE below (T375.setTop (mkF mM 603 #[.val (.int p1), .val (.int p2), .val (.long q0), .second, .val (.ref b2), .val (.long (5478551163 : Int64)), .second, .val (.int z245), .val (.ref r), .val (.int (1 : Int32)), .val (.ref b298), .val (.ref bp314), .val (.int (1 : Int32)), .val (.int j356)] [(.int (1 : Int32))])) _
      refine XS.ifNo X375.here hx rfl (hb hby at_603) rfl ((if0 _ _).trans (feq (by decide)).1) ?_
      refine XS.aload X375.here hx rfl (hb hby at_606) rfl rfl ?_
      refine XS.lloadN X375.here hx rfl (hb hby at_608) rfl ?_
      refine XS.iconst X375.here hx rfl (hb hby at_609) ?_
      refine XS.iload X375.here hx rfl (hb hby at_610) rfl ?_
      exact kg)
    clear pr376
    obtain ⟨Ls378, X378, N378⟩ := own_hide X375 N375
    clear X375 N375
    obtain ⟨_, _, ⟨T379, L379, kk379, nn379⟩, -, X379, ⟨Lc379, hQ379, l379, y379, z379⟩, st379⟩ := Jvm.LawKit.callS X378 hx (y := (⟨"com/example/tesserae/tesserae/value/VrPadPinLaw", "sameAt", "([BJII)Z"⟩ : MethodName)) hown (mvT hZ (hw _ (List.mem_of_getElem? (i := 95) rfl))) (mvT hZ (hw _ (List.mem_of_getElem? (i := 96) rfl))) (mvT hZ (hw _ (List.mem_of_getElem? (i := 97) rfl))) (mvT hZ (hw _ (List.mem_of_getElem? (i := 98) rfl))) (by decide) (backOf (W := 0) (rm4 l Z a0 hw [] bp314 q0 (4 : Int32) (1 : Int32) T314.heap n0 c326 (by decide)) hZ (hw _ (List.mem_of_getElem? (i := 98) rfl)) (hw _ (List.mem_of_getElem? (i := 97) rfl)) (by decide) (by decide)) (g := (mkF mM 612 #[.val (.int p1), .val (.int p2), .val (.long q0), .second, .val (.ref b2), .val (.long (5478551163 : Int64)), .second, .val (.int z245), .val (.ref r), .val (.int (1 : Int32)), .val (.ref b298), .val (.ref bp314), .val (.int (1 : Int32)), .val (.int j356)] [(.int (1 : Int32)), (.int (4 : Int32)), (.long q0), (.ref bp314)])) rfl (by rw [hml]; rfl) (argsL := [(.ref bp314), (.long q0), (.int (4 : Int32)), (.int (1 : Int32))]) (rest := []) (lenOf pd_3 rfl) rfl (by show 2 * 0 + _ ≤ _; exact Nat.le_of_eq rfl) (hb hby at_612) (fun _ _ => ⟨rfl, e375, (by decide : 3 + 0 ≤ _), (by decide : 37 + 0 ≤ _)⟩)
    dsimp only [Pt.U, Pt.locs, Pt.cells, Pt.slots] at X379 l379 y379 z379 st379 hQ379
    subst l379 y379 z379
    obtain ⟨rfl, Nq379, e379⟩ := hQ379
    have N379 := Fr.app N378 Nq379
    have pr380 : ∀ tg, Steps pP.tables eE below (T379.setTop (mkF mM 615 #[.val (.int p1), .val (.int p2), .val (.long q0), .second, .val (.ref b2), .val (.long (5478551163 : Int64)), .second, .val (.int z245), .val (.ref r), .val (.int (1 : Int32)), .val (.ref b298), .val (.ref bp314), .val (.int (1 : Int32)), .val (.int j356)] [(.int (1 : Int32))])) tg → Steps pP.tables eE below (s₁.setTop (entryFrame mM #[(.int p1), (.int p2), (.long q0)] maxLocals)) tg := fun tg kg => pr377 _ (st379 _ kg)
    clear pr377 st379 X378 e375
    have pr381 : ∀ tg, Steps pP.tables eE below (T379.setTop (mkF mM 624 #[.val (.int p1), .val (.int p2), .val (.long q0), .second, .val (.ref b2), .val (.long (5478551163 : Int64)), .second, .val (.int z245), .val (.ref r), .val (.int (1 : Int32)), .val (.ref b298), .val (.ref bp314), .val (.int (1 : Int32)), .val (.int j356)] [(.int (1 : Int32)), (.int (5 : Int32)), (.long q0), (.ref bp314)])) tg → Steps pP.tables eE below (s₁.setTop (entryFrame mM #[(.int p1), (.int p2), (.long q0)] maxLocals)) tg := fun tg kg => pr380 _ (by
      show Steps pP.tables eE below (T379.setTop (mkF mM 615 #[.val (.int p1), .val (.int p2), .val (.long q0), .second, .val (.ref b2), .val (.long (5478551163 : Int64)), .second, .val (.int z245), .val (.ref r), .val (.int (1 : Int32)), .val (.ref b298), .val (.ref bp314), .val (.int (1 : Int32)), .val (.int j356)] [(.int (1 : Int32))])) _
      refine XS.ifNo X379.here hx rfl (hb hby at_615) rfl ((if0 _ _).trans (feq (by decide)).1) ?_
      refine XS.aload X379.here hx rfl (hb hby at_618) rfl rfl ?_
      refine XS.lloadN X379.here hx rfl (hb hby at_620) rfl ?_
      refine XS.iconst X379.here hx rfl (hb hby at_621) ?_
      refine XS.iload X379.here hx rfl (hb hby at_622) rfl ?_
      exact kg)
    clear pr380
    obtain ⟨Ls382, X382, N382⟩ := own_hide X379 N379
    clear X379 N379
    obtain ⟨_, _, ⟨T383, L383, kk383, nn383⟩, -, X383, ⟨Lc383, hQ383, l383, y383, z383⟩, st383⟩ := Jvm.LawKit.callS X382 hx (y := (⟨"com/example/tesserae/tesserae/value/VrPadPinLaw", "sameAt", "([BJII)Z"⟩ : MethodName)) hown (mvT hZ (hw _ (List.mem_of_getElem? (i := 95) rfl))) (mvT hZ (hw _ (List.mem_of_getElem? (i := 96) rfl))) (mvT hZ (hw _ (List.mem_of_getElem? (i := 97) rfl))) (mvT hZ (hw _ (List.mem_of_getElem? (i := 98) rfl))) (by decide) (backOf (W := 0) (rm4 l Z a0 hw [] bp314 q0 (5 : Int32) (1 : Int32) T314.heap n0 c326 (by decide)) hZ (hw _ (List.mem_of_getElem? (i := 98) rfl)) (hw _ (List.mem_of_getElem? (i := 97) rfl)) (by decide) (by decide)) (g := (mkF mM 624 #[.val (.int p1), .val (.int p2), .val (.long q0), .second, .val (.ref b2), .val (.long (5478551163 : Int64)), .second, .val (.int z245), .val (.ref r), .val (.int (1 : Int32)), .val (.ref b298), .val (.ref bp314), .val (.int (1 : Int32)), .val (.int j356)] [(.int (1 : Int32)), (.int (5 : Int32)), (.long q0), (.ref bp314)])) rfl (by rw [hml]; rfl) (argsL := [(.ref bp314), (.long q0), (.int (5 : Int32)), (.int (1 : Int32))]) (rest := []) (lenOf pd_3 rfl) rfl (by show 2 * 0 + _ ≤ _; exact Nat.le_of_eq rfl) (hb hby at_624) (fun _ _ => ⟨rfl, e379, (by decide : 3 + 0 ≤ _), (by decide : 37 + 0 ≤ _)⟩)
    dsimp only [Pt.U, Pt.locs, Pt.cells, Pt.slots] at X383 l383 y383 z383 st383 hQ383
    subst l383 y383 z383
    obtain ⟨rfl, Nq383, e383⟩ := hQ383
    have N383 := Fr.app N382 Nq383
    have pr384 : ∀ tg, Steps pP.tables eE below (T383.setTop (mkF mM 627 #[.val (.int p1), .val (.int p2), .val (.long q0), .second, .val (.ref b2), .val (.long (5478551163 : Int64)), .second, .val (.int z245), .val (.ref r), .val (.int (1 : Int32)), .val (.ref b298), .val (.ref bp314), .val (.int (1 : Int32)), .val (.int j356)] [(.int (1 : Int32))])) tg → Steps pP.tables eE below (s₁.setTop (entryFrame mM #[(.int p1), (.int p2), (.long q0)] maxLocals)) tg := fun tg kg => pr381 _ (st383 _ kg)
    clear pr381 st383 X382 e379
    have pr385 : ∀ tg, Steps pP.tables eE below (T383.setTop (mkF mM 637 #[.val (.int p1), .val (.int p2), .val (.long q0), .second, .val (.ref b2), .val (.long (5478551163 : Int64)), .second, .val (.int z245), .val (.ref r), .val (.int (1 : Int32)), .val (.ref b298), .val (.ref bp314), .val (.int (1 : Int32)), .val (.int j356)] [(.int (1 : Int32)), (.int (6 : Int32)), (.long q0), (.ref bp314)])) tg → Steps pP.tables eE below (s₁.setTop (entryFrame mM #[(.int p1), (.int p2), (.long q0)] maxLocals)) tg := fun tg kg => pr384 _ (by
      show Steps pP.tables eE below (T383.setTop (mkF mM 627 #[.val (.int p1), .val (.int p2), .val (.long q0), .second, .val (.ref b2), .val (.long (5478551163 : Int64)), .second, .val (.int z245), .val (.ref r), .val (.int (1 : Int32)), .val (.ref b298), .val (.ref bp314), .val (.int (1 : Int32)), .val (.int j356)] [(.int (1 : Int32))])) _
      refine XS.ifNo X383.here hx rfl (hb hby at_627) rfl ((if0 _ _).trans (feq (by decide)).1) ?_
      refine XS.aload X383.here hx rfl (hb hby at_630) rfl rfl ?_
      refine XS.lloadN X383.here hx rfl (hb hby at_632) rfl ?_
      refine XS.bipush X383.here hx rfl (hb hby at_633) ?_
      refine XS.iload X383.here hx rfl (hb hby at_635) rfl ?_
      exact kg)
    clear pr384
    obtain ⟨Ls386, X386, N386⟩ := own_hide X383 N383
    clear X383 N383
    obtain ⟨_, _, ⟨T387, L387, kk387, nn387⟩, -, X387, ⟨Lc387, hQ387, l387, y387, z387⟩, st387⟩ := Jvm.LawKit.callS X386 hx (y := (⟨"com/example/tesserae/tesserae/value/VrPadPinLaw", "sameAt", "([BJII)Z"⟩ : MethodName)) hown (mvT hZ (hw _ (List.mem_of_getElem? (i := 95) rfl))) (mvT hZ (hw _ (List.mem_of_getElem? (i := 96) rfl))) (mvT hZ (hw _ (List.mem_of_getElem? (i := 97) rfl))) (mvT hZ (hw _ (List.mem_of_getElem? (i := 98) rfl))) (by decide) (backOf (W := 0) (rm4 l Z a0 hw [] bp314 q0 (6 : Int32) (1 : Int32) T314.heap n0 c326 (by decide)) hZ (hw _ (List.mem_of_getElem? (i := 98) rfl)) (hw _ (List.mem_of_getElem? (i := 97) rfl)) (by decide) (by decide)) (g := (mkF mM 637 #[.val (.int p1), .val (.int p2), .val (.long q0), .second, .val (.ref b2), .val (.long (5478551163 : Int64)), .second, .val (.int z245), .val (.ref r), .val (.int (1 : Int32)), .val (.ref b298), .val (.ref bp314), .val (.int (1 : Int32)), .val (.int j356)] [(.int (1 : Int32)), (.int (6 : Int32)), (.long q0), (.ref bp314)])) rfl (by rw [hml]; rfl) (argsL := [(.ref bp314), (.long q0), (.int (6 : Int32)), (.int (1 : Int32))]) (rest := []) (lenOf pd_3 rfl) rfl (by show 2 * 0 + _ ≤ _; exact Nat.le_of_eq rfl) (hb hby at_637) (fun _ _ => ⟨rfl, e383, (by decide : 3 + 0 ≤ _), (by decide : 37 + 0 ≤ _)⟩)
    dsimp only [Pt.U, Pt.locs, Pt.cells, Pt.slots] at X387 l387 y387 z387 st387 hQ387
    subst l387 y387 z387
    obtain ⟨rfl, Nq387, e387⟩ := hQ387
    have N387 := Fr.app N386 Nq387
    have pr388 : ∀ tg, Steps pP.tables eE below (T387.setTop (mkF mM 640 #[.val (.int p1), .val (.int p2), .val (.long q0), .second, .val (.ref b2), .val (.long (5478551163 : Int64)), .second, .val (.int z245), .val (.ref r), .val (.int (1 : Int32)), .val (.ref b298), .val (.ref bp314), .val (.int (1 : Int32)), .val (.int j356)] [(.int (1 : Int32))])) tg → Steps pP.tables eE below (s₁.setTop (entryFrame mM #[(.int p1), (.int p2), (.long q0)] maxLocals)) tg := fun tg kg => pr385 _ (st387 _ kg)
    clear pr385 st387 X386 e383
    have hin389 : ¬ ((1 : Int32) < 0 ∨ cla359.slots.size ≤ ((1 : Int32)).toNatClampNeg) := inb_of Sa359 ⟨by decide, by decide⟩
    have hat389 : cla359.slots[((1 : Int32)).toNatClampNeg]? = some (.int pv) := Has.at Ha359 hin389 rfl
    have pr390 : ∀ tg, Steps pP.tables eE below (T387.setTop (mkF mM 658 #[.val (.int p1), .val (.int p2), .val (.long q0), .second, .val (.ref b2), .val (.long (5478551163 : Int64)), .second, .val (.int z245), .val (.ref r), .val (.int (1 : Int32)), .val (.ref b298), .val (.ref bp314), .val (.int (1 : Int32)), .val (.int j356)] [(.int (1 : Int32))])) tg → Steps pP.tables eE below (s₁.setTop (entryFrame mM #[(.int p1), (.int p2), (.long q0)] maxLocals)) tg := fun tg kg => pr388 _ (by
      show Steps pP.tables eE below (T387.setTop (mkF mM 640 #[.val (.int p1), .val (.int p2), .val (.long q0), .second, .val (.ref b2), .val (.long (5478551163 : Int64)), .second, .val (.int z245), .val (.ref r), .val (.int (1 : Int32)), .val (.ref b298), .val (.ref bp314), .val (.int (1 : Int32)), .val (.int j356)] [(.int (1 : Int32))])) _
      refine XS.ifNo X387.here hx rfl (hb hby at_640) rfl ((if0 _ _).trans (feq (by decide)).1) ?_
      refine XS.aload X387.here hx rfl (hb hby at_643) rfl rfl ?_
      refine XS.iload X387.here hx rfl (hb hby at_645) rfl ?_
      show Steps pP.tables eE below (T387.setTop (mkF mM 647 #[.val (.int p1), .val (.int p2), .val (.long q0), .second, .val (.ref b2), .val (.long (5478551163 : Int64)), .second, .val (.int z245), .val (.ref r), .val (.int (1 : Int32)), .val (.ref b298), .val (.ref bp314), .val (.int (1 : Int32)), .val (.int j356)] [(.int (1 : Int32)), (.ref bp314)])) _
      refine X387.baloadBytes hx (j := (1 : Int32)) (v := (.int pv)) (by rw [e387]; exact Ara359.1) (State.isArrayOf_alike hZ.alike Ara359.2.1) Ara359.2.2 hin389 hat389 (g := (mkF mM 647 #[.val (.int p1), .val (.int p2), .val (.long q0), .second, .val (.ref b2), .val (.long (5478551163 : Int64)), .second, .val (.int z245), .val (.ref r), .val (.int (1 : Int32)), .val (.ref b298), .val (.ref bp314), .val (.int (1 : Int32)), .val (.int j356)] [(.int (1 : Int32)), (.ref bp314)])) rfl rfl (hb hby at_647) _ ?_
      show Steps pP.tables eE below (T387.setTop (mkF mM 648 #[.val (.int p1), .val (.int p2), .val (.long q0), .second, .val (.ref b2), .val (.long (5478551163 : Int64)), .second, .val (.int z245), .val (.ref r), .val (.int (1 : Int32)), .val (.ref b298), .val (.ref bp314), .val (.int (1 : Int32)), .val (.int j356)] [(.int pv)])) _
      refine XS.iload X387.here hx rfl (hb hby at_648) rfl ?_
      refine XS.icmpNo X387.here hx rfl (hb hby at_650) rfl (teq (hx5.trans hj356.symm)).2 ?_
      refine XS.iconst X387.here hx rfl (hb hby at_653) ?_
      refine XS.goto X387.here hx rfl (pc0 := 654) (pc' := 658) rfl (hb hby at_654) (by decide) (by decide) ?_
      exact kg)
    clear pr388
    obtain ⟨fs, hr, hrun, hended, hW, hsame⟩ := X387.leave (v := some (.int (1 : Int32))) (fun h => by rw [Bd.returns] at h; cases h)
    refine ⟨_, _, pr390 _ (retOut X387 hx (t := .boolean) Bd.returns rfl (Or.inl ⟨rfl, Or.inr (Or.inl rfl), _, rfl⟩) (hb hby at_658) hr), hrun, hended, _, _, rfl, ?_, ⟨_, rfl⟩, hW, hsame.mono (by decide) (by decide)⟩
    show Q0 Z p1 p2 q0 a_AE a_AS a_AT a_CS a_DA a_DS a_DT a_FD a_FL a_IS a_LO a_LT a_OB a_OD a_OF a_OL a_OV a_OW a_PN a_SH a_SL a_SQ a_SS a_ST a_SV a_TM a_UC a_UI a_UL a_UN a_UR a_US a_UT a_UV h0 n0 _ T387.heap _
    rw [e387]
    exact ⟨rfl, N387⟩
  ·
    have pr391 : ∀ tg, Steps pP.tables eE below (T242.setTop (mkF mM 268 #[.val (.int p1), .val (.int p2), .val (.long q0), .second, .val (.ref b2), .val (.long (5478551163 : Int64)), .second, .val (.int z245), .val (.ref r), .val (.int (2 : Int32)), .unset, .unset, .unset, .unset] [(.int (2 : Int32))])) tg → Steps pP.tables eE below (s₁.setTop (entryFrame mM #[(.int p1), (.int p2), (.long q0)] maxLocals)) tg := fun tg kg => pr251 _ (by
      show Steps pP.tables eE below (T242.setTop (mkF mM 266 #[.val (.int p1), .val (.int p2), .val (.long q0), .second, .val (.ref b2), .val (.long (5478551163 : Int64)), .second, .val (.int z245), .val (.ref r), .val (.int (2 : Int32)), .unset, .unset, .unset, .unset] [])) _
      refine XS.iload X242.here hx rfl (hb hby at_266) rfl ?_
      exact kg)
    clear pr251
    obtain ⟨T392, h392, k392, X392, e392, E392, A392, Ex392, st392⟩ := newPE X242 hx hZ (hw _ (List.mem_of_getElem? (i := 74) rfl)) e242 (g := (mkF mM 268 #[.val (.int p1), .val (.int p2), .val (.long q0), .second, .val (.ref b2), .val (.long (5478551163 : Int64)), .second, .val (.int z245), .val (.ref r), .val (.int (2 : Int32)), .unset, .unset, .unset, .unset] [(.int (2 : Int32))])) rfl (hb hby at_268) rfl (by decide) (cap := 2) (by decide) (by decide) (by decide) (by decide) (ad := "[B") rfl
    obtain ⟨b392, g392⟩ : ∃ z, z = (h242).size := ⟨_, rfl⟩
    rw [← g392] at A392 Ex392 st392
    have ne393 : b2 ≠ b392 := Nat.ne_of_lt (Nat.lt_of_lt_of_le (V242).lt (Nat.le_of_eq g392.symm))
    have c395 := (Nat.le_trans (Nat.le_trans (Nat.le_trans (Nat.le_trans (Nat.le_trans (Nat.le_trans (Nat.le_trans (Nat.le_trans (Nat.le_trans (Nat.le_trans (Nat.le_trans (Nat.le_trans (Nat.le_trans (Nat.le_trans (Nat.le_trans (Nat.le_trans (Nat.le_trans (Nat.le_trans (Nat.le_trans (Nat.le_trans (Nat.le_trans (Nat.le_trans (Nat.le_trans (Nat.le_trans (Nat.le_trans (Nat.le_trans (Nat.le_trans (Nat.le_trans (Nat.le_trans (Nat.le_trans (Nat.le_trans (Nat.le_trans (Nat.le_trans (Nat.le_trans (Nat.le_trans Z0 E2.1) (Keep.of_wr W11).1) (Keep.of_wr W18).1) (Keep.of_wr W25).1) (Keep.of_wr W32).1) (Keep.of_wr W39).1) (Keep.of_wr W46).1) (Keep.of_wr W53).1) (Keep.of_wr W60).1) (Keep.of_wr W67).1) (Keep.of_wr W74).1) (Keep.of_wr W81).1) (Keep.of_wr W88).1) (Keep.of_wr W95).1) (Keep.of_wr W102).1) (Keep.of_wr W109).1) (Keep.of_wr W116).1) (Keep.of_wr W123).1) (Keep.of_wr W130).1) (Keep.of_wr W137).1) (Keep.of_wr W144).1) (Keep.of_wr W151).1) (Keep.of_wr W158).1) (Keep.of_wr W165).1) (Keep.of_wr W172).1) (Keep.of_wr W179).1) (Keep.of_wr W186).1) (Keep.of_wr W193).1) (Keep.of_wr W200).1) (Keep.of_wr W207).1) (Keep.of_wr W214).1) (Keep.of_wr W221).1) (Keep.of_wr W228).1) (Keep.of_wr W235).1) (Keep.of_wr W242).1)
    have gn394 : n0 ≤ b392 := Nat.le_trans c395 (Nat.le_of_eq g392.symm)
    have c397 := (Keep.wr (Keep.wr (Keep.wr (Keep.wr (Keep.wr (Keep.wr (Keep.wr (Keep.wr (Keep.wr (Keep.wr (Keep.wr (Keep.wr (Keep.wr (Keep.wr (Keep.wr (Keep.wr (Keep.wr (Keep.wr (Keep.wr (Keep.wr (Keep.wr (Keep.wr (Keep.wr (Keep.wr (Keep.wr (Keep.wr (Keep.wr (Keep.wr (Keep.wr (Keep.wr (Keep.wr (Keep.wr (Keep.wr (Keep.wr (Keep.ext (Keep.refl h0 []) E2) W11 (Or.inr gs4)) W18 (Or.inr gs4)) W25 (Or.inr gs4)) W32 (Or.inr gs4)) W39 (Or.inr gs4)) W46 (Or.inr gs4)) W53 (Or.inr gs4)) W60 (Or.inr gs4)) W67 (Or.inr gs4)) W74 (Or.inr gs4)) W81 (Or.inr gs4)) W88 (Or.inr gs4)) W95 (Or.inr gs4)) W102 (Or.inr gs4)) W109 (Or.inr gs4)) W116 (Or.inr gs4)) W123 (Or.inr gs4)) W130 (Or.inr gs4)) W137 (Or.inr gs4)) W144 (Or.inr gs4)) W151 (Or.inr gs4)) W158 (Or.inr gs4)) W165 (Or.inr gs4)) W172 (Or.inr gs4)) W179 (Or.inr gs4)) W186 (Or.inr gs4)) W193 (Or.inr gs4)) W200 (Or.inr gs4)) W207 (Or.inr gs4)) W214 (Or.inr gs4)) W221 (Or.inr gs4)) W228 (Or.inr gs4)) W235 (Or.inr gs4)) W242 (Or.inr gs4))
    have gs396 : h0.size ≤ b392 := Nat.le_trans c397.1 (Nat.le_of_eq g392.symm)
    have c398 := (Old.wr c239 W242 gn3)
    have V392 : Arv Z h392 b392 k392 .byte (2 : Int32) [(.int (0 : Int32)), (.int (0 : Int32))] (.int (0 : Int32)) := (Arv.new A392 (by decide)).pad (pad_rep [] (.int (0 : Int32)) 2)
    have pr399 : ∀ tg, Steps pP.tables eE below (T392.setTop (mkF mM 270 #[.val (.int p1), .val (.int p2), .val (.long q0), .second, .val (.ref b2), .val (.long (5478551163 : Int64)), .second, .val (.int z245), .val (.ref r), .val (.int (2 : Int32)), .unset, .unset, .unset, .unset] [(.ref b392)])) tg → Steps pP.tables eE below (s₁.setTop (entryFrame mM #[(.int p1), (.int p2), (.long q0)] maxLocals)) tg := fun tg kg => pr391 _ (st392 _ kg)
    clear pr391 st392 X242 e242
    have pr400 : ∀ tg, Steps pP.tables eE below (T392.setTop (mkF mM 283 #[.val (.int p1), .val (.int p2), .val (.long q0), .second, .val (.ref b2), .val (.long (5478551163 : Int64)), .second, .val (.int z245), .val (.ref r), .val (.int (2 : Int32)), .val (.ref b392), .unset, .unset, .unset] [(.int q0.toInt32.toInt8.toInt32), (.int (0 : Int32)), (.ref b392)])) tg → Steps pP.tables eE below (s₁.setTop (entryFrame mM #[(.int p1), (.int p2), (.long q0)] maxLocals)) tg := fun tg kg => pr399 _ (by
      show Steps pP.tables eE below (T392.setTop (mkF mM 270 #[.val (.int p1), .val (.int p2), .val (.long q0), .second, .val (.ref b2), .val (.long (5478551163 : Int64)), .second, .val (.int z245), .val (.ref r), .val (.int (2 : Int32)), .unset, .unset, .unset, .unset] [(.ref b392)])) _
      refine XS.astore X392.here hx rfl (hb hby at_270) rfl rfl (l' := #[.val (.int p1), .val (.int p2), .val (.long q0), .second, .val (.ref b2), .val (.long (5478551163 : Int64)), .second, .val (.int z245), .val (.ref r), .val (.int (2 : Int32)), .val (.ref b392), .unset, .unset, .unset]) rfl ?_
      refine XS.iload X392.here hx rfl (hb hby at_272) rfl ?_
      refine XS.ifNo X392.here hx rfl (hb hby at_274) rfl ((if0 _ _).trans (tlt (by decide)).2.2.2) ?_
      refine XS.aload X392.here hx rfl (hb hby at_277) rfl rfl ?_
      refine XS.iconst X392.here hx rfl (hb hby at_279) ?_
      refine XS.lloadN X392.here hx rfl (hb hby at_280) rfl ?_
      show Steps pP.tables eE below (T392.setTop (mkF mM 281 #[.val (.int p1), .val (.int p2), .val (.long q0), .second, .val (.ref b2), .val (.long (5478551163 : Int64)), .second, .val (.int z245), .val (.ref r), .val (.int (2 : Int32)), .val (.ref b392), .unset, .unset, .unset] [(.long q0), (.int (0 : Int32)), (.ref b392)])) _
      refine XS.l2i X392.here hx rfl (hb hby at_281) rfl ?_
      refine XS.i2b X392.here hx rfl (hb hby at_282) rfl ?_
      exact kg)
    clear pr399
    obtain ⟨cla401, Ara401, qa401, Sa401, Ma401, Ha401, Ga401⟩ := id V392
    have hin402 : ¬ ((0 : Int32) < 0 ∨ cla401.slots.size ≤ ((0 : Int32)).toNatClampNeg) := inb_of Sa401 ⟨by decide, by decide⟩
    obtain ⟨T402, h402, X402, e402, W402, st402⟩ := stB X392 hx hZ e392 Ara401 (j := (0 : Int32)) hin402 (g := (mkF mM 283 #[.val (.int p1), .val (.int p2), .val (.long q0), .second, .val (.ref b2), .val (.long (5478551163 : Int64)), .second, .val (.int z245), .val (.ref r), .val (.int (2 : Int32)), .val (.ref b392), .unset, .unset, .unset] [(.int q0.toInt32.toInt8.toInt32), (.int (0 : Int32)), (.ref b392)])) rfl rfl (hb hby at_283)
    have V402 : Arv Z h402 b392 k392 .byte (2 : Int32) [(.int (nar .byte q0.toInt32.toInt8.toInt32)), (.int (0 : Int32))] (.int (0 : Int32)) := Arv.set Ara401 qa401 Sa401 Ma401 Ha401 Ga401 (fits_nar_byte _) W402 0 rfl (Nat.le_of_ble_eq_true rfl)
    have N402 := Fr.snoc X402 N242 gn394
    have pr403 : ∀ tg, Steps pP.tables eE below (T402.setTop (mkF mM 284 #[.val (.int p1), .val (.int p2), .val (.long q0), .second, .val (.ref b2), .val (.long (5478551163 : Int64)), .second, .val (.int z245), .val (.ref r), .val (.int (2 : Int32)), .val (.ref b392), .unset, .unset, .unset] [])) tg → Steps pP.tables eE below (s₁.setTop (entryFrame mM #[(.int p1), (.int p2), (.long q0)] maxLocals)) tg := fun tg kg => pr400 _ (st402 _ kg)
    clear pr400 st402 X392 e392
    have pr404 : ∀ tg, Steps pP.tables eE below (T402.setTop (mkF mM 299 #[.val (.int p1), .val (.int p2), .val (.long q0), .second, .val (.ref b2), .val (.long (5478551163 : Int64)), .second, .val (.int z245), .val (.ref r), .val (.int (2 : Int32)), .val (.ref b392), .unset, .unset, .unset] [(.int ((q0.toUInt64 >>> ((8 : Int32) &&& 0x3f).toInt64.toUInt64).toInt64).toInt32.toInt8.toInt32), (.int (1 : Int32)), (.ref b392)])) tg → Steps pP.tables eE below (s₁.setTop (entryFrame mM #[(.int p1), (.int p2), (.long q0)] maxLocals)) tg := fun tg kg => pr403 _ (by
      show Steps pP.tables eE below (T402.setTop (mkF mM 284 #[.val (.int p1), .val (.int p2), .val (.long q0), .second, .val (.ref b2), .val (.long (5478551163 : Int64)), .second, .val (.int z245), .val (.ref r), .val (.int (2 : Int32)), .val (.ref b392), .unset, .unset, .unset] [])) _
      refine XS.iload X402.here hx rfl (hb hby at_284) rfl ?_
      refine XS.iconst X402.here hx rfl (hb hby at_286) ?_
      refine XS.icmpNo X402.here hx rfl (hb hby at_287) rfl (tlt (by decide)).2.2.2 ?_
      refine XS.aload X402.here hx rfl (hb hby at_290) rfl rfl ?_
      refine XS.iconst X402.here hx rfl (hb hby at_292) ?_
      refine XS.lloadN X402.here hx rfl (hb hby at_293) rfl ?_
      show Steps pP.tables eE below (T402.setTop (mkF mM 294 #[.val (.int p1), .val (.int p2), .val (.long q0), .second, .val (.ref b2), .val (.long (5478551163 : Int64)), .second, .val (.int z245), .val (.ref r), .val (.int (2 : Int32)), .val (.ref b392), .unset, .unset, .unset] [(.long q0), (.int (1 : Int32)), (.ref b392)])) _
      refine XS.bipush X402.here hx rfl (hb hby at_294) ?_
      refine XS.lushr X402.here hx rfl (hb hby at_296) rfl ?_
      refine XS.l2i X402.here hx rfl (hb hby at_297) rfl ?_
      refine XS.i2b X402.here hx rfl (hb hby at_298) rfl ?_
      exact kg)
    clear pr403
    obtain ⟨cla405, Ara405, qa405, Sa405, Ma405, Ha405, Ga405⟩ := id V402
    have hin406 : ¬ ((1 : Int32) < 0 ∨ cla405.slots.size ≤ ((1 : Int32)).toNatClampNeg) := inb_of Sa405 ⟨by decide, by decide⟩
    obtain ⟨T406, h406, X406, e406, W406, st406⟩ := stB X402 hx hZ e402 Ara405 (j := (1 : Int32)) hin406 (g := (mkF mM 299 #[.val (.int p1), .val (.int p2), .val (.long q0), .second, .val (.ref b2), .val (.long (5478551163 : Int64)), .second, .val (.int z245), .val (.ref r), .val (.int (2 : Int32)), .val (.ref b392), .unset, .unset, .unset] [(.int ((q0.toUInt64 >>> ((8 : Int32) &&& 0x3f).toInt64.toUInt64).toInt64).toInt32.toInt8.toInt32), (.int (1 : Int32)), (.ref b392)])) rfl rfl (hb hby at_299)
    have V406 : Arv Z h406 b392 k392 .byte (2 : Int32) [(.int (nar .byte q0.toInt32.toInt8.toInt32)), (.int (nar .byte ((q0.toUInt64 >>> ((8 : Int32) &&& 0x3f).toInt64.toUInt64).toInt64).toInt32.toInt8.toInt32))] (.int (0 : Int32)) := Arv.set Ara405 qa405 Sa405 Ma405 Ha405 Ga405 (fits_nar_byte _) W406 1 rfl (Nat.le_of_ble_eq_true rfl)
    have N406 := Fr.snoc X406 N402 gn394
    have pr407 : ∀ tg, Steps pP.tables eE below (T406.setTop (mkF mM 300 #[.val (.int p1), .val (.int p2), .val (.long q0), .second, .val (.ref b2), .val (.long (5478551163 : Int64)), .second, .val (.int z245), .val (.ref r), .val (.int (2 : Int32)), .val (.ref b392), .unset, .unset, .unset] [])) tg → Steps pP.tables eE below (s₁.setTop (entryFrame mM #[(.int p1), (.int p2), (.long q0)] maxLocals)) tg := fun tg kg => pr404 _ (st406 _ kg)
    clear pr404 st406 X402 e402
    have pr408 : ∀ tg, Steps pP.tables eE below (T406.setTop (mkF mM 386 #[.val (.int p1), .val (.int p2), .val (.long q0), .second, .val (.ref b2), .val (.long (5478551163 : Int64)), .second, .val (.int z245), .val (.ref r), .val (.int (2 : Int32)), .val (.ref b392), .unset, .unset, .unset] [(.ref b392), (.ref r)])) tg → Steps pP.tables eE below (s₁.setTop (entryFrame mM #[(.int p1), (.int p2), (.long q0)] maxLocals)) tg := fun tg kg => pr407 _ (by
      show Steps pP.tables eE below (T406.setTop (mkF mM 300 #[.val (.int p1), .val (.int p2), .val (.long q0), .second, .val (.ref b2), .val (.long (5478551163 : Int64)), .second, .val (.int z245), .val (.ref r), .val (.int (2 : Int32)), .val (.ref b392), .unset, .unset, .unset] [])) _
      refine XS.iload X406.here hx rfl (hb hby at_300) rfl ?_
      refine XS.iconst X406.here hx rfl (hb hby at_302) ?_
      refine XS.icmpYes X406.here hx rfl (pc0 := 303) (pc' := 316) rfl (hb hby at_303) rfl (flt (by decide)).2.2.2 (by decide) (by decide) ?_
      refine XS.iload X406.here hx rfl (hb hby at_316) rfl ?_
      refine XS.iconst X406.here hx rfl (hb hby at_318) ?_
      refine XS.icmpYes X406.here hx rfl (pc0 := 319) (pc' := 332) rfl (hb hby at_319) rfl (flt (by decide)).2.2.2 (by decide) (by decide) ?_
      show Steps pP.tables eE below (T406.setTop (mkF mM 332 #[.val (.int p1), .val (.int p2), .val (.long q0), .second, .val (.ref b2), .val (.long (5478551163 : Int64)), .second, .val (.int z245), .val (.ref r), .val (.int (2 : Int32)), .val (.ref b392), .unset, .unset, .unset] [])) _
      refine XS.iload X406.here hx rfl (hb hby at_332) rfl ?_
      refine XS.iconst X406.here hx rfl (hb hby at_334) ?_
      refine XS.icmpYes X406.here hx rfl (pc0 := 335) (pc' := 348) rfl (hb hby at_335) rfl (flt (by decide)).2.2.2 (by decide) (by decide) ?_
      refine XS.iload X406.here hx rfl (hb hby at_348) rfl ?_
      refine XS.iconst X406.here hx rfl (hb hby at_350) ?_
      refine XS.icmpYes X406.here hx rfl (pc0 := 351) (pc' := 364) rfl (hb hby at_351) rfl (flt (by decide)).2.2.2 (by decide) (by decide) ?_
      show Steps pP.tables eE below (T406.setTop (mkF mM 364 #[.val (.int p1), .val (.int p2), .val (.long q0), .second, .val (.ref b2), .val (.long (5478551163 : Int64)), .second, .val (.int z245), .val (.ref r), .val (.int (2 : Int32)), .val (.ref b392), .unset, .unset, .unset] [])) _
      refine XS.iload X406.here hx rfl (hb hby at_364) rfl ?_
      refine XS.bipush X406.here hx rfl (hb hby at_366) ?_
      refine XS.icmpYes X406.here hx rfl (pc0 := 368) (pc' := 382) rfl (hb hby at_368) rfl (flt (by decide)).2.2.2 (by decide) (by decide) ?_
      refine XS.aload X406.here hx rfl (hb hby at_382) rfl rfl ?_
      refine XS.aload X406.here hx rfl (hb hby at_384) rfl rfl ?_
      exact kg)
    clear pr407
    have c409 := (Nat.le_trans (Nat.le_trans (Nat.le_trans c395 E392.1) (Keep.of_wr W402).1) (Keep.of_wr W406).1)
    obtain ⟨Ls410, X410, N410⟩ := own_hide X406 N406
    clear X406 N406
    have c412 := (Old.wr (Old.wr (Old.ext c398 E392) W402 gn394) W406 gn394)
    obtain ⟨cq411, kq411, qa411, qb411, qc411⟩ := isOf hZ e406 (Exa.ext (c412).2 hx2)
    obtain ⟨_, _, ⟨T411, L411, kk411, nn411⟩, -, X411, ⟨Lc411, hQ411, l411, y411, z411⟩, st411⟩ := X410.virtualBack hx (y := (⟨"com/example/tesserae/tesserae/value/Vr", "pad", "([B)[B"⟩ : MethodName)) (z := (⟨"com/example/tesserae/tesserae/value/Vr", "pad", "([B)[B"⟩ : MethodName)) hown (mvT hZ (hw _ (List.mem_of_getElem? (i := 75) rfl))) (mvT hZ (hw _ (List.mem_of_getElem? (i := 76) rfl))) (notFace_of_selects (args := #[]) (mvT hZ (hw _ (List.mem_of_getElem? (i := 78) rfl)))) (mvT hZ (hw _ (List.mem_of_getElem? (i := 78) rfl))) (mvT hZ (hw _ (List.mem_of_getElem? (i := 77) rfl))) (by decide) (backOf (W := 0) (rm32 l Z a0 hw [] r b392 k392 (nar .byte q0.toInt32.toInt8.toInt32) (nar .byte ((q0.toUInt64 >>> ((8 : Int32) &&& 0x3f).toInt64.toUInt64).toInt64).toInt32.toInt8.toInt32) h406 n0 c409 V406) hZ (hw _ (List.mem_of_getElem? (i := 79) rfl)) (hw _ (List.mem_of_getElem? (i := 3) rfl)) (by decide) (by decide)) qa411 qc411 (g := (mkF mM 386 #[.val (.int p1), .val (.int p2), .val (.long q0), .second, .val (.ref b2), .val (.long (5478551163 : Int64)), .second, .val (.int z245), .val (.ref r), .val (.int (2 : Int32)), .val (.ref b392), .unset, .unset, .unset] [(.ref b392), (.ref r)])) rfl (by rw [hml]; rfl) (Steps.refl _) (argsL := [(.ref b392)]) (rest := []) (lenOf pd_2 rfl) rfl (by show 2 * 0 + _ ≤ _; exact Nat.le_of_eq rfl) (hb hby at_386) (fun _ _ => ⟨rfl, e406, (by decide : 2 + 0 ≤ _), (by decide : 36 + 0 ≤ _)⟩)
    dsimp only [Pt.U, Pt.locs, Pt.cells, Pt.slots] at X411 l411 y411 z411 st411 hQ411
    subst l411 y411 z411
    obtain ⟨rfl, Nq411, e411⟩ := hQ411
    have N411 := Fr.app N410 Nq411
    have pr413 : ∀ tg, Steps pP.tables eE below (T411.setTop (mkF mM 389 #[.val (.int p1), .val (.int p2), .val (.long q0), .second, .val (.ref b2), .val (.long (5478551163 : Int64)), .second, .val (.int z245), .val (.ref r), .val (.int (2 : Int32)), .val (.ref b392), .unset, .unset, .unset] [(.ref b392)])) tg → Steps pP.tables eE below (s₁.setTop (entryFrame mM #[(.int p1), (.int p2), (.long q0)] maxLocals)) tg := fun tg kg => pr408 _ (st411.trans kg)
    clear pr408 st411 X410 e406
    obtain ⟨cla414, Ara414, qa414, Sa414, Ma414, Ha414, Ga414⟩ := id V406
    have hin415 : ¬ ((0 : Int32) < 0 ∨ cla414.slots.size ≤ ((0 : Int32)).toNatClampNeg) := inb_of Sa414 ⟨by decide, by decide⟩
    have hat415 : cla414.slots[((0 : Int32)).toNatClampNeg]? = some (.int (nar .byte q0.toInt32.toInt8.toInt32)) := Has.at Ha414 hin415 rfl
    have pr416 : ∀ tg, Steps pP.tables eE below (T411.setTop (mkF mM 405 #[.val (.int p1), .val (.int p2), .val (.long q0), .second, .val (.ref b2), .val (.long (5478551163 : Int64)), .second, .val (.int z245), .val (.ref r), .val (.int (2 : Int32)), .val (.ref b392), .val (.ref b392), .unset, .unset] [(.int (2 : Int32)), (.int (0 : Int32)), (.long q0), (.ref b392)])) tg → Steps pP.tables eE below (s₁.setTop (entryFrame mM #[(.int p1), (.int p2), (.long q0)] maxLocals)) tg := fun tg kg => pr413 _ (by
      show Steps pP.tables eE below (T411.setTop (mkF mM 389 #[.val (.int p1), .val (.int p2), .val (.long q0), .second, .val (.ref b2), .val (.long (5478551163 : Int64)), .second, .val (.int z245), .val (.ref r), .val (.int (2 : Int32)), .val (.ref b392), .unset, .unset, .unset] [(.ref b392)])) _
      refine XS.astore X411.here hx rfl (hb hby at_389) rfl rfl (l' := #[.val (.int p1), .val (.int p2), .val (.long q0), .second, .val (.ref b2), .val (.long (5478551163 : Int64)), .second, .val (.int z245), .val (.ref r), .val (.int (2 : Int32)), .val (.ref b392), .val (.ref b392), .unset, .unset]) rfl ?_
      refine XS.aload X411.here hx rfl (hb hby at_391) rfl rfl ?_
      show Steps pP.tables eE below (T411.setTop (mkF mM 393 #[.val (.int p1), .val (.int p2), .val (.long q0), .second, .val (.ref b2), .val (.long (5478551163 : Int64)), .second, .val (.int z245), .val (.ref r), .val (.int (2 : Int32)), .val (.ref b392), .val (.ref b392), .unset, .unset] [(.ref b392)])) _
      refine X411.arraylength hx (by rw [e411]; exact Ara414.1) (State.isArrayOf_alike hZ.alike Ara414.2.1) (g := (mkF mM 393 #[.val (.int p1), .val (.int p2), .val (.long q0), .second, .val (.ref b2), .val (.long (5478551163 : Int64)), .second, .val (.int z245), .val (.ref r), .val (.int (2 : Int32)), .val (.ref b392), .val (.ref b392), .unset, .unset] [(.ref b392)])) rfl rfl (hb hby at_393) _ ?_
      rw [len_of Sa414 Ma414]
      show Steps pP.tables eE below (T411.setTop (mkF mM 394 #[.val (.int p1), .val (.int p2), .val (.long q0), .second, .val (.ref b2), .val (.long (5478551163 : Int64)), .second, .val (.int z245), .val (.ref r), .val (.int (2 : Int32)), .val (.ref b392), .val (.ref b392), .unset, .unset] [(.int (2 : Int32))])) _
      refine XS.iload X411.here hx rfl (hb hby at_394) rfl ?_
      refine XS.icmpNo X411.here hx rfl (hb hby at_396) rfl (teq (by decide)).2 ?_
      refine XS.aload X411.here hx rfl (hb hby at_399) rfl rfl ?_
      refine XS.lloadN X411.here hx rfl (hb hby at_401) rfl ?_
      refine XS.iconst X411.here hx rfl (hb hby at_402) ?_
      refine XS.iload X411.here hx rfl (hb hby at_403) rfl ?_
      exact kg)
    clear pr413
    obtain ⟨Ls417, X417, N417⟩ := own_hide X411 N411
    clear X411 N411
    obtain ⟨_, _, ⟨T418, L418, kk418, nn418⟩, -, X418, ⟨Lc418, hQ418, l418, y418, z418⟩, st418⟩ := Jvm.LawKit.callS X417 hx (y := (⟨"com/example/tesserae/tesserae/value/VrPadPinLaw", "sameAt", "([BJII)Z"⟩ : MethodName)) hown (mvT hZ (hw _ (List.mem_of_getElem? (i := 95) rfl))) (mvT hZ (hw _ (List.mem_of_getElem? (i := 96) rfl))) (mvT hZ (hw _ (List.mem_of_getElem? (i := 97) rfl))) (mvT hZ (hw _ (List.mem_of_getElem? (i := 98) rfl))) (by decide) (backOf (W := 0) (rm5 l Z a0 hw [] b392 q0 (0 : Int32) (2 : Int32) cla414 (nar .byte q0.toInt32.toInt8.toInt32) h406 n0 c409 (by decide) Ara414 hin415 hat415 (own_w0 q0)) hZ (hw _ (List.mem_of_getElem? (i := 98) rfl)) (hw _ (List.mem_of_getElem? (i := 97) rfl)) (by decide) (by decide)) (g := (mkF mM 405 #[.val (.int p1), .val (.int p2), .val (.long q0), .second, .val (.ref b2), .val (.long (5478551163 : Int64)), .second, .val (.int z245), .val (.ref r), .val (.int (2 : Int32)), .val (.ref b392), .val (.ref b392), .unset, .unset] [(.int (2 : Int32)), (.int (0 : Int32)), (.long q0), (.ref b392)])) rfl (by rw [hml]; rfl) (argsL := [(.ref b392), (.long q0), (.int (0 : Int32)), (.int (2 : Int32))]) (rest := []) (lenOf pd_3 rfl) rfl (by show 2 * 0 + _ ≤ _; exact Nat.le_of_eq rfl) (hb hby at_405) (fun _ _ => ⟨rfl, e411, (by decide : 2 + 0 ≤ _), (by decide : 36 + 0 ≤ _)⟩)
    dsimp only [Pt.U, Pt.locs, Pt.cells, Pt.slots] at X418 l418 y418 z418 st418 hQ418
    subst l418 y418 z418
    obtain ⟨rfl, Nq418, e418⟩ := hQ418
    have N418 := Fr.app N417 Nq418
    have pr419 : ∀ tg, Steps pP.tables eE below (T418.setTop (mkF mM 408 #[.val (.int p1), .val (.int p2), .val (.long q0), .second, .val (.ref b2), .val (.long (5478551163 : Int64)), .second, .val (.int z245), .val (.ref r), .val (.int (2 : Int32)), .val (.ref b392), .val (.ref b392), .unset, .unset] [(.int (1 : Int32))])) tg → Steps pP.tables eE below (s₁.setTop (entryFrame mM #[(.int p1), (.int p2), (.long q0)] maxLocals)) tg := fun tg kg => pr416 _ (st418 _ kg)
    clear pr416 st418 X417 e411
    have hin420 : ¬ ((1 : Int32) < 0 ∨ cla414.slots.size ≤ ((1 : Int32)).toNatClampNeg) := inb_of Sa414 ⟨by decide, by decide⟩
    have hat420 : cla414.slots[((1 : Int32)).toNatClampNeg]? = some (.int (nar .byte ((q0.toUInt64 >>> ((8 : Int32) &&& 0x3f).toInt64.toUInt64).toInt64).toInt32.toInt8.toInt32)) := Has.at Ha414 hin420 rfl
    have pr421 : ∀ tg, Steps pP.tables eE below (T418.setTop (mkF mM 417 #[.val (.int p1), .val (.int p2), .val (.long q0), .second, .val (.ref b2), .val (.long (5478551163 : Int64)), .second, .val (.int z245), .val (.ref r), .val (.int (2 : Int32)), .val (.ref b392), .val (.ref b392), .unset, .unset] [(.int (2 : Int32)), (.int (1 : Int32)), (.long q0), (.ref b392)])) tg → Steps pP.tables eE below (s₁.setTop (entryFrame mM #[(.int p1), (.int p2), (.long q0)] maxLocals)) tg := fun tg kg => pr419 _ (by
      show Steps pP.tables eE below (T418.setTop (mkF mM 408 #[.val (.int p1), .val (.int p2), .val (.long q0), .second, .val (.ref b2), .val (.long (5478551163 : Int64)), .second, .val (.int z245), .val (.ref r), .val (.int (2 : Int32)), .val (.ref b392), .val (.ref b392), .unset, .unset] [(.int (1 : Int32))])) _
      refine XS.ifNo X418.here hx rfl (hb hby at_408) rfl ((if0 _ _).trans (feq (by decide)).1) ?_
      refine XS.aload X418.here hx rfl (hb hby at_411) rfl rfl ?_
      refine XS.lloadN X418.here hx rfl (hb hby at_413) rfl ?_
      refine XS.iconst X418.here hx rfl (hb hby at_414) ?_
      refine XS.iload X418.here hx rfl (hb hby at_415) rfl ?_
      exact kg)
    clear pr419
    obtain ⟨Ls422, X422, N422⟩ := own_hide X418 N418
    clear X418 N418
    obtain ⟨_, _, ⟨T423, L423, kk423, nn423⟩, -, X423, ⟨Lc423, hQ423, l423, y423, z423⟩, st423⟩ := Jvm.LawKit.callS X422 hx (y := (⟨"com/example/tesserae/tesserae/value/VrPadPinLaw", "sameAt", "([BJII)Z"⟩ : MethodName)) hown (mvT hZ (hw _ (List.mem_of_getElem? (i := 95) rfl))) (mvT hZ (hw _ (List.mem_of_getElem? (i := 96) rfl))) (mvT hZ (hw _ (List.mem_of_getElem? (i := 97) rfl))) (mvT hZ (hw _ (List.mem_of_getElem? (i := 98) rfl))) (by decide) (backOf (W := 0) (rm5 l Z a0 hw [] b392 q0 (1 : Int32) (2 : Int32) cla414 (nar .byte ((q0.toUInt64 >>> ((8 : Int32) &&& 0x3f).toInt64.toUInt64).toInt64).toInt32.toInt8.toInt32) h406 n0 c409 (by decide) Ara414 hin420 hat420 (own_w1 q0)) hZ (hw _ (List.mem_of_getElem? (i := 98) rfl)) (hw _ (List.mem_of_getElem? (i := 97) rfl)) (by decide) (by decide)) (g := (mkF mM 417 #[.val (.int p1), .val (.int p2), .val (.long q0), .second, .val (.ref b2), .val (.long (5478551163 : Int64)), .second, .val (.int z245), .val (.ref r), .val (.int (2 : Int32)), .val (.ref b392), .val (.ref b392), .unset, .unset] [(.int (2 : Int32)), (.int (1 : Int32)), (.long q0), (.ref b392)])) rfl (by rw [hml]; rfl) (argsL := [(.ref b392), (.long q0), (.int (1 : Int32)), (.int (2 : Int32))]) (rest := []) (lenOf pd_3 rfl) rfl (by show 2 * 0 + _ ≤ _; exact Nat.le_of_eq rfl) (hb hby at_417) (fun _ _ => ⟨rfl, e418, (by decide : 2 + 0 ≤ _), (by decide : 36 + 0 ≤ _)⟩)
    dsimp only [Pt.U, Pt.locs, Pt.cells, Pt.slots] at X423 l423 y423 z423 st423 hQ423
    subst l423 y423 z423
    obtain ⟨rfl, Nq423, e423⟩ := hQ423
    have N423 := Fr.app N422 Nq423
    have pr424 : ∀ tg, Steps pP.tables eE below (T423.setTop (mkF mM 420 #[.val (.int p1), .val (.int p2), .val (.long q0), .second, .val (.ref b2), .val (.long (5478551163 : Int64)), .second, .val (.int z245), .val (.ref r), .val (.int (2 : Int32)), .val (.ref b392), .val (.ref b392), .unset, .unset] [(.int (1 : Int32))])) tg → Steps pP.tables eE below (s₁.setTop (entryFrame mM #[(.int p1), (.int p2), (.long q0)] maxLocals)) tg := fun tg kg => pr421 _ (st423 _ kg)
    clear pr421 st423 X422 e418
    have pr425 : ∀ tg, Steps pP.tables eE below (T423.setTop (mkF mM 429 #[.val (.int p1), .val (.int p2), .val (.long q0), .second, .val (.ref b2), .val (.long (5478551163 : Int64)), .second, .val (.int z245), .val (.ref r), .val (.int (2 : Int32)), .val (.ref b392), .val (.ref b392), .unset, .unset] [(.int (2 : Int32)), (.int (2 : Int32)), (.long q0), (.ref b392)])) tg → Steps pP.tables eE below (s₁.setTop (entryFrame mM #[(.int p1), (.int p2), (.long q0)] maxLocals)) tg := fun tg kg => pr424 _ (by
      show Steps pP.tables eE below (T423.setTop (mkF mM 420 #[.val (.int p1), .val (.int p2), .val (.long q0), .second, .val (.ref b2), .val (.long (5478551163 : Int64)), .second, .val (.int z245), .val (.ref r), .val (.int (2 : Int32)), .val (.ref b392), .val (.ref b392), .unset, .unset] [(.int (1 : Int32))])) _
      refine XS.ifNo X423.here hx rfl (hb hby at_420) rfl ((if0 _ _).trans (feq (by decide)).1) ?_
      refine XS.aload X423.here hx rfl (hb hby at_423) rfl rfl ?_
      refine XS.lloadN X423.here hx rfl (hb hby at_425) rfl ?_
      refine XS.iconst X423.here hx rfl (hb hby at_426) ?_
      refine XS.iload X423.here hx rfl (hb hby at_427) rfl ?_
      exact kg)
    clear pr424
    obtain ⟨Ls426, X426, N426⟩ := own_hide X423 N423
    clear X423 N423
    obtain ⟨_, _, ⟨T427, L427, kk427, nn427⟩, -, X427, ⟨Lc427, hQ427, l427, y427, z427⟩, st427⟩ := Jvm.LawKit.callS X426 hx (y := (⟨"com/example/tesserae/tesserae/value/VrPadPinLaw", "sameAt", "([BJII)Z"⟩ : MethodName)) hown (mvT hZ (hw _ (List.mem_of_getElem? (i := 95) rfl))) (mvT hZ (hw _ (List.mem_of_getElem? (i := 96) rfl))) (mvT hZ (hw _ (List.mem_of_getElem? (i := 97) rfl))) (mvT hZ (hw _ (List.mem_of_getElem? (i := 98) rfl))) (by decide) (backOf (W := 0) (rm4 l Z a0 hw [] b392 q0 (2 : Int32) (2 : Int32) h406 n0 c409 (by decide)) hZ (hw _ (List.mem_of_getElem? (i := 98) rfl)) (hw _ (List.mem_of_getElem? (i := 97) rfl)) (by decide) (by decide)) (g := (mkF mM 429 #[.val (.int p1), .val (.int p2), .val (.long q0), .second, .val (.ref b2), .val (.long (5478551163 : Int64)), .second, .val (.int z245), .val (.ref r), .val (.int (2 : Int32)), .val (.ref b392), .val (.ref b392), .unset, .unset] [(.int (2 : Int32)), (.int (2 : Int32)), (.long q0), (.ref b392)])) rfl (by rw [hml]; rfl) (argsL := [(.ref b392), (.long q0), (.int (2 : Int32)), (.int (2 : Int32))]) (rest := []) (lenOf pd_3 rfl) rfl (by show 2 * 0 + _ ≤ _; exact Nat.le_of_eq rfl) (hb hby at_429) (fun _ _ => ⟨rfl, e423, (by decide : 2 + 0 ≤ _), (by decide : 36 + 0 ≤ _)⟩)
    dsimp only [Pt.U, Pt.locs, Pt.cells, Pt.slots] at X427 l427 y427 z427 st427 hQ427
    subst l427 y427 z427
    obtain ⟨rfl, Nq427, e427⟩ := hQ427
    have N427 := Fr.app N426 Nq427
    have pr428 : ∀ tg, Steps pP.tables eE below (T427.setTop (mkF mM 432 #[.val (.int p1), .val (.int p2), .val (.long q0), .second, .val (.ref b2), .val (.long (5478551163 : Int64)), .second, .val (.int z245), .val (.ref r), .val (.int (2 : Int32)), .val (.ref b392), .val (.ref b392), .unset, .unset] [(.int (1 : Int32))])) tg → Steps pP.tables eE below (s₁.setTop (entryFrame mM #[(.int p1), (.int p2), (.long q0)] maxLocals)) tg := fun tg kg => pr425 _ (st427 _ kg)
    clear pr425 st427 X426 e423
    have pr429 : ∀ tg, Steps pP.tables eE below (T427.setTop (mkF mM 441 #[.val (.int p1), .val (.int p2), .val (.long q0), .second, .val (.ref b2), .val (.long (5478551163 : Int64)), .second, .val (.int z245), .val (.ref r), .val (.int (2 : Int32)), .val (.ref b392), .val (.ref b392), .unset, .unset] [(.int (2 : Int32)), (.int (3 : Int32)), (.long q0), (.ref b392)])) tg → Steps pP.tables eE below (s₁.setTop (entryFrame mM #[(.int p1), (.int p2), (.long q0)] maxLocals)) tg := fun tg kg => pr428 _ (by
      show Steps pP.tables eE below (T427.setTop (mkF mM 432 #[.val (.int p1), .val (.int p2), .val (.long q0), .second, .val (.ref b2), .val (.long (5478551163 : Int64)), .second, .val (.int z245), .val (.ref r), .val (.int (2 : Int32)), .val (.ref b392), .val (.ref b392), .unset, .unset] [(.int (1 : Int32))])) _
      refine XS.ifNo X427.here hx rfl (hb hby at_432) rfl ((if0 _ _).trans (feq (by decide)).1) ?_
      refine XS.aload X427.here hx rfl (hb hby at_435) rfl rfl ?_
      refine XS.lloadN X427.here hx rfl (hb hby at_437) rfl ?_
      refine XS.iconst X427.here hx rfl (hb hby at_438) ?_
      refine XS.iload X427.here hx rfl (hb hby at_439) rfl ?_
      exact kg)
    clear pr428
    obtain ⟨Ls430, X430, N430⟩ := own_hide X427 N427
    clear X427 N427
    obtain ⟨_, _, ⟨T431, L431, kk431, nn431⟩, -, X431, ⟨Lc431, hQ431, l431, y431, z431⟩, st431⟩ := Jvm.LawKit.callS X430 hx (y := (⟨"com/example/tesserae/tesserae/value/VrPadPinLaw", "sameAt", "([BJII)Z"⟩ : MethodName)) hown (mvT hZ (hw _ (List.mem_of_getElem? (i := 95) rfl))) (mvT hZ (hw _ (List.mem_of_getElem? (i := 96) rfl))) (mvT hZ (hw _ (List.mem_of_getElem? (i := 97) rfl))) (mvT hZ (hw _ (List.mem_of_getElem? (i := 98) rfl))) (by decide) (backOf (W := 0) (rm4 l Z a0 hw [] b392 q0 (3 : Int32) (2 : Int32) h406 n0 c409 (by decide)) hZ (hw _ (List.mem_of_getElem? (i := 98) rfl)) (hw _ (List.mem_of_getElem? (i := 97) rfl)) (by decide) (by decide)) (g := (mkF mM 441 #[.val (.int p1), .val (.int p2), .val (.long q0), .second, .val (.ref b2), .val (.long (5478551163 : Int64)), .second, .val (.int z245), .val (.ref r), .val (.int (2 : Int32)), .val (.ref b392), .val (.ref b392), .unset, .unset] [(.int (2 : Int32)), (.int (3 : Int32)), (.long q0), (.ref b392)])) rfl (by rw [hml]; rfl) (argsL := [(.ref b392), (.long q0), (.int (3 : Int32)), (.int (2 : Int32))]) (rest := []) (lenOf pd_3 rfl) rfl (by show 2 * 0 + _ ≤ _; exact Nat.le_of_eq rfl) (hb hby at_441) (fun _ _ => ⟨rfl, e427, (by decide : 2 + 0 ≤ _), (by decide : 36 + 0 ≤ _)⟩)
    dsimp only [Pt.U, Pt.locs, Pt.cells, Pt.slots] at X431 l431 y431 z431 st431 hQ431
    subst l431 y431 z431
    obtain ⟨rfl, Nq431, e431⟩ := hQ431
    have N431 := Fr.app N430 Nq431
    have pr432 : ∀ tg, Steps pP.tables eE below (T431.setTop (mkF mM 444 #[.val (.int p1), .val (.int p2), .val (.long q0), .second, .val (.ref b2), .val (.long (5478551163 : Int64)), .second, .val (.int z245), .val (.ref r), .val (.int (2 : Int32)), .val (.ref b392), .val (.ref b392), .unset, .unset] [(.int (1 : Int32))])) tg → Steps pP.tables eE below (s₁.setTop (entryFrame mM #[(.int p1), (.int p2), (.long q0)] maxLocals)) tg := fun tg kg => pr429 _ (st431 _ kg)
    clear pr429 st431 X430 e427
    have pr433 : ∀ tg, Steps pP.tables eE below (T431.setTop (mkF mM 453 #[.val (.int p1), .val (.int p2), .val (.long q0), .second, .val (.ref b2), .val (.long (5478551163 : Int64)), .second, .val (.int z245), .val (.ref r), .val (.int (2 : Int32)), .val (.ref b392), .val (.ref b392), .unset, .unset] [(.int (2 : Int32)), (.int (4 : Int32)), (.long q0), (.ref b392)])) tg → Steps pP.tables eE below (s₁.setTop (entryFrame mM #[(.int p1), (.int p2), (.long q0)] maxLocals)) tg := fun tg kg => pr432 _ (by
      show Steps pP.tables eE below (T431.setTop (mkF mM 444 #[.val (.int p1), .val (.int p2), .val (.long q0), .second, .val (.ref b2), .val (.long (5478551163 : Int64)), .second, .val (.int z245), .val (.ref r), .val (.int (2 : Int32)), .val (.ref b392), .val (.ref b392), .unset, .unset] [(.int (1 : Int32))])) _
      refine XS.ifNo X431.here hx rfl (hb hby at_444) rfl ((if0 _ _).trans (feq (by decide)).1) ?_
      refine XS.aload X431.here hx rfl (hb hby at_447) rfl rfl ?_
      refine XS.lloadN X431.here hx rfl (hb hby at_449) rfl ?_
      refine XS.iconst X431.here hx rfl (hb hby at_450) ?_
      refine XS.iload X431.here hx rfl (hb hby at_451) rfl ?_
      exact kg)
    clear pr432
    obtain ⟨Ls434, X434, N434⟩ := own_hide X431 N431
    clear X431 N431
    obtain ⟨_, _, ⟨T435, L435, kk435, nn435⟩, -, X435, ⟨Lc435, hQ435, l435, y435, z435⟩, st435⟩ := Jvm.LawKit.callS X434 hx (y := (⟨"com/example/tesserae/tesserae/value/VrPadPinLaw", "sameAt", "([BJII)Z"⟩ : MethodName)) hown (mvT hZ (hw _ (List.mem_of_getElem? (i := 95) rfl))) (mvT hZ (hw _ (List.mem_of_getElem? (i := 96) rfl))) (mvT hZ (hw _ (List.mem_of_getElem? (i := 97) rfl))) (mvT hZ (hw _ (List.mem_of_getElem? (i := 98) rfl))) (by decide) (backOf (W := 0) (rm4 l Z a0 hw [] b392 q0 (4 : Int32) (2 : Int32) h406 n0 c409 (by decide)) hZ (hw _ (List.mem_of_getElem? (i := 98) rfl)) (hw _ (List.mem_of_getElem? (i := 97) rfl)) (by decide) (by decide)) (g := (mkF mM 453 #[.val (.int p1), .val (.int p2), .val (.long q0), .second, .val (.ref b2), .val (.long (5478551163 : Int64)), .second, .val (.int z245), .val (.ref r), .val (.int (2 : Int32)), .val (.ref b392), .val (.ref b392), .unset, .unset] [(.int (2 : Int32)), (.int (4 : Int32)), (.long q0), (.ref b392)])) rfl (by rw [hml]; rfl) (argsL := [(.ref b392), (.long q0), (.int (4 : Int32)), (.int (2 : Int32))]) (rest := []) (lenOf pd_3 rfl) rfl (by show 2 * 0 + _ ≤ _; exact Nat.le_of_eq rfl) (hb hby at_453) (fun _ _ => ⟨rfl, e431, (by decide : 2 + 0 ≤ _), (by decide : 36 + 0 ≤ _)⟩)
    dsimp only [Pt.U, Pt.locs, Pt.cells, Pt.slots] at X435 l435 y435 z435 st435 hQ435
    subst l435 y435 z435
    obtain ⟨rfl, Nq435, e435⟩ := hQ435
    have N435 := Fr.app N434 Nq435
    have pr436 : ∀ tg, Steps pP.tables eE below (T435.setTop (mkF mM 456 #[.val (.int p1), .val (.int p2), .val (.long q0), .second, .val (.ref b2), .val (.long (5478551163 : Int64)), .second, .val (.int z245), .val (.ref r), .val (.int (2 : Int32)), .val (.ref b392), .val (.ref b392), .unset, .unset] [(.int (1 : Int32))])) tg → Steps pP.tables eE below (s₁.setTop (entryFrame mM #[(.int p1), (.int p2), (.long q0)] maxLocals)) tg := fun tg kg => pr433 _ (st435 _ kg)
    clear pr433 st435 X434 e431
    have pr437 : ∀ tg, Steps pP.tables eE below (T435.setTop (mkF mM 465 #[.val (.int p1), .val (.int p2), .val (.long q0), .second, .val (.ref b2), .val (.long (5478551163 : Int64)), .second, .val (.int z245), .val (.ref r), .val (.int (2 : Int32)), .val (.ref b392), .val (.ref b392), .unset, .unset] [(.int (2 : Int32)), (.int (5 : Int32)), (.long q0), (.ref b392)])) tg → Steps pP.tables eE below (s₁.setTop (entryFrame mM #[(.int p1), (.int p2), (.long q0)] maxLocals)) tg := fun tg kg => pr436 _ (by
      show Steps pP.tables eE below (T435.setTop (mkF mM 456 #[.val (.int p1), .val (.int p2), .val (.long q0), .second, .val (.ref b2), .val (.long (5478551163 : Int64)), .second, .val (.int z245), .val (.ref r), .val (.int (2 : Int32)), .val (.ref b392), .val (.ref b392), .unset, .unset] [(.int (1 : Int32))])) _
      refine XS.ifNo X435.here hx rfl (hb hby at_456) rfl ((if0 _ _).trans (feq (by decide)).1) ?_
      refine XS.aload X435.here hx rfl (hb hby at_459) rfl rfl ?_
      refine XS.lloadN X435.here hx rfl (hb hby at_461) rfl ?_
      refine XS.iconst X435.here hx rfl (hb hby at_462) ?_
      refine XS.iload X435.here hx rfl (hb hby at_463) rfl ?_
      exact kg)
    clear pr436
    obtain ⟨Ls438, X438, N438⟩ := own_hide X435 N435
    clear X435 N435
    obtain ⟨_, _, ⟨T439, L439, kk439, nn439⟩, -, X439, ⟨Lc439, hQ439, l439, y439, z439⟩, st439⟩ := Jvm.LawKit.callS X438 hx (y := (⟨"com/example/tesserae/tesserae/value/VrPadPinLaw", "sameAt", "([BJII)Z"⟩ : MethodName)) hown (mvT hZ (hw _ (List.mem_of_getElem? (i := 95) rfl))) (mvT hZ (hw _ (List.mem_of_getElem? (i := 96) rfl))) (mvT hZ (hw _ (List.mem_of_getElem? (i := 97) rfl))) (mvT hZ (hw _ (List.mem_of_getElem? (i := 98) rfl))) (by decide) (backOf (W := 0) (rm4 l Z a0 hw [] b392 q0 (5 : Int32) (2 : Int32) h406 n0 c409 (by decide)) hZ (hw _ (List.mem_of_getElem? (i := 98) rfl)) (hw _ (List.mem_of_getElem? (i := 97) rfl)) (by decide) (by decide)) (g := (mkF mM 465 #[.val (.int p1), .val (.int p2), .val (.long q0), .second, .val (.ref b2), .val (.long (5478551163 : Int64)), .second, .val (.int z245), .val (.ref r), .val (.int (2 : Int32)), .val (.ref b392), .val (.ref b392), .unset, .unset] [(.int (2 : Int32)), (.int (5 : Int32)), (.long q0), (.ref b392)])) rfl (by rw [hml]; rfl) (argsL := [(.ref b392), (.long q0), (.int (5 : Int32)), (.int (2 : Int32))]) (rest := []) (lenOf pd_3 rfl) rfl (by show 2 * 0 + _ ≤ _; exact Nat.le_of_eq rfl) (hb hby at_465) (fun _ _ => ⟨rfl, e435, (by decide : 2 + 0 ≤ _), (by decide : 36 + 0 ≤ _)⟩)
    dsimp only [Pt.U, Pt.locs, Pt.cells, Pt.slots] at X439 l439 y439 z439 st439 hQ439
    subst l439 y439 z439
    obtain ⟨rfl, Nq439, e439⟩ := hQ439
    have N439 := Fr.app N438 Nq439
    have pr440 : ∀ tg, Steps pP.tables eE below (T439.setTop (mkF mM 468 #[.val (.int p1), .val (.int p2), .val (.long q0), .second, .val (.ref b2), .val (.long (5478551163 : Int64)), .second, .val (.int z245), .val (.ref r), .val (.int (2 : Int32)), .val (.ref b392), .val (.ref b392), .unset, .unset] [(.int (1 : Int32))])) tg → Steps pP.tables eE below (s₁.setTop (entryFrame mM #[(.int p1), (.int p2), (.long q0)] maxLocals)) tg := fun tg kg => pr437 _ (st439 _ kg)
    clear pr437 st439 X438 e435
    have pr441 : ∀ tg, Steps pP.tables eE below (T439.setTop (mkF mM 478 #[.val (.int p1), .val (.int p2), .val (.long q0), .second, .val (.ref b2), .val (.long (5478551163 : Int64)), .second, .val (.int z245), .val (.ref r), .val (.int (2 : Int32)), .val (.ref b392), .val (.ref b392), .unset, .unset] [(.int (2 : Int32)), (.int (6 : Int32)), (.long q0), (.ref b392)])) tg → Steps pP.tables eE below (s₁.setTop (entryFrame mM #[(.int p1), (.int p2), (.long q0)] maxLocals)) tg := fun tg kg => pr440 _ (by
      show Steps pP.tables eE below (T439.setTop (mkF mM 468 #[.val (.int p1), .val (.int p2), .val (.long q0), .second, .val (.ref b2), .val (.long (5478551163 : Int64)), .second, .val (.int z245), .val (.ref r), .val (.int (2 : Int32)), .val (.ref b392), .val (.ref b392), .unset, .unset] [(.int (1 : Int32))])) _
      refine XS.ifNo X439.here hx rfl (hb hby at_468) rfl ((if0 _ _).trans (feq (by decide)).1) ?_
      refine XS.aload X439.here hx rfl (hb hby at_471) rfl rfl ?_
      refine XS.lloadN X439.here hx rfl (hb hby at_473) rfl ?_
      refine XS.bipush X439.here hx rfl (hb hby at_474) ?_
      refine XS.iload X439.here hx rfl (hb hby at_476) rfl ?_
      exact kg)
    clear pr440
    obtain ⟨Ls442, X442, N442⟩ := own_hide X439 N439
    clear X439 N439
    obtain ⟨_, _, ⟨T443, L443, kk443, nn443⟩, -, X443, ⟨Lc443, hQ443, l443, y443, z443⟩, st443⟩ := Jvm.LawKit.callS X442 hx (y := (⟨"com/example/tesserae/tesserae/value/VrPadPinLaw", "sameAt", "([BJII)Z"⟩ : MethodName)) hown (mvT hZ (hw _ (List.mem_of_getElem? (i := 95) rfl))) (mvT hZ (hw _ (List.mem_of_getElem? (i := 96) rfl))) (mvT hZ (hw _ (List.mem_of_getElem? (i := 97) rfl))) (mvT hZ (hw _ (List.mem_of_getElem? (i := 98) rfl))) (by decide) (backOf (W := 0) (rm4 l Z a0 hw [] b392 q0 (6 : Int32) (2 : Int32) h406 n0 c409 (by decide)) hZ (hw _ (List.mem_of_getElem? (i := 98) rfl)) (hw _ (List.mem_of_getElem? (i := 97) rfl)) (by decide) (by decide)) (g := (mkF mM 478 #[.val (.int p1), .val (.int p2), .val (.long q0), .second, .val (.ref b2), .val (.long (5478551163 : Int64)), .second, .val (.int z245), .val (.ref r), .val (.int (2 : Int32)), .val (.ref b392), .val (.ref b392), .unset, .unset] [(.int (2 : Int32)), (.int (6 : Int32)), (.long q0), (.ref b392)])) rfl (by rw [hml]; rfl) (argsL := [(.ref b392), (.long q0), (.int (6 : Int32)), (.int (2 : Int32))]) (rest := []) (lenOf pd_3 rfl) rfl (by show 2 * 0 + _ ≤ _; exact Nat.le_of_eq rfl) (hb hby at_478) (fun _ _ => ⟨rfl, e439, (by decide : 2 + 0 ≤ _), (by decide : 36 + 0 ≤ _)⟩)
    dsimp only [Pt.U, Pt.locs, Pt.cells, Pt.slots] at X443 l443 y443 z443 st443 hQ443
    subst l443 y443 z443
    obtain ⟨rfl, Nq443, e443⟩ := hQ443
    have N443 := Fr.app N442 Nq443
    have pr444 : ∀ tg, Steps pP.tables eE below (T443.setTop (mkF mM 481 #[.val (.int p1), .val (.int p2), .val (.long q0), .second, .val (.ref b2), .val (.long (5478551163 : Int64)), .second, .val (.int z245), .val (.ref r), .val (.int (2 : Int32)), .val (.ref b392), .val (.ref b392), .unset, .unset] [(.int (1 : Int32))])) tg → Steps pP.tables eE below (s₁.setTop (entryFrame mM #[(.int p1), (.int p2), (.long q0)] maxLocals)) tg := fun tg kg => pr441 _ (st443 _ kg)
    clear pr441 st443 X442 e439
    have pr445 : ∀ tg, Steps pP.tables eE below (T443.setTop (mkF mM 515 #[.val (.int p1), .val (.int p2), .val (.long q0), .second, .val (.ref b2), .val (.long (5478551163 : Int64)), .second, .val (.int z245), .val (.ref r), .val (.int (2 : Int32)), .val (.ref b392), .val (.ref b392), .val (.int (1 : Int32)), .unset] [(.int (1 : Int32))])) tg → Steps pP.tables eE below (s₁.setTop (entryFrame mM #[(.int p1), (.int p2), (.long q0)] maxLocals)) tg := fun tg kg => pr444 _ (by
      show Steps pP.tables eE below (T443.setTop (mkF mM 481 #[.val (.int p1), .val (.int p2), .val (.long q0), .second, .val (.ref b2), .val (.long (5478551163 : Int64)), .second, .val (.int z245), .val (.ref r), .val (.int (2 : Int32)), .val (.ref b392), .val (.ref b392), .unset, .unset] [(.int (1 : Int32))])) _
      refine XS.ifNo X443.here hx rfl (hb hby at_481) rfl ((if0 _ _).trans (feq (by decide)).1) ?_
      refine XS.iconst X443.here hx rfl (hb hby at_484) ?_
      refine XS.goto X443.here hx rfl (pc0 := 485) (pc' := 489) rfl (hb hby at_485) (by decide) (by decide) ?_
      refine XS.istore X443.here hx rfl (hb hby at_489) rfl (l' := #[.val (.int p1), .val (.int p2), .val (.long q0), .second, .val (.ref b2), .val (.long (5478551163 : Int64)), .second, .val (.int z245), .val (.ref r), .val (.int (2 : Int32)), .val (.ref b392), .val (.ref b392), .val (.int (1 : Int32)), .unset]) rfl ?_
      refine XS.iload X443.here hx rfl (hb hby at_491) rfl ?_
      refine XS.iconst X443.here hx rfl (hb hby at_493) ?_
      show Steps pP.tables eE below (T443.setTop (mkF mM 494 #[.val (.int p1), .val (.int p2), .val (.long q0), .second, .val (.ref b2), .val (.long (5478551163 : Int64)), .second, .val (.int z245), .val (.ref r), .val (.int (2 : Int32)), .val (.ref b392), .val (.ref b392), .val (.int (1 : Int32)), .unset] [(.int (1 : Int32)), (.int (2 : Int32))])) _
      refine XS.iand X443.here hx rfl (hb hby at_494) rfl ?_
      refine XS.ifNo X443.here hx rfl (hb hby at_495) rfl ((if0 _ _).trans (teq (by decide)).2) ?_
      refine XS.iload X443.here hx rfl (hb hby at_498) rfl ?_
      refine XS.ifNo X443.here hx rfl (hb hby at_500) rfl ((if0 _ _).trans (feq (by decide)).1) ?_
      refine XS.aload X443.here hx rfl (hb hby at_503) rfl rfl ?_
      refine XS.aload X443.here hx rfl (hb hby at_505) rfl rfl ?_
      show Steps pP.tables eE below (T443.setTop (mkF mM 507 #[.val (.int p1), .val (.int p2), .val (.long q0), .second, .val (.ref b2), .val (.long (5478551163 : Int64)), .second, .val (.int z245), .val (.ref r), .val (.int (2 : Int32)), .val (.ref b392), .val (.ref b392), .val (.int (1 : Int32)), .unset] [(.ref b392), (.ref b392)])) _
      refine Jvm.RoadKit.acmp (g := (mkF mM 507 #[.val (.int p1), .val (.int p2), .val (.long q0), .second, .val (.ref b2), .val (.long (5478551163 : Int64)), .second, .val (.int z245), .val (.ref r), .val (.int (2 : Int32)), .val (.ref b392), .val (.ref b392), .val (.int (1 : Int32)), .unset] [(.ref b392), (.ref b392)])) X443 hx rfl rfl rfl (pc0 := 507) (pc' := 510) (same := true) rfl (hb hby at_507) rfl (decide_eq_true rfl) (by decide) (by decide) ?_
      show Steps pP.tables eE below (T443.setTop (mkF mM 510 #[.val (.int p1), .val (.int p2), .val (.long q0), .second, .val (.ref b2), .val (.long (5478551163 : Int64)), .second, .val (.int z245), .val (.ref r), .val (.int (2 : Int32)), .val (.ref b392), .val (.ref b392), .val (.int (1 : Int32)), .unset] [])) _
      refine XS.iconst X443.here hx rfl (hb hby at_510) ?_
      refine XS.goto X443.here hx rfl (pc0 := 511) (pc' := 515) rfl (hb hby at_511) (by decide) (by decide) ?_
      exact kg)
    clear pr444
    obtain ⟨fs, hr, hrun, hended, hW, hsame⟩ := X443.leave (v := some (.int (1 : Int32))) (fun h => by rw [Bd.returns] at h; cases h)
    refine ⟨_, _, pr445 _ (retOut X443 hx (t := .boolean) Bd.returns rfl (Or.inl ⟨rfl, Or.inr (Or.inl rfl), _, rfl⟩) (hb hby at_515) hr), hrun, hended, _, _, rfl, ?_, ⟨_, rfl⟩, hW, hsame.mono (by decide) (by decide)⟩
    show Q0 Z p1 p2 q0 a_AE a_AS a_AT a_CS a_DA a_DS a_DT a_FD a_FL a_IS a_LO a_LT a_OB a_OD a_OF a_OL a_OV a_OW a_PN a_SH a_SL a_SQ a_SS a_ST a_SV a_TM a_UC a_UI a_UL a_UN a_UR a_US a_UT a_UV h0 n0 _ T443.heap _
    rw [e443]
    exact ⟨rfl, N443⟩
  ·
    have pr446 : ∀ tg, Steps pP.tables eE below (T242.setTop (mkF mM 268 #[.val (.int p1), .val (.int p2), .val (.long q0), .second, .val (.ref b2), .val (.long (5478551163 : Int64)), .second, .val (.int z245), .val (.ref r), .val (.int (3 : Int32)), .unset, .unset, .unset, .unset] [(.int (3 : Int32))])) tg → Steps pP.tables eE below (s₁.setTop (entryFrame mM #[(.int p1), (.int p2), (.long q0)] maxLocals)) tg := fun tg kg => pr251 _ (by
      show Steps pP.tables eE below (T242.setTop (mkF mM 266 #[.val (.int p1), .val (.int p2), .val (.long q0), .second, .val (.ref b2), .val (.long (5478551163 : Int64)), .second, .val (.int z245), .val (.ref r), .val (.int (3 : Int32)), .unset, .unset, .unset, .unset] [])) _
      refine XS.iload X242.here hx rfl (hb hby at_266) rfl ?_
      exact kg)
    clear pr251
    obtain ⟨T447, h447, k447, X447, e447, E447, A447, Ex447, st447⟩ := newPE X242 hx hZ (hw _ (List.mem_of_getElem? (i := 74) rfl)) e242 (g := (mkF mM 268 #[.val (.int p1), .val (.int p2), .val (.long q0), .second, .val (.ref b2), .val (.long (5478551163 : Int64)), .second, .val (.int z245), .val (.ref r), .val (.int (3 : Int32)), .unset, .unset, .unset, .unset] [(.int (3 : Int32))])) rfl (hb hby at_268) rfl (by decide) (cap := 3) (by decide) (by decide) (by decide) (by decide) (ad := "[B") rfl
    obtain ⟨b447, g447⟩ : ∃ z, z = (h242).size := ⟨_, rfl⟩
    rw [← g447] at A447 Ex447 st447
    have ne448 : b2 ≠ b447 := Nat.ne_of_lt (Nat.lt_of_lt_of_le (V242).lt (Nat.le_of_eq g447.symm))
    have c450 := (Nat.le_trans (Nat.le_trans (Nat.le_trans (Nat.le_trans (Nat.le_trans (Nat.le_trans (Nat.le_trans (Nat.le_trans (Nat.le_trans (Nat.le_trans (Nat.le_trans (Nat.le_trans (Nat.le_trans (Nat.le_trans (Nat.le_trans (Nat.le_trans (Nat.le_trans (Nat.le_trans (Nat.le_trans (Nat.le_trans (Nat.le_trans (Nat.le_trans (Nat.le_trans (Nat.le_trans (Nat.le_trans (Nat.le_trans (Nat.le_trans (Nat.le_trans (Nat.le_trans (Nat.le_trans (Nat.le_trans (Nat.le_trans (Nat.le_trans (Nat.le_trans (Nat.le_trans Z0 E2.1) (Keep.of_wr W11).1) (Keep.of_wr W18).1) (Keep.of_wr W25).1) (Keep.of_wr W32).1) (Keep.of_wr W39).1) (Keep.of_wr W46).1) (Keep.of_wr W53).1) (Keep.of_wr W60).1) (Keep.of_wr W67).1) (Keep.of_wr W74).1) (Keep.of_wr W81).1) (Keep.of_wr W88).1) (Keep.of_wr W95).1) (Keep.of_wr W102).1) (Keep.of_wr W109).1) (Keep.of_wr W116).1) (Keep.of_wr W123).1) (Keep.of_wr W130).1) (Keep.of_wr W137).1) (Keep.of_wr W144).1) (Keep.of_wr W151).1) (Keep.of_wr W158).1) (Keep.of_wr W165).1) (Keep.of_wr W172).1) (Keep.of_wr W179).1) (Keep.of_wr W186).1) (Keep.of_wr W193).1) (Keep.of_wr W200).1) (Keep.of_wr W207).1) (Keep.of_wr W214).1) (Keep.of_wr W221).1) (Keep.of_wr W228).1) (Keep.of_wr W235).1) (Keep.of_wr W242).1)
    have gn449 : n0 ≤ b447 := Nat.le_trans c450 (Nat.le_of_eq g447.symm)
    have c452 := (Keep.wr (Keep.wr (Keep.wr (Keep.wr (Keep.wr (Keep.wr (Keep.wr (Keep.wr (Keep.wr (Keep.wr (Keep.wr (Keep.wr (Keep.wr (Keep.wr (Keep.wr (Keep.wr (Keep.wr (Keep.wr (Keep.wr (Keep.wr (Keep.wr (Keep.wr (Keep.wr (Keep.wr (Keep.wr (Keep.wr (Keep.wr (Keep.wr (Keep.wr (Keep.wr (Keep.wr (Keep.wr (Keep.wr (Keep.wr (Keep.ext (Keep.refl h0 []) E2) W11 (Or.inr gs4)) W18 (Or.inr gs4)) W25 (Or.inr gs4)) W32 (Or.inr gs4)) W39 (Or.inr gs4)) W46 (Or.inr gs4)) W53 (Or.inr gs4)) W60 (Or.inr gs4)) W67 (Or.inr gs4)) W74 (Or.inr gs4)) W81 (Or.inr gs4)) W88 (Or.inr gs4)) W95 (Or.inr gs4)) W102 (Or.inr gs4)) W109 (Or.inr gs4)) W116 (Or.inr gs4)) W123 (Or.inr gs4)) W130 (Or.inr gs4)) W137 (Or.inr gs4)) W144 (Or.inr gs4)) W151 (Or.inr gs4)) W158 (Or.inr gs4)) W165 (Or.inr gs4)) W172 (Or.inr gs4)) W179 (Or.inr gs4)) W186 (Or.inr gs4)) W193 (Or.inr gs4)) W200 (Or.inr gs4)) W207 (Or.inr gs4)) W214 (Or.inr gs4)) W221 (Or.inr gs4)) W228 (Or.inr gs4)) W235 (Or.inr gs4)) W242 (Or.inr gs4))
    have gs451 : h0.size ≤ b447 := Nat.le_trans c452.1 (Nat.le_of_eq g447.symm)
    have c453 := (Old.wr c239 W242 gn3)
    have V447 : Arv Z h447 b447 k447 .byte (3 : Int32) [(.int (0 : Int32)), (.int (0 : Int32)), (.int (0 : Int32))] (.int (0 : Int32)) := (Arv.new A447 (by decide)).pad (pad_rep [] (.int (0 : Int32)) 3)
    have pr454 : ∀ tg, Steps pP.tables eE below (T447.setTop (mkF mM 270 #[.val (.int p1), .val (.int p2), .val (.long q0), .second, .val (.ref b2), .val (.long (5478551163 : Int64)), .second, .val (.int z245), .val (.ref r), .val (.int (3 : Int32)), .unset, .unset, .unset, .unset] [(.ref b447)])) tg → Steps pP.tables eE below (s₁.setTop (entryFrame mM #[(.int p1), (.int p2), (.long q0)] maxLocals)) tg := fun tg kg => pr446 _ (st447 _ kg)
    clear pr446 st447 X242 e242
    have pr455 : ∀ tg, Steps pP.tables eE below (T447.setTop (mkF mM 283 #[.val (.int p1), .val (.int p2), .val (.long q0), .second, .val (.ref b2), .val (.long (5478551163 : Int64)), .second, .val (.int z245), .val (.ref r), .val (.int (3 : Int32)), .val (.ref b447), .unset, .unset, .unset] [(.int q0.toInt32.toInt8.toInt32), (.int (0 : Int32)), (.ref b447)])) tg → Steps pP.tables eE below (s₁.setTop (entryFrame mM #[(.int p1), (.int p2), (.long q0)] maxLocals)) tg := fun tg kg => pr454 _ (by
      show Steps pP.tables eE below (T447.setTop (mkF mM 270 #[.val (.int p1), .val (.int p2), .val (.long q0), .second, .val (.ref b2), .val (.long (5478551163 : Int64)), .second, .val (.int z245), .val (.ref r), .val (.int (3 : Int32)), .unset, .unset, .unset, .unset] [(.ref b447)])) _
      refine XS.astore X447.here hx rfl (hb hby at_270) rfl rfl (l' := #[.val (.int p1), .val (.int p2), .val (.long q0), .second, .val (.ref b2), .val (.long (5478551163 : Int64)), .second, .val (.int z245), .val (.ref r), .val (.int (3 : Int32)), .val (.ref b447), .unset, .unset, .unset]) rfl ?_
      refine XS.iload X447.here hx rfl (hb hby at_272) rfl ?_
      refine XS.ifNo X447.here hx rfl (hb hby at_274) rfl ((if0 _ _).trans (tlt (by decide)).2.2.2) ?_
      refine XS.aload X447.here hx rfl (hb hby at_277) rfl rfl ?_
      refine XS.iconst X447.here hx rfl (hb hby at_279) ?_
      refine XS.lloadN X447.here hx rfl (hb hby at_280) rfl ?_
      show Steps pP.tables eE below (T447.setTop (mkF mM 281 #[.val (.int p1), .val (.int p2), .val (.long q0), .second, .val (.ref b2), .val (.long (5478551163 : Int64)), .second, .val (.int z245), .val (.ref r), .val (.int (3 : Int32)), .val (.ref b447), .unset, .unset, .unset] [(.long q0), (.int (0 : Int32)), (.ref b447)])) _
      refine XS.l2i X447.here hx rfl (hb hby at_281) rfl ?_
      refine XS.i2b X447.here hx rfl (hb hby at_282) rfl ?_
      exact kg)
    clear pr454
    obtain ⟨cla456, Ara456, qa456, Sa456, Ma456, Ha456, Ga456⟩ := id V447
    have hin457 : ¬ ((0 : Int32) < 0 ∨ cla456.slots.size ≤ ((0 : Int32)).toNatClampNeg) := inb_of Sa456 ⟨by decide, by decide⟩
    obtain ⟨T457, h457, X457, e457, W457, st457⟩ := stB X447 hx hZ e447 Ara456 (j := (0 : Int32)) hin457 (g := (mkF mM 283 #[.val (.int p1), .val (.int p2), .val (.long q0), .second, .val (.ref b2), .val (.long (5478551163 : Int64)), .second, .val (.int z245), .val (.ref r), .val (.int (3 : Int32)), .val (.ref b447), .unset, .unset, .unset] [(.int q0.toInt32.toInt8.toInt32), (.int (0 : Int32)), (.ref b447)])) rfl rfl (hb hby at_283)
    have V457 : Arv Z h457 b447 k447 .byte (3 : Int32) [(.int (nar .byte q0.toInt32.toInt8.toInt32)), (.int (0 : Int32)), (.int (0 : Int32))] (.int (0 : Int32)) := Arv.set Ara456 qa456 Sa456 Ma456 Ha456 Ga456 (fits_nar_byte _) W457 0 rfl (Nat.le_of_ble_eq_true rfl)
    have N457 := Fr.snoc X457 N242 gn449
    have pr458 : ∀ tg, Steps pP.tables eE below (T457.setTop (mkF mM 284 #[.val (.int p1), .val (.int p2), .val (.long q0), .second, .val (.ref b2), .val (.long (5478551163 : Int64)), .second, .val (.int z245), .val (.ref r), .val (.int (3 : Int32)), .val (.ref b447), .unset, .unset, .unset] [])) tg → Steps pP.tables eE below (s₁.setTop (entryFrame mM #[(.int p1), (.int p2), (.long q0)] maxLocals)) tg := fun tg kg => pr455 _ (st457 _ kg)
    clear pr455 st457 X447 e447
    have pr459 : ∀ tg, Steps pP.tables eE below (T457.setTop (mkF mM 299 #[.val (.int p1), .val (.int p2), .val (.long q0), .second, .val (.ref b2), .val (.long (5478551163 : Int64)), .second, .val (.int z245), .val (.ref r), .val (.int (3 : Int32)), .val (.ref b447), .unset, .unset, .unset] [(.int ((q0.toUInt64 >>> ((8 : Int32) &&& 0x3f).toInt64.toUInt64).toInt64).toInt32.toInt8.toInt32), (.int (1 : Int32)), (.ref b447)])) tg → Steps pP.tables eE below (s₁.setTop (entryFrame mM #[(.int p1), (.int p2), (.long q0)] maxLocals)) tg := fun tg kg => pr458 _ (by
      show Steps pP.tables eE below (T457.setTop (mkF mM 284 #[.val (.int p1), .val (.int p2), .val (.long q0), .second, .val (.ref b2), .val (.long (5478551163 : Int64)), .second, .val (.int z245), .val (.ref r), .val (.int (3 : Int32)), .val (.ref b447), .unset, .unset, .unset] [])) _
      refine XS.iload X457.here hx rfl (hb hby at_284) rfl ?_
      refine XS.iconst X457.here hx rfl (hb hby at_286) ?_
      refine XS.icmpNo X457.here hx rfl (hb hby at_287) rfl (tlt (by decide)).2.2.2 ?_
      refine XS.aload X457.here hx rfl (hb hby at_290) rfl rfl ?_
      refine XS.iconst X457.here hx rfl (hb hby at_292) ?_
      refine XS.lloadN X457.here hx rfl (hb hby at_293) rfl ?_
      show Steps pP.tables eE below (T457.setTop (mkF mM 294 #[.val (.int p1), .val (.int p2), .val (.long q0), .second, .val (.ref b2), .val (.long (5478551163 : Int64)), .second, .val (.int z245), .val (.ref r), .val (.int (3 : Int32)), .val (.ref b447), .unset, .unset, .unset] [(.long q0), (.int (1 : Int32)), (.ref b447)])) _
      refine XS.bipush X457.here hx rfl (hb hby at_294) ?_
      refine XS.lushr X457.here hx rfl (hb hby at_296) rfl ?_
      refine XS.l2i X457.here hx rfl (hb hby at_297) rfl ?_
      refine XS.i2b X457.here hx rfl (hb hby at_298) rfl ?_
      exact kg)
    clear pr458
    obtain ⟨cla460, Ara460, qa460, Sa460, Ma460, Ha460, Ga460⟩ := id V457
    have hin461 : ¬ ((1 : Int32) < 0 ∨ cla460.slots.size ≤ ((1 : Int32)).toNatClampNeg) := inb_of Sa460 ⟨by decide, by decide⟩
    obtain ⟨T461, h461, X461, e461, W461, st461⟩ := stB X457 hx hZ e457 Ara460 (j := (1 : Int32)) hin461 (g := (mkF mM 299 #[.val (.int p1), .val (.int p2), .val (.long q0), .second, .val (.ref b2), .val (.long (5478551163 : Int64)), .second, .val (.int z245), .val (.ref r), .val (.int (3 : Int32)), .val (.ref b447), .unset, .unset, .unset] [(.int ((q0.toUInt64 >>> ((8 : Int32) &&& 0x3f).toInt64.toUInt64).toInt64).toInt32.toInt8.toInt32), (.int (1 : Int32)), (.ref b447)])) rfl rfl (hb hby at_299)
    have V461 : Arv Z h461 b447 k447 .byte (3 : Int32) [(.int (nar .byte q0.toInt32.toInt8.toInt32)), (.int (nar .byte ((q0.toUInt64 >>> ((8 : Int32) &&& 0x3f).toInt64.toUInt64).toInt64).toInt32.toInt8.toInt32)), (.int (0 : Int32))] (.int (0 : Int32)) := Arv.set Ara460 qa460 Sa460 Ma460 Ha460 Ga460 (fits_nar_byte _) W461 1 rfl (Nat.le_of_ble_eq_true rfl)
    have N461 := Fr.snoc X461 N457 gn449
    have pr462 : ∀ tg, Steps pP.tables eE below (T461.setTop (mkF mM 300 #[.val (.int p1), .val (.int p2), .val (.long q0), .second, .val (.ref b2), .val (.long (5478551163 : Int64)), .second, .val (.int z245), .val (.ref r), .val (.int (3 : Int32)), .val (.ref b447), .unset, .unset, .unset] [])) tg → Steps pP.tables eE below (s₁.setTop (entryFrame mM #[(.int p1), (.int p2), (.long q0)] maxLocals)) tg := fun tg kg => pr459 _ (st461 _ kg)
    clear pr459 st461 X457 e457
    have pr463 : ∀ tg, Steps pP.tables eE below (T461.setTop (mkF mM 315 #[.val (.int p1), .val (.int p2), .val (.long q0), .second, .val (.ref b2), .val (.long (5478551163 : Int64)), .second, .val (.int z245), .val (.ref r), .val (.int (3 : Int32)), .val (.ref b447), .unset, .unset, .unset] [(.int ((q0.toUInt64 >>> ((16 : Int32) &&& 0x3f).toInt64.toUInt64).toInt64).toInt32.toInt8.toInt32), (.int (2 : Int32)), (.ref b447)])) tg → Steps pP.tables eE below (s₁.setTop (entryFrame mM #[(.int p1), (.int p2), (.long q0)] maxLocals)) tg := fun tg kg => pr462 _ (by
      show Steps pP.tables eE below (T461.setTop (mkF mM 300 #[.val (.int p1), .val (.int p2), .val (.long q0), .second, .val (.ref b2), .val (.long (5478551163 : Int64)), .second, .val (.int z245), .val (.ref r), .val (.int (3 : Int32)), .val (.ref b447), .unset, .unset, .unset] [])) _
      refine XS.iload X461.here hx rfl (hb hby at_300) rfl ?_
      refine XS.iconst X461.here hx rfl (hb hby at_302) ?_
      refine XS.icmpNo X461.here hx rfl (hb hby at_303) rfl (tlt (by decide)).2.2.2 ?_
      refine XS.aload X461.here hx rfl (hb hby at_306) rfl rfl ?_
      refine XS.iconst X461.here hx rfl (hb hby at_308) ?_
      refine XS.lloadN X461.here hx rfl (hb hby at_309) rfl ?_
      show Steps pP.tables eE below (T461.setTop (mkF mM 310 #[.val (.int p1), .val (.int p2), .val (.long q0), .second, .val (.ref b2), .val (.long (5478551163 : Int64)), .second, .val (.int z245), .val (.ref r), .val (.int (3 : Int32)), .val (.ref b447), .unset, .unset, .unset] [(.long q0), (.int (2 : Int32)), (.ref b447)])) _
      refine XS.bipush X461.here hx rfl (hb hby at_310) ?_
      refine XS.lushr X461.here hx rfl (hb hby at_312) rfl ?_
      refine XS.l2i X461.here hx rfl (hb hby at_313) rfl ?_
      refine XS.i2b X461.here hx rfl (hb hby at_314) rfl ?_
      exact kg)
    clear pr462
    obtain ⟨cla464, Ara464, qa464, Sa464, Ma464, Ha464, Ga464⟩ := id V461
    have hin465 : ¬ ((2 : Int32) < 0 ∨ cla464.slots.size ≤ ((2 : Int32)).toNatClampNeg) := inb_of Sa464 ⟨by decide, by decide⟩
    obtain ⟨T465, h465, X465, e465, W465, st465⟩ := stB X461 hx hZ e461 Ara464 (j := (2 : Int32)) hin465 (g := (mkF mM 315 #[.val (.int p1), .val (.int p2), .val (.long q0), .second, .val (.ref b2), .val (.long (5478551163 : Int64)), .second, .val (.int z245), .val (.ref r), .val (.int (3 : Int32)), .val (.ref b447), .unset, .unset, .unset] [(.int ((q0.toUInt64 >>> ((16 : Int32) &&& 0x3f).toInt64.toUInt64).toInt64).toInt32.toInt8.toInt32), (.int (2 : Int32)), (.ref b447)])) rfl rfl (hb hby at_315)
    have V465 : Arv Z h465 b447 k447 .byte (3 : Int32) [(.int (nar .byte q0.toInt32.toInt8.toInt32)), (.int (nar .byte ((q0.toUInt64 >>> ((8 : Int32) &&& 0x3f).toInt64.toUInt64).toInt64).toInt32.toInt8.toInt32)), (.int (nar .byte ((q0.toUInt64 >>> ((16 : Int32) &&& 0x3f).toInt64.toUInt64).toInt64).toInt32.toInt8.toInt32))] (.int (0 : Int32)) := Arv.set Ara464 qa464 Sa464 Ma464 Ha464 Ga464 (fits_nar_byte _) W465 2 rfl (Nat.le_of_ble_eq_true rfl)
    have N465 := Fr.snoc X465 N461 gn449
    have pr466 : ∀ tg, Steps pP.tables eE below (T465.setTop (mkF mM 316 #[.val (.int p1), .val (.int p2), .val (.long q0), .second, .val (.ref b2), .val (.long (5478551163 : Int64)), .second, .val (.int z245), .val (.ref r), .val (.int (3 : Int32)), .val (.ref b447), .unset, .unset, .unset] [])) tg → Steps pP.tables eE below (s₁.setTop (entryFrame mM #[(.int p1), (.int p2), (.long q0)] maxLocals)) tg := fun tg kg => pr463 _ (st465 _ kg)
    clear pr463 st465 X461 e461
    have c467 := (Old.wr (Old.wr (Old.wr (Old.ext c453 E447) W457 gn449) W461 gn449) W465 gn449)
    have pr468 : ∀ tg, Steps pP.tables eE below (T465.setTop (mkF mM 386 #[.val (.int p1), .val (.int p2), .val (.long q0), .second, .val (.ref b2), .val (.long (5478551163 : Int64)), .second, .val (.int z245), .val (.ref r), .val (.int (3 : Int32)), .val (.ref b447), .unset, .unset, .unset] [(.ref b447), (.ref r)])) tg → Steps pP.tables eE below (s₁.setTop (entryFrame mM #[(.int p1), (.int p2), (.long q0)] maxLocals)) tg := fun tg kg => pr466 _ (by
      show Steps pP.tables eE below (T465.setTop (mkF mM 316 #[.val (.int p1), .val (.int p2), .val (.long q0), .second, .val (.ref b2), .val (.long (5478551163 : Int64)), .second, .val (.int z245), .val (.ref r), .val (.int (3 : Int32)), .val (.ref b447), .unset, .unset, .unset] [])) _
      refine XS.iload X465.here hx rfl (hb hby at_316) rfl ?_
      refine XS.iconst X465.here hx rfl (hb hby at_318) ?_
      refine XS.icmpYes X465.here hx rfl (pc0 := 319) (pc' := 332) rfl (hb hby at_319) rfl (flt (by decide)).2.2.2 (by decide) (by decide) ?_
      refine XS.iload X465.here hx rfl (hb hby at_332) rfl ?_
      refine XS.iconst X465.here hx rfl (hb hby at_334) ?_
      refine XS.icmpYes X465.here hx rfl (pc0 := 335) (pc' := 348) rfl (hb hby at_335) rfl (flt (by decide)).2.2.2 (by decide) (by decide) ?_
      show Steps pP.tables eE below (T465.setTop (mkF mM 348 #[.val (.int p1), .val (.int p2), .val (.long q0), .second, .val (.ref b2), .val (.long (5478551163 : Int64)), .second, .val (.int z245), .val (.ref r), .val (.int (3 : Int32)), .val (.ref b447), .unset, .unset, .unset] [])) _
      refine XS.iload X465.here hx rfl (hb hby at_348) rfl ?_
      refine XS.iconst X465.here hx rfl (hb hby at_350) ?_
      refine XS.icmpYes X465.here hx rfl (pc0 := 351) (pc' := 364) rfl (hb hby at_351) rfl (flt (by decide)).2.2.2 (by decide) (by decide) ?_
      refine XS.iload X465.here hx rfl (hb hby at_364) rfl ?_
      refine XS.bipush X465.here hx rfl (hb hby at_366) ?_
      refine XS.icmpYes X465.here hx rfl (pc0 := 368) (pc' := 382) rfl (hb hby at_368) rfl (flt (by decide)).2.2.2 (by decide) (by decide) ?_
      show Steps pP.tables eE below (T465.setTop (mkF mM 382 #[.val (.int p1), .val (.int p2), .val (.long q0), .second, .val (.ref b2), .val (.long (5478551163 : Int64)), .second, .val (.int z245), .val (.ref r), .val (.int (3 : Int32)), .val (.ref b447), .unset, .unset, .unset] [])) _
      refine XS.aload X465.here hx rfl (hb hby at_382) rfl rfl ?_
      refine XS.aload X465.here hx rfl (hb hby at_384) rfl rfl ?_
      exact kg)
    clear pr466
    have c469 := (Nat.le_trans (Nat.le_trans (Nat.le_trans (Nat.le_trans c450 E447.1) (Keep.of_wr W457).1) (Keep.of_wr W461).1) (Keep.of_wr W465).1)
    obtain ⟨Ls470, X470, N470⟩ := own_hide X465 N465
    clear X465 N465
    obtain ⟨cq471, kq471, qa471, qb471, qc471⟩ := isOf hZ e465 (Exa.ext (c467).2 hx2)
    obtain ⟨_, _, ⟨T471, L471, kk471, nn471⟩, -, X471, ⟨Lc471, hQ471, l471, y471, z471⟩, st471⟩ := X470.virtualBack hx (y := (⟨"com/example/tesserae/tesserae/value/Vr", "pad", "([B)[B"⟩ : MethodName)) (z := (⟨"com/example/tesserae/tesserae/value/Vr", "pad", "([B)[B"⟩ : MethodName)) hown (mvT hZ (hw _ (List.mem_of_getElem? (i := 75) rfl))) (mvT hZ (hw _ (List.mem_of_getElem? (i := 76) rfl))) (notFace_of_selects (args := #[]) (mvT hZ (hw _ (List.mem_of_getElem? (i := 78) rfl)))) (mvT hZ (hw _ (List.mem_of_getElem? (i := 78) rfl))) (mvT hZ (hw _ (List.mem_of_getElem? (i := 77) rfl))) (by decide) (backOf (W := 0) (rm33 l Z a0 hw [] r tx pv a_UI b447 k447 (nar .byte q0.toInt32.toInt8.toInt32) (nar .byte ((q0.toUInt64 >>> ((8 : Int32) &&& 0x3f).toInt64.toUInt64).toInt64).toInt32.toInt8.toInt32) (nar .byte ((q0.toUInt64 >>> ((16 : Int32) &&& 0x3f).toInt64.toUInt64).toInt64).toInt32.toInt8.toInt32) h465 n0 c469 c467 S_UI hx2 hx3 hx4 V465) hZ (hw _ (List.mem_of_getElem? (i := 79) rfl)) (hw _ (List.mem_of_getElem? (i := 3) rfl)) (by decide) (by decide)) qa471 qc471 (g := (mkF mM 386 #[.val (.int p1), .val (.int p2), .val (.long q0), .second, .val (.ref b2), .val (.long (5478551163 : Int64)), .second, .val (.int z245), .val (.ref r), .val (.int (3 : Int32)), .val (.ref b447), .unset, .unset, .unset] [(.ref b447), (.ref r)])) rfl (by rw [hml]; rfl) (Steps.refl _) (argsL := [(.ref b447)]) (rest := []) (lenOf pd_2 rfl) rfl (by show 2 * 0 + _ ≤ _; exact Nat.le_of_eq rfl) (hb hby at_386) (fun _ _ => ⟨rfl, e465, (by decide : 2 + 1 ≤ _), (by decide : 37 + 4 ≤ _)⟩)
    dsimp only [Pt.U, Pt.locs, Pt.cells, Pt.slots] at X471 l471 y471 z471 st471 hQ471
    subst l471 y471 z471
    obtain ⟨bp471, rfl, ge471, Nq471, K471, kp471, V471⟩ := hQ471
    have N471 := Fr.app N470 Nq471
    have c473 := (Arv.other (Arv.other (Arv.other (Arv.ext V242 E447) W457 ne448) W461 ne448) W465 ne448)
    have ne472 : b2 ≠ bp471 := Nat.ne_of_lt (Nat.lt_of_lt_of_le (c473).lt ge471)
    have ne474 : b447 ≠ bp471 := Nat.ne_of_lt (Nat.lt_of_lt_of_le (V465).lt ge471)
    have gn475 : n0 ≤ bp471 := Nat.le_trans c469 ge471
    have c477 := (Keep.wr (Keep.wr (Keep.wr (Keep.ext c452 E447) W457 (Or.inr gs451)) W461 (Or.inr gs451)) W465 (Or.inr gs451))
    have gs476 : h0.size ≤ bp471 := Nat.le_trans c477.1 ge471
    have pr478 : ∀ tg, Steps pP.tables eE below (T471.setTop (mkF mM 389 #[.val (.int p1), .val (.int p2), .val (.long q0), .second, .val (.ref b2), .val (.long (5478551163 : Int64)), .second, .val (.int z245), .val (.ref r), .val (.int (3 : Int32)), .val (.ref b447), .unset, .unset, .unset] [(.ref bp471)])) tg → Steps pP.tables eE below (s₁.setTop (entryFrame mM #[(.int p1), (.int p2), (.long q0)] maxLocals)) tg := fun tg kg => pr468 _ (st471.trans kg)
    clear pr468 st471 X470 e465
    have c479 := (Arv.keep V465 K471 nin0)
    obtain ⟨cla480, Ara480, qa480, Sa480, Ma480, Ha480, Ga480⟩ := id c479
    have hin481 : ¬ ((0 : Int32) < 0 ∨ cla480.slots.size ≤ ((0 : Int32)).toNatClampNeg) := inb_of Sa480 ⟨by decide, by decide⟩
    have hat481 : cla480.slots[((0 : Int32)).toNatClampNeg]? = some (.int (nar .byte q0.toInt32.toInt8.toInt32)) := Has.at Ha480 hin481 rfl
    have pr482 : ∀ tg, Steps pP.tables eE below (T471.setTop (mkF mM 405 #[.val (.int p1), .val (.int p2), .val (.long q0), .second, .val (.ref b2), .val (.long (5478551163 : Int64)), .second, .val (.int z245), .val (.ref r), .val (.int (3 : Int32)), .val (.ref b447), .val (.ref bp471), .unset, .unset] [(.int (3 : Int32)), (.int (0 : Int32)), (.long q0), (.ref b447)])) tg → Steps pP.tables eE below (s₁.setTop (entryFrame mM #[(.int p1), (.int p2), (.long q0)] maxLocals)) tg := fun tg kg => pr478 _ (by
      show Steps pP.tables eE below (T471.setTop (mkF mM 389 #[.val (.int p1), .val (.int p2), .val (.long q0), .second, .val (.ref b2), .val (.long (5478551163 : Int64)), .second, .val (.int z245), .val (.ref r), .val (.int (3 : Int32)), .val (.ref b447), .unset, .unset, .unset] [(.ref bp471)])) _
      refine XS.astore X471.here hx rfl (hb hby at_389) rfl rfl (l' := #[.val (.int p1), .val (.int p2), .val (.long q0), .second, .val (.ref b2), .val (.long (5478551163 : Int64)), .second, .val (.int z245), .val (.ref r), .val (.int (3 : Int32)), .val (.ref b447), .val (.ref bp471), .unset, .unset]) rfl ?_
      refine XS.aload X471.here hx rfl (hb hby at_391) rfl rfl ?_
      show Steps pP.tables eE below (T471.setTop (mkF mM 393 #[.val (.int p1), .val (.int p2), .val (.long q0), .second, .val (.ref b2), .val (.long (5478551163 : Int64)), .second, .val (.int z245), .val (.ref r), .val (.int (3 : Int32)), .val (.ref b447), .val (.ref bp471), .unset, .unset] [(.ref b447)])) _
      refine X471.arraylength hx Ara480.1 (State.isArrayOf_alike hZ.alike Ara480.2.1) (g := (mkF mM 393 #[.val (.int p1), .val (.int p2), .val (.long q0), .second, .val (.ref b2), .val (.long (5478551163 : Int64)), .second, .val (.int z245), .val (.ref r), .val (.int (3 : Int32)), .val (.ref b447), .val (.ref bp471), .unset, .unset] [(.ref b447)])) rfl rfl (hb hby at_393) _ ?_
      rw [len_of Sa480 Ma480]
      show Steps pP.tables eE below (T471.setTop (mkF mM 394 #[.val (.int p1), .val (.int p2), .val (.long q0), .second, .val (.ref b2), .val (.long (5478551163 : Int64)), .second, .val (.int z245), .val (.ref r), .val (.int (3 : Int32)), .val (.ref b447), .val (.ref bp471), .unset, .unset] [(.int (3 : Int32))])) _
      refine XS.iload X471.here hx rfl (hb hby at_394) rfl ?_
      refine XS.icmpNo X471.here hx rfl (hb hby at_396) rfl (teq (by decide)).2 ?_
      refine XS.aload X471.here hx rfl (hb hby at_399) rfl rfl ?_
      refine XS.lloadN X471.here hx rfl (hb hby at_401) rfl ?_
      refine XS.iconst X471.here hx rfl (hb hby at_402) ?_
      refine XS.iload X471.here hx rfl (hb hby at_403) rfl ?_
      exact kg)
    clear pr478
    have c483 := (Nat.le_trans c469 K471.1)
    obtain ⟨Ls484, X484, N484⟩ := own_hide X471 N471
    clear X471 N471
    obtain ⟨_, _, ⟨T485, L485, kk485, nn485⟩, -, X485, ⟨Lc485, hQ485, l485, y485, z485⟩, st485⟩ := Jvm.LawKit.callS X484 hx (y := (⟨"com/example/tesserae/tesserae/value/VrPadPinLaw", "sameAt", "([BJII)Z"⟩ : MethodName)) hown (mvT hZ (hw _ (List.mem_of_getElem? (i := 95) rfl))) (mvT hZ (hw _ (List.mem_of_getElem? (i := 96) rfl))) (mvT hZ (hw _ (List.mem_of_getElem? (i := 97) rfl))) (mvT hZ (hw _ (List.mem_of_getElem? (i := 98) rfl))) (by decide) (backOf (W := 0) (rm5 l Z a0 hw [] b447 q0 (0 : Int32) (3 : Int32) cla480 (nar .byte q0.toInt32.toInt8.toInt32) T471.heap n0 c483 (by decide) Ara480 hin481 hat481 (own_w0 q0)) hZ (hw _ (List.mem_of_getElem? (i := 98) rfl)) (hw _ (List.mem_of_getElem? (i := 97) rfl)) (by decide) (by decide)) (g := (mkF mM 405 #[.val (.int p1), .val (.int p2), .val (.long q0), .second, .val (.ref b2), .val (.long (5478551163 : Int64)), .second, .val (.int z245), .val (.ref r), .val (.int (3 : Int32)), .val (.ref b447), .val (.ref bp471), .unset, .unset] [(.int (3 : Int32)), (.int (0 : Int32)), (.long q0), (.ref b447)])) rfl (by rw [hml]; rfl) (argsL := [(.ref b447), (.long q0), (.int (0 : Int32)), (.int (3 : Int32))]) (rest := []) (lenOf pd_3 rfl) rfl (by show 2 * 0 + _ ≤ _; exact Nat.le_of_eq rfl) (hb hby at_405) (fun _ _ => ⟨rfl, rfl, (by decide : 3 + 0 ≤ _), (by decide : 41 + 0 ≤ _)⟩)
    dsimp only [Pt.U, Pt.locs, Pt.cells, Pt.slots] at X485 l485 y485 z485 st485 hQ485
    subst l485 y485 z485
    obtain ⟨rfl, Nq485, e485⟩ := hQ485
    have N485 := Fr.app N484 Nq485
    have pr486 : ∀ tg, Steps pP.tables eE below (T485.setTop (mkF mM 408 #[.val (.int p1), .val (.int p2), .val (.long q0), .second, .val (.ref b2), .val (.long (5478551163 : Int64)), .second, .val (.int z245), .val (.ref r), .val (.int (3 : Int32)), .val (.ref b447), .val (.ref bp471), .unset, .unset] [(.int (1 : Int32))])) tg → Steps pP.tables eE below (s₁.setTop (entryFrame mM #[(.int p1), (.int p2), (.long q0)] maxLocals)) tg := fun tg kg => pr482 _ (st485 _ kg)
    clear pr482 st485 X484
    have hin487 : ¬ ((1 : Int32) < 0 ∨ cla480.slots.size ≤ ((1 : Int32)).toNatClampNeg) := inb_of Sa480 ⟨by decide, by decide⟩
    have hat487 : cla480.slots[((1 : Int32)).toNatClampNeg]? = some (.int (nar .byte ((q0.toUInt64 >>> ((8 : Int32) &&& 0x3f).toInt64.toUInt64).toInt64).toInt32.toInt8.toInt32)) := Has.at Ha480 hin487 rfl
    have pr488 : ∀ tg, Steps pP.tables eE below (T485.setTop (mkF mM 417 #[.val (.int p1), .val (.int p2), .val (.long q0), .second, .val (.ref b2), .val (.long (5478551163 : Int64)), .second, .val (.int z245), .val (.ref r), .val (.int (3 : Int32)), .val (.ref b447), .val (.ref bp471), .unset, .unset] [(.int (3 : Int32)), (.int (1 : Int32)), (.long q0), (.ref b447)])) tg → Steps pP.tables eE below (s₁.setTop (entryFrame mM #[(.int p1), (.int p2), (.long q0)] maxLocals)) tg := fun tg kg => pr486 _ (by
      show Steps pP.tables eE below (T485.setTop (mkF mM 408 #[.val (.int p1), .val (.int p2), .val (.long q0), .second, .val (.ref b2), .val (.long (5478551163 : Int64)), .second, .val (.int z245), .val (.ref r), .val (.int (3 : Int32)), .val (.ref b447), .val (.ref bp471), .unset, .unset] [(.int (1 : Int32))])) _
      refine XS.ifNo X485.here hx rfl (hb hby at_408) rfl ((if0 _ _).trans (feq (by decide)).1) ?_
      refine XS.aload X485.here hx rfl (hb hby at_411) rfl rfl ?_
      refine XS.lloadN X485.here hx rfl (hb hby at_413) rfl ?_
      refine XS.iconst X485.here hx rfl (hb hby at_414) ?_
      refine XS.iload X485.here hx rfl (hb hby at_415) rfl ?_
      exact kg)
    clear pr486
    obtain ⟨Ls489, X489, N489⟩ := own_hide X485 N485
    clear X485 N485
    obtain ⟨_, _, ⟨T490, L490, kk490, nn490⟩, -, X490, ⟨Lc490, hQ490, l490, y490, z490⟩, st490⟩ := Jvm.LawKit.callS X489 hx (y := (⟨"com/example/tesserae/tesserae/value/VrPadPinLaw", "sameAt", "([BJII)Z"⟩ : MethodName)) hown (mvT hZ (hw _ (List.mem_of_getElem? (i := 95) rfl))) (mvT hZ (hw _ (List.mem_of_getElem? (i := 96) rfl))) (mvT hZ (hw _ (List.mem_of_getElem? (i := 97) rfl))) (mvT hZ (hw _ (List.mem_of_getElem? (i := 98) rfl))) (by decide) (backOf (W := 0) (rm5 l Z a0 hw [] b447 q0 (1 : Int32) (3 : Int32) cla480 (nar .byte ((q0.toUInt64 >>> ((8 : Int32) &&& 0x3f).toInt64.toUInt64).toInt64).toInt32.toInt8.toInt32) T471.heap n0 c483 (by decide) Ara480 hin487 hat487 (own_w1 q0)) hZ (hw _ (List.mem_of_getElem? (i := 98) rfl)) (hw _ (List.mem_of_getElem? (i := 97) rfl)) (by decide) (by decide)) (g := (mkF mM 417 #[.val (.int p1), .val (.int p2), .val (.long q0), .second, .val (.ref b2), .val (.long (5478551163 : Int64)), .second, .val (.int z245), .val (.ref r), .val (.int (3 : Int32)), .val (.ref b447), .val (.ref bp471), .unset, .unset] [(.int (3 : Int32)), (.int (1 : Int32)), (.long q0), (.ref b447)])) rfl (by rw [hml]; rfl) (argsL := [(.ref b447), (.long q0), (.int (1 : Int32)), (.int (3 : Int32))]) (rest := []) (lenOf pd_3 rfl) rfl (by show 2 * 0 + _ ≤ _; exact Nat.le_of_eq rfl) (hb hby at_417) (fun _ _ => ⟨rfl, e485, (by decide : 3 + 0 ≤ _), (by decide : 41 + 0 ≤ _)⟩)
    dsimp only [Pt.U, Pt.locs, Pt.cells, Pt.slots] at X490 l490 y490 z490 st490 hQ490
    subst l490 y490 z490
    obtain ⟨rfl, Nq490, e490⟩ := hQ490
    have N490 := Fr.app N489 Nq490
    have pr491 : ∀ tg, Steps pP.tables eE below (T490.setTop (mkF mM 420 #[.val (.int p1), .val (.int p2), .val (.long q0), .second, .val (.ref b2), .val (.long (5478551163 : Int64)), .second, .val (.int z245), .val (.ref r), .val (.int (3 : Int32)), .val (.ref b447), .val (.ref bp471), .unset, .unset] [(.int (1 : Int32))])) tg → Steps pP.tables eE below (s₁.setTop (entryFrame mM #[(.int p1), (.int p2), (.long q0)] maxLocals)) tg := fun tg kg => pr488 _ (st490 _ kg)
    clear pr488 st490 X489 e485
    have hin492 : ¬ ((2 : Int32) < 0 ∨ cla480.slots.size ≤ ((2 : Int32)).toNatClampNeg) := inb_of Sa480 ⟨by decide, by decide⟩
    have hat492 : cla480.slots[((2 : Int32)).toNatClampNeg]? = some (.int (nar .byte ((q0.toUInt64 >>> ((16 : Int32) &&& 0x3f).toInt64.toUInt64).toInt64).toInt32.toInt8.toInt32)) := Has.at Ha480 hin492 rfl
    have pr493 : ∀ tg, Steps pP.tables eE below (T490.setTop (mkF mM 429 #[.val (.int p1), .val (.int p2), .val (.long q0), .second, .val (.ref b2), .val (.long (5478551163 : Int64)), .second, .val (.int z245), .val (.ref r), .val (.int (3 : Int32)), .val (.ref b447), .val (.ref bp471), .unset, .unset] [(.int (3 : Int32)), (.int (2 : Int32)), (.long q0), (.ref b447)])) tg → Steps pP.tables eE below (s₁.setTop (entryFrame mM #[(.int p1), (.int p2), (.long q0)] maxLocals)) tg := fun tg kg => pr491 _ (by
      show Steps pP.tables eE below (T490.setTop (mkF mM 420 #[.val (.int p1), .val (.int p2), .val (.long q0), .second, .val (.ref b2), .val (.long (5478551163 : Int64)), .second, .val (.int z245), .val (.ref r), .val (.int (3 : Int32)), .val (.ref b447), .val (.ref bp471), .unset, .unset] [(.int (1 : Int32))])) _
      refine XS.ifNo X490.here hx rfl (hb hby at_420) rfl ((if0 _ _).trans (feq (by decide)).1) ?_
      refine XS.aload X490.here hx rfl (hb hby at_423) rfl rfl ?_
      refine XS.lloadN X490.here hx rfl (hb hby at_425) rfl ?_
      refine XS.iconst X490.here hx rfl (hb hby at_426) ?_
      refine XS.iload X490.here hx rfl (hb hby at_427) rfl ?_
      exact kg)
    clear pr491
    obtain ⟨Ls494, X494, N494⟩ := own_hide X490 N490
    clear X490 N490
    obtain ⟨_, _, ⟨T495, L495, kk495, nn495⟩, -, X495, ⟨Lc495, hQ495, l495, y495, z495⟩, st495⟩ := Jvm.LawKit.callS X494 hx (y := (⟨"com/example/tesserae/tesserae/value/VrPadPinLaw", "sameAt", "([BJII)Z"⟩ : MethodName)) hown (mvT hZ (hw _ (List.mem_of_getElem? (i := 95) rfl))) (mvT hZ (hw _ (List.mem_of_getElem? (i := 96) rfl))) (mvT hZ (hw _ (List.mem_of_getElem? (i := 97) rfl))) (mvT hZ (hw _ (List.mem_of_getElem? (i := 98) rfl))) (by decide) (backOf (W := 0) (rm5 l Z a0 hw [] b447 q0 (2 : Int32) (3 : Int32) cla480 (nar .byte ((q0.toUInt64 >>> ((16 : Int32) &&& 0x3f).toInt64.toUInt64).toInt64).toInt32.toInt8.toInt32) T471.heap n0 c483 (by decide) Ara480 hin492 hat492 (own_w2 q0)) hZ (hw _ (List.mem_of_getElem? (i := 98) rfl)) (hw _ (List.mem_of_getElem? (i := 97) rfl)) (by decide) (by decide)) (g := (mkF mM 429 #[.val (.int p1), .val (.int p2), .val (.long q0), .second, .val (.ref b2), .val (.long (5478551163 : Int64)), .second, .val (.int z245), .val (.ref r), .val (.int (3 : Int32)), .val (.ref b447), .val (.ref bp471), .unset, .unset] [(.int (3 : Int32)), (.int (2 : Int32)), (.long q0), (.ref b447)])) rfl (by rw [hml]; rfl) (argsL := [(.ref b447), (.long q0), (.int (2 : Int32)), (.int (3 : Int32))]) (rest := []) (lenOf pd_3 rfl) rfl (by show 2 * 0 + _ ≤ _; exact Nat.le_of_eq rfl) (hb hby at_429) (fun _ _ => ⟨rfl, e490, (by decide : 3 + 0 ≤ _), (by decide : 41 + 0 ≤ _)⟩)
    dsimp only [Pt.U, Pt.locs, Pt.cells, Pt.slots] at X495 l495 y495 z495 st495 hQ495
    subst l495 y495 z495
    obtain ⟨rfl, Nq495, e495⟩ := hQ495
    have N495 := Fr.app N494 Nq495
    have pr496 : ∀ tg, Steps pP.tables eE below (T495.setTop (mkF mM 432 #[.val (.int p1), .val (.int p2), .val (.long q0), .second, .val (.ref b2), .val (.long (5478551163 : Int64)), .second, .val (.int z245), .val (.ref r), .val (.int (3 : Int32)), .val (.ref b447), .val (.ref bp471), .unset, .unset] [(.int (1 : Int32))])) tg → Steps pP.tables eE below (s₁.setTop (entryFrame mM #[(.int p1), (.int p2), (.long q0)] maxLocals)) tg := fun tg kg => pr493 _ (st495 _ kg)
    clear pr493 st495 X494 e490
    have pr497 : ∀ tg, Steps pP.tables eE below (T495.setTop (mkF mM 441 #[.val (.int p1), .val (.int p2), .val (.long q0), .second, .val (.ref b2), .val (.long (5478551163 : Int64)), .second, .val (.int z245), .val (.ref r), .val (.int (3 : Int32)), .val (.ref b447), .val (.ref bp471), .unset, .unset] [(.int (3 : Int32)), (.int (3 : Int32)), (.long q0), (.ref b447)])) tg → Steps pP.tables eE below (s₁.setTop (entryFrame mM #[(.int p1), (.int p2), (.long q0)] maxLocals)) tg := fun tg kg => pr496 _ (by
      show Steps pP.tables eE below (T495.setTop (mkF mM 432 #[.val (.int p1), .val (.int p2), .val (.long q0), .second, .val (.ref b2), .val (.long (5478551163 : Int64)), .second, .val (.int z245), .val (.ref r), .val (.int (3 : Int32)), .val (.ref b447), .val (.ref bp471), .unset, .unset] [(.int (1 : Int32))])) _
      refine XS.ifNo X495.here hx rfl (hb hby at_432) rfl ((if0 _ _).trans (feq (by decide)).1) ?_
      refine XS.aload X495.here hx rfl (hb hby at_435) rfl rfl ?_
      refine XS.lloadN X495.here hx rfl (hb hby at_437) rfl ?_
      refine XS.iconst X495.here hx rfl (hb hby at_438) ?_
      refine XS.iload X495.here hx rfl (hb hby at_439) rfl ?_
      exact kg)
    clear pr496
    obtain ⟨Ls498, X498, N498⟩ := own_hide X495 N495
    clear X495 N495
    obtain ⟨_, _, ⟨T499, L499, kk499, nn499⟩, -, X499, ⟨Lc499, hQ499, l499, y499, z499⟩, st499⟩ := Jvm.LawKit.callS X498 hx (y := (⟨"com/example/tesserae/tesserae/value/VrPadPinLaw", "sameAt", "([BJII)Z"⟩ : MethodName)) hown (mvT hZ (hw _ (List.mem_of_getElem? (i := 95) rfl))) (mvT hZ (hw _ (List.mem_of_getElem? (i := 96) rfl))) (mvT hZ (hw _ (List.mem_of_getElem? (i := 97) rfl))) (mvT hZ (hw _ (List.mem_of_getElem? (i := 98) rfl))) (by decide) (backOf (W := 0) (rm4 l Z a0 hw [] b447 q0 (3 : Int32) (3 : Int32) T471.heap n0 c483 (by decide)) hZ (hw _ (List.mem_of_getElem? (i := 98) rfl)) (hw _ (List.mem_of_getElem? (i := 97) rfl)) (by decide) (by decide)) (g := (mkF mM 441 #[.val (.int p1), .val (.int p2), .val (.long q0), .second, .val (.ref b2), .val (.long (5478551163 : Int64)), .second, .val (.int z245), .val (.ref r), .val (.int (3 : Int32)), .val (.ref b447), .val (.ref bp471), .unset, .unset] [(.int (3 : Int32)), (.int (3 : Int32)), (.long q0), (.ref b447)])) rfl (by rw [hml]; rfl) (argsL := [(.ref b447), (.long q0), (.int (3 : Int32)), (.int (3 : Int32))]) (rest := []) (lenOf pd_3 rfl) rfl (by show 2 * 0 + _ ≤ _; exact Nat.le_of_eq rfl) (hb hby at_441) (fun _ _ => ⟨rfl, e495, (by decide : 3 + 0 ≤ _), (by decide : 41 + 0 ≤ _)⟩)
    dsimp only [Pt.U, Pt.locs, Pt.cells, Pt.slots] at X499 l499 y499 z499 st499 hQ499
    subst l499 y499 z499
    obtain ⟨rfl, Nq499, e499⟩ := hQ499
    have N499 := Fr.app N498 Nq499
    have pr500 : ∀ tg, Steps pP.tables eE below (T499.setTop (mkF mM 444 #[.val (.int p1), .val (.int p2), .val (.long q0), .second, .val (.ref b2), .val (.long (5478551163 : Int64)), .second, .val (.int z245), .val (.ref r), .val (.int (3 : Int32)), .val (.ref b447), .val (.ref bp471), .unset, .unset] [(.int (1 : Int32))])) tg → Steps pP.tables eE below (s₁.setTop (entryFrame mM #[(.int p1), (.int p2), (.long q0)] maxLocals)) tg := fun tg kg => pr497 _ (st499 _ kg)
    clear pr497 st499 X498 e495
    have pr501 : ∀ tg, Steps pP.tables eE below (T499.setTop (mkF mM 453 #[.val (.int p1), .val (.int p2), .val (.long q0), .second, .val (.ref b2), .val (.long (5478551163 : Int64)), .second, .val (.int z245), .val (.ref r), .val (.int (3 : Int32)), .val (.ref b447), .val (.ref bp471), .unset, .unset] [(.int (3 : Int32)), (.int (4 : Int32)), (.long q0), (.ref b447)])) tg → Steps pP.tables eE below (s₁.setTop (entryFrame mM #[(.int p1), (.int p2), (.long q0)] maxLocals)) tg := fun tg kg => pr500 _ (by
      show Steps pP.tables eE below (T499.setTop (mkF mM 444 #[.val (.int p1), .val (.int p2), .val (.long q0), .second, .val (.ref b2), .val (.long (5478551163 : Int64)), .second, .val (.int z245), .val (.ref r), .val (.int (3 : Int32)), .val (.ref b447), .val (.ref bp471), .unset, .unset] [(.int (1 : Int32))])) _
      refine XS.ifNo X499.here hx rfl (hb hby at_444) rfl ((if0 _ _).trans (feq (by decide)).1) ?_
      refine XS.aload X499.here hx rfl (hb hby at_447) rfl rfl ?_
      refine XS.lloadN X499.here hx rfl (hb hby at_449) rfl ?_
      refine XS.iconst X499.here hx rfl (hb hby at_450) ?_
      refine XS.iload X499.here hx rfl (hb hby at_451) rfl ?_
      exact kg)
    clear pr500
    obtain ⟨Ls502, X502, N502⟩ := own_hide X499 N499
    clear X499 N499
    obtain ⟨_, _, ⟨T503, L503, kk503, nn503⟩, -, X503, ⟨Lc503, hQ503, l503, y503, z503⟩, st503⟩ := Jvm.LawKit.callS X502 hx (y := (⟨"com/example/tesserae/tesserae/value/VrPadPinLaw", "sameAt", "([BJII)Z"⟩ : MethodName)) hown (mvT hZ (hw _ (List.mem_of_getElem? (i := 95) rfl))) (mvT hZ (hw _ (List.mem_of_getElem? (i := 96) rfl))) (mvT hZ (hw _ (List.mem_of_getElem? (i := 97) rfl))) (mvT hZ (hw _ (List.mem_of_getElem? (i := 98) rfl))) (by decide) (backOf (W := 0) (rm4 l Z a0 hw [] b447 q0 (4 : Int32) (3 : Int32) T471.heap n0 c483 (by decide)) hZ (hw _ (List.mem_of_getElem? (i := 98) rfl)) (hw _ (List.mem_of_getElem? (i := 97) rfl)) (by decide) (by decide)) (g := (mkF mM 453 #[.val (.int p1), .val (.int p2), .val (.long q0), .second, .val (.ref b2), .val (.long (5478551163 : Int64)), .second, .val (.int z245), .val (.ref r), .val (.int (3 : Int32)), .val (.ref b447), .val (.ref bp471), .unset, .unset] [(.int (3 : Int32)), (.int (4 : Int32)), (.long q0), (.ref b447)])) rfl (by rw [hml]; rfl) (argsL := [(.ref b447), (.long q0), (.int (4 : Int32)), (.int (3 : Int32))]) (rest := []) (lenOf pd_3 rfl) rfl (by show 2 * 0 + _ ≤ _; exact Nat.le_of_eq rfl) (hb hby at_453) (fun _ _ => ⟨rfl, e499, (by decide : 3 + 0 ≤ _), (by decide : 41 + 0 ≤ _)⟩)
    dsimp only [Pt.U, Pt.locs, Pt.cells, Pt.slots] at X503 l503 y503 z503 st503 hQ503
    subst l503 y503 z503
    obtain ⟨rfl, Nq503, e503⟩ := hQ503
    have N503 := Fr.app N502 Nq503
    have pr504 : ∀ tg, Steps pP.tables eE below (T503.setTop (mkF mM 456 #[.val (.int p1), .val (.int p2), .val (.long q0), .second, .val (.ref b2), .val (.long (5478551163 : Int64)), .second, .val (.int z245), .val (.ref r), .val (.int (3 : Int32)), .val (.ref b447), .val (.ref bp471), .unset, .unset] [(.int (1 : Int32))])) tg → Steps pP.tables eE below (s₁.setTop (entryFrame mM #[(.int p1), (.int p2), (.long q0)] maxLocals)) tg := fun tg kg => pr501 _ (st503 _ kg)
    clear pr501 st503 X502 e499
    have pr505 : ∀ tg, Steps pP.tables eE below (T503.setTop (mkF mM 465 #[.val (.int p1), .val (.int p2), .val (.long q0), .second, .val (.ref b2), .val (.long (5478551163 : Int64)), .second, .val (.int z245), .val (.ref r), .val (.int (3 : Int32)), .val (.ref b447), .val (.ref bp471), .unset, .unset] [(.int (3 : Int32)), (.int (5 : Int32)), (.long q0), (.ref b447)])) tg → Steps pP.tables eE below (s₁.setTop (entryFrame mM #[(.int p1), (.int p2), (.long q0)] maxLocals)) tg := fun tg kg => pr504 _ (by
      show Steps pP.tables eE below (T503.setTop (mkF mM 456 #[.val (.int p1), .val (.int p2), .val (.long q0), .second, .val (.ref b2), .val (.long (5478551163 : Int64)), .second, .val (.int z245), .val (.ref r), .val (.int (3 : Int32)), .val (.ref b447), .val (.ref bp471), .unset, .unset] [(.int (1 : Int32))])) _
      refine XS.ifNo X503.here hx rfl (hb hby at_456) rfl ((if0 _ _).trans (feq (by decide)).1) ?_
      refine XS.aload X503.here hx rfl (hb hby at_459) rfl rfl ?_
      refine XS.lloadN X503.here hx rfl (hb hby at_461) rfl ?_
      refine XS.iconst X503.here hx rfl (hb hby at_462) ?_
      refine XS.iload X503.here hx rfl (hb hby at_463) rfl ?_
      exact kg)
    clear pr504
    obtain ⟨Ls506, X506, N506⟩ := own_hide X503 N503
    clear X503 N503
    obtain ⟨_, _, ⟨T507, L507, kk507, nn507⟩, -, X507, ⟨Lc507, hQ507, l507, y507, z507⟩, st507⟩ := Jvm.LawKit.callS X506 hx (y := (⟨"com/example/tesserae/tesserae/value/VrPadPinLaw", "sameAt", "([BJII)Z"⟩ : MethodName)) hown (mvT hZ (hw _ (List.mem_of_getElem? (i := 95) rfl))) (mvT hZ (hw _ (List.mem_of_getElem? (i := 96) rfl))) (mvT hZ (hw _ (List.mem_of_getElem? (i := 97) rfl))) (mvT hZ (hw _ (List.mem_of_getElem? (i := 98) rfl))) (by decide) (backOf (W := 0) (rm4 l Z a0 hw [] b447 q0 (5 : Int32) (3 : Int32) T471.heap n0 c483 (by decide)) hZ (hw _ (List.mem_of_getElem? (i := 98) rfl)) (hw _ (List.mem_of_getElem? (i := 97) rfl)) (by decide) (by decide)) (g := (mkF mM 465 #[.val (.int p1), .val (.int p2), .val (.long q0), .second, .val (.ref b2), .val (.long (5478551163 : Int64)), .second, .val (.int z245), .val (.ref r), .val (.int (3 : Int32)), .val (.ref b447), .val (.ref bp471), .unset, .unset] [(.int (3 : Int32)), (.int (5 : Int32)), (.long q0), (.ref b447)])) rfl (by rw [hml]; rfl) (argsL := [(.ref b447), (.long q0), (.int (5 : Int32)), (.int (3 : Int32))]) (rest := []) (lenOf pd_3 rfl) rfl (by show 2 * 0 + _ ≤ _; exact Nat.le_of_eq rfl) (hb hby at_465) (fun _ _ => ⟨rfl, e503, (by decide : 3 + 0 ≤ _), (by decide : 41 + 0 ≤ _)⟩)
    dsimp only [Pt.U, Pt.locs, Pt.cells, Pt.slots] at X507 l507 y507 z507 st507 hQ507
    subst l507 y507 z507
    obtain ⟨rfl, Nq507, e507⟩ := hQ507
    have N507 := Fr.app N506 Nq507
    have pr508 : ∀ tg, Steps pP.tables eE below (T507.setTop (mkF mM 468 #[.val (.int p1), .val (.int p2), .val (.long q0), .second, .val (.ref b2), .val (.long (5478551163 : Int64)), .second, .val (.int z245), .val (.ref r), .val (.int (3 : Int32)), .val (.ref b447), .val (.ref bp471), .unset, .unset] [(.int (1 : Int32))])) tg → Steps pP.tables eE below (s₁.setTop (entryFrame mM #[(.int p1), (.int p2), (.long q0)] maxLocals)) tg := fun tg kg => pr505 _ (st507 _ kg)
    clear pr505 st507 X506 e503
    have pr509 : ∀ tg, Steps pP.tables eE below (T507.setTop (mkF mM 478 #[.val (.int p1), .val (.int p2), .val (.long q0), .second, .val (.ref b2), .val (.long (5478551163 : Int64)), .second, .val (.int z245), .val (.ref r), .val (.int (3 : Int32)), .val (.ref b447), .val (.ref bp471), .unset, .unset] [(.int (3 : Int32)), (.int (6 : Int32)), (.long q0), (.ref b447)])) tg → Steps pP.tables eE below (s₁.setTop (entryFrame mM #[(.int p1), (.int p2), (.long q0)] maxLocals)) tg := fun tg kg => pr508 _ (by
      show Steps pP.tables eE below (T507.setTop (mkF mM 468 #[.val (.int p1), .val (.int p2), .val (.long q0), .second, .val (.ref b2), .val (.long (5478551163 : Int64)), .second, .val (.int z245), .val (.ref r), .val (.int (3 : Int32)), .val (.ref b447), .val (.ref bp471), .unset, .unset] [(.int (1 : Int32))])) _
      refine XS.ifNo X507.here hx rfl (hb hby at_468) rfl ((if0 _ _).trans (feq (by decide)).1) ?_
      refine XS.aload X507.here hx rfl (hb hby at_471) rfl rfl ?_
      refine XS.lloadN X507.here hx rfl (hb hby at_473) rfl ?_
      refine XS.bipush X507.here hx rfl (hb hby at_474) ?_
      refine XS.iload X507.here hx rfl (hb hby at_476) rfl ?_
      exact kg)
    clear pr508
    obtain ⟨Ls510, X510, N510⟩ := own_hide X507 N507
    clear X507 N507
    obtain ⟨_, _, ⟨T511, L511, kk511, nn511⟩, -, X511, ⟨Lc511, hQ511, l511, y511, z511⟩, st511⟩ := Jvm.LawKit.callS X510 hx (y := (⟨"com/example/tesserae/tesserae/value/VrPadPinLaw", "sameAt", "([BJII)Z"⟩ : MethodName)) hown (mvT hZ (hw _ (List.mem_of_getElem? (i := 95) rfl))) (mvT hZ (hw _ (List.mem_of_getElem? (i := 96) rfl))) (mvT hZ (hw _ (List.mem_of_getElem? (i := 97) rfl))) (mvT hZ (hw _ (List.mem_of_getElem? (i := 98) rfl))) (by decide) (backOf (W := 0) (rm4 l Z a0 hw [] b447 q0 (6 : Int32) (3 : Int32) T471.heap n0 c483 (by decide)) hZ (hw _ (List.mem_of_getElem? (i := 98) rfl)) (hw _ (List.mem_of_getElem? (i := 97) rfl)) (by decide) (by decide)) (g := (mkF mM 478 #[.val (.int p1), .val (.int p2), .val (.long q0), .second, .val (.ref b2), .val (.long (5478551163 : Int64)), .second, .val (.int z245), .val (.ref r), .val (.int (3 : Int32)), .val (.ref b447), .val (.ref bp471), .unset, .unset] [(.int (3 : Int32)), (.int (6 : Int32)), (.long q0), (.ref b447)])) rfl (by rw [hml]; rfl) (argsL := [(.ref b447), (.long q0), (.int (6 : Int32)), (.int (3 : Int32))]) (rest := []) (lenOf pd_3 rfl) rfl (by show 2 * 0 + _ ≤ _; exact Nat.le_of_eq rfl) (hb hby at_478) (fun _ _ => ⟨rfl, e507, (by decide : 3 + 0 ≤ _), (by decide : 41 + 0 ≤ _)⟩)
    dsimp only [Pt.U, Pt.locs, Pt.cells, Pt.slots] at X511 l511 y511 z511 st511 hQ511
    subst l511 y511 z511
    obtain ⟨rfl, Nq511, e511⟩ := hQ511
    have N511 := Fr.app N510 Nq511
    have pr512 : ∀ tg, Steps pP.tables eE below (T511.setTop (mkF mM 481 #[.val (.int p1), .val (.int p2), .val (.long q0), .second, .val (.ref b2), .val (.long (5478551163 : Int64)), .second, .val (.int z245), .val (.ref r), .val (.int (3 : Int32)), .val (.ref b447), .val (.ref bp471), .unset, .unset] [(.int (1 : Int32))])) tg → Steps pP.tables eE below (s₁.setTop (entryFrame mM #[(.int p1), (.int p2), (.long q0)] maxLocals)) tg := fun tg kg => pr509 _ (st511 _ kg)
    clear pr509 st511 X510 e507
    have pr513 : ∀ tg, Steps pP.tables eE below (T511.setTop (mkF mM 525 #[.val (.int p1), .val (.int p2), .val (.long q0), .second, .val (.ref b2), .val (.long (5478551163 : Int64)), .second, .val (.int z245), .val (.ref r), .val (.int (3 : Int32)), .val (.ref b447), .val (.ref bp471), .val (.int (1 : Int32)), .unset] [(.int (lcmpW ((((5478551163 : Int64).toUInt64 >>> (z245 &&& 0x3f).toInt64.toUInt64).toInt64) &&& (1 : Int64)) (0 : Int64)))])) tg → Steps pP.tables eE below (s₁.setTop (entryFrame mM #[(.int p1), (.int p2), (.long q0)] maxLocals)) tg := fun tg kg => pr512 _ (by
      show Steps pP.tables eE below (T511.setTop (mkF mM 481 #[.val (.int p1), .val (.int p2), .val (.long q0), .second, .val (.ref b2), .val (.long (5478551163 : Int64)), .second, .val (.int z245), .val (.ref r), .val (.int (3 : Int32)), .val (.ref b447), .val (.ref bp471), .unset, .unset] [(.int (1 : Int32))])) _
      refine XS.ifNo X511.here hx rfl (hb hby at_481) rfl ((if0 _ _).trans (feq (by decide)).1) ?_
      refine XS.iconst X511.here hx rfl (hb hby at_484) ?_
      refine XS.goto X511.here hx rfl (pc0 := 485) (pc' := 489) rfl (hb hby at_485) (by decide) (by decide) ?_
      refine XS.istore X511.here hx rfl (hb hby at_489) rfl (l' := #[.val (.int p1), .val (.int p2), .val (.long q0), .second, .val (.ref b2), .val (.long (5478551163 : Int64)), .second, .val (.int z245), .val (.ref r), .val (.int (3 : Int32)), .val (.ref b447), .val (.ref bp471), .val (.int (1 : Int32)), .unset]) rfl ?_
      refine XS.iload X511.here hx rfl (hb hby at_491) rfl ?_
      refine XS.iconst X511.here hx rfl (hb hby at_493) ?_
      show Steps pP.tables eE below (T511.setTop (mkF mM 494 #[.val (.int p1), .val (.int p2), .val (.long q0), .second, .val (.ref b2), .val (.long (5478551163 : Int64)), .second, .val (.int z245), .val (.ref r), .val (.int (3 : Int32)), .val (.ref b447), .val (.ref bp471), .val (.int (1 : Int32)), .unset] [(.int (1 : Int32)), (.int (3 : Int32))])) _
      refine XS.iand X511.here hx rfl (hb hby at_494) rfl ?_
      refine XS.ifYes X511.here hx rfl (pc0 := 495) (pc' := 516) rfl (hb hby at_495) rfl ((if0 _ _).trans (feq (by decide)).2) (by decide) (by decide) ?_
      refine XS.lload X511.here hx rfl (hb hby at_516) rfl ?_
      refine XS.iload X511.here hx rfl (hb hby at_518) rfl ?_
      refine XS.lushr X511.here hx rfl (hb hby at_520) rfl ?_
      refine XS.lconst X511.here hx rfl (hb hby at_521) ?_
      show Steps pP.tables eE below (T511.setTop (mkF mM 522 #[.val (.int p1), .val (.int p2), .val (.long q0), .second, .val (.ref b2), .val (.long (5478551163 : Int64)), .second, .val (.int z245), .val (.ref r), .val (.int (3 : Int32)), .val (.ref b447), .val (.ref bp471), .val (.int (1 : Int32)), .unset] [(.long (1 : Int64)), (.long (((5478551163 : Int64).toUInt64 >>> (z245 &&& 0x3f).toInt64.toUInt64).toInt64))])) _
      refine XS.land X511.here hx rfl (hb hby at_522) rfl ?_
      refine XS.lconst X511.here hx rfl (hb hby at_523) ?_
      refine XS.lcmp X511.here hx rfl (hb hby at_524) rfl ?_
      exact kg)
    clear pr512
    obtain ⟨j515, hj515, st516⟩ : ∃ (j515 : Int32), j515 = (if ((((5478551163 : Int64).toUInt64 >>> (z245 &&& 0x3f).toInt64.toUInt64).toInt64) &&& (1 : Int64)) = (0 : Int64) then (0 : Int32) else (32 : Int32)) ∧ ∀ tg, Steps pP.tables eE below (T511.setTop (mkF mM 534 #[.val (.int p1), .val (.int p2), .val (.long q0), .second, .val (.ref b2), .val (.long (5478551163 : Int64)), .second, .val (.int z245), .val (.ref r), .val (.int (3 : Int32)), .val (.ref b447), .val (.ref bp471), .val (.int (1 : Int32)), .unset] [(.int j515)])) tg → Steps pP.tables eE below (T511.setTop (mkF mM 525 #[.val (.int p1), .val (.int p2), .val (.long q0), .second, .val (.ref b2), .val (.long (5478551163 : Int64)), .second, .val (.int z245), .val (.ref r), .val (.int (3 : Int32)), .val (.ref b447), .val (.ref bp471), .val (.int (1 : Int32)), .unset] [(.int (lcmpW ((((5478551163 : Int64).toUInt64 >>> (z245 &&& 0x3f).toInt64.toUInt64).toInt64) &&& (1 : Int64)) (0 : Int64)))])) tg := by
      by_cases hj525_514 : ((((5478551163 : Int64).toUInt64 >>> (z245 &&& 0x3f).toInt64.toUInt64).toInt64) &&& (1 : Int64)) = (0 : Int64)
      ·
        refine ⟨(0 : Int32), (by rw [if_pos hj525_514]), fun tg kg => ?_⟩
        show Steps pP.tables eE below (T511.setTop (mkF mM 525 #[.val (.int p1), .val (.int p2), .val (.long q0), .second, .val (.ref b2), .val (.long (5478551163 : Int64)), .second, .val (.int z245), .val (.ref r), .val (.int (3 : Int32)), .val (.ref b447), .val (.ref bp471), .val (.int (1 : Int32)), .unset] [(.int (lcmpW ((((5478551163 : Int64).toUInt64 >>> (z245 &&& 0x3f).toInt64.toUInt64).toInt64) &&& (1 : Int64)) (0 : Int64)))])) _
        refine XS.ifYes X511.here hx rfl (pc0 := 525) (pc' := 533) rfl (hb hby at_525) rfl ((if0 _ _).trans (teq ((lw_eq _ _).mpr hj525_514)).1) (by decide) (by decide) ?_
        refine XS.iconst X511.here hx rfl (hb hby at_533) ?_
        exact kg
      ·
        refine ⟨(32 : Int32), (by rw [if_neg hj525_514]), fun tg kg => ?_⟩
        show Steps pP.tables eE below (T511.setTop (mkF mM 525 #[.val (.int p1), .val (.int p2), .val (.long q0), .second, .val (.ref b2), .val (.long (5478551163 : Int64)), .second, .val (.int z245), .val (.ref r), .val (.int (3 : Int32)), .val (.ref b447), .val (.ref bp471), .val (.int (1 : Int32)), .unset] [(.int (lcmpW ((((5478551163 : Int64).toUInt64 >>> (z245 &&& 0x3f).toInt64.toUInt64).toInt64) &&& (1 : Int64)) (0 : Int64)))])) _
        refine XS.ifNo X511.here hx rfl (hb hby at_525) rfl ((if0 _ _).trans (feq (fun q => hj525_514 ((lw_eq _ _).mp q))).1) ?_
        refine XS.bipush X511.here hx rfl (hb hby at_528) ?_
        refine XS.goto X511.here hx rfl (pc0 := 530) (pc' := 534) rfl (hb hby at_530) (by decide) (by decide) ?_
        exact kg
    have pr517 : ∀ tg, Steps pP.tables eE below (T511.setTop (mkF mM 534 #[.val (.int p1), .val (.int p2), .val (.long q0), .second, .val (.ref b2), .val (.long (5478551163 : Int64)), .second, .val (.int z245), .val (.ref r), .val (.int (3 : Int32)), .val (.ref b447), .val (.ref bp471), .val (.int (1 : Int32)), .unset] [(.int j515)])) tg → Steps pP.tables eE below (s₁.setTop (entryFrame mM #[(.int p1), (.int p2), (.long q0)] maxLocals)) tg := fun tg kg => pr513 _ (st516 _ kg)
    clear pr513 st516
    obtain ⟨cla518, Ara518, qa518, Sa518, Ma518, Ha518, Ga518⟩ := id V471
    have hin519 : ¬ ((0 : Int32) < 0 ∨ cla518.slots.size ≤ ((0 : Int32)).toNatClampNeg) := inb_of Sa518 ⟨by decide, by decide⟩
    have hat519 : cla518.slots[((0 : Int32)).toNatClampNeg]? = some (.int (nar .byte q0.toInt32.toInt8.toInt32)) := Has.at Ha518 hin519 rfl
    have pr520 : ∀ tg, Steps pP.tables eE below (T511.setTop (mkF mM 564 #[.val (.int p1), .val (.int p2), .val (.long q0), .second, .val (.ref b2), .val (.long (5478551163 : Int64)), .second, .val (.int z245), .val (.ref r), .val (.int (3 : Int32)), .val (.ref b447), .val (.ref bp471), .val (.int (1 : Int32)), .val (.int j515)] [(.int (3 : Int32)), (.int (0 : Int32)), (.long q0), (.ref bp471)])) tg → Steps pP.tables eE below (s₁.setTop (entryFrame mM #[(.int p1), (.int p2), (.long q0)] maxLocals)) tg := fun tg kg => pr517 _ (by
      show Steps pP.tables eE below (T511.setTop (mkF mM 534 #[.val (.int p1), .val (.int p2), .val (.long q0), .second, .val (.ref b2), .val (.long (5478551163 : Int64)), .second, .val (.int z245), .val (.ref r), .val (.int (3 : Int32)), .val (.ref b447), .val (.ref bp471), .val (.int (1 : Int32)), .unset] [(.int j515)])) _
      refine XS.istore X511.here hx rfl (hb hby at_534) rfl (l' := #[.val (.int p1), .val (.int p2), .val (.long q0), .second, .val (.ref b2), .val (.long (5478551163 : Int64)), .second, .val (.int z245), .val (.ref r), .val (.int (3 : Int32)), .val (.ref b447), .val (.ref bp471), .val (.int (1 : Int32)), .val (.int j515)]) rfl ?_
      refine XS.iload X511.here hx rfl (hb hby at_536) rfl ?_
      refine XS.ifNo X511.here hx rfl (hb hby at_538) rfl ((if0 _ _).trans (feq (by decide)).1) ?_
      refine XS.aload X511.here hx rfl (hb hby at_541) rfl rfl ?_
      refine XS.aload X511.here hx rfl (hb hby at_543) rfl rfl ?_
      show Steps pP.tables eE below (T511.setTop (mkF mM 545 #[.val (.int p1), .val (.int p2), .val (.long q0), .second, .val (.ref b2), .val (.long (5478551163 : Int64)), .second, .val (.int z245), .val (.ref r), .val (.int (3 : Int32)), .val (.ref b447), .val (.ref bp471), .val (.int (1 : Int32)), .val (.int j515)] [(.ref b447), (.ref bp471)])) _
      refine Jvm.RoadKit.acmp (g := (mkF mM 545 #[.val (.int p1), .val (.int p2), .val (.long q0), .second, .val (.ref b2), .val (.long (5478551163 : Int64)), .second, .val (.int z245), .val (.ref r), .val (.int (3 : Int32)), .val (.ref b447), .val (.ref bp471), .val (.int (1 : Int32)), .val (.int j515)] [(.ref b447), (.ref bp471)])) X511 hx rfl rfl rfl (pc0 := 545) (pc' := 548) (same := false) rfl (hb hby at_545) rfl (decide_eq_false fun q => (Ne.symm ne474) (Value.ref.inj q)) (by decide) (by decide) ?_
      show Steps pP.tables eE below (T511.setTop (mkF mM 548 #[.val (.int p1), .val (.int p2), .val (.long q0), .second, .val (.ref b2), .val (.long (5478551163 : Int64)), .second, .val (.int z245), .val (.ref r), .val (.int (3 : Int32)), .val (.ref b447), .val (.ref bp471), .val (.int (1 : Int32)), .val (.int j515)] [])) _
      refine XS.aload X511.here hx rfl (hb hby at_548) rfl rfl ?_
      show Steps pP.tables eE below (T511.setTop (mkF mM 550 #[.val (.int p1), .val (.int p2), .val (.long q0), .second, .val (.ref b2), .val (.long (5478551163 : Int64)), .second, .val (.int z245), .val (.ref r), .val (.int (3 : Int32)), .val (.ref b447), .val (.ref bp471), .val (.int (1 : Int32)), .val (.int j515)] [(.ref bp471)])) _
      refine X511.arraylength hx (by rw [e511]; exact Ara518.1) (State.isArrayOf_alike hZ.alike Ara518.2.1) (g := (mkF mM 550 #[.val (.int p1), .val (.int p2), .val (.long q0), .second, .val (.ref b2), .val (.long (5478551163 : Int64)), .second, .val (.int z245), .val (.ref r), .val (.int (3 : Int32)), .val (.ref b447), .val (.ref bp471), .val (.int (1 : Int32)), .val (.int j515)] [(.ref bp471)])) rfl rfl (hb hby at_550) _ ?_
      rw [len_of Sa518 Ma518]
      show Steps pP.tables eE below (T511.setTop (mkF mM 551 #[.val (.int p1), .val (.int p2), .val (.long q0), .second, .val (.ref b2), .val (.long (5478551163 : Int64)), .second, .val (.int z245), .val (.ref r), .val (.int (3 : Int32)), .val (.ref b447), .val (.ref bp471), .val (.int (1 : Int32)), .val (.int j515)] [(.int (4 : Int32))])) _
      refine XS.iload X511.here hx rfl (hb hby at_551) rfl ?_
      refine XS.iconst X511.here hx rfl (hb hby at_553) ?_
      refine XS.iadd X511.here hx rfl (hb hby at_554) rfl ?_
      refine XS.icmpNo X511.here hx rfl (hb hby at_555) rfl (teq (by decide)).2 ?_
      refine XS.aload X511.here hx rfl (hb hby at_558) rfl rfl ?_
      refine XS.lloadN X511.here hx rfl (hb hby at_560) rfl ?_
      show Steps pP.tables eE below (T511.setTop (mkF mM 561 #[.val (.int p1), .val (.int p2), .val (.long q0), .second, .val (.ref b2), .val (.long (5478551163 : Int64)), .second, .val (.int z245), .val (.ref r), .val (.int (3 : Int32)), .val (.ref b447), .val (.ref bp471), .val (.int (1 : Int32)), .val (.int j515)] [(.long q0), (.ref bp471)])) _
      refine XS.iconst X511.here hx rfl (hb hby at_561) ?_
      refine XS.iload X511.here hx rfl (hb hby at_562) rfl ?_
      exact kg)
    clear pr517
    obtain ⟨Ls521, X521, N521⟩ := own_hide X511 N511
    clear X511 N511
    obtain ⟨_, _, ⟨T522, L522, kk522, nn522⟩, -, X522, ⟨Lc522, hQ522, l522, y522, z522⟩, st522⟩ := Jvm.LawKit.callS X521 hx (y := (⟨"com/example/tesserae/tesserae/value/VrPadPinLaw", "sameAt", "([BJII)Z"⟩ : MethodName)) hown (mvT hZ (hw _ (List.mem_of_getElem? (i := 95) rfl))) (mvT hZ (hw _ (List.mem_of_getElem? (i := 96) rfl))) (mvT hZ (hw _ (List.mem_of_getElem? (i := 97) rfl))) (mvT hZ (hw _ (List.mem_of_getElem? (i := 98) rfl))) (by decide) (backOf (W := 0) (rm5 l Z a0 hw [] bp471 q0 (0 : Int32) (3 : Int32) cla518 (nar .byte q0.toInt32.toInt8.toInt32) T471.heap n0 c483 (by decide) Ara518 hin519 hat519 (own_w0 q0)) hZ (hw _ (List.mem_of_getElem? (i := 98) rfl)) (hw _ (List.mem_of_getElem? (i := 97) rfl)) (by decide) (by decide)) (g := (mkF mM 564 #[.val (.int p1), .val (.int p2), .val (.long q0), .second, .val (.ref b2), .val (.long (5478551163 : Int64)), .second, .val (.int z245), .val (.ref r), .val (.int (3 : Int32)), .val (.ref b447), .val (.ref bp471), .val (.int (1 : Int32)), .val (.int j515)] [(.int (3 : Int32)), (.int (0 : Int32)), (.long q0), (.ref bp471)])) rfl (by rw [hml]; rfl) (argsL := [(.ref bp471), (.long q0), (.int (0 : Int32)), (.int (3 : Int32))]) (rest := []) (lenOf pd_3 rfl) rfl (by show 2 * 0 + _ ≤ _; exact Nat.le_of_eq rfl) (hb hby at_564) (fun _ _ => ⟨rfl, e511, (by decide : 3 + 0 ≤ _), (by decide : 41 + 0 ≤ _)⟩)
    dsimp only [Pt.U, Pt.locs, Pt.cells, Pt.slots] at X522 l522 y522 z522 st522 hQ522
    subst l522 y522 z522
    obtain ⟨rfl, Nq522, e522⟩ := hQ522
    have N522 := Fr.app N521 Nq522
    have pr523 : ∀ tg, Steps pP.tables eE below (T522.setTop (mkF mM 567 #[.val (.int p1), .val (.int p2), .val (.long q0), .second, .val (.ref b2), .val (.long (5478551163 : Int64)), .second, .val (.int z245), .val (.ref r), .val (.int (3 : Int32)), .val (.ref b447), .val (.ref bp471), .val (.int (1 : Int32)), .val (.int j515)] [(.int (1 : Int32))])) tg → Steps pP.tables eE below (s₁.setTop (entryFrame mM #[(.int p1), (.int p2), (.long q0)] maxLocals)) tg := fun tg kg => pr520 _ (st522 _ kg)
    clear pr520 st522 X521 e511
    have hin524 : ¬ ((1 : Int32) < 0 ∨ cla518.slots.size ≤ ((1 : Int32)).toNatClampNeg) := inb_of Sa518 ⟨by decide, by decide⟩
    have hat524 : cla518.slots[((1 : Int32)).toNatClampNeg]? = some (.int (nar .byte ((q0.toUInt64 >>> ((8 : Int32) &&& 0x3f).toInt64.toUInt64).toInt64).toInt32.toInt8.toInt32)) := Has.at Ha518 hin524 rfl
    have pr525 : ∀ tg, Steps pP.tables eE below (T522.setTop (mkF mM 576 #[.val (.int p1), .val (.int p2), .val (.long q0), .second, .val (.ref b2), .val (.long (5478551163 : Int64)), .second, .val (.int z245), .val (.ref r), .val (.int (3 : Int32)), .val (.ref b447), .val (.ref bp471), .val (.int (1 : Int32)), .val (.int j515)] [(.int (3 : Int32)), (.int (1 : Int32)), (.long q0), (.ref bp471)])) tg → Steps pP.tables eE below (s₁.setTop (entryFrame mM #[(.int p1), (.int p2), (.long q0)] maxLocals)) tg := fun tg kg => pr523 _ (by
      show Steps pP.tables eE below (T522.setTop (mkF mM 567 #[.val (.int p1), .val (.int p2), .val (.long q0), .second, .val (.ref b2), .val (.long (5478551163 : Int64)), .second, .val (.int z245), .val (.ref r), .val (.int (3 : Int32)), .val (.ref b447), .val (.ref bp471), .val (.int (1 : Int32)), .val (.int j515)] [(.int (1 : Int32))])) _
      refine XS.ifNo X522.here hx rfl (hb hby at_567) rfl ((if0 _ _).trans (feq (by decide)).1) ?_
      refine XS.aload X522.here hx rfl (hb hby at_570) rfl rfl ?_
      refine XS.lloadN X522.here hx rfl (hb hby at_572) rfl ?_
      refine XS.iconst X522.here hx rfl (hb hby at_573) ?_
      refine XS.iload X522.here hx rfl (hb hby at_574) rfl ?_
      exact kg)
    clear pr523
    obtain ⟨Ls526, X526, N526⟩ := own_hide X522 N522
    clear X522 N522
    obtain ⟨_, _, ⟨T527, L527, kk527, nn527⟩, -, X527, ⟨Lc527, hQ527, l527, y527, z527⟩, st527⟩ := Jvm.LawKit.callS X526 hx (y := (⟨"com/example/tesserae/tesserae/value/VrPadPinLaw", "sameAt", "([BJII)Z"⟩ : MethodName)) hown (mvT hZ (hw _ (List.mem_of_getElem? (i := 95) rfl))) (mvT hZ (hw _ (List.mem_of_getElem? (i := 96) rfl))) (mvT hZ (hw _ (List.mem_of_getElem? (i := 97) rfl))) (mvT hZ (hw _ (List.mem_of_getElem? (i := 98) rfl))) (by decide) (backOf (W := 0) (rm5 l Z a0 hw [] bp471 q0 (1 : Int32) (3 : Int32) cla518 (nar .byte ((q0.toUInt64 >>> ((8 : Int32) &&& 0x3f).toInt64.toUInt64).toInt64).toInt32.toInt8.toInt32) T471.heap n0 c483 (by decide) Ara518 hin524 hat524 (own_w1 q0)) hZ (hw _ (List.mem_of_getElem? (i := 98) rfl)) (hw _ (List.mem_of_getElem? (i := 97) rfl)) (by decide) (by decide)) (g := (mkF mM 576 #[.val (.int p1), .val (.int p2), .val (.long q0), .second, .val (.ref b2), .val (.long (5478551163 : Int64)), .second, .val (.int z245), .val (.ref r), .val (.int (3 : Int32)), .val (.ref b447), .val (.ref bp471), .val (.int (1 : Int32)), .val (.int j515)] [(.int (3 : Int32)), (.int (1 : Int32)), (.long q0), (.ref bp471)])) rfl (by rw [hml]; rfl) (argsL := [(.ref bp471), (.long q0), (.int (1 : Int32)), (.int (3 : Int32))]) (rest := []) (lenOf pd_3 rfl) rfl (by show 2 * 0 + _ ≤ _; exact Nat.le_of_eq rfl) (hb hby at_576) (fun _ _ => ⟨rfl, e522, (by decide : 3 + 0 ≤ _), (by decide : 41 + 0 ≤ _)⟩)
    dsimp only [Pt.U, Pt.locs, Pt.cells, Pt.slots] at X527 l527 y527 z527 st527 hQ527
    subst l527 y527 z527
    obtain ⟨rfl, Nq527, e527⟩ := hQ527
    have N527 := Fr.app N526 Nq527
    have pr528 : ∀ tg, Steps pP.tables eE below (T527.setTop (mkF mM 579 #[.val (.int p1), .val (.int p2), .val (.long q0), .second, .val (.ref b2), .val (.long (5478551163 : Int64)), .second, .val (.int z245), .val (.ref r), .val (.int (3 : Int32)), .val (.ref b447), .val (.ref bp471), .val (.int (1 : Int32)), .val (.int j515)] [(.int (1 : Int32))])) tg → Steps pP.tables eE below (s₁.setTop (entryFrame mM #[(.int p1), (.int p2), (.long q0)] maxLocals)) tg := fun tg kg => pr525 _ (st527 _ kg)
    clear pr525 st527 X526 e522
    have hin529 : ¬ ((2 : Int32) < 0 ∨ cla518.slots.size ≤ ((2 : Int32)).toNatClampNeg) := inb_of Sa518 ⟨by decide, by decide⟩
    have hat529 : cla518.slots[((2 : Int32)).toNatClampNeg]? = some (.int (nar .byte ((q0.toUInt64 >>> ((16 : Int32) &&& 0x3f).toInt64.toUInt64).toInt64).toInt32.toInt8.toInt32)) := Has.at Ha518 hin529 rfl
    have pr530 : ∀ tg, Steps pP.tables eE below (T527.setTop (mkF mM 588 #[.val (.int p1), .val (.int p2), .val (.long q0), .second, .val (.ref b2), .val (.long (5478551163 : Int64)), .second, .val (.int z245), .val (.ref r), .val (.int (3 : Int32)), .val (.ref b447), .val (.ref bp471), .val (.int (1 : Int32)), .val (.int j515)] [(.int (3 : Int32)), (.int (2 : Int32)), (.long q0), (.ref bp471)])) tg → Steps pP.tables eE below (s₁.setTop (entryFrame mM #[(.int p1), (.int p2), (.long q0)] maxLocals)) tg := fun tg kg => pr528 _ (by
      show Steps pP.tables eE below (T527.setTop (mkF mM 579 #[.val (.int p1), .val (.int p2), .val (.long q0), .second, .val (.ref b2), .val (.long (5478551163 : Int64)), .second, .val (.int z245), .val (.ref r), .val (.int (3 : Int32)), .val (.ref b447), .val (.ref bp471), .val (.int (1 : Int32)), .val (.int j515)] [(.int (1 : Int32))])) _
      refine XS.ifNo X527.here hx rfl (hb hby at_579) rfl ((if0 _ _).trans (feq (by decide)).1) ?_
      refine XS.aload X527.here hx rfl (hb hby at_582) rfl rfl ?_
      refine XS.lloadN X527.here hx rfl (hb hby at_584) rfl ?_
      refine XS.iconst X527.here hx rfl (hb hby at_585) ?_
      refine XS.iload X527.here hx rfl (hb hby at_586) rfl ?_
      exact kg)
    clear pr528
    obtain ⟨Ls531, X531, N531⟩ := own_hide X527 N527
    clear X527 N527
    obtain ⟨_, _, ⟨T532, L532, kk532, nn532⟩, -, X532, ⟨Lc532, hQ532, l532, y532, z532⟩, st532⟩ := Jvm.LawKit.callS X531 hx (y := (⟨"com/example/tesserae/tesserae/value/VrPadPinLaw", "sameAt", "([BJII)Z"⟩ : MethodName)) hown (mvT hZ (hw _ (List.mem_of_getElem? (i := 95) rfl))) (mvT hZ (hw _ (List.mem_of_getElem? (i := 96) rfl))) (mvT hZ (hw _ (List.mem_of_getElem? (i := 97) rfl))) (mvT hZ (hw _ (List.mem_of_getElem? (i := 98) rfl))) (by decide) (backOf (W := 0) (rm5 l Z a0 hw [] bp471 q0 (2 : Int32) (3 : Int32) cla518 (nar .byte ((q0.toUInt64 >>> ((16 : Int32) &&& 0x3f).toInt64.toUInt64).toInt64).toInt32.toInt8.toInt32) T471.heap n0 c483 (by decide) Ara518 hin529 hat529 (own_w2 q0)) hZ (hw _ (List.mem_of_getElem? (i := 98) rfl)) (hw _ (List.mem_of_getElem? (i := 97) rfl)) (by decide) (by decide)) (g := (mkF mM 588 #[.val (.int p1), .val (.int p2), .val (.long q0), .second, .val (.ref b2), .val (.long (5478551163 : Int64)), .second, .val (.int z245), .val (.ref r), .val (.int (3 : Int32)), .val (.ref b447), .val (.ref bp471), .val (.int (1 : Int32)), .val (.int j515)] [(.int (3 : Int32)), (.int (2 : Int32)), (.long q0), (.ref bp471)])) rfl (by rw [hml]; rfl) (argsL := [(.ref bp471), (.long q0), (.int (2 : Int32)), (.int (3 : Int32))]) (rest := []) (lenOf pd_3 rfl) rfl (by show 2 * 0 + _ ≤ _; exact Nat.le_of_eq rfl) (hb hby at_588) (fun _ _ => ⟨rfl, e527, (by decide : 3 + 0 ≤ _), (by decide : 41 + 0 ≤ _)⟩)
    dsimp only [Pt.U, Pt.locs, Pt.cells, Pt.slots] at X532 l532 y532 z532 st532 hQ532
    subst l532 y532 z532
    obtain ⟨rfl, Nq532, e532⟩ := hQ532
    have N532 := Fr.app N531 Nq532
    have pr533 : ∀ tg, Steps pP.tables eE below (T532.setTop (mkF mM 591 #[.val (.int p1), .val (.int p2), .val (.long q0), .second, .val (.ref b2), .val (.long (5478551163 : Int64)), .second, .val (.int z245), .val (.ref r), .val (.int (3 : Int32)), .val (.ref b447), .val (.ref bp471), .val (.int (1 : Int32)), .val (.int j515)] [(.int (1 : Int32))])) tg → Steps pP.tables eE below (s₁.setTop (entryFrame mM #[(.int p1), (.int p2), (.long q0)] maxLocals)) tg := fun tg kg => pr530 _ (st532 _ kg)
    clear pr530 st532 X531 e527
    have pr534 : ∀ tg, Steps pP.tables eE below (T532.setTop (mkF mM 600 #[.val (.int p1), .val (.int p2), .val (.long q0), .second, .val (.ref b2), .val (.long (5478551163 : Int64)), .second, .val (.int z245), .val (.ref r), .val (.int (3 : Int32)), .val (.ref b447), .val (.ref bp471), .val (.int (1 : Int32)), .val (.int j515)] [(.int (3 : Int32)), (.int (3 : Int32)), (.long q0), (.ref bp471)])) tg → Steps pP.tables eE below (s₁.setTop (entryFrame mM #[(.int p1), (.int p2), (.long q0)] maxLocals)) tg := fun tg kg => pr533 _ (by
      show Steps pP.tables eE below (T532.setTop (mkF mM 591 #[.val (.int p1), .val (.int p2), .val (.long q0), .second, .val (.ref b2), .val (.long (5478551163 : Int64)), .second, .val (.int z245), .val (.ref r), .val (.int (3 : Int32)), .val (.ref b447), .val (.ref bp471), .val (.int (1 : Int32)), .val (.int j515)] [(.int (1 : Int32))])) _
      refine XS.ifNo X532.here hx rfl (hb hby at_591) rfl ((if0 _ _).trans (feq (by decide)).1) ?_
      refine XS.aload X532.here hx rfl (hb hby at_594) rfl rfl ?_
      refine XS.lloadN X532.here hx rfl (hb hby at_596) rfl ?_
      refine XS.iconst X532.here hx rfl (hb hby at_597) ?_
      refine XS.iload X532.here hx rfl (hb hby at_598) rfl ?_
      exact kg)
    clear pr533
    obtain ⟨Ls535, X535, N535⟩ := own_hide X532 N532
    clear X532 N532
    obtain ⟨_, _, ⟨T536, L536, kk536, nn536⟩, -, X536, ⟨Lc536, hQ536, l536, y536, z536⟩, st536⟩ := Jvm.LawKit.callS X535 hx (y := (⟨"com/example/tesserae/tesserae/value/VrPadPinLaw", "sameAt", "([BJII)Z"⟩ : MethodName)) hown (mvT hZ (hw _ (List.mem_of_getElem? (i := 95) rfl))) (mvT hZ (hw _ (List.mem_of_getElem? (i := 96) rfl))) (mvT hZ (hw _ (List.mem_of_getElem? (i := 97) rfl))) (mvT hZ (hw _ (List.mem_of_getElem? (i := 98) rfl))) (by decide) (backOf (W := 0) (rm4 l Z a0 hw [] bp471 q0 (3 : Int32) (3 : Int32) T471.heap n0 c483 (by decide)) hZ (hw _ (List.mem_of_getElem? (i := 98) rfl)) (hw _ (List.mem_of_getElem? (i := 97) rfl)) (by decide) (by decide)) (g := (mkF mM 600 #[.val (.int p1), .val (.int p2), .val (.long q0), .second, .val (.ref b2), .val (.long (5478551163 : Int64)), .second, .val (.int z245), .val (.ref r), .val (.int (3 : Int32)), .val (.ref b447), .val (.ref bp471), .val (.int (1 : Int32)), .val (.int j515)] [(.int (3 : Int32)), (.int (3 : Int32)), (.long q0), (.ref bp471)])) rfl (by rw [hml]; rfl) (argsL := [(.ref bp471), (.long q0), (.int (3 : Int32)), (.int (3 : Int32))]) (rest := []) (lenOf pd_3 rfl) rfl (by show 2 * 0 + _ ≤ _; exact Nat.le_of_eq rfl) (hb hby at_600) (fun _ _ => ⟨rfl, e532, (by decide : 3 + 0 ≤ _), (by decide : 41 + 0 ≤ _)⟩)
    dsimp only [Pt.U, Pt.locs, Pt.cells, Pt.slots] at X536 l536 y536 z536 st536 hQ536
    subst l536 y536 z536
    obtain ⟨rfl, Nq536, e536⟩ := hQ536
    have N536 := Fr.app N535 Nq536
    have pr537 : ∀ tg, Steps pP.tables eE below (T536.setTop (mkF mM 603 #[.val (.int p1), .val (.int p2), .val (.long q0), .second, .val (.ref b2), .val (.long (5478551163 : Int64)), .second, .val (.int z245), .val (.ref r), .val (.int (3 : Int32)), .val (.ref b447), .val (.ref bp471), .val (.int (1 : Int32)), .val (.int j515)] [(.int (1 : Int32))])) tg → Steps pP.tables eE below (s₁.setTop (entryFrame mM #[(.int p1), (.int p2), (.long q0)] maxLocals)) tg := fun tg kg => pr534 _ (st536 _ kg)
    clear pr534 st536 X535 e532
    have pr538 : ∀ tg, Steps pP.tables eE below (T536.setTop (mkF mM 612 #[.val (.int p1), .val (.int p2), .val (.long q0), .second, .val (.ref b2), .val (.long (5478551163 : Int64)), .second, .val (.int z245), .val (.ref r), .val (.int (3 : Int32)), .val (.ref b447), .val (.ref bp471), .val (.int (1 : Int32)), .val (.int j515)] [(.int (3 : Int32)), (.int (4 : Int32)), (.long q0), (.ref bp471)])) tg → Steps pP.tables eE below (s₁.setTop (entryFrame mM #[(.int p1), (.int p2), (.long q0)] maxLocals)) tg := fun tg kg => pr537 _ (by
      show Steps pP.tables eE below (T536.setTop (mkF mM 603 #[.val (.int p1), .val (.int p2), .val (.long q0), .second, .val (.ref b2), .val (.long (5478551163 : Int64)), .second, .val (.int z245), .val (.ref r), .val (.int (3 : Int32)), .val (.ref b447), .val (.ref bp471), .val (.int (1 : Int32)), .val (.int j515)] [(.int (1 : Int32))])) _
      refine XS.ifNo X536.here hx rfl (hb hby at_603) rfl ((if0 _ _).trans (feq (by decide)).1) ?_
      refine XS.aload X536.here hx rfl (hb hby at_606) rfl rfl ?_
      refine XS.lloadN X536.here hx rfl (hb hby at_608) rfl ?_
      refine XS.iconst X536.here hx rfl (hb hby at_609) ?_
      refine XS.iload X536.here hx rfl (hb hby at_610) rfl ?_
      exact kg)
    clear pr537
    obtain ⟨Ls539, X539, N539⟩ := own_hide X536 N536
    clear X536 N536
    obtain ⟨_, _, ⟨T540, L540, kk540, nn540⟩, -, X540, ⟨Lc540, hQ540, l540, y540, z540⟩, st540⟩ := Jvm.LawKit.callS X539 hx (y := (⟨"com/example/tesserae/tesserae/value/VrPadPinLaw", "sameAt", "([BJII)Z"⟩ : MethodName)) hown (mvT hZ (hw _ (List.mem_of_getElem? (i := 95) rfl))) (mvT hZ (hw _ (List.mem_of_getElem? (i := 96) rfl))) (mvT hZ (hw _ (List.mem_of_getElem? (i := 97) rfl))) (mvT hZ (hw _ (List.mem_of_getElem? (i := 98) rfl))) (by decide) (backOf (W := 0) (rm4 l Z a0 hw [] bp471 q0 (4 : Int32) (3 : Int32) T471.heap n0 c483 (by decide)) hZ (hw _ (List.mem_of_getElem? (i := 98) rfl)) (hw _ (List.mem_of_getElem? (i := 97) rfl)) (by decide) (by decide)) (g := (mkF mM 612 #[.val (.int p1), .val (.int p2), .val (.long q0), .second, .val (.ref b2), .val (.long (5478551163 : Int64)), .second, .val (.int z245), .val (.ref r), .val (.int (3 : Int32)), .val (.ref b447), .val (.ref bp471), .val (.int (1 : Int32)), .val (.int j515)] [(.int (3 : Int32)), (.int (4 : Int32)), (.long q0), (.ref bp471)])) rfl (by rw [hml]; rfl) (argsL := [(.ref bp471), (.long q0), (.int (4 : Int32)), (.int (3 : Int32))]) (rest := []) (lenOf pd_3 rfl) rfl (by show 2 * 0 + _ ≤ _; exact Nat.le_of_eq rfl) (hb hby at_612) (fun _ _ => ⟨rfl, e536, (by decide : 3 + 0 ≤ _), (by decide : 41 + 0 ≤ _)⟩)
    dsimp only [Pt.U, Pt.locs, Pt.cells, Pt.slots] at X540 l540 y540 z540 st540 hQ540
    subst l540 y540 z540
    obtain ⟨rfl, Nq540, e540⟩ := hQ540
    have N540 := Fr.app N539 Nq540
    have pr541 : ∀ tg, Steps pP.tables eE below (T540.setTop (mkF mM 615 #[.val (.int p1), .val (.int p2), .val (.long q0), .second, .val (.ref b2), .val (.long (5478551163 : Int64)), .second, .val (.int z245), .val (.ref r), .val (.int (3 : Int32)), .val (.ref b447), .val (.ref bp471), .val (.int (1 : Int32)), .val (.int j515)] [(.int (1 : Int32))])) tg → Steps pP.tables eE below (s₁.setTop (entryFrame mM #[(.int p1), (.int p2), (.long q0)] maxLocals)) tg := fun tg kg => pr538 _ (st540 _ kg)
    clear pr538 st540 X539 e536
    have pr542 : ∀ tg, Steps pP.tables eE below (T540.setTop (mkF mM 624 #[.val (.int p1), .val (.int p2), .val (.long q0), .second, .val (.ref b2), .val (.long (5478551163 : Int64)), .second, .val (.int z245), .val (.ref r), .val (.int (3 : Int32)), .val (.ref b447), .val (.ref bp471), .val (.int (1 : Int32)), .val (.int j515)] [(.int (3 : Int32)), (.int (5 : Int32)), (.long q0), (.ref bp471)])) tg → Steps pP.tables eE below (s₁.setTop (entryFrame mM #[(.int p1), (.int p2), (.long q0)] maxLocals)) tg := fun tg kg => pr541 _ (by
      show Steps pP.tables eE below (T540.setTop (mkF mM 615 #[.val (.int p1), .val (.int p2), .val (.long q0), .second, .val (.ref b2), .val (.long (5478551163 : Int64)), .second, .val (.int z245), .val (.ref r), .val (.int (3 : Int32)), .val (.ref b447), .val (.ref bp471), .val (.int (1 : Int32)), .val (.int j515)] [(.int (1 : Int32))])) _
      refine XS.ifNo X540.here hx rfl (hb hby at_615) rfl ((if0 _ _).trans (feq (by decide)).1) ?_
      refine XS.aload X540.here hx rfl (hb hby at_618) rfl rfl ?_
      refine XS.lloadN X540.here hx rfl (hb hby at_620) rfl ?_
      refine XS.iconst X540.here hx rfl (hb hby at_621) ?_
      refine XS.iload X540.here hx rfl (hb hby at_622) rfl ?_
      exact kg)
    clear pr541
    obtain ⟨Ls543, X543, N543⟩ := own_hide X540 N540
    clear X540 N540
    obtain ⟨_, _, ⟨T544, L544, kk544, nn544⟩, -, X544, ⟨Lc544, hQ544, l544, y544, z544⟩, st544⟩ := Jvm.LawKit.callS X543 hx (y := (⟨"com/example/tesserae/tesserae/value/VrPadPinLaw", "sameAt", "([BJII)Z"⟩ : MethodName)) hown (mvT hZ (hw _ (List.mem_of_getElem? (i := 95) rfl))) (mvT hZ (hw _ (List.mem_of_getElem? (i := 96) rfl))) (mvT hZ (hw _ (List.mem_of_getElem? (i := 97) rfl))) (mvT hZ (hw _ (List.mem_of_getElem? (i := 98) rfl))) (by decide) (backOf (W := 0) (rm4 l Z a0 hw [] bp471 q0 (5 : Int32) (3 : Int32) T471.heap n0 c483 (by decide)) hZ (hw _ (List.mem_of_getElem? (i := 98) rfl)) (hw _ (List.mem_of_getElem? (i := 97) rfl)) (by decide) (by decide)) (g := (mkF mM 624 #[.val (.int p1), .val (.int p2), .val (.long q0), .second, .val (.ref b2), .val (.long (5478551163 : Int64)), .second, .val (.int z245), .val (.ref r), .val (.int (3 : Int32)), .val (.ref b447), .val (.ref bp471), .val (.int (1 : Int32)), .val (.int j515)] [(.int (3 : Int32)), (.int (5 : Int32)), (.long q0), (.ref bp471)])) rfl (by rw [hml]; rfl) (argsL := [(.ref bp471), (.long q0), (.int (5 : Int32)), (.int (3 : Int32))]) (rest := []) (lenOf pd_3 rfl) rfl (by show 2 * 0 + _ ≤ _; exact Nat.le_of_eq rfl) (hb hby at_624) (fun _ _ => ⟨rfl, e540, (by decide : 3 + 0 ≤ _), (by decide : 41 + 0 ≤ _)⟩)
    dsimp only [Pt.U, Pt.locs, Pt.cells, Pt.slots] at X544 l544 y544 z544 st544 hQ544
    subst l544 y544 z544
    obtain ⟨rfl, Nq544, e544⟩ := hQ544
    have N544 := Fr.app N543 Nq544
    have pr545 : ∀ tg, Steps pP.tables eE below (T544.setTop (mkF mM 627 #[.val (.int p1), .val (.int p2), .val (.long q0), .second, .val (.ref b2), .val (.long (5478551163 : Int64)), .second, .val (.int z245), .val (.ref r), .val (.int (3 : Int32)), .val (.ref b447), .val (.ref bp471), .val (.int (1 : Int32)), .val (.int j515)] [(.int (1 : Int32))])) tg → Steps pP.tables eE below (s₁.setTop (entryFrame mM #[(.int p1), (.int p2), (.long q0)] maxLocals)) tg := fun tg kg => pr542 _ (st544 _ kg)
    clear pr542 st544 X543 e540
    have pr546 : ∀ tg, Steps pP.tables eE below (T544.setTop (mkF mM 637 #[.val (.int p1), .val (.int p2), .val (.long q0), .second, .val (.ref b2), .val (.long (5478551163 : Int64)), .second, .val (.int z245), .val (.ref r), .val (.int (3 : Int32)), .val (.ref b447), .val (.ref bp471), .val (.int (1 : Int32)), .val (.int j515)] [(.int (3 : Int32)), (.int (6 : Int32)), (.long q0), (.ref bp471)])) tg → Steps pP.tables eE below (s₁.setTop (entryFrame mM #[(.int p1), (.int p2), (.long q0)] maxLocals)) tg := fun tg kg => pr545 _ (by
      show Steps pP.tables eE below (T544.setTop (mkF mM 627 #[.val (.int p1), .val (.int p2), .val (.long q0), .second, .val (.ref b2), .val (.long (5478551163 : Int64)), .second, .val (.int z245), .val (.ref r), .val (.int (3 : Int32)), .val (.ref b447), .val (.ref bp471), .val (.int (1 : Int32)), .val (.int j515)] [(.int (1 : Int32))])) _
      refine XS.ifNo X544.here hx rfl (hb hby at_627) rfl ((if0 _ _).trans (feq (by decide)).1) ?_
      refine XS.aload X544.here hx rfl (hb hby at_630) rfl rfl ?_
      refine XS.lloadN X544.here hx rfl (hb hby at_632) rfl ?_
      refine XS.bipush X544.here hx rfl (hb hby at_633) ?_
      refine XS.iload X544.here hx rfl (hb hby at_635) rfl ?_
      exact kg)
    clear pr545
    obtain ⟨Ls547, X547, N547⟩ := own_hide X544 N544
    clear X544 N544
    obtain ⟨_, _, ⟨T548, L548, kk548, nn548⟩, -, X548, ⟨Lc548, hQ548, l548, y548, z548⟩, st548⟩ := Jvm.LawKit.callS X547 hx (y := (⟨"com/example/tesserae/tesserae/value/VrPadPinLaw", "sameAt", "([BJII)Z"⟩ : MethodName)) hown (mvT hZ (hw _ (List.mem_of_getElem? (i := 95) rfl))) (mvT hZ (hw _ (List.mem_of_getElem? (i := 96) rfl))) (mvT hZ (hw _ (List.mem_of_getElem? (i := 97) rfl))) (mvT hZ (hw _ (List.mem_of_getElem? (i := 98) rfl))) (by decide) (backOf (W := 0) (rm4 l Z a0 hw [] bp471 q0 (6 : Int32) (3 : Int32) T471.heap n0 c483 (by decide)) hZ (hw _ (List.mem_of_getElem? (i := 98) rfl)) (hw _ (List.mem_of_getElem? (i := 97) rfl)) (by decide) (by decide)) (g := (mkF mM 637 #[.val (.int p1), .val (.int p2), .val (.long q0), .second, .val (.ref b2), .val (.long (5478551163 : Int64)), .second, .val (.int z245), .val (.ref r), .val (.int (3 : Int32)), .val (.ref b447), .val (.ref bp471), .val (.int (1 : Int32)), .val (.int j515)] [(.int (3 : Int32)), (.int (6 : Int32)), (.long q0), (.ref bp471)])) rfl (by rw [hml]; rfl) (argsL := [(.ref bp471), (.long q0), (.int (6 : Int32)), (.int (3 : Int32))]) (rest := []) (lenOf pd_3 rfl) rfl (by show 2 * 0 + _ ≤ _; exact Nat.le_of_eq rfl) (hb hby at_637) (fun _ _ => ⟨rfl, e544, (by decide : 3 + 0 ≤ _), (by decide : 41 + 0 ≤ _)⟩)
    dsimp only [Pt.U, Pt.locs, Pt.cells, Pt.slots] at X548 l548 y548 z548 st548 hQ548
    subst l548 y548 z548
    obtain ⟨rfl, Nq548, e548⟩ := hQ548
    have N548 := Fr.app N547 Nq548
    have pr549 : ∀ tg, Steps pP.tables eE below (T548.setTop (mkF mM 640 #[.val (.int p1), .val (.int p2), .val (.long q0), .second, .val (.ref b2), .val (.long (5478551163 : Int64)), .second, .val (.int z245), .val (.ref r), .val (.int (3 : Int32)), .val (.ref b447), .val (.ref bp471), .val (.int (1 : Int32)), .val (.int j515)] [(.int (1 : Int32))])) tg → Steps pP.tables eE below (s₁.setTop (entryFrame mM #[(.int p1), (.int p2), (.long q0)] maxLocals)) tg := fun tg kg => pr546 _ (st548 _ kg)
    clear pr546 st548 X547 e544
    have hin550 : ¬ ((3 : Int32) < 0 ∨ cla518.slots.size ≤ ((3 : Int32)).toNatClampNeg) := inb_of Sa518 ⟨by decide, by decide⟩
    have hat550 : cla518.slots[((3 : Int32)).toNatClampNeg]? = some (.int pv) := Has.at Ha518 hin550 rfl
    have pr551 : ∀ tg, Steps pP.tables eE below (T548.setTop (mkF mM 658 #[.val (.int p1), .val (.int p2), .val (.long q0), .second, .val (.ref b2), .val (.long (5478551163 : Int64)), .second, .val (.int z245), .val (.ref r), .val (.int (3 : Int32)), .val (.ref b447), .val (.ref bp471), .val (.int (1 : Int32)), .val (.int j515)] [(.int (1 : Int32))])) tg → Steps pP.tables eE below (s₁.setTop (entryFrame mM #[(.int p1), (.int p2), (.long q0)] maxLocals)) tg := fun tg kg => pr549 _ (by
      show Steps pP.tables eE below (T548.setTop (mkF mM 640 #[.val (.int p1), .val (.int p2), .val (.long q0), .second, .val (.ref b2), .val (.long (5478551163 : Int64)), .second, .val (.int z245), .val (.ref r), .val (.int (3 : Int32)), .val (.ref b447), .val (.ref bp471), .val (.int (1 : Int32)), .val (.int j515)] [(.int (1 : Int32))])) _
      refine XS.ifNo X548.here hx rfl (hb hby at_640) rfl ((if0 _ _).trans (feq (by decide)).1) ?_
      refine XS.aload X548.here hx rfl (hb hby at_643) rfl rfl ?_
      refine XS.iload X548.here hx rfl (hb hby at_645) rfl ?_
      show Steps pP.tables eE below (T548.setTop (mkF mM 647 #[.val (.int p1), .val (.int p2), .val (.long q0), .second, .val (.ref b2), .val (.long (5478551163 : Int64)), .second, .val (.int z245), .val (.ref r), .val (.int (3 : Int32)), .val (.ref b447), .val (.ref bp471), .val (.int (1 : Int32)), .val (.int j515)] [(.int (3 : Int32)), (.ref bp471)])) _
      refine X548.baloadBytes hx (j := (3 : Int32)) (v := (.int pv)) (by rw [e548]; exact Ara518.1) (State.isArrayOf_alike hZ.alike Ara518.2.1) Ara518.2.2 hin550 hat550 (g := (mkF mM 647 #[.val (.int p1), .val (.int p2), .val (.long q0), .second, .val (.ref b2), .val (.long (5478551163 : Int64)), .second, .val (.int z245), .val (.ref r), .val (.int (3 : Int32)), .val (.ref b447), .val (.ref bp471), .val (.int (1 : Int32)), .val (.int j515)] [(.int (3 : Int32)), (.ref bp471)])) rfl rfl (hb hby at_647) _ ?_
      show Steps pP.tables eE below (T548.setTop (mkF mM 648 #[.val (.int p1), .val (.int p2), .val (.long q0), .second, .val (.ref b2), .val (.long (5478551163 : Int64)), .second, .val (.int z245), .val (.ref r), .val (.int (3 : Int32)), .val (.ref b447), .val (.ref bp471), .val (.int (1 : Int32)), .val (.int j515)] [(.int pv)])) _
      refine XS.iload X548.here hx rfl (hb hby at_648) rfl ?_
      refine XS.icmpNo X548.here hx rfl (hb hby at_650) rfl (teq (hx5.trans hj515.symm)).2 ?_
      refine XS.iconst X548.here hx rfl (hb hby at_653) ?_
      refine XS.goto X548.here hx rfl (pc0 := 654) (pc' := 658) rfl (hb hby at_654) (by decide) (by decide) ?_
      exact kg)
    clear pr549
    obtain ⟨fs, hr, hrun, hended, hW, hsame⟩ := X548.leave (v := some (.int (1 : Int32))) (fun h => by rw [Bd.returns] at h; cases h)
    refine ⟨_, _, pr551 _ (retOut X548 hx (t := .boolean) Bd.returns rfl (Or.inl ⟨rfl, Or.inr (Or.inl rfl), _, rfl⟩) (hb hby at_658) hr), hrun, hended, _, _, rfl, ?_, ⟨_, rfl⟩, hW, hsame.mono (by decide) (by decide)⟩
    show Q0 Z p1 p2 q0 a_AE a_AS a_AT a_CS a_DA a_DS a_DT a_FD a_FL a_IS a_LO a_LT a_OB a_OD a_OF a_OL a_OV a_OW a_PN a_SH a_SL a_SQ a_SS a_ST a_SV a_TM a_UC a_UI a_UL a_UN a_UR a_US a_UT a_UV h0 n0 _ T548.heap _
    rw [e548]
    exact ⟨rfl, N548⟩
  ·
    have pr552 : ∀ tg, Steps pP.tables eE below (T242.setTop (mkF mM 268 #[.val (.int p1), .val (.int p2), .val (.long q0), .second, .val (.ref b2), .val (.long (5478551163 : Int64)), .second, .val (.int z245), .val (.ref r), .val (.int (4 : Int32)), .unset, .unset, .unset, .unset] [(.int (4 : Int32))])) tg → Steps pP.tables eE below (s₁.setTop (entryFrame mM #[(.int p1), (.int p2), (.long q0)] maxLocals)) tg := fun tg kg => pr251 _ (by
      show Steps pP.tables eE below (T242.setTop (mkF mM 266 #[.val (.int p1), .val (.int p2), .val (.long q0), .second, .val (.ref b2), .val (.long (5478551163 : Int64)), .second, .val (.int z245), .val (.ref r), .val (.int (4 : Int32)), .unset, .unset, .unset, .unset] [])) _
      refine XS.iload X242.here hx rfl (hb hby at_266) rfl ?_
      exact kg)
    clear pr251
    obtain ⟨T553, h553, k553, X553, e553, E553, A553, Ex553, st553⟩ := newPE X242 hx hZ (hw _ (List.mem_of_getElem? (i := 74) rfl)) e242 (g := (mkF mM 268 #[.val (.int p1), .val (.int p2), .val (.long q0), .second, .val (.ref b2), .val (.long (5478551163 : Int64)), .second, .val (.int z245), .val (.ref r), .val (.int (4 : Int32)), .unset, .unset, .unset, .unset] [(.int (4 : Int32))])) rfl (hb hby at_268) rfl (by decide) (cap := 4) (by decide) (by decide) (by decide) (by decide) (ad := "[B") rfl
    obtain ⟨b553, g553⟩ : ∃ z, z = (h242).size := ⟨_, rfl⟩
    rw [← g553] at A553 Ex553 st553
    have ne554 : b2 ≠ b553 := Nat.ne_of_lt (Nat.lt_of_lt_of_le (V242).lt (Nat.le_of_eq g553.symm))
    have c556 := (Nat.le_trans (Nat.le_trans (Nat.le_trans (Nat.le_trans (Nat.le_trans (Nat.le_trans (Nat.le_trans (Nat.le_trans (Nat.le_trans (Nat.le_trans (Nat.le_trans (Nat.le_trans (Nat.le_trans (Nat.le_trans (Nat.le_trans (Nat.le_trans (Nat.le_trans (Nat.le_trans (Nat.le_trans (Nat.le_trans (Nat.le_trans (Nat.le_trans (Nat.le_trans (Nat.le_trans (Nat.le_trans (Nat.le_trans (Nat.le_trans (Nat.le_trans (Nat.le_trans (Nat.le_trans (Nat.le_trans (Nat.le_trans (Nat.le_trans (Nat.le_trans (Nat.le_trans Z0 E2.1) (Keep.of_wr W11).1) (Keep.of_wr W18).1) (Keep.of_wr W25).1) (Keep.of_wr W32).1) (Keep.of_wr W39).1) (Keep.of_wr W46).1) (Keep.of_wr W53).1) (Keep.of_wr W60).1) (Keep.of_wr W67).1) (Keep.of_wr W74).1) (Keep.of_wr W81).1) (Keep.of_wr W88).1) (Keep.of_wr W95).1) (Keep.of_wr W102).1) (Keep.of_wr W109).1) (Keep.of_wr W116).1) (Keep.of_wr W123).1) (Keep.of_wr W130).1) (Keep.of_wr W137).1) (Keep.of_wr W144).1) (Keep.of_wr W151).1) (Keep.of_wr W158).1) (Keep.of_wr W165).1) (Keep.of_wr W172).1) (Keep.of_wr W179).1) (Keep.of_wr W186).1) (Keep.of_wr W193).1) (Keep.of_wr W200).1) (Keep.of_wr W207).1) (Keep.of_wr W214).1) (Keep.of_wr W221).1) (Keep.of_wr W228).1) (Keep.of_wr W235).1) (Keep.of_wr W242).1)
    have gn555 : n0 ≤ b553 := Nat.le_trans c556 (Nat.le_of_eq g553.symm)
    have c558 := (Keep.wr (Keep.wr (Keep.wr (Keep.wr (Keep.wr (Keep.wr (Keep.wr (Keep.wr (Keep.wr (Keep.wr (Keep.wr (Keep.wr (Keep.wr (Keep.wr (Keep.wr (Keep.wr (Keep.wr (Keep.wr (Keep.wr (Keep.wr (Keep.wr (Keep.wr (Keep.wr (Keep.wr (Keep.wr (Keep.wr (Keep.wr (Keep.wr (Keep.wr (Keep.wr (Keep.wr (Keep.wr (Keep.wr (Keep.wr (Keep.ext (Keep.refl h0 []) E2) W11 (Or.inr gs4)) W18 (Or.inr gs4)) W25 (Or.inr gs4)) W32 (Or.inr gs4)) W39 (Or.inr gs4)) W46 (Or.inr gs4)) W53 (Or.inr gs4)) W60 (Or.inr gs4)) W67 (Or.inr gs4)) W74 (Or.inr gs4)) W81 (Or.inr gs4)) W88 (Or.inr gs4)) W95 (Or.inr gs4)) W102 (Or.inr gs4)) W109 (Or.inr gs4)) W116 (Or.inr gs4)) W123 (Or.inr gs4)) W130 (Or.inr gs4)) W137 (Or.inr gs4)) W144 (Or.inr gs4)) W151 (Or.inr gs4)) W158 (Or.inr gs4)) W165 (Or.inr gs4)) W172 (Or.inr gs4)) W179 (Or.inr gs4)) W186 (Or.inr gs4)) W193 (Or.inr gs4)) W200 (Or.inr gs4)) W207 (Or.inr gs4)) W214 (Or.inr gs4)) W221 (Or.inr gs4)) W228 (Or.inr gs4)) W235 (Or.inr gs4)) W242 (Or.inr gs4))
    have gs557 : h0.size ≤ b553 := Nat.le_trans c558.1 (Nat.le_of_eq g553.symm)
    have c559 := (Old.wr c239 W242 gn3)
    have V553 : Arv Z h553 b553 k553 .byte (4 : Int32) [(.int (0 : Int32)), (.int (0 : Int32)), (.int (0 : Int32)), (.int (0 : Int32))] (.int (0 : Int32)) := (Arv.new A553 (by decide)).pad (pad_rep [] (.int (0 : Int32)) 4)
    have pr560 : ∀ tg, Steps pP.tables eE below (T553.setTop (mkF mM 270 #[.val (.int p1), .val (.int p2), .val (.long q0), .second, .val (.ref b2), .val (.long (5478551163 : Int64)), .second, .val (.int z245), .val (.ref r), .val (.int (4 : Int32)), .unset, .unset, .unset, .unset] [(.ref b553)])) tg → Steps pP.tables eE below (s₁.setTop (entryFrame mM #[(.int p1), (.int p2), (.long q0)] maxLocals)) tg := fun tg kg => pr552 _ (st553 _ kg)
    clear pr552 st553 X242 e242
    have pr561 : ∀ tg, Steps pP.tables eE below (T553.setTop (mkF mM 283 #[.val (.int p1), .val (.int p2), .val (.long q0), .second, .val (.ref b2), .val (.long (5478551163 : Int64)), .second, .val (.int z245), .val (.ref r), .val (.int (4 : Int32)), .val (.ref b553), .unset, .unset, .unset] [(.int q0.toInt32.toInt8.toInt32), (.int (0 : Int32)), (.ref b553)])) tg → Steps pP.tables eE below (s₁.setTop (entryFrame mM #[(.int p1), (.int p2), (.long q0)] maxLocals)) tg := fun tg kg => pr560 _ (by
      show Steps pP.tables eE below (T553.setTop (mkF mM 270 #[.val (.int p1), .val (.int p2), .val (.long q0), .second, .val (.ref b2), .val (.long (5478551163 : Int64)), .second, .val (.int z245), .val (.ref r), .val (.int (4 : Int32)), .unset, .unset, .unset, .unset] [(.ref b553)])) _
      refine XS.astore X553.here hx rfl (hb hby at_270) rfl rfl (l' := #[.val (.int p1), .val (.int p2), .val (.long q0), .second, .val (.ref b2), .val (.long (5478551163 : Int64)), .second, .val (.int z245), .val (.ref r), .val (.int (4 : Int32)), .val (.ref b553), .unset, .unset, .unset]) rfl ?_
      refine XS.iload X553.here hx rfl (hb hby at_272) rfl ?_
      refine XS.ifNo X553.here hx rfl (hb hby at_274) rfl ((if0 _ _).trans (tlt (by decide)).2.2.2) ?_
      refine XS.aload X553.here hx rfl (hb hby at_277) rfl rfl ?_
      refine XS.iconst X553.here hx rfl (hb hby at_279) ?_
      refine XS.lloadN X553.here hx rfl (hb hby at_280) rfl ?_
      show Steps pP.tables eE below (T553.setTop (mkF mM 281 #[.val (.int p1), .val (.int p2), .val (.long q0), .second, .val (.ref b2), .val (.long (5478551163 : Int64)), .second, .val (.int z245), .val (.ref r), .val (.int (4 : Int32)), .val (.ref b553), .unset, .unset, .unset] [(.long q0), (.int (0 : Int32)), (.ref b553)])) _
      refine XS.l2i X553.here hx rfl (hb hby at_281) rfl ?_
      refine XS.i2b X553.here hx rfl (hb hby at_282) rfl ?_
      exact kg)
    clear pr560
    obtain ⟨cla562, Ara562, qa562, Sa562, Ma562, Ha562, Ga562⟩ := id V553
    have hin563 : ¬ ((0 : Int32) < 0 ∨ cla562.slots.size ≤ ((0 : Int32)).toNatClampNeg) := inb_of Sa562 ⟨by decide, by decide⟩
    obtain ⟨T563, h563, X563, e563, W563, st563⟩ := stB X553 hx hZ e553 Ara562 (j := (0 : Int32)) hin563 (g := (mkF mM 283 #[.val (.int p1), .val (.int p2), .val (.long q0), .second, .val (.ref b2), .val (.long (5478551163 : Int64)), .second, .val (.int z245), .val (.ref r), .val (.int (4 : Int32)), .val (.ref b553), .unset, .unset, .unset] [(.int q0.toInt32.toInt8.toInt32), (.int (0 : Int32)), (.ref b553)])) rfl rfl (hb hby at_283)
    have V563 : Arv Z h563 b553 k553 .byte (4 : Int32) [(.int (nar .byte q0.toInt32.toInt8.toInt32)), (.int (0 : Int32)), (.int (0 : Int32)), (.int (0 : Int32))] (.int (0 : Int32)) := Arv.set Ara562 qa562 Sa562 Ma562 Ha562 Ga562 (fits_nar_byte _) W563 0 rfl (Nat.le_of_ble_eq_true rfl)
    have N563 := Fr.snoc X563 N242 gn555
    have pr564 : ∀ tg, Steps pP.tables eE below (T563.setTop (mkF mM 284 #[.val (.int p1), .val (.int p2), .val (.long q0), .second, .val (.ref b2), .val (.long (5478551163 : Int64)), .second, .val (.int z245), .val (.ref r), .val (.int (4 : Int32)), .val (.ref b553), .unset, .unset, .unset] [])) tg → Steps pP.tables eE below (s₁.setTop (entryFrame mM #[(.int p1), (.int p2), (.long q0)] maxLocals)) tg := fun tg kg => pr561 _ (st563 _ kg)
    clear pr561 st563 X553 e553
    have pr565 : ∀ tg, Steps pP.tables eE below (T563.setTop (mkF mM 299 #[.val (.int p1), .val (.int p2), .val (.long q0), .second, .val (.ref b2), .val (.long (5478551163 : Int64)), .second, .val (.int z245), .val (.ref r), .val (.int (4 : Int32)), .val (.ref b553), .unset, .unset, .unset] [(.int ((q0.toUInt64 >>> ((8 : Int32) &&& 0x3f).toInt64.toUInt64).toInt64).toInt32.toInt8.toInt32), (.int (1 : Int32)), (.ref b553)])) tg → Steps pP.tables eE below (s₁.setTop (entryFrame mM #[(.int p1), (.int p2), (.long q0)] maxLocals)) tg := fun tg kg => pr564 _ (by
      show Steps pP.tables eE below (T563.setTop (mkF mM 284 #[.val (.int p1), .val (.int p2), .val (.long q0), .second, .val (.ref b2), .val (.long (5478551163 : Int64)), .second, .val (.int z245), .val (.ref r), .val (.int (4 : Int32)), .val (.ref b553), .unset, .unset, .unset] [])) _
      refine XS.iload X563.here hx rfl (hb hby at_284) rfl ?_
      refine XS.iconst X563.here hx rfl (hb hby at_286) ?_
      refine XS.icmpNo X563.here hx rfl (hb hby at_287) rfl (tlt (by decide)).2.2.2 ?_
      refine XS.aload X563.here hx rfl (hb hby at_290) rfl rfl ?_
      refine XS.iconst X563.here hx rfl (hb hby at_292) ?_
      refine XS.lloadN X563.here hx rfl (hb hby at_293) rfl ?_
      show Steps pP.tables eE below (T563.setTop (mkF mM 294 #[.val (.int p1), .val (.int p2), .val (.long q0), .second, .val (.ref b2), .val (.long (5478551163 : Int64)), .second, .val (.int z245), .val (.ref r), .val (.int (4 : Int32)), .val (.ref b553), .unset, .unset, .unset] [(.long q0), (.int (1 : Int32)), (.ref b553)])) _
      refine XS.bipush X563.here hx rfl (hb hby at_294) ?_
      refine XS.lushr X563.here hx rfl (hb hby at_296) rfl ?_
      refine XS.l2i X563.here hx rfl (hb hby at_297) rfl ?_
      refine XS.i2b X563.here hx rfl (hb hby at_298) rfl ?_
      exact kg)
    clear pr564
    obtain ⟨cla566, Ara566, qa566, Sa566, Ma566, Ha566, Ga566⟩ := id V563
    have hin567 : ¬ ((1 : Int32) < 0 ∨ cla566.slots.size ≤ ((1 : Int32)).toNatClampNeg) := inb_of Sa566 ⟨by decide, by decide⟩
    obtain ⟨T567, h567, X567, e567, W567, st567⟩ := stB X563 hx hZ e563 Ara566 (j := (1 : Int32)) hin567 (g := (mkF mM 299 #[.val (.int p1), .val (.int p2), .val (.long q0), .second, .val (.ref b2), .val (.long (5478551163 : Int64)), .second, .val (.int z245), .val (.ref r), .val (.int (4 : Int32)), .val (.ref b553), .unset, .unset, .unset] [(.int ((q0.toUInt64 >>> ((8 : Int32) &&& 0x3f).toInt64.toUInt64).toInt64).toInt32.toInt8.toInt32), (.int (1 : Int32)), (.ref b553)])) rfl rfl (hb hby at_299)
    have V567 : Arv Z h567 b553 k553 .byte (4 : Int32) [(.int (nar .byte q0.toInt32.toInt8.toInt32)), (.int (nar .byte ((q0.toUInt64 >>> ((8 : Int32) &&& 0x3f).toInt64.toUInt64).toInt64).toInt32.toInt8.toInt32)), (.int (0 : Int32)), (.int (0 : Int32))] (.int (0 : Int32)) := Arv.set Ara566 qa566 Sa566 Ma566 Ha566 Ga566 (fits_nar_byte _) W567 1 rfl (Nat.le_of_ble_eq_true rfl)
    have N567 := Fr.snoc X567 N563 gn555
    have pr568 : ∀ tg, Steps pP.tables eE below (T567.setTop (mkF mM 300 #[.val (.int p1), .val (.int p2), .val (.long q0), .second, .val (.ref b2), .val (.long (5478551163 : Int64)), .second, .val (.int z245), .val (.ref r), .val (.int (4 : Int32)), .val (.ref b553), .unset, .unset, .unset] [])) tg → Steps pP.tables eE below (s₁.setTop (entryFrame mM #[(.int p1), (.int p2), (.long q0)] maxLocals)) tg := fun tg kg => pr565 _ (st567 _ kg)
    clear pr565 st567 X563 e563
    have pr569 : ∀ tg, Steps pP.tables eE below (T567.setTop (mkF mM 315 #[.val (.int p1), .val (.int p2), .val (.long q0), .second, .val (.ref b2), .val (.long (5478551163 : Int64)), .second, .val (.int z245), .val (.ref r), .val (.int (4 : Int32)), .val (.ref b553), .unset, .unset, .unset] [(.int ((q0.toUInt64 >>> ((16 : Int32) &&& 0x3f).toInt64.toUInt64).toInt64).toInt32.toInt8.toInt32), (.int (2 : Int32)), (.ref b553)])) tg → Steps pP.tables eE below (s₁.setTop (entryFrame mM #[(.int p1), (.int p2), (.long q0)] maxLocals)) tg := fun tg kg => pr568 _ (by
      show Steps pP.tables eE below (T567.setTop (mkF mM 300 #[.val (.int p1), .val (.int p2), .val (.long q0), .second, .val (.ref b2), .val (.long (5478551163 : Int64)), .second, .val (.int z245), .val (.ref r), .val (.int (4 : Int32)), .val (.ref b553), .unset, .unset, .unset] [])) _
      refine XS.iload X567.here hx rfl (hb hby at_300) rfl ?_
      refine XS.iconst X567.here hx rfl (hb hby at_302) ?_
      refine XS.icmpNo X567.here hx rfl (hb hby at_303) rfl (tlt (by decide)).2.2.2 ?_
      refine XS.aload X567.here hx rfl (hb hby at_306) rfl rfl ?_
      refine XS.iconst X567.here hx rfl (hb hby at_308) ?_
      refine XS.lloadN X567.here hx rfl (hb hby at_309) rfl ?_
      show Steps pP.tables eE below (T567.setTop (mkF mM 310 #[.val (.int p1), .val (.int p2), .val (.long q0), .second, .val (.ref b2), .val (.long (5478551163 : Int64)), .second, .val (.int z245), .val (.ref r), .val (.int (4 : Int32)), .val (.ref b553), .unset, .unset, .unset] [(.long q0), (.int (2 : Int32)), (.ref b553)])) _
      refine XS.bipush X567.here hx rfl (hb hby at_310) ?_
      refine XS.lushr X567.here hx rfl (hb hby at_312) rfl ?_
      refine XS.l2i X567.here hx rfl (hb hby at_313) rfl ?_
      refine XS.i2b X567.here hx rfl (hb hby at_314) rfl ?_
      exact kg)
    clear pr568
    obtain ⟨cla570, Ara570, qa570, Sa570, Ma570, Ha570, Ga570⟩ := id V567
    have hin571 : ¬ ((2 : Int32) < 0 ∨ cla570.slots.size ≤ ((2 : Int32)).toNatClampNeg) := inb_of Sa570 ⟨by decide, by decide⟩
    obtain ⟨T571, h571, X571, e571, W571, st571⟩ := stB X567 hx hZ e567 Ara570 (j := (2 : Int32)) hin571 (g := (mkF mM 315 #[.val (.int p1), .val (.int p2), .val (.long q0), .second, .val (.ref b2), .val (.long (5478551163 : Int64)), .second, .val (.int z245), .val (.ref r), .val (.int (4 : Int32)), .val (.ref b553), .unset, .unset, .unset] [(.int ((q0.toUInt64 >>> ((16 : Int32) &&& 0x3f).toInt64.toUInt64).toInt64).toInt32.toInt8.toInt32), (.int (2 : Int32)), (.ref b553)])) rfl rfl (hb hby at_315)
    have V571 : Arv Z h571 b553 k553 .byte (4 : Int32) [(.int (nar .byte q0.toInt32.toInt8.toInt32)), (.int (nar .byte ((q0.toUInt64 >>> ((8 : Int32) &&& 0x3f).toInt64.toUInt64).toInt64).toInt32.toInt8.toInt32)), (.int (nar .byte ((q0.toUInt64 >>> ((16 : Int32) &&& 0x3f).toInt64.toUInt64).toInt64).toInt32.toInt8.toInt32)), (.int (0 : Int32))] (.int (0 : Int32)) := Arv.set Ara570 qa570 Sa570 Ma570 Ha570 Ga570 (fits_nar_byte _) W571 2 rfl (Nat.le_of_ble_eq_true rfl)
    have N571 := Fr.snoc X571 N567 gn555
    have pr572 : ∀ tg, Steps pP.tables eE below (T571.setTop (mkF mM 316 #[.val (.int p1), .val (.int p2), .val (.long q0), .second, .val (.ref b2), .val (.long (5478551163 : Int64)), .second, .val (.int z245), .val (.ref r), .val (.int (4 : Int32)), .val (.ref b553), .unset, .unset, .unset] [])) tg → Steps pP.tables eE below (s₁.setTop (entryFrame mM #[(.int p1), (.int p2), (.long q0)] maxLocals)) tg := fun tg kg => pr569 _ (st571 _ kg)
    clear pr569 st571 X567 e567
    have pr573 : ∀ tg, Steps pP.tables eE below (T571.setTop (mkF mM 331 #[.val (.int p1), .val (.int p2), .val (.long q0), .second, .val (.ref b2), .val (.long (5478551163 : Int64)), .second, .val (.int z245), .val (.ref r), .val (.int (4 : Int32)), .val (.ref b553), .unset, .unset, .unset] [(.int ((q0.toUInt64 >>> ((24 : Int32) &&& 0x3f).toInt64.toUInt64).toInt64).toInt32.toInt8.toInt32), (.int (3 : Int32)), (.ref b553)])) tg → Steps pP.tables eE below (s₁.setTop (entryFrame mM #[(.int p1), (.int p2), (.long q0)] maxLocals)) tg := fun tg kg => pr572 _ (by
      show Steps pP.tables eE below (T571.setTop (mkF mM 316 #[.val (.int p1), .val (.int p2), .val (.long q0), .second, .val (.ref b2), .val (.long (5478551163 : Int64)), .second, .val (.int z245), .val (.ref r), .val (.int (4 : Int32)), .val (.ref b553), .unset, .unset, .unset] [])) _
      refine XS.iload X571.here hx rfl (hb hby at_316) rfl ?_
      refine XS.iconst X571.here hx rfl (hb hby at_318) ?_
      refine XS.icmpNo X571.here hx rfl (hb hby at_319) rfl (tlt (by decide)).2.2.2 ?_
      refine XS.aload X571.here hx rfl (hb hby at_322) rfl rfl ?_
      refine XS.iconst X571.here hx rfl (hb hby at_324) ?_
      refine XS.lloadN X571.here hx rfl (hb hby at_325) rfl ?_
      show Steps pP.tables eE below (T571.setTop (mkF mM 326 #[.val (.int p1), .val (.int p2), .val (.long q0), .second, .val (.ref b2), .val (.long (5478551163 : Int64)), .second, .val (.int z245), .val (.ref r), .val (.int (4 : Int32)), .val (.ref b553), .unset, .unset, .unset] [(.long q0), (.int (3 : Int32)), (.ref b553)])) _
      refine XS.bipush X571.here hx rfl (hb hby at_326) ?_
      refine XS.lushr X571.here hx rfl (hb hby at_328) rfl ?_
      refine XS.l2i X571.here hx rfl (hb hby at_329) rfl ?_
      refine XS.i2b X571.here hx rfl (hb hby at_330) rfl ?_
      exact kg)
    clear pr572
    obtain ⟨cla574, Ara574, qa574, Sa574, Ma574, Ha574, Ga574⟩ := id V571
    have hin575 : ¬ ((3 : Int32) < 0 ∨ cla574.slots.size ≤ ((3 : Int32)).toNatClampNeg) := inb_of Sa574 ⟨by decide, by decide⟩
    obtain ⟨T575, h575, X575, e575, W575, st575⟩ := stB X571 hx hZ e571 Ara574 (j := (3 : Int32)) hin575 (g := (mkF mM 331 #[.val (.int p1), .val (.int p2), .val (.long q0), .second, .val (.ref b2), .val (.long (5478551163 : Int64)), .second, .val (.int z245), .val (.ref r), .val (.int (4 : Int32)), .val (.ref b553), .unset, .unset, .unset] [(.int ((q0.toUInt64 >>> ((24 : Int32) &&& 0x3f).toInt64.toUInt64).toInt64).toInt32.toInt8.toInt32), (.int (3 : Int32)), (.ref b553)])) rfl rfl (hb hby at_331)
    have V575 : Arv Z h575 b553 k553 .byte (4 : Int32) [(.int (nar .byte q0.toInt32.toInt8.toInt32)), (.int (nar .byte ((q0.toUInt64 >>> ((8 : Int32) &&& 0x3f).toInt64.toUInt64).toInt64).toInt32.toInt8.toInt32)), (.int (nar .byte ((q0.toUInt64 >>> ((16 : Int32) &&& 0x3f).toInt64.toUInt64).toInt64).toInt32.toInt8.toInt32)), (.int (nar .byte ((q0.toUInt64 >>> ((24 : Int32) &&& 0x3f).toInt64.toUInt64).toInt64).toInt32.toInt8.toInt32))] (.int (0 : Int32)) := Arv.set Ara574 qa574 Sa574 Ma574 Ha574 Ga574 (fits_nar_byte _) W575 3 rfl (Nat.le_of_ble_eq_true rfl)
    have N575 := Fr.snoc X575 N571 gn555
    have pr576 : ∀ tg, Steps pP.tables eE below (T575.setTop (mkF mM 332 #[.val (.int p1), .val (.int p2), .val (.long q0), .second, .val (.ref b2), .val (.long (5478551163 : Int64)), .second, .val (.int z245), .val (.ref r), .val (.int (4 : Int32)), .val (.ref b553), .unset, .unset, .unset] [])) tg → Steps pP.tables eE below (s₁.setTop (entryFrame mM #[(.int p1), (.int p2), (.long q0)] maxLocals)) tg := fun tg kg => pr573 _ (st575 _ kg)
    clear pr573 st575 X571 e571
    have pr577 : ∀ tg, Steps pP.tables eE below (T575.setTop (mkF mM 386 #[.val (.int p1), .val (.int p2), .val (.long q0), .second, .val (.ref b2), .val (.long (5478551163 : Int64)), .second, .val (.int z245), .val (.ref r), .val (.int (4 : Int32)), .val (.ref b553), .unset, .unset, .unset] [(.ref b553), (.ref r)])) tg → Steps pP.tables eE below (s₁.setTop (entryFrame mM #[(.int p1), (.int p2), (.long q0)] maxLocals)) tg := fun tg kg => pr576 _ (by
      show Steps pP.tables eE below (T575.setTop (mkF mM 332 #[.val (.int p1), .val (.int p2), .val (.long q0), .second, .val (.ref b2), .val (.long (5478551163 : Int64)), .second, .val (.int z245), .val (.ref r), .val (.int (4 : Int32)), .val (.ref b553), .unset, .unset, .unset] [])) _
      refine XS.iload X575.here hx rfl (hb hby at_332) rfl ?_
      refine XS.iconst X575.here hx rfl (hb hby at_334) ?_
      refine XS.icmpYes X575.here hx rfl (pc0 := 335) (pc' := 348) rfl (hb hby at_335) rfl (flt (by decide)).2.2.2 (by decide) (by decide) ?_
      refine XS.iload X575.here hx rfl (hb hby at_348) rfl ?_
      refine XS.iconst X575.here hx rfl (hb hby at_350) ?_
      refine XS.icmpYes X575.here hx rfl (pc0 := 351) (pc' := 364) rfl (hb hby at_351) rfl (flt (by decide)).2.2.2 (by decide) (by decide) ?_
      show Steps pP.tables eE below (T575.setTop (mkF mM 364 #[.val (.int p1), .val (.int p2), .val (.long q0), .second, .val (.ref b2), .val (.long (5478551163 : Int64)), .second, .val (.int z245), .val (.ref r), .val (.int (4 : Int32)), .val (.ref b553), .unset, .unset, .unset] [])) _
      refine XS.iload X575.here hx rfl (hb hby at_364) rfl ?_
      refine XS.bipush X575.here hx rfl (hb hby at_366) ?_
      refine XS.icmpYes X575.here hx rfl (pc0 := 368) (pc' := 382) rfl (hb hby at_368) rfl (flt (by decide)).2.2.2 (by decide) (by decide) ?_
      refine XS.aload X575.here hx rfl (hb hby at_382) rfl rfl ?_
      refine XS.aload X575.here hx rfl (hb hby at_384) rfl rfl ?_
      exact kg)
    clear pr576
    have c578 := (Nat.le_trans (Nat.le_trans (Nat.le_trans (Nat.le_trans (Nat.le_trans c556 E553.1) (Keep.of_wr W563).1) (Keep.of_wr W567).1) (Keep.of_wr W571).1) (Keep.of_wr W575).1)
    obtain ⟨Ls579, X579, N579⟩ := own_hide X575 N575
    clear X575 N575
    have c581 := (Old.wr (Old.wr (Old.wr (Old.wr (Old.ext c559 E553) W563 gn555) W567 gn555) W571 gn555) W575 gn555)
    obtain ⟨cq580, kq580, qa580, qb580, qc580⟩ := isOf hZ e575 (Exa.ext (c581).2 hx2)
    obtain ⟨_, _, ⟨T580, L580, kk580, nn580⟩, -, X580, ⟨Lc580, hQ580, l580, y580, z580⟩, st580⟩ := X579.virtualBack hx (y := (⟨"com/example/tesserae/tesserae/value/Vr", "pad", "([B)[B"⟩ : MethodName)) (z := (⟨"com/example/tesserae/tesserae/value/Vr", "pad", "([B)[B"⟩ : MethodName)) hown (mvT hZ (hw _ (List.mem_of_getElem? (i := 75) rfl))) (mvT hZ (hw _ (List.mem_of_getElem? (i := 76) rfl))) (notFace_of_selects (args := #[]) (mvT hZ (hw _ (List.mem_of_getElem? (i := 78) rfl)))) (mvT hZ (hw _ (List.mem_of_getElem? (i := 78) rfl))) (mvT hZ (hw _ (List.mem_of_getElem? (i := 77) rfl))) (by decide) (backOf (W := 0) (rm34 l Z a0 hw [] r b553 k553 (nar .byte q0.toInt32.toInt8.toInt32) (nar .byte ((q0.toUInt64 >>> ((8 : Int32) &&& 0x3f).toInt64.toUInt64).toInt64).toInt32.toInt8.toInt32) (nar .byte ((q0.toUInt64 >>> ((16 : Int32) &&& 0x3f).toInt64.toUInt64).toInt64).toInt32.toInt8.toInt32) (nar .byte ((q0.toUInt64 >>> ((24 : Int32) &&& 0x3f).toInt64.toUInt64).toInt64).toInt32.toInt8.toInt32) h575 n0 c578 V575) hZ (hw _ (List.mem_of_getElem? (i := 79) rfl)) (hw _ (List.mem_of_getElem? (i := 3) rfl)) (by decide) (by decide)) qa580 qc580 (g := (mkF mM 386 #[.val (.int p1), .val (.int p2), .val (.long q0), .second, .val (.ref b2), .val (.long (5478551163 : Int64)), .second, .val (.int z245), .val (.ref r), .val (.int (4 : Int32)), .val (.ref b553), .unset, .unset, .unset] [(.ref b553), (.ref r)])) rfl (by rw [hml]; rfl) (Steps.refl _) (argsL := [(.ref b553)]) (rest := []) (lenOf pd_2 rfl) rfl (by show 2 * 0 + _ ≤ _; exact Nat.le_of_eq rfl) (hb hby at_386) (fun _ _ => ⟨rfl, e575, (by decide : 2 + 0 ≤ _), (by decide : 38 + 0 ≤ _)⟩)
    dsimp only [Pt.U, Pt.locs, Pt.cells, Pt.slots] at X580 l580 y580 z580 st580 hQ580
    subst l580 y580 z580
    obtain ⟨rfl, Nq580, e580⟩ := hQ580
    have N580 := Fr.app N579 Nq580
    have pr582 : ∀ tg, Steps pP.tables eE below (T580.setTop (mkF mM 389 #[.val (.int p1), .val (.int p2), .val (.long q0), .second, .val (.ref b2), .val (.long (5478551163 : Int64)), .second, .val (.int z245), .val (.ref r), .val (.int (4 : Int32)), .val (.ref b553), .unset, .unset, .unset] [(.ref b553)])) tg → Steps pP.tables eE below (s₁.setTop (entryFrame mM #[(.int p1), (.int p2), (.long q0)] maxLocals)) tg := fun tg kg => pr577 _ (st580.trans kg)
    clear pr577 st580 X579 e575
    obtain ⟨cla583, Ara583, qa583, Sa583, Ma583, Ha583, Ga583⟩ := id V575
    have hin584 : ¬ ((0 : Int32) < 0 ∨ cla583.slots.size ≤ ((0 : Int32)).toNatClampNeg) := inb_of Sa583 ⟨by decide, by decide⟩
    have hat584 : cla583.slots[((0 : Int32)).toNatClampNeg]? = some (.int (nar .byte q0.toInt32.toInt8.toInt32)) := Has.at Ha583 hin584 rfl
    have pr585 : ∀ tg, Steps pP.tables eE below (T580.setTop (mkF mM 405 #[.val (.int p1), .val (.int p2), .val (.long q0), .second, .val (.ref b2), .val (.long (5478551163 : Int64)), .second, .val (.int z245), .val (.ref r), .val (.int (4 : Int32)), .val (.ref b553), .val (.ref b553), .unset, .unset] [(.int (4 : Int32)), (.int (0 : Int32)), (.long q0), (.ref b553)])) tg → Steps pP.tables eE below (s₁.setTop (entryFrame mM #[(.int p1), (.int p2), (.long q0)] maxLocals)) tg := fun tg kg => pr582 _ (by
      show Steps pP.tables eE below (T580.setTop (mkF mM 389 #[.val (.int p1), .val (.int p2), .val (.long q0), .second, .val (.ref b2), .val (.long (5478551163 : Int64)), .second, .val (.int z245), .val (.ref r), .val (.int (4 : Int32)), .val (.ref b553), .unset, .unset, .unset] [(.ref b553)])) _
      refine XS.astore X580.here hx rfl (hb hby at_389) rfl rfl (l' := #[.val (.int p1), .val (.int p2), .val (.long q0), .second, .val (.ref b2), .val (.long (5478551163 : Int64)), .second, .val (.int z245), .val (.ref r), .val (.int (4 : Int32)), .val (.ref b553), .val (.ref b553), .unset, .unset]) rfl ?_
      refine XS.aload X580.here hx rfl (hb hby at_391) rfl rfl ?_
      show Steps pP.tables eE below (T580.setTop (mkF mM 393 #[.val (.int p1), .val (.int p2), .val (.long q0), .second, .val (.ref b2), .val (.long (5478551163 : Int64)), .second, .val (.int z245), .val (.ref r), .val (.int (4 : Int32)), .val (.ref b553), .val (.ref b553), .unset, .unset] [(.ref b553)])) _
      refine X580.arraylength hx (by rw [e580]; exact Ara583.1) (State.isArrayOf_alike hZ.alike Ara583.2.1) (g := (mkF mM 393 #[.val (.int p1), .val (.int p2), .val (.long q0), .second, .val (.ref b2), .val (.long (5478551163 : Int64)), .second, .val (.int z245), .val (.ref r), .val (.int (4 : Int32)), .val (.ref b553), .val (.ref b553), .unset, .unset] [(.ref b553)])) rfl rfl (hb hby at_393) _ ?_
      rw [len_of Sa583 Ma583]
      show Steps pP.tables eE below (T580.setTop (mkF mM 394 #[.val (.int p1), .val (.int p2), .val (.long q0), .second, .val (.ref b2), .val (.long (5478551163 : Int64)), .second, .val (.int z245), .val (.ref r), .val (.int (4 : Int32)), .val (.ref b553), .val (.ref b553), .unset, .unset] [(.int (4 : Int32))])) _
      refine XS.iload X580.here hx rfl (hb hby at_394) rfl ?_
      refine XS.icmpNo X580.here hx rfl (hb hby at_396) rfl (teq (by decide)).2 ?_
      refine XS.aload X580.here hx rfl (hb hby at_399) rfl rfl ?_
      refine XS.lloadN X580.here hx rfl (hb hby at_401) rfl ?_
      refine XS.iconst X580.here hx rfl (hb hby at_402) ?_
      refine XS.iload X580.here hx rfl (hb hby at_403) rfl ?_
      exact kg)
    clear pr582
    obtain ⟨Ls586, X586, N586⟩ := own_hide X580 N580
    clear X580 N580
    obtain ⟨_, _, ⟨T587, L587, kk587, nn587⟩, -, X587, ⟨Lc587, hQ587, l587, y587, z587⟩, st587⟩ := Jvm.LawKit.callS X586 hx (y := (⟨"com/example/tesserae/tesserae/value/VrPadPinLaw", "sameAt", "([BJII)Z"⟩ : MethodName)) hown (mvT hZ (hw _ (List.mem_of_getElem? (i := 95) rfl))) (mvT hZ (hw _ (List.mem_of_getElem? (i := 96) rfl))) (mvT hZ (hw _ (List.mem_of_getElem? (i := 97) rfl))) (mvT hZ (hw _ (List.mem_of_getElem? (i := 98) rfl))) (by decide) (backOf (W := 0) (rm5 l Z a0 hw [] b553 q0 (0 : Int32) (4 : Int32) cla583 (nar .byte q0.toInt32.toInt8.toInt32) h575 n0 c578 (by decide) Ara583 hin584 hat584 (own_w0 q0)) hZ (hw _ (List.mem_of_getElem? (i := 98) rfl)) (hw _ (List.mem_of_getElem? (i := 97) rfl)) (by decide) (by decide)) (g := (mkF mM 405 #[.val (.int p1), .val (.int p2), .val (.long q0), .second, .val (.ref b2), .val (.long (5478551163 : Int64)), .second, .val (.int z245), .val (.ref r), .val (.int (4 : Int32)), .val (.ref b553), .val (.ref b553), .unset, .unset] [(.int (4 : Int32)), (.int (0 : Int32)), (.long q0), (.ref b553)])) rfl (by rw [hml]; rfl) (argsL := [(.ref b553), (.long q0), (.int (0 : Int32)), (.int (4 : Int32))]) (rest := []) (lenOf pd_3 rfl) rfl (by show 2 * 0 + _ ≤ _; exact Nat.le_of_eq rfl) (hb hby at_405) (fun _ _ => ⟨rfl, e580, (by decide : 2 + 0 ≤ _), (by decide : 38 + 0 ≤ _)⟩)
    dsimp only [Pt.U, Pt.locs, Pt.cells, Pt.slots] at X587 l587 y587 z587 st587 hQ587
    subst l587 y587 z587
    obtain ⟨rfl, Nq587, e587⟩ := hQ587
    have N587 := Fr.app N586 Nq587
    have pr588 : ∀ tg, Steps pP.tables eE below (T587.setTop (mkF mM 408 #[.val (.int p1), .val (.int p2), .val (.long q0), .second, .val (.ref b2), .val (.long (5478551163 : Int64)), .second, .val (.int z245), .val (.ref r), .val (.int (4 : Int32)), .val (.ref b553), .val (.ref b553), .unset, .unset] [(.int (1 : Int32))])) tg → Steps pP.tables eE below (s₁.setTop (entryFrame mM #[(.int p1), (.int p2), (.long q0)] maxLocals)) tg := fun tg kg => pr585 _ (st587 _ kg)
    clear pr585 st587 X586 e580
    have hin589 : ¬ ((1 : Int32) < 0 ∨ cla583.slots.size ≤ ((1 : Int32)).toNatClampNeg) := inb_of Sa583 ⟨by decide, by decide⟩
    have hat589 : cla583.slots[((1 : Int32)).toNatClampNeg]? = some (.int (nar .byte ((q0.toUInt64 >>> ((8 : Int32) &&& 0x3f).toInt64.toUInt64).toInt64).toInt32.toInt8.toInt32)) := Has.at Ha583 hin589 rfl
    have pr590 : ∀ tg, Steps pP.tables eE below (T587.setTop (mkF mM 417 #[.val (.int p1), .val (.int p2), .val (.long q0), .second, .val (.ref b2), .val (.long (5478551163 : Int64)), .second, .val (.int z245), .val (.ref r), .val (.int (4 : Int32)), .val (.ref b553), .val (.ref b553), .unset, .unset] [(.int (4 : Int32)), (.int (1 : Int32)), (.long q0), (.ref b553)])) tg → Steps pP.tables eE below (s₁.setTop (entryFrame mM #[(.int p1), (.int p2), (.long q0)] maxLocals)) tg := fun tg kg => pr588 _ (by
      show Steps pP.tables eE below (T587.setTop (mkF mM 408 #[.val (.int p1), .val (.int p2), .val (.long q0), .second, .val (.ref b2), .val (.long (5478551163 : Int64)), .second, .val (.int z245), .val (.ref r), .val (.int (4 : Int32)), .val (.ref b553), .val (.ref b553), .unset, .unset] [(.int (1 : Int32))])) _
      refine XS.ifNo X587.here hx rfl (hb hby at_408) rfl ((if0 _ _).trans (feq (by decide)).1) ?_
      refine XS.aload X587.here hx rfl (hb hby at_411) rfl rfl ?_
      refine XS.lloadN X587.here hx rfl (hb hby at_413) rfl ?_
      refine XS.iconst X587.here hx rfl (hb hby at_414) ?_
      refine XS.iload X587.here hx rfl (hb hby at_415) rfl ?_
      exact kg)
    clear pr588
    obtain ⟨Ls591, X591, N591⟩ := own_hide X587 N587
    clear X587 N587
    obtain ⟨_, _, ⟨T592, L592, kk592, nn592⟩, -, X592, ⟨Lc592, hQ592, l592, y592, z592⟩, st592⟩ := Jvm.LawKit.callS X591 hx (y := (⟨"com/example/tesserae/tesserae/value/VrPadPinLaw", "sameAt", "([BJII)Z"⟩ : MethodName)) hown (mvT hZ (hw _ (List.mem_of_getElem? (i := 95) rfl))) (mvT hZ (hw _ (List.mem_of_getElem? (i := 96) rfl))) (mvT hZ (hw _ (List.mem_of_getElem? (i := 97) rfl))) (mvT hZ (hw _ (List.mem_of_getElem? (i := 98) rfl))) (by decide) (backOf (W := 0) (rm5 l Z a0 hw [] b553 q0 (1 : Int32) (4 : Int32) cla583 (nar .byte ((q0.toUInt64 >>> ((8 : Int32) &&& 0x3f).toInt64.toUInt64).toInt64).toInt32.toInt8.toInt32) h575 n0 c578 (by decide) Ara583 hin589 hat589 (own_w1 q0)) hZ (hw _ (List.mem_of_getElem? (i := 98) rfl)) (hw _ (List.mem_of_getElem? (i := 97) rfl)) (by decide) (by decide)) (g := (mkF mM 417 #[.val (.int p1), .val (.int p2), .val (.long q0), .second, .val (.ref b2), .val (.long (5478551163 : Int64)), .second, .val (.int z245), .val (.ref r), .val (.int (4 : Int32)), .val (.ref b553), .val (.ref b553), .unset, .unset] [(.int (4 : Int32)), (.int (1 : Int32)), (.long q0), (.ref b553)])) rfl (by rw [hml]; rfl) (argsL := [(.ref b553), (.long q0), (.int (1 : Int32)), (.int (4 : Int32))]) (rest := []) (lenOf pd_3 rfl) rfl (by show 2 * 0 + _ ≤ _; exact Nat.le_of_eq rfl) (hb hby at_417) (fun _ _ => ⟨rfl, e587, (by decide : 2 + 0 ≤ _), (by decide : 38 + 0 ≤ _)⟩)
    dsimp only [Pt.U, Pt.locs, Pt.cells, Pt.slots] at X592 l592 y592 z592 st592 hQ592
    subst l592 y592 z592
    obtain ⟨rfl, Nq592, e592⟩ := hQ592
    have N592 := Fr.app N591 Nq592
    have pr593 : ∀ tg, Steps pP.tables eE below (T592.setTop (mkF mM 420 #[.val (.int p1), .val (.int p2), .val (.long q0), .second, .val (.ref b2), .val (.long (5478551163 : Int64)), .second, .val (.int z245), .val (.ref r), .val (.int (4 : Int32)), .val (.ref b553), .val (.ref b553), .unset, .unset] [(.int (1 : Int32))])) tg → Steps pP.tables eE below (s₁.setTop (entryFrame mM #[(.int p1), (.int p2), (.long q0)] maxLocals)) tg := fun tg kg => pr590 _ (st592 _ kg)
    clear pr590 st592 X591 e587
    have hin594 : ¬ ((2 : Int32) < 0 ∨ cla583.slots.size ≤ ((2 : Int32)).toNatClampNeg) := inb_of Sa583 ⟨by decide, by decide⟩
    have hat594 : cla583.slots[((2 : Int32)).toNatClampNeg]? = some (.int (nar .byte ((q0.toUInt64 >>> ((16 : Int32) &&& 0x3f).toInt64.toUInt64).toInt64).toInt32.toInt8.toInt32)) := Has.at Ha583 hin594 rfl
    have pr595 : ∀ tg, Steps pP.tables eE below (T592.setTop (mkF mM 429 #[.val (.int p1), .val (.int p2), .val (.long q0), .second, .val (.ref b2), .val (.long (5478551163 : Int64)), .second, .val (.int z245), .val (.ref r), .val (.int (4 : Int32)), .val (.ref b553), .val (.ref b553), .unset, .unset] [(.int (4 : Int32)), (.int (2 : Int32)), (.long q0), (.ref b553)])) tg → Steps pP.tables eE below (s₁.setTop (entryFrame mM #[(.int p1), (.int p2), (.long q0)] maxLocals)) tg := fun tg kg => pr593 _ (by
      show Steps pP.tables eE below (T592.setTop (mkF mM 420 #[.val (.int p1), .val (.int p2), .val (.long q0), .second, .val (.ref b2), .val (.long (5478551163 : Int64)), .second, .val (.int z245), .val (.ref r), .val (.int (4 : Int32)), .val (.ref b553), .val (.ref b553), .unset, .unset] [(.int (1 : Int32))])) _
      refine XS.ifNo X592.here hx rfl (hb hby at_420) rfl ((if0 _ _).trans (feq (by decide)).1) ?_
      refine XS.aload X592.here hx rfl (hb hby at_423) rfl rfl ?_
      refine XS.lloadN X592.here hx rfl (hb hby at_425) rfl ?_
      refine XS.iconst X592.here hx rfl (hb hby at_426) ?_
      refine XS.iload X592.here hx rfl (hb hby at_427) rfl ?_
      exact kg)
    clear pr593
    obtain ⟨Ls596, X596, N596⟩ := own_hide X592 N592
    clear X592 N592
    obtain ⟨_, _, ⟨T597, L597, kk597, nn597⟩, -, X597, ⟨Lc597, hQ597, l597, y597, z597⟩, st597⟩ := Jvm.LawKit.callS X596 hx (y := (⟨"com/example/tesserae/tesserae/value/VrPadPinLaw", "sameAt", "([BJII)Z"⟩ : MethodName)) hown (mvT hZ (hw _ (List.mem_of_getElem? (i := 95) rfl))) (mvT hZ (hw _ (List.mem_of_getElem? (i := 96) rfl))) (mvT hZ (hw _ (List.mem_of_getElem? (i := 97) rfl))) (mvT hZ (hw _ (List.mem_of_getElem? (i := 98) rfl))) (by decide) (backOf (W := 0) (rm5 l Z a0 hw [] b553 q0 (2 : Int32) (4 : Int32) cla583 (nar .byte ((q0.toUInt64 >>> ((16 : Int32) &&& 0x3f).toInt64.toUInt64).toInt64).toInt32.toInt8.toInt32) h575 n0 c578 (by decide) Ara583 hin594 hat594 (own_w2 q0)) hZ (hw _ (List.mem_of_getElem? (i := 98) rfl)) (hw _ (List.mem_of_getElem? (i := 97) rfl)) (by decide) (by decide)) (g := (mkF mM 429 #[.val (.int p1), .val (.int p2), .val (.long q0), .second, .val (.ref b2), .val (.long (5478551163 : Int64)), .second, .val (.int z245), .val (.ref r), .val (.int (4 : Int32)), .val (.ref b553), .val (.ref b553), .unset, .unset] [(.int (4 : Int32)), (.int (2 : Int32)), (.long q0), (.ref b553)])) rfl (by rw [hml]; rfl) (argsL := [(.ref b553), (.long q0), (.int (2 : Int32)), (.int (4 : Int32))]) (rest := []) (lenOf pd_3 rfl) rfl (by show 2 * 0 + _ ≤ _; exact Nat.le_of_eq rfl) (hb hby at_429) (fun _ _ => ⟨rfl, e592, (by decide : 2 + 0 ≤ _), (by decide : 38 + 0 ≤ _)⟩)
    dsimp only [Pt.U, Pt.locs, Pt.cells, Pt.slots] at X597 l597 y597 z597 st597 hQ597
    subst l597 y597 z597
    obtain ⟨rfl, Nq597, e597⟩ := hQ597
    have N597 := Fr.app N596 Nq597
    have pr598 : ∀ tg, Steps pP.tables eE below (T597.setTop (mkF mM 432 #[.val (.int p1), .val (.int p2), .val (.long q0), .second, .val (.ref b2), .val (.long (5478551163 : Int64)), .second, .val (.int z245), .val (.ref r), .val (.int (4 : Int32)), .val (.ref b553), .val (.ref b553), .unset, .unset] [(.int (1 : Int32))])) tg → Steps pP.tables eE below (s₁.setTop (entryFrame mM #[(.int p1), (.int p2), (.long q0)] maxLocals)) tg := fun tg kg => pr595 _ (st597 _ kg)
    clear pr595 st597 X596 e592
    have hin599 : ¬ ((3 : Int32) < 0 ∨ cla583.slots.size ≤ ((3 : Int32)).toNatClampNeg) := inb_of Sa583 ⟨by decide, by decide⟩
    have hat599 : cla583.slots[((3 : Int32)).toNatClampNeg]? = some (.int (nar .byte ((q0.toUInt64 >>> ((24 : Int32) &&& 0x3f).toInt64.toUInt64).toInt64).toInt32.toInt8.toInt32)) := Has.at Ha583 hin599 rfl
    have pr600 : ∀ tg, Steps pP.tables eE below (T597.setTop (mkF mM 441 #[.val (.int p1), .val (.int p2), .val (.long q0), .second, .val (.ref b2), .val (.long (5478551163 : Int64)), .second, .val (.int z245), .val (.ref r), .val (.int (4 : Int32)), .val (.ref b553), .val (.ref b553), .unset, .unset] [(.int (4 : Int32)), (.int (3 : Int32)), (.long q0), (.ref b553)])) tg → Steps pP.tables eE below (s₁.setTop (entryFrame mM #[(.int p1), (.int p2), (.long q0)] maxLocals)) tg := fun tg kg => pr598 _ (by
      show Steps pP.tables eE below (T597.setTop (mkF mM 432 #[.val (.int p1), .val (.int p2), .val (.long q0), .second, .val (.ref b2), .val (.long (5478551163 : Int64)), .second, .val (.int z245), .val (.ref r), .val (.int (4 : Int32)), .val (.ref b553), .val (.ref b553), .unset, .unset] [(.int (1 : Int32))])) _
      refine XS.ifNo X597.here hx rfl (hb hby at_432) rfl ((if0 _ _).trans (feq (by decide)).1) ?_
      refine XS.aload X597.here hx rfl (hb hby at_435) rfl rfl ?_
      refine XS.lloadN X597.here hx rfl (hb hby at_437) rfl ?_
      refine XS.iconst X597.here hx rfl (hb hby at_438) ?_
      refine XS.iload X597.here hx rfl (hb hby at_439) rfl ?_
      exact kg)
    clear pr598
    obtain ⟨Ls601, X601, N601⟩ := own_hide X597 N597
    clear X597 N597
    obtain ⟨_, _, ⟨T602, L602, kk602, nn602⟩, -, X602, ⟨Lc602, hQ602, l602, y602, z602⟩, st602⟩ := Jvm.LawKit.callS X601 hx (y := (⟨"com/example/tesserae/tesserae/value/VrPadPinLaw", "sameAt", "([BJII)Z"⟩ : MethodName)) hown (mvT hZ (hw _ (List.mem_of_getElem? (i := 95) rfl))) (mvT hZ (hw _ (List.mem_of_getElem? (i := 96) rfl))) (mvT hZ (hw _ (List.mem_of_getElem? (i := 97) rfl))) (mvT hZ (hw _ (List.mem_of_getElem? (i := 98) rfl))) (by decide) (backOf (W := 0) (rm5 l Z a0 hw [] b553 q0 (3 : Int32) (4 : Int32) cla583 (nar .byte ((q0.toUInt64 >>> ((24 : Int32) &&& 0x3f).toInt64.toUInt64).toInt64).toInt32.toInt8.toInt32) h575 n0 c578 (by decide) Ara583 hin599 hat599 (own_w3 q0)) hZ (hw _ (List.mem_of_getElem? (i := 98) rfl)) (hw _ (List.mem_of_getElem? (i := 97) rfl)) (by decide) (by decide)) (g := (mkF mM 441 #[.val (.int p1), .val (.int p2), .val (.long q0), .second, .val (.ref b2), .val (.long (5478551163 : Int64)), .second, .val (.int z245), .val (.ref r), .val (.int (4 : Int32)), .val (.ref b553), .val (.ref b553), .unset, .unset] [(.int (4 : Int32)), (.int (3 : Int32)), (.long q0), (.ref b553)])) rfl (by rw [hml]; rfl) (argsL := [(.ref b553), (.long q0), (.int (3 : Int32)), (.int (4 : Int32))]) (rest := []) (lenOf pd_3 rfl) rfl (by show 2 * 0 + _ ≤ _; exact Nat.le_of_eq rfl) (hb hby at_441) (fun _ _ => ⟨rfl, e597, (by decide : 2 + 0 ≤ _), (by decide : 38 + 0 ≤ _)⟩)
    dsimp only [Pt.U, Pt.locs, Pt.cells, Pt.slots] at X602 l602 y602 z602 st602 hQ602
    subst l602 y602 z602
    obtain ⟨rfl, Nq602, e602⟩ := hQ602
    have N602 := Fr.app N601 Nq602
    have pr603 : ∀ tg, Steps pP.tables eE below (T602.setTop (mkF mM 444 #[.val (.int p1), .val (.int p2), .val (.long q0), .second, .val (.ref b2), .val (.long (5478551163 : Int64)), .second, .val (.int z245), .val (.ref r), .val (.int (4 : Int32)), .val (.ref b553), .val (.ref b553), .unset, .unset] [(.int (1 : Int32))])) tg → Steps pP.tables eE below (s₁.setTop (entryFrame mM #[(.int p1), (.int p2), (.long q0)] maxLocals)) tg := fun tg kg => pr600 _ (st602 _ kg)
    clear pr600 st602 X601 e597
    have pr604 : ∀ tg, Steps pP.tables eE below (T602.setTop (mkF mM 453 #[.val (.int p1), .val (.int p2), .val (.long q0), .second, .val (.ref b2), .val (.long (5478551163 : Int64)), .second, .val (.int z245), .val (.ref r), .val (.int (4 : Int32)), .val (.ref b553), .val (.ref b553), .unset, .unset] [(.int (4 : Int32)), (.int (4 : Int32)), (.long q0), (.ref b553)])) tg → Steps pP.tables eE below (s₁.setTop (entryFrame mM #[(.int p1), (.int p2), (.long q0)] maxLocals)) tg := fun tg kg => pr603 _ (by
      show Steps pP.tables eE below (T602.setTop (mkF mM 444 #[.val (.int p1), .val (.int p2), .val (.long q0), .second, .val (.ref b2), .val (.long (5478551163 : Int64)), .second, .val (.int z245), .val (.ref r), .val (.int (4 : Int32)), .val (.ref b553), .val (.ref b553), .unset, .unset] [(.int (1 : Int32))])) _
      refine XS.ifNo X602.here hx rfl (hb hby at_444) rfl ((if0 _ _).trans (feq (by decide)).1) ?_
      refine XS.aload X602.here hx rfl (hb hby at_447) rfl rfl ?_
      refine XS.lloadN X602.here hx rfl (hb hby at_449) rfl ?_
      refine XS.iconst X602.here hx rfl (hb hby at_450) ?_
      refine XS.iload X602.here hx rfl (hb hby at_451) rfl ?_
      exact kg)
    clear pr603
    obtain ⟨Ls605, X605, N605⟩ := own_hide X602 N602
    clear X602 N602
    obtain ⟨_, _, ⟨T606, L606, kk606, nn606⟩, -, X606, ⟨Lc606, hQ606, l606, y606, z606⟩, st606⟩ := Jvm.LawKit.callS X605 hx (y := (⟨"com/example/tesserae/tesserae/value/VrPadPinLaw", "sameAt", "([BJII)Z"⟩ : MethodName)) hown (mvT hZ (hw _ (List.mem_of_getElem? (i := 95) rfl))) (mvT hZ (hw _ (List.mem_of_getElem? (i := 96) rfl))) (mvT hZ (hw _ (List.mem_of_getElem? (i := 97) rfl))) (mvT hZ (hw _ (List.mem_of_getElem? (i := 98) rfl))) (by decide) (backOf (W := 0) (rm4 l Z a0 hw [] b553 q0 (4 : Int32) (4 : Int32) h575 n0 c578 (by decide)) hZ (hw _ (List.mem_of_getElem? (i := 98) rfl)) (hw _ (List.mem_of_getElem? (i := 97) rfl)) (by decide) (by decide)) (g := (mkF mM 453 #[.val (.int p1), .val (.int p2), .val (.long q0), .second, .val (.ref b2), .val (.long (5478551163 : Int64)), .second, .val (.int z245), .val (.ref r), .val (.int (4 : Int32)), .val (.ref b553), .val (.ref b553), .unset, .unset] [(.int (4 : Int32)), (.int (4 : Int32)), (.long q0), (.ref b553)])) rfl (by rw [hml]; rfl) (argsL := [(.ref b553), (.long q0), (.int (4 : Int32)), (.int (4 : Int32))]) (rest := []) (lenOf pd_3 rfl) rfl (by show 2 * 0 + _ ≤ _; exact Nat.le_of_eq rfl) (hb hby at_453) (fun _ _ => ⟨rfl, e602, (by decide : 2 + 0 ≤ _), (by decide : 38 + 0 ≤ _)⟩)
    dsimp only [Pt.U, Pt.locs, Pt.cells, Pt.slots] at X606 l606 y606 z606 st606 hQ606
    subst l606 y606 z606
    obtain ⟨rfl, Nq606, e606⟩ := hQ606
    have N606 := Fr.app N605 Nq606
    have pr607 : ∀ tg, Steps pP.tables eE below (T606.setTop (mkF mM 456 #[.val (.int p1), .val (.int p2), .val (.long q0), .second, .val (.ref b2), .val (.long (5478551163 : Int64)), .second, .val (.int z245), .val (.ref r), .val (.int (4 : Int32)), .val (.ref b553), .val (.ref b553), .unset, .unset] [(.int (1 : Int32))])) tg → Steps pP.tables eE below (s₁.setTop (entryFrame mM #[(.int p1), (.int p2), (.long q0)] maxLocals)) tg := fun tg kg => pr604 _ (st606 _ kg)
    clear pr604 st606 X605 e602
    have pr608 : ∀ tg, Steps pP.tables eE below (T606.setTop (mkF mM 465 #[.val (.int p1), .val (.int p2), .val (.long q0), .second, .val (.ref b2), .val (.long (5478551163 : Int64)), .second, .val (.int z245), .val (.ref r), .val (.int (4 : Int32)), .val (.ref b553), .val (.ref b553), .unset, .unset] [(.int (4 : Int32)), (.int (5 : Int32)), (.long q0), (.ref b553)])) tg → Steps pP.tables eE below (s₁.setTop (entryFrame mM #[(.int p1), (.int p2), (.long q0)] maxLocals)) tg := fun tg kg => pr607 _ (by
      show Steps pP.tables eE below (T606.setTop (mkF mM 456 #[.val (.int p1), .val (.int p2), .val (.long q0), .second, .val (.ref b2), .val (.long (5478551163 : Int64)), .second, .val (.int z245), .val (.ref r), .val (.int (4 : Int32)), .val (.ref b553), .val (.ref b553), .unset, .unset] [(.int (1 : Int32))])) _
      refine XS.ifNo X606.here hx rfl (hb hby at_456) rfl ((if0 _ _).trans (feq (by decide)).1) ?_
      refine XS.aload X606.here hx rfl (hb hby at_459) rfl rfl ?_
      refine XS.lloadN X606.here hx rfl (hb hby at_461) rfl ?_
      refine XS.iconst X606.here hx rfl (hb hby at_462) ?_
      refine XS.iload X606.here hx rfl (hb hby at_463) rfl ?_
      exact kg)
    clear pr607
    obtain ⟨Ls609, X609, N609⟩ := own_hide X606 N606
    clear X606 N606
    obtain ⟨_, _, ⟨T610, L610, kk610, nn610⟩, -, X610, ⟨Lc610, hQ610, l610, y610, z610⟩, st610⟩ := Jvm.LawKit.callS X609 hx (y := (⟨"com/example/tesserae/tesserae/value/VrPadPinLaw", "sameAt", "([BJII)Z"⟩ : MethodName)) hown (mvT hZ (hw _ (List.mem_of_getElem? (i := 95) rfl))) (mvT hZ (hw _ (List.mem_of_getElem? (i := 96) rfl))) (mvT hZ (hw _ (List.mem_of_getElem? (i := 97) rfl))) (mvT hZ (hw _ (List.mem_of_getElem? (i := 98) rfl))) (by decide) (backOf (W := 0) (rm4 l Z a0 hw [] b553 q0 (5 : Int32) (4 : Int32) h575 n0 c578 (by decide)) hZ (hw _ (List.mem_of_getElem? (i := 98) rfl)) (hw _ (List.mem_of_getElem? (i := 97) rfl)) (by decide) (by decide)) (g := (mkF mM 465 #[.val (.int p1), .val (.int p2), .val (.long q0), .second, .val (.ref b2), .val (.long (5478551163 : Int64)), .second, .val (.int z245), .val (.ref r), .val (.int (4 : Int32)), .val (.ref b553), .val (.ref b553), .unset, .unset] [(.int (4 : Int32)), (.int (5 : Int32)), (.long q0), (.ref b553)])) rfl (by rw [hml]; rfl) (argsL := [(.ref b553), (.long q0), (.int (5 : Int32)), (.int (4 : Int32))]) (rest := []) (lenOf pd_3 rfl) rfl (by show 2 * 0 + _ ≤ _; exact Nat.le_of_eq rfl) (hb hby at_465) (fun _ _ => ⟨rfl, e606, (by decide : 2 + 0 ≤ _), (by decide : 38 + 0 ≤ _)⟩)
    dsimp only [Pt.U, Pt.locs, Pt.cells, Pt.slots] at X610 l610 y610 z610 st610 hQ610
    subst l610 y610 z610
    obtain ⟨rfl, Nq610, e610⟩ := hQ610
    have N610 := Fr.app N609 Nq610
    have pr611 : ∀ tg, Steps pP.tables eE below (T610.setTop (mkF mM 468 #[.val (.int p1), .val (.int p2), .val (.long q0), .second, .val (.ref b2), .val (.long (5478551163 : Int64)), .second, .val (.int z245), .val (.ref r), .val (.int (4 : Int32)), .val (.ref b553), .val (.ref b553), .unset, .unset] [(.int (1 : Int32))])) tg → Steps pP.tables eE below (s₁.setTop (entryFrame mM #[(.int p1), (.int p2), (.long q0)] maxLocals)) tg := fun tg kg => pr608 _ (st610 _ kg)
    clear pr608 st610 X609 e606
    have pr612 : ∀ tg, Steps pP.tables eE below (T610.setTop (mkF mM 478 #[.val (.int p1), .val (.int p2), .val (.long q0), .second, .val (.ref b2), .val (.long (5478551163 : Int64)), .second, .val (.int z245), .val (.ref r), .val (.int (4 : Int32)), .val (.ref b553), .val (.ref b553), .unset, .unset] [(.int (4 : Int32)), (.int (6 : Int32)), (.long q0), (.ref b553)])) tg → Steps pP.tables eE below (s₁.setTop (entryFrame mM #[(.int p1), (.int p2), (.long q0)] maxLocals)) tg := fun tg kg => pr611 _ (by
      show Steps pP.tables eE below (T610.setTop (mkF mM 468 #[.val (.int p1), .val (.int p2), .val (.long q0), .second, .val (.ref b2), .val (.long (5478551163 : Int64)), .second, .val (.int z245), .val (.ref r), .val (.int (4 : Int32)), .val (.ref b553), .val (.ref b553), .unset, .unset] [(.int (1 : Int32))])) _
      refine XS.ifNo X610.here hx rfl (hb hby at_468) rfl ((if0 _ _).trans (feq (by decide)).1) ?_
      refine XS.aload X610.here hx rfl (hb hby at_471) rfl rfl ?_
      refine XS.lloadN X610.here hx rfl (hb hby at_473) rfl ?_
      refine XS.bipush X610.here hx rfl (hb hby at_474) ?_
      refine XS.iload X610.here hx rfl (hb hby at_476) rfl ?_
      exact kg)
    clear pr611
    obtain ⟨Ls613, X613, N613⟩ := own_hide X610 N610
    clear X610 N610
    obtain ⟨_, _, ⟨T614, L614, kk614, nn614⟩, -, X614, ⟨Lc614, hQ614, l614, y614, z614⟩, st614⟩ := Jvm.LawKit.callS X613 hx (y := (⟨"com/example/tesserae/tesserae/value/VrPadPinLaw", "sameAt", "([BJII)Z"⟩ : MethodName)) hown (mvT hZ (hw _ (List.mem_of_getElem? (i := 95) rfl))) (mvT hZ (hw _ (List.mem_of_getElem? (i := 96) rfl))) (mvT hZ (hw _ (List.mem_of_getElem? (i := 97) rfl))) (mvT hZ (hw _ (List.mem_of_getElem? (i := 98) rfl))) (by decide) (backOf (W := 0) (rm4 l Z a0 hw [] b553 q0 (6 : Int32) (4 : Int32) h575 n0 c578 (by decide)) hZ (hw _ (List.mem_of_getElem? (i := 98) rfl)) (hw _ (List.mem_of_getElem? (i := 97) rfl)) (by decide) (by decide)) (g := (mkF mM 478 #[.val (.int p1), .val (.int p2), .val (.long q0), .second, .val (.ref b2), .val (.long (5478551163 : Int64)), .second, .val (.int z245), .val (.ref r), .val (.int (4 : Int32)), .val (.ref b553), .val (.ref b553), .unset, .unset] [(.int (4 : Int32)), (.int (6 : Int32)), (.long q0), (.ref b553)])) rfl (by rw [hml]; rfl) (argsL := [(.ref b553), (.long q0), (.int (6 : Int32)), (.int (4 : Int32))]) (rest := []) (lenOf pd_3 rfl) rfl (by show 2 * 0 + _ ≤ _; exact Nat.le_of_eq rfl) (hb hby at_478) (fun _ _ => ⟨rfl, e610, (by decide : 2 + 0 ≤ _), (by decide : 38 + 0 ≤ _)⟩)
    dsimp only [Pt.U, Pt.locs, Pt.cells, Pt.slots] at X614 l614 y614 z614 st614 hQ614
    subst l614 y614 z614
    obtain ⟨rfl, Nq614, e614⟩ := hQ614
    have N614 := Fr.app N613 Nq614
    have pr615 : ∀ tg, Steps pP.tables eE below (T614.setTop (mkF mM 481 #[.val (.int p1), .val (.int p2), .val (.long q0), .second, .val (.ref b2), .val (.long (5478551163 : Int64)), .second, .val (.int z245), .val (.ref r), .val (.int (4 : Int32)), .val (.ref b553), .val (.ref b553), .unset, .unset] [(.int (1 : Int32))])) tg → Steps pP.tables eE below (s₁.setTop (entryFrame mM #[(.int p1), (.int p2), (.long q0)] maxLocals)) tg := fun tg kg => pr612 _ (st614 _ kg)
    clear pr612 st614 X613 e610
    have pr616 : ∀ tg, Steps pP.tables eE below (T614.setTop (mkF mM 515 #[.val (.int p1), .val (.int p2), .val (.long q0), .second, .val (.ref b2), .val (.long (5478551163 : Int64)), .second, .val (.int z245), .val (.ref r), .val (.int (4 : Int32)), .val (.ref b553), .val (.ref b553), .val (.int (1 : Int32)), .unset] [(.int (1 : Int32))])) tg → Steps pP.tables eE below (s₁.setTop (entryFrame mM #[(.int p1), (.int p2), (.long q0)] maxLocals)) tg := fun tg kg => pr615 _ (by
      show Steps pP.tables eE below (T614.setTop (mkF mM 481 #[.val (.int p1), .val (.int p2), .val (.long q0), .second, .val (.ref b2), .val (.long (5478551163 : Int64)), .second, .val (.int z245), .val (.ref r), .val (.int (4 : Int32)), .val (.ref b553), .val (.ref b553), .unset, .unset] [(.int (1 : Int32))])) _
      refine XS.ifNo X614.here hx rfl (hb hby at_481) rfl ((if0 _ _).trans (feq (by decide)).1) ?_
      refine XS.iconst X614.here hx rfl (hb hby at_484) ?_
      refine XS.goto X614.here hx rfl (pc0 := 485) (pc' := 489) rfl (hb hby at_485) (by decide) (by decide) ?_
      refine XS.istore X614.here hx rfl (hb hby at_489) rfl (l' := #[.val (.int p1), .val (.int p2), .val (.long q0), .second, .val (.ref b2), .val (.long (5478551163 : Int64)), .second, .val (.int z245), .val (.ref r), .val (.int (4 : Int32)), .val (.ref b553), .val (.ref b553), .val (.int (1 : Int32)), .unset]) rfl ?_
      refine XS.iload X614.here hx rfl (hb hby at_491) rfl ?_
      refine XS.iconst X614.here hx rfl (hb hby at_493) ?_
      show Steps pP.tables eE below (T614.setTop (mkF mM 494 #[.val (.int p1), .val (.int p2), .val (.long q0), .second, .val (.ref b2), .val (.long (5478551163 : Int64)), .second, .val (.int z245), .val (.ref r), .val (.int (4 : Int32)), .val (.ref b553), .val (.ref b553), .val (.int (1 : Int32)), .unset] [(.int (1 : Int32)), (.int (4 : Int32))])) _
      refine XS.iand X614.here hx rfl (hb hby at_494) rfl ?_
      refine XS.ifNo X614.here hx rfl (hb hby at_495) rfl ((if0 _ _).trans (teq (by decide)).2) ?_
      refine XS.iload X614.here hx rfl (hb hby at_498) rfl ?_
      refine XS.ifNo X614.here hx rfl (hb hby at_500) rfl ((if0 _ _).trans (feq (by decide)).1) ?_
      refine XS.aload X614.here hx rfl (hb hby at_503) rfl rfl ?_
      refine XS.aload X614.here hx rfl (hb hby at_505) rfl rfl ?_
      show Steps pP.tables eE below (T614.setTop (mkF mM 507 #[.val (.int p1), .val (.int p2), .val (.long q0), .second, .val (.ref b2), .val (.long (5478551163 : Int64)), .second, .val (.int z245), .val (.ref r), .val (.int (4 : Int32)), .val (.ref b553), .val (.ref b553), .val (.int (1 : Int32)), .unset] [(.ref b553), (.ref b553)])) _
      refine Jvm.RoadKit.acmp (g := (mkF mM 507 #[.val (.int p1), .val (.int p2), .val (.long q0), .second, .val (.ref b2), .val (.long (5478551163 : Int64)), .second, .val (.int z245), .val (.ref r), .val (.int (4 : Int32)), .val (.ref b553), .val (.ref b553), .val (.int (1 : Int32)), .unset] [(.ref b553), (.ref b553)])) X614 hx rfl rfl rfl (pc0 := 507) (pc' := 510) (same := true) rfl (hb hby at_507) rfl (decide_eq_true rfl) (by decide) (by decide) ?_
      show Steps pP.tables eE below (T614.setTop (mkF mM 510 #[.val (.int p1), .val (.int p2), .val (.long q0), .second, .val (.ref b2), .val (.long (5478551163 : Int64)), .second, .val (.int z245), .val (.ref r), .val (.int (4 : Int32)), .val (.ref b553), .val (.ref b553), .val (.int (1 : Int32)), .unset] [])) _
      refine XS.iconst X614.here hx rfl (hb hby at_510) ?_
      refine XS.goto X614.here hx rfl (pc0 := 511) (pc' := 515) rfl (hb hby at_511) (by decide) (by decide) ?_
      exact kg)
    clear pr615
    obtain ⟨fs, hr, hrun, hended, hW, hsame⟩ := X614.leave (v := some (.int (1 : Int32))) (fun h => by rw [Bd.returns] at h; cases h)
    refine ⟨_, _, pr616 _ (retOut X614 hx (t := .boolean) Bd.returns rfl (Or.inl ⟨rfl, Or.inr (Or.inl rfl), _, rfl⟩) (hb hby at_515) hr), hrun, hended, _, _, rfl, ?_, ⟨_, rfl⟩, hW, hsame.mono (by decide) (by decide)⟩
    show Q0 Z p1 p2 q0 a_AE a_AS a_AT a_CS a_DA a_DS a_DT a_FD a_FL a_IS a_LO a_LT a_OB a_OD a_OF a_OL a_OV a_OW a_PN a_SH a_SL a_SQ a_SS a_ST a_SV a_TM a_UC a_UI a_UL a_UN a_UR a_US a_UT a_UV h0 n0 _ T614.heap _
    rw [e614]
    exact ⟨rfl, N614⟩
  ·
    have pr617 : ∀ tg, Steps pP.tables eE below (T242.setTop (mkF mM 268 #[.val (.int p1), .val (.int p2), .val (.long q0), .second, .val (.ref b2), .val (.long (5478551163 : Int64)), .second, .val (.int z245), .val (.ref r), .val (.int (5 : Int32)), .unset, .unset, .unset, .unset] [(.int (5 : Int32))])) tg → Steps pP.tables eE below (s₁.setTop (entryFrame mM #[(.int p1), (.int p2), (.long q0)] maxLocals)) tg := fun tg kg => pr251 _ (by
      show Steps pP.tables eE below (T242.setTop (mkF mM 266 #[.val (.int p1), .val (.int p2), .val (.long q0), .second, .val (.ref b2), .val (.long (5478551163 : Int64)), .second, .val (.int z245), .val (.ref r), .val (.int (5 : Int32)), .unset, .unset, .unset, .unset] [])) _
      refine XS.iload X242.here hx rfl (hb hby at_266) rfl ?_
      exact kg)
    clear pr251
    obtain ⟨T618, h618, k618, X618, e618, E618, A618, Ex618, st618⟩ := newPE X242 hx hZ (hw _ (List.mem_of_getElem? (i := 74) rfl)) e242 (g := (mkF mM 268 #[.val (.int p1), .val (.int p2), .val (.long q0), .second, .val (.ref b2), .val (.long (5478551163 : Int64)), .second, .val (.int z245), .val (.ref r), .val (.int (5 : Int32)), .unset, .unset, .unset, .unset] [(.int (5 : Int32))])) rfl (hb hby at_268) rfl (by decide) (cap := 5) (by decide) (by decide) (by decide) (by decide) (ad := "[B") rfl
    obtain ⟨b618, g618⟩ : ∃ z, z = (h242).size := ⟨_, rfl⟩
    rw [← g618] at A618 Ex618 st618
    have ne619 : b2 ≠ b618 := Nat.ne_of_lt (Nat.lt_of_lt_of_le (V242).lt (Nat.le_of_eq g618.symm))
    have c621 := (Nat.le_trans (Nat.le_trans (Nat.le_trans (Nat.le_trans (Nat.le_trans (Nat.le_trans (Nat.le_trans (Nat.le_trans (Nat.le_trans (Nat.le_trans (Nat.le_trans (Nat.le_trans (Nat.le_trans (Nat.le_trans (Nat.le_trans (Nat.le_trans (Nat.le_trans (Nat.le_trans (Nat.le_trans (Nat.le_trans (Nat.le_trans (Nat.le_trans (Nat.le_trans (Nat.le_trans (Nat.le_trans (Nat.le_trans (Nat.le_trans (Nat.le_trans (Nat.le_trans (Nat.le_trans (Nat.le_trans (Nat.le_trans (Nat.le_trans (Nat.le_trans (Nat.le_trans Z0 E2.1) (Keep.of_wr W11).1) (Keep.of_wr W18).1) (Keep.of_wr W25).1) (Keep.of_wr W32).1) (Keep.of_wr W39).1) (Keep.of_wr W46).1) (Keep.of_wr W53).1) (Keep.of_wr W60).1) (Keep.of_wr W67).1) (Keep.of_wr W74).1) (Keep.of_wr W81).1) (Keep.of_wr W88).1) (Keep.of_wr W95).1) (Keep.of_wr W102).1) (Keep.of_wr W109).1) (Keep.of_wr W116).1) (Keep.of_wr W123).1) (Keep.of_wr W130).1) (Keep.of_wr W137).1) (Keep.of_wr W144).1) (Keep.of_wr W151).1) (Keep.of_wr W158).1) (Keep.of_wr W165).1) (Keep.of_wr W172).1) (Keep.of_wr W179).1) (Keep.of_wr W186).1) (Keep.of_wr W193).1) (Keep.of_wr W200).1) (Keep.of_wr W207).1) (Keep.of_wr W214).1) (Keep.of_wr W221).1) (Keep.of_wr W228).1) (Keep.of_wr W235).1) (Keep.of_wr W242).1)
    have gn620 : n0 ≤ b618 := Nat.le_trans c621 (Nat.le_of_eq g618.symm)
    have c623 := (Keep.wr (Keep.wr (Keep.wr (Keep.wr (Keep.wr (Keep.wr (Keep.wr (Keep.wr (Keep.wr (Keep.wr (Keep.wr (Keep.wr (Keep.wr (Keep.wr (Keep.wr (Keep.wr (Keep.wr (Keep.wr (Keep.wr (Keep.wr (Keep.wr (Keep.wr (Keep.wr (Keep.wr (Keep.wr (Keep.wr (Keep.wr (Keep.wr (Keep.wr (Keep.wr (Keep.wr (Keep.wr (Keep.wr (Keep.wr (Keep.ext (Keep.refl h0 []) E2) W11 (Or.inr gs4)) W18 (Or.inr gs4)) W25 (Or.inr gs4)) W32 (Or.inr gs4)) W39 (Or.inr gs4)) W46 (Or.inr gs4)) W53 (Or.inr gs4)) W60 (Or.inr gs4)) W67 (Or.inr gs4)) W74 (Or.inr gs4)) W81 (Or.inr gs4)) W88 (Or.inr gs4)) W95 (Or.inr gs4)) W102 (Or.inr gs4)) W109 (Or.inr gs4)) W116 (Or.inr gs4)) W123 (Or.inr gs4)) W130 (Or.inr gs4)) W137 (Or.inr gs4)) W144 (Or.inr gs4)) W151 (Or.inr gs4)) W158 (Or.inr gs4)) W165 (Or.inr gs4)) W172 (Or.inr gs4)) W179 (Or.inr gs4)) W186 (Or.inr gs4)) W193 (Or.inr gs4)) W200 (Or.inr gs4)) W207 (Or.inr gs4)) W214 (Or.inr gs4)) W221 (Or.inr gs4)) W228 (Or.inr gs4)) W235 (Or.inr gs4)) W242 (Or.inr gs4))
    have gs622 : h0.size ≤ b618 := Nat.le_trans c623.1 (Nat.le_of_eq g618.symm)
    have c624 := (Old.wr c239 W242 gn3)
    have V618 : Arv Z h618 b618 k618 .byte (5 : Int32) [(.int (0 : Int32)), (.int (0 : Int32)), (.int (0 : Int32)), (.int (0 : Int32)), (.int (0 : Int32))] (.int (0 : Int32)) := (Arv.new A618 (by decide)).pad (pad_rep [] (.int (0 : Int32)) 5)
    have pr625 : ∀ tg, Steps pP.tables eE below (T618.setTop (mkF mM 270 #[.val (.int p1), .val (.int p2), .val (.long q0), .second, .val (.ref b2), .val (.long (5478551163 : Int64)), .second, .val (.int z245), .val (.ref r), .val (.int (5 : Int32)), .unset, .unset, .unset, .unset] [(.ref b618)])) tg → Steps pP.tables eE below (s₁.setTop (entryFrame mM #[(.int p1), (.int p2), (.long q0)] maxLocals)) tg := fun tg kg => pr617 _ (st618 _ kg)
    clear pr617 st618 X242 e242
    have pr626 : ∀ tg, Steps pP.tables eE below (T618.setTop (mkF mM 283 #[.val (.int p1), .val (.int p2), .val (.long q0), .second, .val (.ref b2), .val (.long (5478551163 : Int64)), .second, .val (.int z245), .val (.ref r), .val (.int (5 : Int32)), .val (.ref b618), .unset, .unset, .unset] [(.int q0.toInt32.toInt8.toInt32), (.int (0 : Int32)), (.ref b618)])) tg → Steps pP.tables eE below (s₁.setTop (entryFrame mM #[(.int p1), (.int p2), (.long q0)] maxLocals)) tg := fun tg kg => pr625 _ (by
      show Steps pP.tables eE below (T618.setTop (mkF mM 270 #[.val (.int p1), .val (.int p2), .val (.long q0), .second, .val (.ref b2), .val (.long (5478551163 : Int64)), .second, .val (.int z245), .val (.ref r), .val (.int (5 : Int32)), .unset, .unset, .unset, .unset] [(.ref b618)])) _
      refine XS.astore X618.here hx rfl (hb hby at_270) rfl rfl (l' := #[.val (.int p1), .val (.int p2), .val (.long q0), .second, .val (.ref b2), .val (.long (5478551163 : Int64)), .second, .val (.int z245), .val (.ref r), .val (.int (5 : Int32)), .val (.ref b618), .unset, .unset, .unset]) rfl ?_
      refine XS.iload X618.here hx rfl (hb hby at_272) rfl ?_
      refine XS.ifNo X618.here hx rfl (hb hby at_274) rfl ((if0 _ _).trans (tlt (by decide)).2.2.2) ?_
      refine XS.aload X618.here hx rfl (hb hby at_277) rfl rfl ?_
      refine XS.iconst X618.here hx rfl (hb hby at_279) ?_
      refine XS.lloadN X618.here hx rfl (hb hby at_280) rfl ?_
      show Steps pP.tables eE below (T618.setTop (mkF mM 281 #[.val (.int p1), .val (.int p2), .val (.long q0), .second, .val (.ref b2), .val (.long (5478551163 : Int64)), .second, .val (.int z245), .val (.ref r), .val (.int (5 : Int32)), .val (.ref b618), .unset, .unset, .unset] [(.long q0), (.int (0 : Int32)), (.ref b618)])) _
      refine XS.l2i X618.here hx rfl (hb hby at_281) rfl ?_
      refine XS.i2b X618.here hx rfl (hb hby at_282) rfl ?_
      exact kg)
    clear pr625
    obtain ⟨cla627, Ara627, qa627, Sa627, Ma627, Ha627, Ga627⟩ := id V618
    have hin628 : ¬ ((0 : Int32) < 0 ∨ cla627.slots.size ≤ ((0 : Int32)).toNatClampNeg) := inb_of Sa627 ⟨by decide, by decide⟩
    obtain ⟨T628, h628, X628, e628, W628, st628⟩ := stB X618 hx hZ e618 Ara627 (j := (0 : Int32)) hin628 (g := (mkF mM 283 #[.val (.int p1), .val (.int p2), .val (.long q0), .second, .val (.ref b2), .val (.long (5478551163 : Int64)), .second, .val (.int z245), .val (.ref r), .val (.int (5 : Int32)), .val (.ref b618), .unset, .unset, .unset] [(.int q0.toInt32.toInt8.toInt32), (.int (0 : Int32)), (.ref b618)])) rfl rfl (hb hby at_283)
    have V628 : Arv Z h628 b618 k618 .byte (5 : Int32) [(.int (nar .byte q0.toInt32.toInt8.toInt32)), (.int (0 : Int32)), (.int (0 : Int32)), (.int (0 : Int32)), (.int (0 : Int32))] (.int (0 : Int32)) := Arv.set Ara627 qa627 Sa627 Ma627 Ha627 Ga627 (fits_nar_byte _) W628 0 rfl (Nat.le_of_ble_eq_true rfl)
    have N628 := Fr.snoc X628 N242 gn620
    have pr629 : ∀ tg, Steps pP.tables eE below (T628.setTop (mkF mM 284 #[.val (.int p1), .val (.int p2), .val (.long q0), .second, .val (.ref b2), .val (.long (5478551163 : Int64)), .second, .val (.int z245), .val (.ref r), .val (.int (5 : Int32)), .val (.ref b618), .unset, .unset, .unset] [])) tg → Steps pP.tables eE below (s₁.setTop (entryFrame mM #[(.int p1), (.int p2), (.long q0)] maxLocals)) tg := fun tg kg => pr626 _ (st628 _ kg)
    clear pr626 st628 X618 e618
    have pr630 : ∀ tg, Steps pP.tables eE below (T628.setTop (mkF mM 299 #[.val (.int p1), .val (.int p2), .val (.long q0), .second, .val (.ref b2), .val (.long (5478551163 : Int64)), .second, .val (.int z245), .val (.ref r), .val (.int (5 : Int32)), .val (.ref b618), .unset, .unset, .unset] [(.int ((q0.toUInt64 >>> ((8 : Int32) &&& 0x3f).toInt64.toUInt64).toInt64).toInt32.toInt8.toInt32), (.int (1 : Int32)), (.ref b618)])) tg → Steps pP.tables eE below (s₁.setTop (entryFrame mM #[(.int p1), (.int p2), (.long q0)] maxLocals)) tg := fun tg kg => pr629 _ (by
      show Steps pP.tables eE below (T628.setTop (mkF mM 284 #[.val (.int p1), .val (.int p2), .val (.long q0), .second, .val (.ref b2), .val (.long (5478551163 : Int64)), .second, .val (.int z245), .val (.ref r), .val (.int (5 : Int32)), .val (.ref b618), .unset, .unset, .unset] [])) _
      refine XS.iload X628.here hx rfl (hb hby at_284) rfl ?_
      refine XS.iconst X628.here hx rfl (hb hby at_286) ?_
      refine XS.icmpNo X628.here hx rfl (hb hby at_287) rfl (tlt (by decide)).2.2.2 ?_
      refine XS.aload X628.here hx rfl (hb hby at_290) rfl rfl ?_
      refine XS.iconst X628.here hx rfl (hb hby at_292) ?_
      refine XS.lloadN X628.here hx rfl (hb hby at_293) rfl ?_
      show Steps pP.tables eE below (T628.setTop (mkF mM 294 #[.val (.int p1), .val (.int p2), .val (.long q0), .second, .val (.ref b2), .val (.long (5478551163 : Int64)), .second, .val (.int z245), .val (.ref r), .val (.int (5 : Int32)), .val (.ref b618), .unset, .unset, .unset] [(.long q0), (.int (1 : Int32)), (.ref b618)])) _
      refine XS.bipush X628.here hx rfl (hb hby at_294) ?_
      refine XS.lushr X628.here hx rfl (hb hby at_296) rfl ?_
      refine XS.l2i X628.here hx rfl (hb hby at_297) rfl ?_
      refine XS.i2b X628.here hx rfl (hb hby at_298) rfl ?_
      exact kg)
    clear pr629
    obtain ⟨cla631, Ara631, qa631, Sa631, Ma631, Ha631, Ga631⟩ := id V628
    have hin632 : ¬ ((1 : Int32) < 0 ∨ cla631.slots.size ≤ ((1 : Int32)).toNatClampNeg) := inb_of Sa631 ⟨by decide, by decide⟩
    obtain ⟨T632, h632, X632, e632, W632, st632⟩ := stB X628 hx hZ e628 Ara631 (j := (1 : Int32)) hin632 (g := (mkF mM 299 #[.val (.int p1), .val (.int p2), .val (.long q0), .second, .val (.ref b2), .val (.long (5478551163 : Int64)), .second, .val (.int z245), .val (.ref r), .val (.int (5 : Int32)), .val (.ref b618), .unset, .unset, .unset] [(.int ((q0.toUInt64 >>> ((8 : Int32) &&& 0x3f).toInt64.toUInt64).toInt64).toInt32.toInt8.toInt32), (.int (1 : Int32)), (.ref b618)])) rfl rfl (hb hby at_299)
    have V632 : Arv Z h632 b618 k618 .byte (5 : Int32) [(.int (nar .byte q0.toInt32.toInt8.toInt32)), (.int (nar .byte ((q0.toUInt64 >>> ((8 : Int32) &&& 0x3f).toInt64.toUInt64).toInt64).toInt32.toInt8.toInt32)), (.int (0 : Int32)), (.int (0 : Int32)), (.int (0 : Int32))] (.int (0 : Int32)) := Arv.set Ara631 qa631 Sa631 Ma631 Ha631 Ga631 (fits_nar_byte _) W632 1 rfl (Nat.le_of_ble_eq_true rfl)
    have N632 := Fr.snoc X632 N628 gn620
    have pr633 : ∀ tg, Steps pP.tables eE below (T632.setTop (mkF mM 300 #[.val (.int p1), .val (.int p2), .val (.long q0), .second, .val (.ref b2), .val (.long (5478551163 : Int64)), .second, .val (.int z245), .val (.ref r), .val (.int (5 : Int32)), .val (.ref b618), .unset, .unset, .unset] [])) tg → Steps pP.tables eE below (s₁.setTop (entryFrame mM #[(.int p1), (.int p2), (.long q0)] maxLocals)) tg := fun tg kg => pr630 _ (st632 _ kg)
    clear pr630 st632 X628 e628
    have pr634 : ∀ tg, Steps pP.tables eE below (T632.setTop (mkF mM 315 #[.val (.int p1), .val (.int p2), .val (.long q0), .second, .val (.ref b2), .val (.long (5478551163 : Int64)), .second, .val (.int z245), .val (.ref r), .val (.int (5 : Int32)), .val (.ref b618), .unset, .unset, .unset] [(.int ((q0.toUInt64 >>> ((16 : Int32) &&& 0x3f).toInt64.toUInt64).toInt64).toInt32.toInt8.toInt32), (.int (2 : Int32)), (.ref b618)])) tg → Steps pP.tables eE below (s₁.setTop (entryFrame mM #[(.int p1), (.int p2), (.long q0)] maxLocals)) tg := fun tg kg => pr633 _ (by
      show Steps pP.tables eE below (T632.setTop (mkF mM 300 #[.val (.int p1), .val (.int p2), .val (.long q0), .second, .val (.ref b2), .val (.long (5478551163 : Int64)), .second, .val (.int z245), .val (.ref r), .val (.int (5 : Int32)), .val (.ref b618), .unset, .unset, .unset] [])) _
      refine XS.iload X632.here hx rfl (hb hby at_300) rfl ?_
      refine XS.iconst X632.here hx rfl (hb hby at_302) ?_
      refine XS.icmpNo X632.here hx rfl (hb hby at_303) rfl (tlt (by decide)).2.2.2 ?_
      refine XS.aload X632.here hx rfl (hb hby at_306) rfl rfl ?_
      refine XS.iconst X632.here hx rfl (hb hby at_308) ?_
      refine XS.lloadN X632.here hx rfl (hb hby at_309) rfl ?_
      show Steps pP.tables eE below (T632.setTop (mkF mM 310 #[.val (.int p1), .val (.int p2), .val (.long q0), .second, .val (.ref b2), .val (.long (5478551163 : Int64)), .second, .val (.int z245), .val (.ref r), .val (.int (5 : Int32)), .val (.ref b618), .unset, .unset, .unset] [(.long q0), (.int (2 : Int32)), (.ref b618)])) _
      refine XS.bipush X632.here hx rfl (hb hby at_310) ?_
      refine XS.lushr X632.here hx rfl (hb hby at_312) rfl ?_
      refine XS.l2i X632.here hx rfl (hb hby at_313) rfl ?_
      refine XS.i2b X632.here hx rfl (hb hby at_314) rfl ?_
      exact kg)
    clear pr633
    obtain ⟨cla635, Ara635, qa635, Sa635, Ma635, Ha635, Ga635⟩ := id V632
    have hin636 : ¬ ((2 : Int32) < 0 ∨ cla635.slots.size ≤ ((2 : Int32)).toNatClampNeg) := inb_of Sa635 ⟨by decide, by decide⟩
    obtain ⟨T636, h636, X636, e636, W636, st636⟩ := stB X632 hx hZ e632 Ara635 (j := (2 : Int32)) hin636 (g := (mkF mM 315 #[.val (.int p1), .val (.int p2), .val (.long q0), .second, .val (.ref b2), .val (.long (5478551163 : Int64)), .second, .val (.int z245), .val (.ref r), .val (.int (5 : Int32)), .val (.ref b618), .unset, .unset, .unset] [(.int ((q0.toUInt64 >>> ((16 : Int32) &&& 0x3f).toInt64.toUInt64).toInt64).toInt32.toInt8.toInt32), (.int (2 : Int32)), (.ref b618)])) rfl rfl (hb hby at_315)
    have V636 : Arv Z h636 b618 k618 .byte (5 : Int32) [(.int (nar .byte q0.toInt32.toInt8.toInt32)), (.int (nar .byte ((q0.toUInt64 >>> ((8 : Int32) &&& 0x3f).toInt64.toUInt64).toInt64).toInt32.toInt8.toInt32)), (.int (nar .byte ((q0.toUInt64 >>> ((16 : Int32) &&& 0x3f).toInt64.toUInt64).toInt64).toInt32.toInt8.toInt32)), (.int (0 : Int32)), (.int (0 : Int32))] (.int (0 : Int32)) := Arv.set Ara635 qa635 Sa635 Ma635 Ha635 Ga635 (fits_nar_byte _) W636 2 rfl (Nat.le_of_ble_eq_true rfl)
    have N636 := Fr.snoc X636 N632 gn620
    have pr637 : ∀ tg, Steps pP.tables eE below (T636.setTop (mkF mM 316 #[.val (.int p1), .val (.int p2), .val (.long q0), .second, .val (.ref b2), .val (.long (5478551163 : Int64)), .second, .val (.int z245), .val (.ref r), .val (.int (5 : Int32)), .val (.ref b618), .unset, .unset, .unset] [])) tg → Steps pP.tables eE below (s₁.setTop (entryFrame mM #[(.int p1), (.int p2), (.long q0)] maxLocals)) tg := fun tg kg => pr634 _ (st636 _ kg)
    clear pr634 st636 X632 e632
    have pr638 : ∀ tg, Steps pP.tables eE below (T636.setTop (mkF mM 331 #[.val (.int p1), .val (.int p2), .val (.long q0), .second, .val (.ref b2), .val (.long (5478551163 : Int64)), .second, .val (.int z245), .val (.ref r), .val (.int (5 : Int32)), .val (.ref b618), .unset, .unset, .unset] [(.int ((q0.toUInt64 >>> ((24 : Int32) &&& 0x3f).toInt64.toUInt64).toInt64).toInt32.toInt8.toInt32), (.int (3 : Int32)), (.ref b618)])) tg → Steps pP.tables eE below (s₁.setTop (entryFrame mM #[(.int p1), (.int p2), (.long q0)] maxLocals)) tg := fun tg kg => pr637 _ (by
      show Steps pP.tables eE below (T636.setTop (mkF mM 316 #[.val (.int p1), .val (.int p2), .val (.long q0), .second, .val (.ref b2), .val (.long (5478551163 : Int64)), .second, .val (.int z245), .val (.ref r), .val (.int (5 : Int32)), .val (.ref b618), .unset, .unset, .unset] [])) _
      refine XS.iload X636.here hx rfl (hb hby at_316) rfl ?_
      refine XS.iconst X636.here hx rfl (hb hby at_318) ?_
      refine XS.icmpNo X636.here hx rfl (hb hby at_319) rfl (tlt (by decide)).2.2.2 ?_
      refine XS.aload X636.here hx rfl (hb hby at_322) rfl rfl ?_
      refine XS.iconst X636.here hx rfl (hb hby at_324) ?_
      refine XS.lloadN X636.here hx rfl (hb hby at_325) rfl ?_
      show Steps pP.tables eE below (T636.setTop (mkF mM 326 #[.val (.int p1), .val (.int p2), .val (.long q0), .second, .val (.ref b2), .val (.long (5478551163 : Int64)), .second, .val (.int z245), .val (.ref r), .val (.int (5 : Int32)), .val (.ref b618), .unset, .unset, .unset] [(.long q0), (.int (3 : Int32)), (.ref b618)])) _
      refine XS.bipush X636.here hx rfl (hb hby at_326) ?_
      refine XS.lushr X636.here hx rfl (hb hby at_328) rfl ?_
      refine XS.l2i X636.here hx rfl (hb hby at_329) rfl ?_
      refine XS.i2b X636.here hx rfl (hb hby at_330) rfl ?_
      exact kg)
    clear pr637
    obtain ⟨cla639, Ara639, qa639, Sa639, Ma639, Ha639, Ga639⟩ := id V636
    have hin640 : ¬ ((3 : Int32) < 0 ∨ cla639.slots.size ≤ ((3 : Int32)).toNatClampNeg) := inb_of Sa639 ⟨by decide, by decide⟩
    obtain ⟨T640, h640, X640, e640, W640, st640⟩ := stB X636 hx hZ e636 Ara639 (j := (3 : Int32)) hin640 (g := (mkF mM 331 #[.val (.int p1), .val (.int p2), .val (.long q0), .second, .val (.ref b2), .val (.long (5478551163 : Int64)), .second, .val (.int z245), .val (.ref r), .val (.int (5 : Int32)), .val (.ref b618), .unset, .unset, .unset] [(.int ((q0.toUInt64 >>> ((24 : Int32) &&& 0x3f).toInt64.toUInt64).toInt64).toInt32.toInt8.toInt32), (.int (3 : Int32)), (.ref b618)])) rfl rfl (hb hby at_331)
    have V640 : Arv Z h640 b618 k618 .byte (5 : Int32) [(.int (nar .byte q0.toInt32.toInt8.toInt32)), (.int (nar .byte ((q0.toUInt64 >>> ((8 : Int32) &&& 0x3f).toInt64.toUInt64).toInt64).toInt32.toInt8.toInt32)), (.int (nar .byte ((q0.toUInt64 >>> ((16 : Int32) &&& 0x3f).toInt64.toUInt64).toInt64).toInt32.toInt8.toInt32)), (.int (nar .byte ((q0.toUInt64 >>> ((24 : Int32) &&& 0x3f).toInt64.toUInt64).toInt64).toInt32.toInt8.toInt32)), (.int (0 : Int32))] (.int (0 : Int32)) := Arv.set Ara639 qa639 Sa639 Ma639 Ha639 Ga639 (fits_nar_byte _) W640 3 rfl (Nat.le_of_ble_eq_true rfl)
    have N640 := Fr.snoc X640 N636 gn620
    have pr641 : ∀ tg, Steps pP.tables eE below (T640.setTop (mkF mM 332 #[.val (.int p1), .val (.int p2), .val (.long q0), .second, .val (.ref b2), .val (.long (5478551163 : Int64)), .second, .val (.int z245), .val (.ref r), .val (.int (5 : Int32)), .val (.ref b618), .unset, .unset, .unset] [])) tg → Steps pP.tables eE below (s₁.setTop (entryFrame mM #[(.int p1), (.int p2), (.long q0)] maxLocals)) tg := fun tg kg => pr638 _ (st640 _ kg)
    clear pr638 st640 X636 e636
    have pr642 : ∀ tg, Steps pP.tables eE below (T640.setTop (mkF mM 347 #[.val (.int p1), .val (.int p2), .val (.long q0), .second, .val (.ref b2), .val (.long (5478551163 : Int64)), .second, .val (.int z245), .val (.ref r), .val (.int (5 : Int32)), .val (.ref b618), .unset, .unset, .unset] [(.int ((q0.toUInt64 >>> ((32 : Int32) &&& 0x3f).toInt64.toUInt64).toInt64).toInt32.toInt8.toInt32), (.int (4 : Int32)), (.ref b618)])) tg → Steps pP.tables eE below (s₁.setTop (entryFrame mM #[(.int p1), (.int p2), (.long q0)] maxLocals)) tg := fun tg kg => pr641 _ (by
      show Steps pP.tables eE below (T640.setTop (mkF mM 332 #[.val (.int p1), .val (.int p2), .val (.long q0), .second, .val (.ref b2), .val (.long (5478551163 : Int64)), .second, .val (.int z245), .val (.ref r), .val (.int (5 : Int32)), .val (.ref b618), .unset, .unset, .unset] [])) _
      refine XS.iload X640.here hx rfl (hb hby at_332) rfl ?_
      refine XS.iconst X640.here hx rfl (hb hby at_334) ?_
      refine XS.icmpNo X640.here hx rfl (hb hby at_335) rfl (tlt (by decide)).2.2.2 ?_
      refine XS.aload X640.here hx rfl (hb hby at_338) rfl rfl ?_
      refine XS.iconst X640.here hx rfl (hb hby at_340) ?_
      refine XS.lloadN X640.here hx rfl (hb hby at_341) rfl ?_
      show Steps pP.tables eE below (T640.setTop (mkF mM 342 #[.val (.int p1), .val (.int p2), .val (.long q0), .second, .val (.ref b2), .val (.long (5478551163 : Int64)), .second, .val (.int z245), .val (.ref r), .val (.int (5 : Int32)), .val (.ref b618), .unset, .unset, .unset] [(.long q0), (.int (4 : Int32)), (.ref b618)])) _
      refine XS.bipush X640.here hx rfl (hb hby at_342) ?_
      refine XS.lushr X640.here hx rfl (hb hby at_344) rfl ?_
      refine XS.l2i X640.here hx rfl (hb hby at_345) rfl ?_
      refine XS.i2b X640.here hx rfl (hb hby at_346) rfl ?_
      exact kg)
    clear pr641
    obtain ⟨cla643, Ara643, qa643, Sa643, Ma643, Ha643, Ga643⟩ := id V640
    have hin644 : ¬ ((4 : Int32) < 0 ∨ cla643.slots.size ≤ ((4 : Int32)).toNatClampNeg) := inb_of Sa643 ⟨by decide, by decide⟩
    obtain ⟨T644, h644, X644, e644, W644, st644⟩ := stB X640 hx hZ e640 Ara643 (j := (4 : Int32)) hin644 (g := (mkF mM 347 #[.val (.int p1), .val (.int p2), .val (.long q0), .second, .val (.ref b2), .val (.long (5478551163 : Int64)), .second, .val (.int z245), .val (.ref r), .val (.int (5 : Int32)), .val (.ref b618), .unset, .unset, .unset] [(.int ((q0.toUInt64 >>> ((32 : Int32) &&& 0x3f).toInt64.toUInt64).toInt64).toInt32.toInt8.toInt32), (.int (4 : Int32)), (.ref b618)])) rfl rfl (hb hby at_347)
    have V644 : Arv Z h644 b618 k618 .byte (5 : Int32) [(.int (nar .byte q0.toInt32.toInt8.toInt32)), (.int (nar .byte ((q0.toUInt64 >>> ((8 : Int32) &&& 0x3f).toInt64.toUInt64).toInt64).toInt32.toInt8.toInt32)), (.int (nar .byte ((q0.toUInt64 >>> ((16 : Int32) &&& 0x3f).toInt64.toUInt64).toInt64).toInt32.toInt8.toInt32)), (.int (nar .byte ((q0.toUInt64 >>> ((24 : Int32) &&& 0x3f).toInt64.toUInt64).toInt64).toInt32.toInt8.toInt32)), (.int (nar .byte ((q0.toUInt64 >>> ((32 : Int32) &&& 0x3f).toInt64.toUInt64).toInt64).toInt32.toInt8.toInt32))] (.int (0 : Int32)) := Arv.set Ara643 qa643 Sa643 Ma643 Ha643 Ga643 (fits_nar_byte _) W644 4 rfl (Nat.le_of_ble_eq_true rfl)
    have N644 := Fr.snoc X644 N640 gn620
    have pr645 : ∀ tg, Steps pP.tables eE below (T644.setTop (mkF mM 348 #[.val (.int p1), .val (.int p2), .val (.long q0), .second, .val (.ref b2), .val (.long (5478551163 : Int64)), .second, .val (.int z245), .val (.ref r), .val (.int (5 : Int32)), .val (.ref b618), .unset, .unset, .unset] [])) tg → Steps pP.tables eE below (s₁.setTop (entryFrame mM #[(.int p1), (.int p2), (.long q0)] maxLocals)) tg := fun tg kg => pr642 _ (st644 _ kg)
    clear pr642 st644 X640 e640
    have c646 := (Old.wr (Old.wr (Old.wr (Old.wr (Old.wr (Old.ext c624 E618) W628 gn620) W632 gn620) W636 gn620) W640 gn620) W644 gn620)
    have pr647 : ∀ tg, Steps pP.tables eE below (T644.setTop (mkF mM 386 #[.val (.int p1), .val (.int p2), .val (.long q0), .second, .val (.ref b2), .val (.long (5478551163 : Int64)), .second, .val (.int z245), .val (.ref r), .val (.int (5 : Int32)), .val (.ref b618), .unset, .unset, .unset] [(.ref b618), (.ref r)])) tg → Steps pP.tables eE below (s₁.setTop (entryFrame mM #[(.int p1), (.int p2), (.long q0)] maxLocals)) tg := fun tg kg => pr645 _ (by
      show Steps pP.tables eE below (T644.setTop (mkF mM 348 #[.val (.int p1), .val (.int p2), .val (.long q0), .second, .val (.ref b2), .val (.long (5478551163 : Int64)), .second, .val (.int z245), .val (.ref r), .val (.int (5 : Int32)), .val (.ref b618), .unset, .unset, .unset] [])) _
      refine XS.iload X644.here hx rfl (hb hby at_348) rfl ?_
      refine XS.iconst X644.here hx rfl (hb hby at_350) ?_
      refine XS.icmpYes X644.here hx rfl (pc0 := 351) (pc' := 364) rfl (hb hby at_351) rfl (flt (by decide)).2.2.2 (by decide) (by decide) ?_
      refine XS.iload X644.here hx rfl (hb hby at_364) rfl ?_
      refine XS.bipush X644.here hx rfl (hb hby at_366) ?_
      refine XS.icmpYes X644.here hx rfl (pc0 := 368) (pc' := 382) rfl (hb hby at_368) rfl (flt (by decide)).2.2.2 (by decide) (by decide) ?_
      show Steps pP.tables eE below (T644.setTop (mkF mM 382 #[.val (.int p1), .val (.int p2), .val (.long q0), .second, .val (.ref b2), .val (.long (5478551163 : Int64)), .second, .val (.int z245), .val (.ref r), .val (.int (5 : Int32)), .val (.ref b618), .unset, .unset, .unset] [])) _
      refine XS.aload X644.here hx rfl (hb hby at_382) rfl rfl ?_
      refine XS.aload X644.here hx rfl (hb hby at_384) rfl rfl ?_
      exact kg)
    clear pr645
    have c648 := (Nat.le_trans (Nat.le_trans (Nat.le_trans (Nat.le_trans (Nat.le_trans (Nat.le_trans c621 E618.1) (Keep.of_wr W628).1) (Keep.of_wr W632).1) (Keep.of_wr W636).1) (Keep.of_wr W640).1) (Keep.of_wr W644).1)
    obtain ⟨Ls649, X649, N649⟩ := own_hide X644 N644
    clear X644 N644
    obtain ⟨cq650, kq650, qa650, qb650, qc650⟩ := isOf hZ e644 (Exa.ext (c646).2 hx2)
    obtain ⟨_, _, ⟨T650, L650, kk650, nn650⟩, -, X650, ⟨Lc650, hQ650, l650, y650, z650⟩, st650⟩ := X649.virtualBack hx (y := (⟨"com/example/tesserae/tesserae/value/Vr", "pad", "([B)[B"⟩ : MethodName)) (z := (⟨"com/example/tesserae/tesserae/value/Vr", "pad", "([B)[B"⟩ : MethodName)) hown (mvT hZ (hw _ (List.mem_of_getElem? (i := 75) rfl))) (mvT hZ (hw _ (List.mem_of_getElem? (i := 76) rfl))) (notFace_of_selects (args := #[]) (mvT hZ (hw _ (List.mem_of_getElem? (i := 78) rfl)))) (mvT hZ (hw _ (List.mem_of_getElem? (i := 78) rfl))) (mvT hZ (hw _ (List.mem_of_getElem? (i := 77) rfl))) (by decide) (backOf (W := 0) (rm35 l Z a0 hw [] r tx pv a_UI b618 k618 (nar .byte q0.toInt32.toInt8.toInt32) (nar .byte ((q0.toUInt64 >>> ((8 : Int32) &&& 0x3f).toInt64.toUInt64).toInt64).toInt32.toInt8.toInt32) (nar .byte ((q0.toUInt64 >>> ((16 : Int32) &&& 0x3f).toInt64.toUInt64).toInt64).toInt32.toInt8.toInt32) (nar .byte ((q0.toUInt64 >>> ((24 : Int32) &&& 0x3f).toInt64.toUInt64).toInt64).toInt32.toInt8.toInt32) (nar .byte ((q0.toUInt64 >>> ((32 : Int32) &&& 0x3f).toInt64.toUInt64).toInt64).toInt32.toInt8.toInt32) h644 n0 c648 c646 S_UI hx2 hx3 hx4 V644) hZ (hw _ (List.mem_of_getElem? (i := 79) rfl)) (hw _ (List.mem_of_getElem? (i := 3) rfl)) (by decide) (by decide)) qa650 qc650 (g := (mkF mM 386 #[.val (.int p1), .val (.int p2), .val (.long q0), .second, .val (.ref b2), .val (.long (5478551163 : Int64)), .second, .val (.int z245), .val (.ref r), .val (.int (5 : Int32)), .val (.ref b618), .unset, .unset, .unset] [(.ref b618), (.ref r)])) rfl (by rw [hml]; rfl) (Steps.refl _) (argsL := [(.ref b618)]) (rest := []) (lenOf pd_2 rfl) rfl (by show 2 * 0 + _ ≤ _; exact Nat.le_of_eq rfl) (hb hby at_386) (fun _ _ => ⟨rfl, e644, (by decide : 2 + 1 ≤ _), (by decide : 39 + 6 ≤ _)⟩)
    dsimp only [Pt.U, Pt.locs, Pt.cells, Pt.slots] at X650 l650 y650 z650 st650 hQ650
    subst l650 y650 z650
    obtain ⟨bp650, rfl, ge650, Nq650, K650, kp650, V650⟩ := hQ650
    have N650 := Fr.app N649 Nq650
    have c652 := (Arv.other (Arv.other (Arv.other (Arv.other (Arv.other (Arv.ext V242 E618) W628 ne619) W632 ne619) W636 ne619) W640 ne619) W644 ne619)
    have ne651 : b2 ≠ bp650 := Nat.ne_of_lt (Nat.lt_of_lt_of_le (c652).lt ge650)
    have ne653 : b618 ≠ bp650 := Nat.ne_of_lt (Nat.lt_of_lt_of_le (V644).lt ge650)
    have gn654 : n0 ≤ bp650 := Nat.le_trans c648 ge650
    have c656 := (Keep.wr (Keep.wr (Keep.wr (Keep.wr (Keep.wr (Keep.ext c623 E618) W628 (Or.inr gs622)) W632 (Or.inr gs622)) W636 (Or.inr gs622)) W640 (Or.inr gs622)) W644 (Or.inr gs622))
    have gs655 : h0.size ≤ bp650 := Nat.le_trans c656.1 ge650
    have pr657 : ∀ tg, Steps pP.tables eE below (T650.setTop (mkF mM 389 #[.val (.int p1), .val (.int p2), .val (.long q0), .second, .val (.ref b2), .val (.long (5478551163 : Int64)), .second, .val (.int z245), .val (.ref r), .val (.int (5 : Int32)), .val (.ref b618), .unset, .unset, .unset] [(.ref bp650)])) tg → Steps pP.tables eE below (s₁.setTop (entryFrame mM #[(.int p1), (.int p2), (.long q0)] maxLocals)) tg := fun tg kg => pr647 _ (st650.trans kg)
    clear pr647 st650 X649 e644
    have c658 := (Arv.keep V644 K650 nin0)
    obtain ⟨cla659, Ara659, qa659, Sa659, Ma659, Ha659, Ga659⟩ := id c658
    have hin660 : ¬ ((0 : Int32) < 0 ∨ cla659.slots.size ≤ ((0 : Int32)).toNatClampNeg) := inb_of Sa659 ⟨by decide, by decide⟩
    have hat660 : cla659.slots[((0 : Int32)).toNatClampNeg]? = some (.int (nar .byte q0.toInt32.toInt8.toInt32)) := Has.at Ha659 hin660 rfl
    have pr661 : ∀ tg, Steps pP.tables eE below (T650.setTop (mkF mM 405 #[.val (.int p1), .val (.int p2), .val (.long q0), .second, .val (.ref b2), .val (.long (5478551163 : Int64)), .second, .val (.int z245), .val (.ref r), .val (.int (5 : Int32)), .val (.ref b618), .val (.ref bp650), .unset, .unset] [(.int (5 : Int32)), (.int (0 : Int32)), (.long q0), (.ref b618)])) tg → Steps pP.tables eE below (s₁.setTop (entryFrame mM #[(.int p1), (.int p2), (.long q0)] maxLocals)) tg := fun tg kg => pr657 _ (by
      show Steps pP.tables eE below (T650.setTop (mkF mM 389 #[.val (.int p1), .val (.int p2), .val (.long q0), .second, .val (.ref b2), .val (.long (5478551163 : Int64)), .second, .val (.int z245), .val (.ref r), .val (.int (5 : Int32)), .val (.ref b618), .unset, .unset, .unset] [(.ref bp650)])) _
      refine XS.astore X650.here hx rfl (hb hby at_389) rfl rfl (l' := #[.val (.int p1), .val (.int p2), .val (.long q0), .second, .val (.ref b2), .val (.long (5478551163 : Int64)), .second, .val (.int z245), .val (.ref r), .val (.int (5 : Int32)), .val (.ref b618), .val (.ref bp650), .unset, .unset]) rfl ?_
      refine XS.aload X650.here hx rfl (hb hby at_391) rfl rfl ?_
      show Steps pP.tables eE below (T650.setTop (mkF mM 393 #[.val (.int p1), .val (.int p2), .val (.long q0), .second, .val (.ref b2), .val (.long (5478551163 : Int64)), .second, .val (.int z245), .val (.ref r), .val (.int (5 : Int32)), .val (.ref b618), .val (.ref bp650), .unset, .unset] [(.ref b618)])) _
      refine X650.arraylength hx Ara659.1 (State.isArrayOf_alike hZ.alike Ara659.2.1) (g := (mkF mM 393 #[.val (.int p1), .val (.int p2), .val (.long q0), .second, .val (.ref b2), .val (.long (5478551163 : Int64)), .second, .val (.int z245), .val (.ref r), .val (.int (5 : Int32)), .val (.ref b618), .val (.ref bp650), .unset, .unset] [(.ref b618)])) rfl rfl (hb hby at_393) _ ?_
      rw [len_of Sa659 Ma659]
      show Steps pP.tables eE below (T650.setTop (mkF mM 394 #[.val (.int p1), .val (.int p2), .val (.long q0), .second, .val (.ref b2), .val (.long (5478551163 : Int64)), .second, .val (.int z245), .val (.ref r), .val (.int (5 : Int32)), .val (.ref b618), .val (.ref bp650), .unset, .unset] [(.int (5 : Int32))])) _
      refine XS.iload X650.here hx rfl (hb hby at_394) rfl ?_
      refine XS.icmpNo X650.here hx rfl (hb hby at_396) rfl (teq (by decide)).2 ?_
      refine XS.aload X650.here hx rfl (hb hby at_399) rfl rfl ?_
      refine XS.lloadN X650.here hx rfl (hb hby at_401) rfl ?_
      refine XS.iconst X650.here hx rfl (hb hby at_402) ?_
      refine XS.iload X650.here hx rfl (hb hby at_403) rfl ?_
      exact kg)
    clear pr657
    have c662 := (Nat.le_trans c648 K650.1)
    obtain ⟨Ls663, X663, N663⟩ := own_hide X650 N650
    clear X650 N650
    obtain ⟨_, _, ⟨T664, L664, kk664, nn664⟩, -, X664, ⟨Lc664, hQ664, l664, y664, z664⟩, st664⟩ := Jvm.LawKit.callS X663 hx (y := (⟨"com/example/tesserae/tesserae/value/VrPadPinLaw", "sameAt", "([BJII)Z"⟩ : MethodName)) hown (mvT hZ (hw _ (List.mem_of_getElem? (i := 95) rfl))) (mvT hZ (hw _ (List.mem_of_getElem? (i := 96) rfl))) (mvT hZ (hw _ (List.mem_of_getElem? (i := 97) rfl))) (mvT hZ (hw _ (List.mem_of_getElem? (i := 98) rfl))) (by decide) (backOf (W := 0) (rm5 l Z a0 hw [] b618 q0 (0 : Int32) (5 : Int32) cla659 (nar .byte q0.toInt32.toInt8.toInt32) T650.heap n0 c662 (by decide) Ara659 hin660 hat660 (own_w0 q0)) hZ (hw _ (List.mem_of_getElem? (i := 98) rfl)) (hw _ (List.mem_of_getElem? (i := 97) rfl)) (by decide) (by decide)) (g := (mkF mM 405 #[.val (.int p1), .val (.int p2), .val (.long q0), .second, .val (.ref b2), .val (.long (5478551163 : Int64)), .second, .val (.int z245), .val (.ref r), .val (.int (5 : Int32)), .val (.ref b618), .val (.ref bp650), .unset, .unset] [(.int (5 : Int32)), (.int (0 : Int32)), (.long q0), (.ref b618)])) rfl (by rw [hml]; rfl) (argsL := [(.ref b618), (.long q0), (.int (0 : Int32)), (.int (5 : Int32))]) (rest := []) (lenOf pd_3 rfl) rfl (by show 2 * 0 + _ ≤ _; exact Nat.le_of_eq rfl) (hb hby at_405) (fun _ _ => ⟨rfl, rfl, (by decide : 3 + 0 ≤ _), (by decide : 45 + 0 ≤ _)⟩)
    dsimp only [Pt.U, Pt.locs, Pt.cells, Pt.slots] at X664 l664 y664 z664 st664 hQ664
    subst l664 y664 z664
    obtain ⟨rfl, Nq664, e664⟩ := hQ664
    have N664 := Fr.app N663 Nq664
    have pr665 : ∀ tg, Steps pP.tables eE below (T664.setTop (mkF mM 408 #[.val (.int p1), .val (.int p2), .val (.long q0), .second, .val (.ref b2), .val (.long (5478551163 : Int64)), .second, .val (.int z245), .val (.ref r), .val (.int (5 : Int32)), .val (.ref b618), .val (.ref bp650), .unset, .unset] [(.int (1 : Int32))])) tg → Steps pP.tables eE below (s₁.setTop (entryFrame mM #[(.int p1), (.int p2), (.long q0)] maxLocals)) tg := fun tg kg => pr661 _ (st664 _ kg)
    clear pr661 st664 X663
    have hin666 : ¬ ((1 : Int32) < 0 ∨ cla659.slots.size ≤ ((1 : Int32)).toNatClampNeg) := inb_of Sa659 ⟨by decide, by decide⟩
    have hat666 : cla659.slots[((1 : Int32)).toNatClampNeg]? = some (.int (nar .byte ((q0.toUInt64 >>> ((8 : Int32) &&& 0x3f).toInt64.toUInt64).toInt64).toInt32.toInt8.toInt32)) := Has.at Ha659 hin666 rfl
    have pr667 : ∀ tg, Steps pP.tables eE below (T664.setTop (mkF mM 417 #[.val (.int p1), .val (.int p2), .val (.long q0), .second, .val (.ref b2), .val (.long (5478551163 : Int64)), .second, .val (.int z245), .val (.ref r), .val (.int (5 : Int32)), .val (.ref b618), .val (.ref bp650), .unset, .unset] [(.int (5 : Int32)), (.int (1 : Int32)), (.long q0), (.ref b618)])) tg → Steps pP.tables eE below (s₁.setTop (entryFrame mM #[(.int p1), (.int p2), (.long q0)] maxLocals)) tg := fun tg kg => pr665 _ (by
      show Steps pP.tables eE below (T664.setTop (mkF mM 408 #[.val (.int p1), .val (.int p2), .val (.long q0), .second, .val (.ref b2), .val (.long (5478551163 : Int64)), .second, .val (.int z245), .val (.ref r), .val (.int (5 : Int32)), .val (.ref b618), .val (.ref bp650), .unset, .unset] [(.int (1 : Int32))])) _
      refine XS.ifNo X664.here hx rfl (hb hby at_408) rfl ((if0 _ _).trans (feq (by decide)).1) ?_
      refine XS.aload X664.here hx rfl (hb hby at_411) rfl rfl ?_
      refine XS.lloadN X664.here hx rfl (hb hby at_413) rfl ?_
      refine XS.iconst X664.here hx rfl (hb hby at_414) ?_
      refine XS.iload X664.here hx rfl (hb hby at_415) rfl ?_
      exact kg)
    clear pr665
    obtain ⟨Ls668, X668, N668⟩ := own_hide X664 N664
    clear X664 N664
    obtain ⟨_, _, ⟨T669, L669, kk669, nn669⟩, -, X669, ⟨Lc669, hQ669, l669, y669, z669⟩, st669⟩ := Jvm.LawKit.callS X668 hx (y := (⟨"com/example/tesserae/tesserae/value/VrPadPinLaw", "sameAt", "([BJII)Z"⟩ : MethodName)) hown (mvT hZ (hw _ (List.mem_of_getElem? (i := 95) rfl))) (mvT hZ (hw _ (List.mem_of_getElem? (i := 96) rfl))) (mvT hZ (hw _ (List.mem_of_getElem? (i := 97) rfl))) (mvT hZ (hw _ (List.mem_of_getElem? (i := 98) rfl))) (by decide) (backOf (W := 0) (rm5 l Z a0 hw [] b618 q0 (1 : Int32) (5 : Int32) cla659 (nar .byte ((q0.toUInt64 >>> ((8 : Int32) &&& 0x3f).toInt64.toUInt64).toInt64).toInt32.toInt8.toInt32) T650.heap n0 c662 (by decide) Ara659 hin666 hat666 (own_w1 q0)) hZ (hw _ (List.mem_of_getElem? (i := 98) rfl)) (hw _ (List.mem_of_getElem? (i := 97) rfl)) (by decide) (by decide)) (g := (mkF mM 417 #[.val (.int p1), .val (.int p2), .val (.long q0), .second, .val (.ref b2), .val (.long (5478551163 : Int64)), .second, .val (.int z245), .val (.ref r), .val (.int (5 : Int32)), .val (.ref b618), .val (.ref bp650), .unset, .unset] [(.int (5 : Int32)), (.int (1 : Int32)), (.long q0), (.ref b618)])) rfl (by rw [hml]; rfl) (argsL := [(.ref b618), (.long q0), (.int (1 : Int32)), (.int (5 : Int32))]) (rest := []) (lenOf pd_3 rfl) rfl (by show 2 * 0 + _ ≤ _; exact Nat.le_of_eq rfl) (hb hby at_417) (fun _ _ => ⟨rfl, e664, (by decide : 3 + 0 ≤ _), (by decide : 45 + 0 ≤ _)⟩)
    dsimp only [Pt.U, Pt.locs, Pt.cells, Pt.slots] at X669 l669 y669 z669 st669 hQ669
    subst l669 y669 z669
    obtain ⟨rfl, Nq669, e669⟩ := hQ669
    have N669 := Fr.app N668 Nq669
    have pr670 : ∀ tg, Steps pP.tables eE below (T669.setTop (mkF mM 420 #[.val (.int p1), .val (.int p2), .val (.long q0), .second, .val (.ref b2), .val (.long (5478551163 : Int64)), .second, .val (.int z245), .val (.ref r), .val (.int (5 : Int32)), .val (.ref b618), .val (.ref bp650), .unset, .unset] [(.int (1 : Int32))])) tg → Steps pP.tables eE below (s₁.setTop (entryFrame mM #[(.int p1), (.int p2), (.long q0)] maxLocals)) tg := fun tg kg => pr667 _ (st669 _ kg)
    clear pr667 st669 X668 e664
    have hin671 : ¬ ((2 : Int32) < 0 ∨ cla659.slots.size ≤ ((2 : Int32)).toNatClampNeg) := inb_of Sa659 ⟨by decide, by decide⟩
    have hat671 : cla659.slots[((2 : Int32)).toNatClampNeg]? = some (.int (nar .byte ((q0.toUInt64 >>> ((16 : Int32) &&& 0x3f).toInt64.toUInt64).toInt64).toInt32.toInt8.toInt32)) := Has.at Ha659 hin671 rfl
    have pr672 : ∀ tg, Steps pP.tables eE below (T669.setTop (mkF mM 429 #[.val (.int p1), .val (.int p2), .val (.long q0), .second, .val (.ref b2), .val (.long (5478551163 : Int64)), .second, .val (.int z245), .val (.ref r), .val (.int (5 : Int32)), .val (.ref b618), .val (.ref bp650), .unset, .unset] [(.int (5 : Int32)), (.int (2 : Int32)), (.long q0), (.ref b618)])) tg → Steps pP.tables eE below (s₁.setTop (entryFrame mM #[(.int p1), (.int p2), (.long q0)] maxLocals)) tg := fun tg kg => pr670 _ (by
      show Steps pP.tables eE below (T669.setTop (mkF mM 420 #[.val (.int p1), .val (.int p2), .val (.long q0), .second, .val (.ref b2), .val (.long (5478551163 : Int64)), .second, .val (.int z245), .val (.ref r), .val (.int (5 : Int32)), .val (.ref b618), .val (.ref bp650), .unset, .unset] [(.int (1 : Int32))])) _
      refine XS.ifNo X669.here hx rfl (hb hby at_420) rfl ((if0 _ _).trans (feq (by decide)).1) ?_
      refine XS.aload X669.here hx rfl (hb hby at_423) rfl rfl ?_
      refine XS.lloadN X669.here hx rfl (hb hby at_425) rfl ?_
      refine XS.iconst X669.here hx rfl (hb hby at_426) ?_
      refine XS.iload X669.here hx rfl (hb hby at_427) rfl ?_
      exact kg)
    clear pr670
    obtain ⟨Ls673, X673, N673⟩ := own_hide X669 N669
    clear X669 N669
    obtain ⟨_, _, ⟨T674, L674, kk674, nn674⟩, -, X674, ⟨Lc674, hQ674, l674, y674, z674⟩, st674⟩ := Jvm.LawKit.callS X673 hx (y := (⟨"com/example/tesserae/tesserae/value/VrPadPinLaw", "sameAt", "([BJII)Z"⟩ : MethodName)) hown (mvT hZ (hw _ (List.mem_of_getElem? (i := 95) rfl))) (mvT hZ (hw _ (List.mem_of_getElem? (i := 96) rfl))) (mvT hZ (hw _ (List.mem_of_getElem? (i := 97) rfl))) (mvT hZ (hw _ (List.mem_of_getElem? (i := 98) rfl))) (by decide) (backOf (W := 0) (rm5 l Z a0 hw [] b618 q0 (2 : Int32) (5 : Int32) cla659 (nar .byte ((q0.toUInt64 >>> ((16 : Int32) &&& 0x3f).toInt64.toUInt64).toInt64).toInt32.toInt8.toInt32) T650.heap n0 c662 (by decide) Ara659 hin671 hat671 (own_w2 q0)) hZ (hw _ (List.mem_of_getElem? (i := 98) rfl)) (hw _ (List.mem_of_getElem? (i := 97) rfl)) (by decide) (by decide)) (g := (mkF mM 429 #[.val (.int p1), .val (.int p2), .val (.long q0), .second, .val (.ref b2), .val (.long (5478551163 : Int64)), .second, .val (.int z245), .val (.ref r), .val (.int (5 : Int32)), .val (.ref b618), .val (.ref bp650), .unset, .unset] [(.int (5 : Int32)), (.int (2 : Int32)), (.long q0), (.ref b618)])) rfl (by rw [hml]; rfl) (argsL := [(.ref b618), (.long q0), (.int (2 : Int32)), (.int (5 : Int32))]) (rest := []) (lenOf pd_3 rfl) rfl (by show 2 * 0 + _ ≤ _; exact Nat.le_of_eq rfl) (hb hby at_429) (fun _ _ => ⟨rfl, e669, (by decide : 3 + 0 ≤ _), (by decide : 45 + 0 ≤ _)⟩)
    dsimp only [Pt.U, Pt.locs, Pt.cells, Pt.slots] at X674 l674 y674 z674 st674 hQ674
    subst l674 y674 z674
    obtain ⟨rfl, Nq674, e674⟩ := hQ674
    have N674 := Fr.app N673 Nq674
    have pr675 : ∀ tg, Steps pP.tables eE below (T674.setTop (mkF mM 432 #[.val (.int p1), .val (.int p2), .val (.long q0), .second, .val (.ref b2), .val (.long (5478551163 : Int64)), .second, .val (.int z245), .val (.ref r), .val (.int (5 : Int32)), .val (.ref b618), .val (.ref bp650), .unset, .unset] [(.int (1 : Int32))])) tg → Steps pP.tables eE below (s₁.setTop (entryFrame mM #[(.int p1), (.int p2), (.long q0)] maxLocals)) tg := fun tg kg => pr672 _ (st674 _ kg)
    clear pr672 st674 X673 e669
    have hin676 : ¬ ((3 : Int32) < 0 ∨ cla659.slots.size ≤ ((3 : Int32)).toNatClampNeg) := inb_of Sa659 ⟨by decide, by decide⟩
    have hat676 : cla659.slots[((3 : Int32)).toNatClampNeg]? = some (.int (nar .byte ((q0.toUInt64 >>> ((24 : Int32) &&& 0x3f).toInt64.toUInt64).toInt64).toInt32.toInt8.toInt32)) := Has.at Ha659 hin676 rfl
    have pr677 : ∀ tg, Steps pP.tables eE below (T674.setTop (mkF mM 441 #[.val (.int p1), .val (.int p2), .val (.long q0), .second, .val (.ref b2), .val (.long (5478551163 : Int64)), .second, .val (.int z245), .val (.ref r), .val (.int (5 : Int32)), .val (.ref b618), .val (.ref bp650), .unset, .unset] [(.int (5 : Int32)), (.int (3 : Int32)), (.long q0), (.ref b618)])) tg → Steps pP.tables eE below (s₁.setTop (entryFrame mM #[(.int p1), (.int p2), (.long q0)] maxLocals)) tg := fun tg kg => pr675 _ (by
      show Steps pP.tables eE below (T674.setTop (mkF mM 432 #[.val (.int p1), .val (.int p2), .val (.long q0), .second, .val (.ref b2), .val (.long (5478551163 : Int64)), .second, .val (.int z245), .val (.ref r), .val (.int (5 : Int32)), .val (.ref b618), .val (.ref bp650), .unset, .unset] [(.int (1 : Int32))])) _
      refine XS.ifNo X674.here hx rfl (hb hby at_432) rfl ((if0 _ _).trans (feq (by decide)).1) ?_
      refine XS.aload X674.here hx rfl (hb hby at_435) rfl rfl ?_
      refine XS.lloadN X674.here hx rfl (hb hby at_437) rfl ?_
      refine XS.iconst X674.here hx rfl (hb hby at_438) ?_
      refine XS.iload X674.here hx rfl (hb hby at_439) rfl ?_
      exact kg)
    clear pr675
    obtain ⟨Ls678, X678, N678⟩ := own_hide X674 N674
    clear X674 N674
    obtain ⟨_, _, ⟨T679, L679, kk679, nn679⟩, -, X679, ⟨Lc679, hQ679, l679, y679, z679⟩, st679⟩ := Jvm.LawKit.callS X678 hx (y := (⟨"com/example/tesserae/tesserae/value/VrPadPinLaw", "sameAt", "([BJII)Z"⟩ : MethodName)) hown (mvT hZ (hw _ (List.mem_of_getElem? (i := 95) rfl))) (mvT hZ (hw _ (List.mem_of_getElem? (i := 96) rfl))) (mvT hZ (hw _ (List.mem_of_getElem? (i := 97) rfl))) (mvT hZ (hw _ (List.mem_of_getElem? (i := 98) rfl))) (by decide) (backOf (W := 0) (rm5 l Z a0 hw [] b618 q0 (3 : Int32) (5 : Int32) cla659 (nar .byte ((q0.toUInt64 >>> ((24 : Int32) &&& 0x3f).toInt64.toUInt64).toInt64).toInt32.toInt8.toInt32) T650.heap n0 c662 (by decide) Ara659 hin676 hat676 (own_w3 q0)) hZ (hw _ (List.mem_of_getElem? (i := 98) rfl)) (hw _ (List.mem_of_getElem? (i := 97) rfl)) (by decide) (by decide)) (g := (mkF mM 441 #[.val (.int p1), .val (.int p2), .val (.long q0), .second, .val (.ref b2), .val (.long (5478551163 : Int64)), .second, .val (.int z245), .val (.ref r), .val (.int (5 : Int32)), .val (.ref b618), .val (.ref bp650), .unset, .unset] [(.int (5 : Int32)), (.int (3 : Int32)), (.long q0), (.ref b618)])) rfl (by rw [hml]; rfl) (argsL := [(.ref b618), (.long q0), (.int (3 : Int32)), (.int (5 : Int32))]) (rest := []) (lenOf pd_3 rfl) rfl (by show 2 * 0 + _ ≤ _; exact Nat.le_of_eq rfl) (hb hby at_441) (fun _ _ => ⟨rfl, e674, (by decide : 3 + 0 ≤ _), (by decide : 45 + 0 ≤ _)⟩)
    dsimp only [Pt.U, Pt.locs, Pt.cells, Pt.slots] at X679 l679 y679 z679 st679 hQ679
    subst l679 y679 z679
    obtain ⟨rfl, Nq679, e679⟩ := hQ679
    have N679 := Fr.app N678 Nq679
    have pr680 : ∀ tg, Steps pP.tables eE below (T679.setTop (mkF mM 444 #[.val (.int p1), .val (.int p2), .val (.long q0), .second, .val (.ref b2), .val (.long (5478551163 : Int64)), .second, .val (.int z245), .val (.ref r), .val (.int (5 : Int32)), .val (.ref b618), .val (.ref bp650), .unset, .unset] [(.int (1 : Int32))])) tg → Steps pP.tables eE below (s₁.setTop (entryFrame mM #[(.int p1), (.int p2), (.long q0)] maxLocals)) tg := fun tg kg => pr677 _ (st679 _ kg)
    clear pr677 st679 X678 e674
    have hin681 : ¬ ((4 : Int32) < 0 ∨ cla659.slots.size ≤ ((4 : Int32)).toNatClampNeg) := inb_of Sa659 ⟨by decide, by decide⟩
    have hat681 : cla659.slots[((4 : Int32)).toNatClampNeg]? = some (.int (nar .byte ((q0.toUInt64 >>> ((32 : Int32) &&& 0x3f).toInt64.toUInt64).toInt64).toInt32.toInt8.toInt32)) := Has.at Ha659 hin681 rfl
    have pr682 : ∀ tg, Steps pP.tables eE below (T679.setTop (mkF mM 453 #[.val (.int p1), .val (.int p2), .val (.long q0), .second, .val (.ref b2), .val (.long (5478551163 : Int64)), .second, .val (.int z245), .val (.ref r), .val (.int (5 : Int32)), .val (.ref b618), .val (.ref bp650), .unset, .unset] [(.int (5 : Int32)), (.int (4 : Int32)), (.long q0), (.ref b618)])) tg → Steps pP.tables eE below (s₁.setTop (entryFrame mM #[(.int p1), (.int p2), (.long q0)] maxLocals)) tg := fun tg kg => pr680 _ (by
      show Steps pP.tables eE below (T679.setTop (mkF mM 444 #[.val (.int p1), .val (.int p2), .val (.long q0), .second, .val (.ref b2), .val (.long (5478551163 : Int64)), .second, .val (.int z245), .val (.ref r), .val (.int (5 : Int32)), .val (.ref b618), .val (.ref bp650), .unset, .unset] [(.int (1 : Int32))])) _
      refine XS.ifNo X679.here hx rfl (hb hby at_444) rfl ((if0 _ _).trans (feq (by decide)).1) ?_
      refine XS.aload X679.here hx rfl (hb hby at_447) rfl rfl ?_
      refine XS.lloadN X679.here hx rfl (hb hby at_449) rfl ?_
      refine XS.iconst X679.here hx rfl (hb hby at_450) ?_
      refine XS.iload X679.here hx rfl (hb hby at_451) rfl ?_
      exact kg)
    clear pr680
    obtain ⟨Ls683, X683, N683⟩ := own_hide X679 N679
    clear X679 N679
    obtain ⟨_, _, ⟨T684, L684, kk684, nn684⟩, -, X684, ⟨Lc684, hQ684, l684, y684, z684⟩, st684⟩ := Jvm.LawKit.callS X683 hx (y := (⟨"com/example/tesserae/tesserae/value/VrPadPinLaw", "sameAt", "([BJII)Z"⟩ : MethodName)) hown (mvT hZ (hw _ (List.mem_of_getElem? (i := 95) rfl))) (mvT hZ (hw _ (List.mem_of_getElem? (i := 96) rfl))) (mvT hZ (hw _ (List.mem_of_getElem? (i := 97) rfl))) (mvT hZ (hw _ (List.mem_of_getElem? (i := 98) rfl))) (by decide) (backOf (W := 0) (rm5 l Z a0 hw [] b618 q0 (4 : Int32) (5 : Int32) cla659 (nar .byte ((q0.toUInt64 >>> ((32 : Int32) &&& 0x3f).toInt64.toUInt64).toInt64).toInt32.toInt8.toInt32) T650.heap n0 c662 (by decide) Ara659 hin681 hat681 (own_w4 q0)) hZ (hw _ (List.mem_of_getElem? (i := 98) rfl)) (hw _ (List.mem_of_getElem? (i := 97) rfl)) (by decide) (by decide)) (g := (mkF mM 453 #[.val (.int p1), .val (.int p2), .val (.long q0), .second, .val (.ref b2), .val (.long (5478551163 : Int64)), .second, .val (.int z245), .val (.ref r), .val (.int (5 : Int32)), .val (.ref b618), .val (.ref bp650), .unset, .unset] [(.int (5 : Int32)), (.int (4 : Int32)), (.long q0), (.ref b618)])) rfl (by rw [hml]; rfl) (argsL := [(.ref b618), (.long q0), (.int (4 : Int32)), (.int (5 : Int32))]) (rest := []) (lenOf pd_3 rfl) rfl (by show 2 * 0 + _ ≤ _; exact Nat.le_of_eq rfl) (hb hby at_453) (fun _ _ => ⟨rfl, e679, (by decide : 3 + 0 ≤ _), (by decide : 45 + 0 ≤ _)⟩)
    dsimp only [Pt.U, Pt.locs, Pt.cells, Pt.slots] at X684 l684 y684 z684 st684 hQ684
    subst l684 y684 z684
    obtain ⟨rfl, Nq684, e684⟩ := hQ684
    have N684 := Fr.app N683 Nq684
    have pr685 : ∀ tg, Steps pP.tables eE below (T684.setTop (mkF mM 456 #[.val (.int p1), .val (.int p2), .val (.long q0), .second, .val (.ref b2), .val (.long (5478551163 : Int64)), .second, .val (.int z245), .val (.ref r), .val (.int (5 : Int32)), .val (.ref b618), .val (.ref bp650), .unset, .unset] [(.int (1 : Int32))])) tg → Steps pP.tables eE below (s₁.setTop (entryFrame mM #[(.int p1), (.int p2), (.long q0)] maxLocals)) tg := fun tg kg => pr682 _ (st684 _ kg)
    clear pr682 st684 X683 e679
    have pr686 : ∀ tg, Steps pP.tables eE below (T684.setTop (mkF mM 465 #[.val (.int p1), .val (.int p2), .val (.long q0), .second, .val (.ref b2), .val (.long (5478551163 : Int64)), .second, .val (.int z245), .val (.ref r), .val (.int (5 : Int32)), .val (.ref b618), .val (.ref bp650), .unset, .unset] [(.int (5 : Int32)), (.int (5 : Int32)), (.long q0), (.ref b618)])) tg → Steps pP.tables eE below (s₁.setTop (entryFrame mM #[(.int p1), (.int p2), (.long q0)] maxLocals)) tg := fun tg kg => pr685 _ (by
      show Steps pP.tables eE below (T684.setTop (mkF mM 456 #[.val (.int p1), .val (.int p2), .val (.long q0), .second, .val (.ref b2), .val (.long (5478551163 : Int64)), .second, .val (.int z245), .val (.ref r), .val (.int (5 : Int32)), .val (.ref b618), .val (.ref bp650), .unset, .unset] [(.int (1 : Int32))])) _
      refine XS.ifNo X684.here hx rfl (hb hby at_456) rfl ((if0 _ _).trans (feq (by decide)).1) ?_
      refine XS.aload X684.here hx rfl (hb hby at_459) rfl rfl ?_
      refine XS.lloadN X684.here hx rfl (hb hby at_461) rfl ?_
      refine XS.iconst X684.here hx rfl (hb hby at_462) ?_
      refine XS.iload X684.here hx rfl (hb hby at_463) rfl ?_
      exact kg)
    clear pr685
    obtain ⟨Ls687, X687, N687⟩ := own_hide X684 N684
    clear X684 N684
    obtain ⟨_, _, ⟨T688, L688, kk688, nn688⟩, -, X688, ⟨Lc688, hQ688, l688, y688, z688⟩, st688⟩ := Jvm.LawKit.callS X687 hx (y := (⟨"com/example/tesserae/tesserae/value/VrPadPinLaw", "sameAt", "([BJII)Z"⟩ : MethodName)) hown (mvT hZ (hw _ (List.mem_of_getElem? (i := 95) rfl))) (mvT hZ (hw _ (List.mem_of_getElem? (i := 96) rfl))) (mvT hZ (hw _ (List.mem_of_getElem? (i := 97) rfl))) (mvT hZ (hw _ (List.mem_of_getElem? (i := 98) rfl))) (by decide) (backOf (W := 0) (rm4 l Z a0 hw [] b618 q0 (5 : Int32) (5 : Int32) T650.heap n0 c662 (by decide)) hZ (hw _ (List.mem_of_getElem? (i := 98) rfl)) (hw _ (List.mem_of_getElem? (i := 97) rfl)) (by decide) (by decide)) (g := (mkF mM 465 #[.val (.int p1), .val (.int p2), .val (.long q0), .second, .val (.ref b2), .val (.long (5478551163 : Int64)), .second, .val (.int z245), .val (.ref r), .val (.int (5 : Int32)), .val (.ref b618), .val (.ref bp650), .unset, .unset] [(.int (5 : Int32)), (.int (5 : Int32)), (.long q0), (.ref b618)])) rfl (by rw [hml]; rfl) (argsL := [(.ref b618), (.long q0), (.int (5 : Int32)), (.int (5 : Int32))]) (rest := []) (lenOf pd_3 rfl) rfl (by show 2 * 0 + _ ≤ _; exact Nat.le_of_eq rfl) (hb hby at_465) (fun _ _ => ⟨rfl, e684, (by decide : 3 + 0 ≤ _), (by decide : 45 + 0 ≤ _)⟩)
    dsimp only [Pt.U, Pt.locs, Pt.cells, Pt.slots] at X688 l688 y688 z688 st688 hQ688
    subst l688 y688 z688
    obtain ⟨rfl, Nq688, e688⟩ := hQ688
    have N688 := Fr.app N687 Nq688
    have pr689 : ∀ tg, Steps pP.tables eE below (T688.setTop (mkF mM 468 #[.val (.int p1), .val (.int p2), .val (.long q0), .second, .val (.ref b2), .val (.long (5478551163 : Int64)), .second, .val (.int z245), .val (.ref r), .val (.int (5 : Int32)), .val (.ref b618), .val (.ref bp650), .unset, .unset] [(.int (1 : Int32))])) tg → Steps pP.tables eE below (s₁.setTop (entryFrame mM #[(.int p1), (.int p2), (.long q0)] maxLocals)) tg := fun tg kg => pr686 _ (st688 _ kg)
    clear pr686 st688 X687 e684
    have pr690 : ∀ tg, Steps pP.tables eE below (T688.setTop (mkF mM 478 #[.val (.int p1), .val (.int p2), .val (.long q0), .second, .val (.ref b2), .val (.long (5478551163 : Int64)), .second, .val (.int z245), .val (.ref r), .val (.int (5 : Int32)), .val (.ref b618), .val (.ref bp650), .unset, .unset] [(.int (5 : Int32)), (.int (6 : Int32)), (.long q0), (.ref b618)])) tg → Steps pP.tables eE below (s₁.setTop (entryFrame mM #[(.int p1), (.int p2), (.long q0)] maxLocals)) tg := fun tg kg => pr689 _ (by
      show Steps pP.tables eE below (T688.setTop (mkF mM 468 #[.val (.int p1), .val (.int p2), .val (.long q0), .second, .val (.ref b2), .val (.long (5478551163 : Int64)), .second, .val (.int z245), .val (.ref r), .val (.int (5 : Int32)), .val (.ref b618), .val (.ref bp650), .unset, .unset] [(.int (1 : Int32))])) _
      refine XS.ifNo X688.here hx rfl (hb hby at_468) rfl ((if0 _ _).trans (feq (by decide)).1) ?_
      refine XS.aload X688.here hx rfl (hb hby at_471) rfl rfl ?_
      refine XS.lloadN X688.here hx rfl (hb hby at_473) rfl ?_
      refine XS.bipush X688.here hx rfl (hb hby at_474) ?_
      refine XS.iload X688.here hx rfl (hb hby at_476) rfl ?_
      exact kg)
    clear pr689
    obtain ⟨Ls691, X691, N691⟩ := own_hide X688 N688
    clear X688 N688
    obtain ⟨_, _, ⟨T692, L692, kk692, nn692⟩, -, X692, ⟨Lc692, hQ692, l692, y692, z692⟩, st692⟩ := Jvm.LawKit.callS X691 hx (y := (⟨"com/example/tesserae/tesserae/value/VrPadPinLaw", "sameAt", "([BJII)Z"⟩ : MethodName)) hown (mvT hZ (hw _ (List.mem_of_getElem? (i := 95) rfl))) (mvT hZ (hw _ (List.mem_of_getElem? (i := 96) rfl))) (mvT hZ (hw _ (List.mem_of_getElem? (i := 97) rfl))) (mvT hZ (hw _ (List.mem_of_getElem? (i := 98) rfl))) (by decide) (backOf (W := 0) (rm4 l Z a0 hw [] b618 q0 (6 : Int32) (5 : Int32) T650.heap n0 c662 (by decide)) hZ (hw _ (List.mem_of_getElem? (i := 98) rfl)) (hw _ (List.mem_of_getElem? (i := 97) rfl)) (by decide) (by decide)) (g := (mkF mM 478 #[.val (.int p1), .val (.int p2), .val (.long q0), .second, .val (.ref b2), .val (.long (5478551163 : Int64)), .second, .val (.int z245), .val (.ref r), .val (.int (5 : Int32)), .val (.ref b618), .val (.ref bp650), .unset, .unset] [(.int (5 : Int32)), (.int (6 : Int32)), (.long q0), (.ref b618)])) rfl (by rw [hml]; rfl) (argsL := [(.ref b618), (.long q0), (.int (6 : Int32)), (.int (5 : Int32))]) (rest := []) (lenOf pd_3 rfl) rfl (by show 2 * 0 + _ ≤ _; exact Nat.le_of_eq rfl) (hb hby at_478) (fun _ _ => ⟨rfl, e688, (by decide : 3 + 0 ≤ _), (by decide : 45 + 0 ≤ _)⟩)
    dsimp only [Pt.U, Pt.locs, Pt.cells, Pt.slots] at X692 l692 y692 z692 st692 hQ692
    subst l692 y692 z692
    obtain ⟨rfl, Nq692, e692⟩ := hQ692
    have N692 := Fr.app N691 Nq692
    have pr693 : ∀ tg, Steps pP.tables eE below (T692.setTop (mkF mM 481 #[.val (.int p1), .val (.int p2), .val (.long q0), .second, .val (.ref b2), .val (.long (5478551163 : Int64)), .second, .val (.int z245), .val (.ref r), .val (.int (5 : Int32)), .val (.ref b618), .val (.ref bp650), .unset, .unset] [(.int (1 : Int32))])) tg → Steps pP.tables eE below (s₁.setTop (entryFrame mM #[(.int p1), (.int p2), (.long q0)] maxLocals)) tg := fun tg kg => pr690 _ (st692 _ kg)
    clear pr690 st692 X691 e688
    have pr694 : ∀ tg, Steps pP.tables eE below (T692.setTop (mkF mM 525 #[.val (.int p1), .val (.int p2), .val (.long q0), .second, .val (.ref b2), .val (.long (5478551163 : Int64)), .second, .val (.int z245), .val (.ref r), .val (.int (5 : Int32)), .val (.ref b618), .val (.ref bp650), .val (.int (1 : Int32)), .unset] [(.int (lcmpW ((((5478551163 : Int64).toUInt64 >>> (z245 &&& 0x3f).toInt64.toUInt64).toInt64) &&& (1 : Int64)) (0 : Int64)))])) tg → Steps pP.tables eE below (s₁.setTop (entryFrame mM #[(.int p1), (.int p2), (.long q0)] maxLocals)) tg := fun tg kg => pr693 _ (by
      show Steps pP.tables eE below (T692.setTop (mkF mM 481 #[.val (.int p1), .val (.int p2), .val (.long q0), .second, .val (.ref b2), .val (.long (5478551163 : Int64)), .second, .val (.int z245), .val (.ref r), .val (.int (5 : Int32)), .val (.ref b618), .val (.ref bp650), .unset, .unset] [(.int (1 : Int32))])) _
      refine XS.ifNo X692.here hx rfl (hb hby at_481) rfl ((if0 _ _).trans (feq (by decide)).1) ?_
      refine XS.iconst X692.here hx rfl (hb hby at_484) ?_
      refine XS.goto X692.here hx rfl (pc0 := 485) (pc' := 489) rfl (hb hby at_485) (by decide) (by decide) ?_
      refine XS.istore X692.here hx rfl (hb hby at_489) rfl (l' := #[.val (.int p1), .val (.int p2), .val (.long q0), .second, .val (.ref b2), .val (.long (5478551163 : Int64)), .second, .val (.int z245), .val (.ref r), .val (.int (5 : Int32)), .val (.ref b618), .val (.ref bp650), .val (.int (1 : Int32)), .unset]) rfl ?_
      refine XS.iload X692.here hx rfl (hb hby at_491) rfl ?_
      refine XS.iconst X692.here hx rfl (hb hby at_493) ?_
      show Steps pP.tables eE below (T692.setTop (mkF mM 494 #[.val (.int p1), .val (.int p2), .val (.long q0), .second, .val (.ref b2), .val (.long (5478551163 : Int64)), .second, .val (.int z245), .val (.ref r), .val (.int (5 : Int32)), .val (.ref b618), .val (.ref bp650), .val (.int (1 : Int32)), .unset] [(.int (1 : Int32)), (.int (5 : Int32))])) _
      refine XS.iand X692.here hx rfl (hb hby at_494) rfl ?_
      refine XS.ifYes X692.here hx rfl (pc0 := 495) (pc' := 516) rfl (hb hby at_495) rfl ((if0 _ _).trans (feq (by decide)).2) (by decide) (by decide) ?_
      refine XS.lload X692.here hx rfl (hb hby at_516) rfl ?_
      refine XS.iload X692.here hx rfl (hb hby at_518) rfl ?_
      refine XS.lushr X692.here hx rfl (hb hby at_520) rfl ?_
      refine XS.lconst X692.here hx rfl (hb hby at_521) ?_
      show Steps pP.tables eE below (T692.setTop (mkF mM 522 #[.val (.int p1), .val (.int p2), .val (.long q0), .second, .val (.ref b2), .val (.long (5478551163 : Int64)), .second, .val (.int z245), .val (.ref r), .val (.int (5 : Int32)), .val (.ref b618), .val (.ref bp650), .val (.int (1 : Int32)), .unset] [(.long (1 : Int64)), (.long (((5478551163 : Int64).toUInt64 >>> (z245 &&& 0x3f).toInt64.toUInt64).toInt64))])) _
      refine XS.land X692.here hx rfl (hb hby at_522) rfl ?_
      refine XS.lconst X692.here hx rfl (hb hby at_523) ?_
      refine XS.lcmp X692.here hx rfl (hb hby at_524) rfl ?_
      exact kg)
    clear pr693
    obtain ⟨j696, hj696, st697⟩ : ∃ (j696 : Int32), j696 = (if ((((5478551163 : Int64).toUInt64 >>> (z245 &&& 0x3f).toInt64.toUInt64).toInt64) &&& (1 : Int64)) = (0 : Int64) then (0 : Int32) else (32 : Int32)) ∧ ∀ tg, Steps pP.tables eE below (T692.setTop (mkF mM 534 #[.val (.int p1), .val (.int p2), .val (.long q0), .second, .val (.ref b2), .val (.long (5478551163 : Int64)), .second, .val (.int z245), .val (.ref r), .val (.int (5 : Int32)), .val (.ref b618), .val (.ref bp650), .val (.int (1 : Int32)), .unset] [(.int j696)])) tg → Steps pP.tables eE below (T692.setTop (mkF mM 525 #[.val (.int p1), .val (.int p2), .val (.long q0), .second, .val (.ref b2), .val (.long (5478551163 : Int64)), .second, .val (.int z245), .val (.ref r), .val (.int (5 : Int32)), .val (.ref b618), .val (.ref bp650), .val (.int (1 : Int32)), .unset] [(.int (lcmpW ((((5478551163 : Int64).toUInt64 >>> (z245 &&& 0x3f).toInt64.toUInt64).toInt64) &&& (1 : Int64)) (0 : Int64)))])) tg := by
      by_cases hj525_695 : ((((5478551163 : Int64).toUInt64 >>> (z245 &&& 0x3f).toInt64.toUInt64).toInt64) &&& (1 : Int64)) = (0 : Int64)
      ·
        refine ⟨(0 : Int32), (by rw [if_pos hj525_695]), fun tg kg => ?_⟩
        show Steps pP.tables eE below (T692.setTop (mkF mM 525 #[.val (.int p1), .val (.int p2), .val (.long q0), .second, .val (.ref b2), .val (.long (5478551163 : Int64)), .second, .val (.int z245), .val (.ref r), .val (.int (5 : Int32)), .val (.ref b618), .val (.ref bp650), .val (.int (1 : Int32)), .unset] [(.int (lcmpW ((((5478551163 : Int64).toUInt64 >>> (z245 &&& 0x3f).toInt64.toUInt64).toInt64) &&& (1 : Int64)) (0 : Int64)))])) _
        refine XS.ifYes X692.here hx rfl (pc0 := 525) (pc' := 533) rfl (hb hby at_525) rfl ((if0 _ _).trans (teq ((lw_eq _ _).mpr hj525_695)).1) (by decide) (by decide) ?_
        refine XS.iconst X692.here hx rfl (hb hby at_533) ?_
        exact kg
      ·
        refine ⟨(32 : Int32), (by rw [if_neg hj525_695]), fun tg kg => ?_⟩
        show Steps pP.tables eE below (T692.setTop (mkF mM 525 #[.val (.int p1), .val (.int p2), .val (.long q0), .second, .val (.ref b2), .val (.long (5478551163 : Int64)), .second, .val (.int z245), .val (.ref r), .val (.int (5 : Int32)), .val (.ref b618), .val (.ref bp650), .val (.int (1 : Int32)), .unset] [(.int (lcmpW ((((5478551163 : Int64).toUInt64 >>> (z245 &&& 0x3f).toInt64.toUInt64).toInt64) &&& (1 : Int64)) (0 : Int64)))])) _
        refine XS.ifNo X692.here hx rfl (hb hby at_525) rfl ((if0 _ _).trans (feq (fun q => hj525_695 ((lw_eq _ _).mp q))).1) ?_
        refine XS.bipush X692.here hx rfl (hb hby at_528) ?_
        refine XS.goto X692.here hx rfl (pc0 := 530) (pc' := 534) rfl (hb hby at_530) (by decide) (by decide) ?_
        exact kg
    have pr698 : ∀ tg, Steps pP.tables eE below (T692.setTop (mkF mM 534 #[.val (.int p1), .val (.int p2), .val (.long q0), .second, .val (.ref b2), .val (.long (5478551163 : Int64)), .second, .val (.int z245), .val (.ref r), .val (.int (5 : Int32)), .val (.ref b618), .val (.ref bp650), .val (.int (1 : Int32)), .unset] [(.int j696)])) tg → Steps pP.tables eE below (s₁.setTop (entryFrame mM #[(.int p1), (.int p2), (.long q0)] maxLocals)) tg := fun tg kg => pr694 _ (st697 _ kg)
    clear pr694 st697
    obtain ⟨cla699, Ara699, qa699, Sa699, Ma699, Ha699, Ga699⟩ := id V650
    have hin700 : ¬ ((0 : Int32) < 0 ∨ cla699.slots.size ≤ ((0 : Int32)).toNatClampNeg) := inb_of Sa699 ⟨by decide, by decide⟩
    have hat700 : cla699.slots[((0 : Int32)).toNatClampNeg]? = some (.int (nar .byte q0.toInt32.toInt8.toInt32)) := Has.at Ha699 hin700 rfl
    have pr701 : ∀ tg, Steps pP.tables eE below (T692.setTop (mkF mM 564 #[.val (.int p1), .val (.int p2), .val (.long q0), .second, .val (.ref b2), .val (.long (5478551163 : Int64)), .second, .val (.int z245), .val (.ref r), .val (.int (5 : Int32)), .val (.ref b618), .val (.ref bp650), .val (.int (1 : Int32)), .val (.int j696)] [(.int (5 : Int32)), (.int (0 : Int32)), (.long q0), (.ref bp650)])) tg → Steps pP.tables eE below (s₁.setTop (entryFrame mM #[(.int p1), (.int p2), (.long q0)] maxLocals)) tg := fun tg kg => pr698 _ (by
      show Steps pP.tables eE below (T692.setTop (mkF mM 534 #[.val (.int p1), .val (.int p2), .val (.long q0), .second, .val (.ref b2), .val (.long (5478551163 : Int64)), .second, .val (.int z245), .val (.ref r), .val (.int (5 : Int32)), .val (.ref b618), .val (.ref bp650), .val (.int (1 : Int32)), .unset] [(.int j696)])) _
      refine XS.istore X692.here hx rfl (hb hby at_534) rfl (l' := #[.val (.int p1), .val (.int p2), .val (.long q0), .second, .val (.ref b2), .val (.long (5478551163 : Int64)), .second, .val (.int z245), .val (.ref r), .val (.int (5 : Int32)), .val (.ref b618), .val (.ref bp650), .val (.int (1 : Int32)), .val (.int j696)]) rfl ?_
      refine XS.iload X692.here hx rfl (hb hby at_536) rfl ?_
      refine XS.ifNo X692.here hx rfl (hb hby at_538) rfl ((if0 _ _).trans (feq (by decide)).1) ?_
      refine XS.aload X692.here hx rfl (hb hby at_541) rfl rfl ?_
      refine XS.aload X692.here hx rfl (hb hby at_543) rfl rfl ?_
      show Steps pP.tables eE below (T692.setTop (mkF mM 545 #[.val (.int p1), .val (.int p2), .val (.long q0), .second, .val (.ref b2), .val (.long (5478551163 : Int64)), .second, .val (.int z245), .val (.ref r), .val (.int (5 : Int32)), .val (.ref b618), .val (.ref bp650), .val (.int (1 : Int32)), .val (.int j696)] [(.ref b618), (.ref bp650)])) _
      refine Jvm.RoadKit.acmp (g := (mkF mM 545 #[.val (.int p1), .val (.int p2), .val (.long q0), .second, .val (.ref b2), .val (.long (5478551163 : Int64)), .second, .val (.int z245), .val (.ref r), .val (.int (5 : Int32)), .val (.ref b618), .val (.ref bp650), .val (.int (1 : Int32)), .val (.int j696)] [(.ref b618), (.ref bp650)])) X692 hx rfl rfl rfl (pc0 := 545) (pc' := 548) (same := false) rfl (hb hby at_545) rfl (decide_eq_false fun q => (Ne.symm ne653) (Value.ref.inj q)) (by decide) (by decide) ?_
      show Steps pP.tables eE below (T692.setTop (mkF mM 548 #[.val (.int p1), .val (.int p2), .val (.long q0), .second, .val (.ref b2), .val (.long (5478551163 : Int64)), .second, .val (.int z245), .val (.ref r), .val (.int (5 : Int32)), .val (.ref b618), .val (.ref bp650), .val (.int (1 : Int32)), .val (.int j696)] [])) _
      refine XS.aload X692.here hx rfl (hb hby at_548) rfl rfl ?_
      show Steps pP.tables eE below (T692.setTop (mkF mM 550 #[.val (.int p1), .val (.int p2), .val (.long q0), .second, .val (.ref b2), .val (.long (5478551163 : Int64)), .second, .val (.int z245), .val (.ref r), .val (.int (5 : Int32)), .val (.ref b618), .val (.ref bp650), .val (.int (1 : Int32)), .val (.int j696)] [(.ref bp650)])) _
      refine X692.arraylength hx (by rw [e692]; exact Ara699.1) (State.isArrayOf_alike hZ.alike Ara699.2.1) (g := (mkF mM 550 #[.val (.int p1), .val (.int p2), .val (.long q0), .second, .val (.ref b2), .val (.long (5478551163 : Int64)), .second, .val (.int z245), .val (.ref r), .val (.int (5 : Int32)), .val (.ref b618), .val (.ref bp650), .val (.int (1 : Int32)), .val (.int j696)] [(.ref bp650)])) rfl rfl (hb hby at_550) _ ?_
      rw [len_of Sa699 Ma699]
      show Steps pP.tables eE below (T692.setTop (mkF mM 551 #[.val (.int p1), .val (.int p2), .val (.long q0), .second, .val (.ref b2), .val (.long (5478551163 : Int64)), .second, .val (.int z245), .val (.ref r), .val (.int (5 : Int32)), .val (.ref b618), .val (.ref bp650), .val (.int (1 : Int32)), .val (.int j696)] [(.int (6 : Int32))])) _
      refine XS.iload X692.here hx rfl (hb hby at_551) rfl ?_
      refine XS.iconst X692.here hx rfl (hb hby at_553) ?_
      refine XS.iadd X692.here hx rfl (hb hby at_554) rfl ?_
      refine XS.icmpNo X692.here hx rfl (hb hby at_555) rfl (teq (by decide)).2 ?_
      refine XS.aload X692.here hx rfl (hb hby at_558) rfl rfl ?_
      refine XS.lloadN X692.here hx rfl (hb hby at_560) rfl ?_
      show Steps pP.tables eE below (T692.setTop (mkF mM 561 #[.val (.int p1), .val (.int p2), .val (.long q0), .second, .val (.ref b2), .val (.long (5478551163 : Int64)), .second, .val (.int z245), .val (.ref r), .val (.int (5 : Int32)), .val (.ref b618), .val (.ref bp650), .val (.int (1 : Int32)), .val (.int j696)] [(.long q0), (.ref bp650)])) _
      refine XS.iconst X692.here hx rfl (hb hby at_561) ?_
      refine XS.iload X692.here hx rfl (hb hby at_562) rfl ?_
      exact kg)
    clear pr698
    obtain ⟨Ls702, X702, N702⟩ := own_hide X692 N692
    clear X692 N692
    obtain ⟨_, _, ⟨T703, L703, kk703, nn703⟩, -, X703, ⟨Lc703, hQ703, l703, y703, z703⟩, st703⟩ := Jvm.LawKit.callS X702 hx (y := (⟨"com/example/tesserae/tesserae/value/VrPadPinLaw", "sameAt", "([BJII)Z"⟩ : MethodName)) hown (mvT hZ (hw _ (List.mem_of_getElem? (i := 95) rfl))) (mvT hZ (hw _ (List.mem_of_getElem? (i := 96) rfl))) (mvT hZ (hw _ (List.mem_of_getElem? (i := 97) rfl))) (mvT hZ (hw _ (List.mem_of_getElem? (i := 98) rfl))) (by decide) (backOf (W := 0) (rm5 l Z a0 hw [] bp650 q0 (0 : Int32) (5 : Int32) cla699 (nar .byte q0.toInt32.toInt8.toInt32) T650.heap n0 c662 (by decide) Ara699 hin700 hat700 (own_w0 q0)) hZ (hw _ (List.mem_of_getElem? (i := 98) rfl)) (hw _ (List.mem_of_getElem? (i := 97) rfl)) (by decide) (by decide)) (g := (mkF mM 564 #[.val (.int p1), .val (.int p2), .val (.long q0), .second, .val (.ref b2), .val (.long (5478551163 : Int64)), .second, .val (.int z245), .val (.ref r), .val (.int (5 : Int32)), .val (.ref b618), .val (.ref bp650), .val (.int (1 : Int32)), .val (.int j696)] [(.int (5 : Int32)), (.int (0 : Int32)), (.long q0), (.ref bp650)])) rfl (by rw [hml]; rfl) (argsL := [(.ref bp650), (.long q0), (.int (0 : Int32)), (.int (5 : Int32))]) (rest := []) (lenOf pd_3 rfl) rfl (by show 2 * 0 + _ ≤ _; exact Nat.le_of_eq rfl) (hb hby at_564) (fun _ _ => ⟨rfl, e692, (by decide : 3 + 0 ≤ _), (by decide : 45 + 0 ≤ _)⟩)
    dsimp only [Pt.U, Pt.locs, Pt.cells, Pt.slots] at X703 l703 y703 z703 st703 hQ703
    subst l703 y703 z703
    obtain ⟨rfl, Nq703, e703⟩ := hQ703
    have N703 := Fr.app N702 Nq703
    have pr704 : ∀ tg, Steps pP.tables eE below (T703.setTop (mkF mM 567 #[.val (.int p1), .val (.int p2), .val (.long q0), .second, .val (.ref b2), .val (.long (5478551163 : Int64)), .second, .val (.int z245), .val (.ref r), .val (.int (5 : Int32)), .val (.ref b618), .val (.ref bp650), .val (.int (1 : Int32)), .val (.int j696)] [(.int (1 : Int32))])) tg → Steps pP.tables eE below (s₁.setTop (entryFrame mM #[(.int p1), (.int p2), (.long q0)] maxLocals)) tg := fun tg kg => pr701 _ (st703 _ kg)
    clear pr701 st703 X702 e692
    have hin705 : ¬ ((1 : Int32) < 0 ∨ cla699.slots.size ≤ ((1 : Int32)).toNatClampNeg) := inb_of Sa699 ⟨by decide, by decide⟩
    have hat705 : cla699.slots[((1 : Int32)).toNatClampNeg]? = some (.int (nar .byte ((q0.toUInt64 >>> ((8 : Int32) &&& 0x3f).toInt64.toUInt64).toInt64).toInt32.toInt8.toInt32)) := Has.at Ha699 hin705 rfl
    have pr706 : ∀ tg, Steps pP.tables eE below (T703.setTop (mkF mM 576 #[.val (.int p1), .val (.int p2), .val (.long q0), .second, .val (.ref b2), .val (.long (5478551163 : Int64)), .second, .val (.int z245), .val (.ref r), .val (.int (5 : Int32)), .val (.ref b618), .val (.ref bp650), .val (.int (1 : Int32)), .val (.int j696)] [(.int (5 : Int32)), (.int (1 : Int32)), (.long q0), (.ref bp650)])) tg → Steps pP.tables eE below (s₁.setTop (entryFrame mM #[(.int p1), (.int p2), (.long q0)] maxLocals)) tg := fun tg kg => pr704 _ (by
      show Steps pP.tables eE below (T703.setTop (mkF mM 567 #[.val (.int p1), .val (.int p2), .val (.long q0), .second, .val (.ref b2), .val (.long (5478551163 : Int64)), .second, .val (.int z245), .val (.ref r), .val (.int (5 : Int32)), .val (.ref b618), .val (.ref bp650), .val (.int (1 : Int32)), .val (.int j696)] [(.int (1 : Int32))])) _
      refine XS.ifNo X703.here hx rfl (hb hby at_567) rfl ((if0 _ _).trans (feq (by decide)).1) ?_
      refine XS.aload X703.here hx rfl (hb hby at_570) rfl rfl ?_
      refine XS.lloadN X703.here hx rfl (hb hby at_572) rfl ?_
      refine XS.iconst X703.here hx rfl (hb hby at_573) ?_
      refine XS.iload X703.here hx rfl (hb hby at_574) rfl ?_
      exact kg)
    clear pr704
    obtain ⟨Ls707, X707, N707⟩ := own_hide X703 N703
    clear X703 N703
    obtain ⟨_, _, ⟨T708, L708, kk708, nn708⟩, -, X708, ⟨Lc708, hQ708, l708, y708, z708⟩, st708⟩ := Jvm.LawKit.callS X707 hx (y := (⟨"com/example/tesserae/tesserae/value/VrPadPinLaw", "sameAt", "([BJII)Z"⟩ : MethodName)) hown (mvT hZ (hw _ (List.mem_of_getElem? (i := 95) rfl))) (mvT hZ (hw _ (List.mem_of_getElem? (i := 96) rfl))) (mvT hZ (hw _ (List.mem_of_getElem? (i := 97) rfl))) (mvT hZ (hw _ (List.mem_of_getElem? (i := 98) rfl))) (by decide) (backOf (W := 0) (rm5 l Z a0 hw [] bp650 q0 (1 : Int32) (5 : Int32) cla699 (nar .byte ((q0.toUInt64 >>> ((8 : Int32) &&& 0x3f).toInt64.toUInt64).toInt64).toInt32.toInt8.toInt32) T650.heap n0 c662 (by decide) Ara699 hin705 hat705 (own_w1 q0)) hZ (hw _ (List.mem_of_getElem? (i := 98) rfl)) (hw _ (List.mem_of_getElem? (i := 97) rfl)) (by decide) (by decide)) (g := (mkF mM 576 #[.val (.int p1), .val (.int p2), .val (.long q0), .second, .val (.ref b2), .val (.long (5478551163 : Int64)), .second, .val (.int z245), .val (.ref r), .val (.int (5 : Int32)), .val (.ref b618), .val (.ref bp650), .val (.int (1 : Int32)), .val (.int j696)] [(.int (5 : Int32)), (.int (1 : Int32)), (.long q0), (.ref bp650)])) rfl (by rw [hml]; rfl) (argsL := [(.ref bp650), (.long q0), (.int (1 : Int32)), (.int (5 : Int32))]) (rest := []) (lenOf pd_3 rfl) rfl (by show 2 * 0 + _ ≤ _; exact Nat.le_of_eq rfl) (hb hby at_576) (fun _ _ => ⟨rfl, e703, (by decide : 3 + 0 ≤ _), (by decide : 45 + 0 ≤ _)⟩)
    dsimp only [Pt.U, Pt.locs, Pt.cells, Pt.slots] at X708 l708 y708 z708 st708 hQ708
    subst l708 y708 z708
    obtain ⟨rfl, Nq708, e708⟩ := hQ708
    have N708 := Fr.app N707 Nq708
    have pr709 : ∀ tg, Steps pP.tables eE below (T708.setTop (mkF mM 579 #[.val (.int p1), .val (.int p2), .val (.long q0), .second, .val (.ref b2), .val (.long (5478551163 : Int64)), .second, .val (.int z245), .val (.ref r), .val (.int (5 : Int32)), .val (.ref b618), .val (.ref bp650), .val (.int (1 : Int32)), .val (.int j696)] [(.int (1 : Int32))])) tg → Steps pP.tables eE below (s₁.setTop (entryFrame mM #[(.int p1), (.int p2), (.long q0)] maxLocals)) tg := fun tg kg => pr706 _ (st708 _ kg)
    clear pr706 st708 X707 e703
    have hin710 : ¬ ((2 : Int32) < 0 ∨ cla699.slots.size ≤ ((2 : Int32)).toNatClampNeg) := inb_of Sa699 ⟨by decide, by decide⟩
    have hat710 : cla699.slots[((2 : Int32)).toNatClampNeg]? = some (.int (nar .byte ((q0.toUInt64 >>> ((16 : Int32) &&& 0x3f).toInt64.toUInt64).toInt64).toInt32.toInt8.toInt32)) := Has.at Ha699 hin710 rfl
    have pr711 : ∀ tg, Steps pP.tables eE below (T708.setTop (mkF mM 588 #[.val (.int p1), .val (.int p2), .val (.long q0), .second, .val (.ref b2), .val (.long (5478551163 : Int64)), .second, .val (.int z245), .val (.ref r), .val (.int (5 : Int32)), .val (.ref b618), .val (.ref bp650), .val (.int (1 : Int32)), .val (.int j696)] [(.int (5 : Int32)), (.int (2 : Int32)), (.long q0), (.ref bp650)])) tg → Steps pP.tables eE below (s₁.setTop (entryFrame mM #[(.int p1), (.int p2), (.long q0)] maxLocals)) tg := fun tg kg => pr709 _ (by
      show Steps pP.tables eE below (T708.setTop (mkF mM 579 #[.val (.int p1), .val (.int p2), .val (.long q0), .second, .val (.ref b2), .val (.long (5478551163 : Int64)), .second, .val (.int z245), .val (.ref r), .val (.int (5 : Int32)), .val (.ref b618), .val (.ref bp650), .val (.int (1 : Int32)), .val (.int j696)] [(.int (1 : Int32))])) _
      refine XS.ifNo X708.here hx rfl (hb hby at_579) rfl ((if0 _ _).trans (feq (by decide)).1) ?_
      refine XS.aload X708.here hx rfl (hb hby at_582) rfl rfl ?_
      refine XS.lloadN X708.here hx rfl (hb hby at_584) rfl ?_
      refine XS.iconst X708.here hx rfl (hb hby at_585) ?_
      refine XS.iload X708.here hx rfl (hb hby at_586) rfl ?_
      exact kg)
    clear pr709
    obtain ⟨Ls712, X712, N712⟩ := own_hide X708 N708
    clear X708 N708
    obtain ⟨_, _, ⟨T713, L713, kk713, nn713⟩, -, X713, ⟨Lc713, hQ713, l713, y713, z713⟩, st713⟩ := Jvm.LawKit.callS X712 hx (y := (⟨"com/example/tesserae/tesserae/value/VrPadPinLaw", "sameAt", "([BJII)Z"⟩ : MethodName)) hown (mvT hZ (hw _ (List.mem_of_getElem? (i := 95) rfl))) (mvT hZ (hw _ (List.mem_of_getElem? (i := 96) rfl))) (mvT hZ (hw _ (List.mem_of_getElem? (i := 97) rfl))) (mvT hZ (hw _ (List.mem_of_getElem? (i := 98) rfl))) (by decide) (backOf (W := 0) (rm5 l Z a0 hw [] bp650 q0 (2 : Int32) (5 : Int32) cla699 (nar .byte ((q0.toUInt64 >>> ((16 : Int32) &&& 0x3f).toInt64.toUInt64).toInt64).toInt32.toInt8.toInt32) T650.heap n0 c662 (by decide) Ara699 hin710 hat710 (own_w2 q0)) hZ (hw _ (List.mem_of_getElem? (i := 98) rfl)) (hw _ (List.mem_of_getElem? (i := 97) rfl)) (by decide) (by decide)) (g := (mkF mM 588 #[.val (.int p1), .val (.int p2), .val (.long q0), .second, .val (.ref b2), .val (.long (5478551163 : Int64)), .second, .val (.int z245), .val (.ref r), .val (.int (5 : Int32)), .val (.ref b618), .val (.ref bp650), .val (.int (1 : Int32)), .val (.int j696)] [(.int (5 : Int32)), (.int (2 : Int32)), (.long q0), (.ref bp650)])) rfl (by rw [hml]; rfl) (argsL := [(.ref bp650), (.long q0), (.int (2 : Int32)), (.int (5 : Int32))]) (rest := []) (lenOf pd_3 rfl) rfl (by show 2 * 0 + _ ≤ _; exact Nat.le_of_eq rfl) (hb hby at_588) (fun _ _ => ⟨rfl, e708, (by decide : 3 + 0 ≤ _), (by decide : 45 + 0 ≤ _)⟩)
    dsimp only [Pt.U, Pt.locs, Pt.cells, Pt.slots] at X713 l713 y713 z713 st713 hQ713
    subst l713 y713 z713
    obtain ⟨rfl, Nq713, e713⟩ := hQ713
    have N713 := Fr.app N712 Nq713
    have pr714 : ∀ tg, Steps pP.tables eE below (T713.setTop (mkF mM 591 #[.val (.int p1), .val (.int p2), .val (.long q0), .second, .val (.ref b2), .val (.long (5478551163 : Int64)), .second, .val (.int z245), .val (.ref r), .val (.int (5 : Int32)), .val (.ref b618), .val (.ref bp650), .val (.int (1 : Int32)), .val (.int j696)] [(.int (1 : Int32))])) tg → Steps pP.tables eE below (s₁.setTop (entryFrame mM #[(.int p1), (.int p2), (.long q0)] maxLocals)) tg := fun tg kg => pr711 _ (st713 _ kg)
    clear pr711 st713 X712 e708
    have hin715 : ¬ ((3 : Int32) < 0 ∨ cla699.slots.size ≤ ((3 : Int32)).toNatClampNeg) := inb_of Sa699 ⟨by decide, by decide⟩
    have hat715 : cla699.slots[((3 : Int32)).toNatClampNeg]? = some (.int (nar .byte ((q0.toUInt64 >>> ((24 : Int32) &&& 0x3f).toInt64.toUInt64).toInt64).toInt32.toInt8.toInt32)) := Has.at Ha699 hin715 rfl
    have pr716 : ∀ tg, Steps pP.tables eE below (T713.setTop (mkF mM 600 #[.val (.int p1), .val (.int p2), .val (.long q0), .second, .val (.ref b2), .val (.long (5478551163 : Int64)), .second, .val (.int z245), .val (.ref r), .val (.int (5 : Int32)), .val (.ref b618), .val (.ref bp650), .val (.int (1 : Int32)), .val (.int j696)] [(.int (5 : Int32)), (.int (3 : Int32)), (.long q0), (.ref bp650)])) tg → Steps pP.tables eE below (s₁.setTop (entryFrame mM #[(.int p1), (.int p2), (.long q0)] maxLocals)) tg := fun tg kg => pr714 _ (by
      show Steps pP.tables eE below (T713.setTop (mkF mM 591 #[.val (.int p1), .val (.int p2), .val (.long q0), .second, .val (.ref b2), .val (.long (5478551163 : Int64)), .second, .val (.int z245), .val (.ref r), .val (.int (5 : Int32)), .val (.ref b618), .val (.ref bp650), .val (.int (1 : Int32)), .val (.int j696)] [(.int (1 : Int32))])) _
      refine XS.ifNo X713.here hx rfl (hb hby at_591) rfl ((if0 _ _).trans (feq (by decide)).1) ?_
      refine XS.aload X713.here hx rfl (hb hby at_594) rfl rfl ?_
      refine XS.lloadN X713.here hx rfl (hb hby at_596) rfl ?_
      refine XS.iconst X713.here hx rfl (hb hby at_597) ?_
      refine XS.iload X713.here hx rfl (hb hby at_598) rfl ?_
      exact kg)
    clear pr714
    obtain ⟨Ls717, X717, N717⟩ := own_hide X713 N713
    clear X713 N713
    obtain ⟨_, _, ⟨T718, L718, kk718, nn718⟩, -, X718, ⟨Lc718, hQ718, l718, y718, z718⟩, st718⟩ := Jvm.LawKit.callS X717 hx (y := (⟨"com/example/tesserae/tesserae/value/VrPadPinLaw", "sameAt", "([BJII)Z"⟩ : MethodName)) hown (mvT hZ (hw _ (List.mem_of_getElem? (i := 95) rfl))) (mvT hZ (hw _ (List.mem_of_getElem? (i := 96) rfl))) (mvT hZ (hw _ (List.mem_of_getElem? (i := 97) rfl))) (mvT hZ (hw _ (List.mem_of_getElem? (i := 98) rfl))) (by decide) (backOf (W := 0) (rm5 l Z a0 hw [] bp650 q0 (3 : Int32) (5 : Int32) cla699 (nar .byte ((q0.toUInt64 >>> ((24 : Int32) &&& 0x3f).toInt64.toUInt64).toInt64).toInt32.toInt8.toInt32) T650.heap n0 c662 (by decide) Ara699 hin715 hat715 (own_w3 q0)) hZ (hw _ (List.mem_of_getElem? (i := 98) rfl)) (hw _ (List.mem_of_getElem? (i := 97) rfl)) (by decide) (by decide)) (g := (mkF mM 600 #[.val (.int p1), .val (.int p2), .val (.long q0), .second, .val (.ref b2), .val (.long (5478551163 : Int64)), .second, .val (.int z245), .val (.ref r), .val (.int (5 : Int32)), .val (.ref b618), .val (.ref bp650), .val (.int (1 : Int32)), .val (.int j696)] [(.int (5 : Int32)), (.int (3 : Int32)), (.long q0), (.ref bp650)])) rfl (by rw [hml]; rfl) (argsL := [(.ref bp650), (.long q0), (.int (3 : Int32)), (.int (5 : Int32))]) (rest := []) (lenOf pd_3 rfl) rfl (by show 2 * 0 + _ ≤ _; exact Nat.le_of_eq rfl) (hb hby at_600) (fun _ _ => ⟨rfl, e713, (by decide : 3 + 0 ≤ _), (by decide : 45 + 0 ≤ _)⟩)
    dsimp only [Pt.U, Pt.locs, Pt.cells, Pt.slots] at X718 l718 y718 z718 st718 hQ718
    subst l718 y718 z718
    obtain ⟨rfl, Nq718, e718⟩ := hQ718
    have N718 := Fr.app N717 Nq718
    have pr719 : ∀ tg, Steps pP.tables eE below (T718.setTop (mkF mM 603 #[.val (.int p1), .val (.int p2), .val (.long q0), .second, .val (.ref b2), .val (.long (5478551163 : Int64)), .second, .val (.int z245), .val (.ref r), .val (.int (5 : Int32)), .val (.ref b618), .val (.ref bp650), .val (.int (1 : Int32)), .val (.int j696)] [(.int (1 : Int32))])) tg → Steps pP.tables eE below (s₁.setTop (entryFrame mM #[(.int p1), (.int p2), (.long q0)] maxLocals)) tg := fun tg kg => pr716 _ (st718 _ kg)
    clear pr716 st718 X717 e713
    have hin720 : ¬ ((4 : Int32) < 0 ∨ cla699.slots.size ≤ ((4 : Int32)).toNatClampNeg) := inb_of Sa699 ⟨by decide, by decide⟩
    have hat720 : cla699.slots[((4 : Int32)).toNatClampNeg]? = some (.int (nar .byte ((q0.toUInt64 >>> ((32 : Int32) &&& 0x3f).toInt64.toUInt64).toInt64).toInt32.toInt8.toInt32)) := Has.at Ha699 hin720 rfl
    have pr721 : ∀ tg, Steps pP.tables eE below (T718.setTop (mkF mM 612 #[.val (.int p1), .val (.int p2), .val (.long q0), .second, .val (.ref b2), .val (.long (5478551163 : Int64)), .second, .val (.int z245), .val (.ref r), .val (.int (5 : Int32)), .val (.ref b618), .val (.ref bp650), .val (.int (1 : Int32)), .val (.int j696)] [(.int (5 : Int32)), (.int (4 : Int32)), (.long q0), (.ref bp650)])) tg → Steps pP.tables eE below (s₁.setTop (entryFrame mM #[(.int p1), (.int p2), (.long q0)] maxLocals)) tg := fun tg kg => pr719 _ (by
      show Steps pP.tables eE below (T718.setTop (mkF mM 603 #[.val (.int p1), .val (.int p2), .val (.long q0), .second, .val (.ref b2), .val (.long (5478551163 : Int64)), .second, .val (.int z245), .val (.ref r), .val (.int (5 : Int32)), .val (.ref b618), .val (.ref bp650), .val (.int (1 : Int32)), .val (.int j696)] [(.int (1 : Int32))])) _
      refine XS.ifNo X718.here hx rfl (hb hby at_603) rfl ((if0 _ _).trans (feq (by decide)).1) ?_
      refine XS.aload X718.here hx rfl (hb hby at_606) rfl rfl ?_
      refine XS.lloadN X718.here hx rfl (hb hby at_608) rfl ?_
      refine XS.iconst X718.here hx rfl (hb hby at_609) ?_
      refine XS.iload X718.here hx rfl (hb hby at_610) rfl ?_
      exact kg)
    clear pr719
    obtain ⟨Ls722, X722, N722⟩ := own_hide X718 N718
    clear X718 N718
    obtain ⟨_, _, ⟨T723, L723, kk723, nn723⟩, -, X723, ⟨Lc723, hQ723, l723, y723, z723⟩, st723⟩ := Jvm.LawKit.callS X722 hx (y := (⟨"com/example/tesserae/tesserae/value/VrPadPinLaw", "sameAt", "([BJII)Z"⟩ : MethodName)) hown (mvT hZ (hw _ (List.mem_of_getElem? (i := 95) rfl))) (mvT hZ (hw _ (List.mem_of_getElem? (i := 96) rfl))) (mvT hZ (hw _ (List.mem_of_getElem? (i := 97) rfl))) (mvT hZ (hw _ (List.mem_of_getElem? (i := 98) rfl))) (by decide) (backOf (W := 0) (rm5 l Z a0 hw [] bp650 q0 (4 : Int32) (5 : Int32) cla699 (nar .byte ((q0.toUInt64 >>> ((32 : Int32) &&& 0x3f).toInt64.toUInt64).toInt64).toInt32.toInt8.toInt32) T650.heap n0 c662 (by decide) Ara699 hin720 hat720 (own_w4 q0)) hZ (hw _ (List.mem_of_getElem? (i := 98) rfl)) (hw _ (List.mem_of_getElem? (i := 97) rfl)) (by decide) (by decide)) (g := (mkF mM 612 #[.val (.int p1), .val (.int p2), .val (.long q0), .second, .val (.ref b2), .val (.long (5478551163 : Int64)), .second, .val (.int z245), .val (.ref r), .val (.int (5 : Int32)), .val (.ref b618), .val (.ref bp650), .val (.int (1 : Int32)), .val (.int j696)] [(.int (5 : Int32)), (.int (4 : Int32)), (.long q0), (.ref bp650)])) rfl (by rw [hml]; rfl) (argsL := [(.ref bp650), (.long q0), (.int (4 : Int32)), (.int (5 : Int32))]) (rest := []) (lenOf pd_3 rfl) rfl (by show 2 * 0 + _ ≤ _; exact Nat.le_of_eq rfl) (hb hby at_612) (fun _ _ => ⟨rfl, e718, (by decide : 3 + 0 ≤ _), (by decide : 45 + 0 ≤ _)⟩)
    dsimp only [Pt.U, Pt.locs, Pt.cells, Pt.slots] at X723 l723 y723 z723 st723 hQ723
    subst l723 y723 z723
    obtain ⟨rfl, Nq723, e723⟩ := hQ723
    have N723 := Fr.app N722 Nq723
    have pr724 : ∀ tg, Steps pP.tables eE below (T723.setTop (mkF mM 615 #[.val (.int p1), .val (.int p2), .val (.long q0), .second, .val (.ref b2), .val (.long (5478551163 : Int64)), .second, .val (.int z245), .val (.ref r), .val (.int (5 : Int32)), .val (.ref b618), .val (.ref bp650), .val (.int (1 : Int32)), .val (.int j696)] [(.int (1 : Int32))])) tg → Steps pP.tables eE below (s₁.setTop (entryFrame mM #[(.int p1), (.int p2), (.long q0)] maxLocals)) tg := fun tg kg => pr721 _ (st723 _ kg)
    clear pr721 st723 X722 e718
    have pr725 : ∀ tg, Steps pP.tables eE below (T723.setTop (mkF mM 624 #[.val (.int p1), .val (.int p2), .val (.long q0), .second, .val (.ref b2), .val (.long (5478551163 : Int64)), .second, .val (.int z245), .val (.ref r), .val (.int (5 : Int32)), .val (.ref b618), .val (.ref bp650), .val (.int (1 : Int32)), .val (.int j696)] [(.int (5 : Int32)), (.int (5 : Int32)), (.long q0), (.ref bp650)])) tg → Steps pP.tables eE below (s₁.setTop (entryFrame mM #[(.int p1), (.int p2), (.long q0)] maxLocals)) tg := fun tg kg => pr724 _ (by
      show Steps pP.tables eE below (T723.setTop (mkF mM 615 #[.val (.int p1), .val (.int p2), .val (.long q0), .second, .val (.ref b2), .val (.long (5478551163 : Int64)), .second, .val (.int z245), .val (.ref r), .val (.int (5 : Int32)), .val (.ref b618), .val (.ref bp650), .val (.int (1 : Int32)), .val (.int j696)] [(.int (1 : Int32))])) _
      refine XS.ifNo X723.here hx rfl (hb hby at_615) rfl ((if0 _ _).trans (feq (by decide)).1) ?_
      refine XS.aload X723.here hx rfl (hb hby at_618) rfl rfl ?_
      refine XS.lloadN X723.here hx rfl (hb hby at_620) rfl ?_
      refine XS.iconst X723.here hx rfl (hb hby at_621) ?_
      refine XS.iload X723.here hx rfl (hb hby at_622) rfl ?_
      exact kg)
    clear pr724
    obtain ⟨Ls726, X726, N726⟩ := own_hide X723 N723
    clear X723 N723
    obtain ⟨_, _, ⟨T727, L727, kk727, nn727⟩, -, X727, ⟨Lc727, hQ727, l727, y727, z727⟩, st727⟩ := Jvm.LawKit.callS X726 hx (y := (⟨"com/example/tesserae/tesserae/value/VrPadPinLaw", "sameAt", "([BJII)Z"⟩ : MethodName)) hown (mvT hZ (hw _ (List.mem_of_getElem? (i := 95) rfl))) (mvT hZ (hw _ (List.mem_of_getElem? (i := 96) rfl))) (mvT hZ (hw _ (List.mem_of_getElem? (i := 97) rfl))) (mvT hZ (hw _ (List.mem_of_getElem? (i := 98) rfl))) (by decide) (backOf (W := 0) (rm4 l Z a0 hw [] bp650 q0 (5 : Int32) (5 : Int32) T650.heap n0 c662 (by decide)) hZ (hw _ (List.mem_of_getElem? (i := 98) rfl)) (hw _ (List.mem_of_getElem? (i := 97) rfl)) (by decide) (by decide)) (g := (mkF mM 624 #[.val (.int p1), .val (.int p2), .val (.long q0), .second, .val (.ref b2), .val (.long (5478551163 : Int64)), .second, .val (.int z245), .val (.ref r), .val (.int (5 : Int32)), .val (.ref b618), .val (.ref bp650), .val (.int (1 : Int32)), .val (.int j696)] [(.int (5 : Int32)), (.int (5 : Int32)), (.long q0), (.ref bp650)])) rfl (by rw [hml]; rfl) (argsL := [(.ref bp650), (.long q0), (.int (5 : Int32)), (.int (5 : Int32))]) (rest := []) (lenOf pd_3 rfl) rfl (by show 2 * 0 + _ ≤ _; exact Nat.le_of_eq rfl) (hb hby at_624) (fun _ _ => ⟨rfl, e723, (by decide : 3 + 0 ≤ _), (by decide : 45 + 0 ≤ _)⟩)
    dsimp only [Pt.U, Pt.locs, Pt.cells, Pt.slots] at X727 l727 y727 z727 st727 hQ727
    subst l727 y727 z727
    obtain ⟨rfl, Nq727, e727⟩ := hQ727
    have N727 := Fr.app N726 Nq727
    have pr728 : ∀ tg, Steps pP.tables eE below (T727.setTop (mkF mM 627 #[.val (.int p1), .val (.int p2), .val (.long q0), .second, .val (.ref b2), .val (.long (5478551163 : Int64)), .second, .val (.int z245), .val (.ref r), .val (.int (5 : Int32)), .val (.ref b618), .val (.ref bp650), .val (.int (1 : Int32)), .val (.int j696)] [(.int (1 : Int32))])) tg → Steps pP.tables eE below (s₁.setTop (entryFrame mM #[(.int p1), (.int p2), (.long q0)] maxLocals)) tg := fun tg kg => pr725 _ (st727 _ kg)
    clear pr725 st727 X726 e723
    have pr729 : ∀ tg, Steps pP.tables eE below (T727.setTop (mkF mM 637 #[.val (.int p1), .val (.int p2), .val (.long q0), .second, .val (.ref b2), .val (.long (5478551163 : Int64)), .second, .val (.int z245), .val (.ref r), .val (.int (5 : Int32)), .val (.ref b618), .val (.ref bp650), .val (.int (1 : Int32)), .val (.int j696)] [(.int (5 : Int32)), (.int (6 : Int32)), (.long q0), (.ref bp650)])) tg → Steps pP.tables eE below (s₁.setTop (entryFrame mM #[(.int p1), (.int p2), (.long q0)] maxLocals)) tg := fun tg kg => pr728 _ (by
      show Steps pP.tables eE below (T727.setTop (mkF mM 627 #[.val (.int p1), .val (.int p2), .val (.long q0), .second, .val (.ref b2), .val (.long (5478551163 : Int64)), .second, .val (.int z245), .val (.ref r), .val (.int (5 : Int32)), .val (.ref b618), .val (.ref bp650), .val (.int (1 : Int32)), .val (.int j696)] [(.int (1 : Int32))])) _
      refine XS.ifNo X727.here hx rfl (hb hby at_627) rfl ((if0 _ _).trans (feq (by decide)).1) ?_
      refine XS.aload X727.here hx rfl (hb hby at_630) rfl rfl ?_
      refine XS.lloadN X727.here hx rfl (hb hby at_632) rfl ?_
      refine XS.bipush X727.here hx rfl (hb hby at_633) ?_
      refine XS.iload X727.here hx rfl (hb hby at_635) rfl ?_
      exact kg)
    clear pr728
    obtain ⟨Ls730, X730, N730⟩ := own_hide X727 N727
    clear X727 N727
    obtain ⟨_, _, ⟨T731, L731, kk731, nn731⟩, -, X731, ⟨Lc731, hQ731, l731, y731, z731⟩, st731⟩ := Jvm.LawKit.callS X730 hx (y := (⟨"com/example/tesserae/tesserae/value/VrPadPinLaw", "sameAt", "([BJII)Z"⟩ : MethodName)) hown (mvT hZ (hw _ (List.mem_of_getElem? (i := 95) rfl))) (mvT hZ (hw _ (List.mem_of_getElem? (i := 96) rfl))) (mvT hZ (hw _ (List.mem_of_getElem? (i := 97) rfl))) (mvT hZ (hw _ (List.mem_of_getElem? (i := 98) rfl))) (by decide) (backOf (W := 0) (rm4 l Z a0 hw [] bp650 q0 (6 : Int32) (5 : Int32) T650.heap n0 c662 (by decide)) hZ (hw _ (List.mem_of_getElem? (i := 98) rfl)) (hw _ (List.mem_of_getElem? (i := 97) rfl)) (by decide) (by decide)) (g := (mkF mM 637 #[.val (.int p1), .val (.int p2), .val (.long q0), .second, .val (.ref b2), .val (.long (5478551163 : Int64)), .second, .val (.int z245), .val (.ref r), .val (.int (5 : Int32)), .val (.ref b618), .val (.ref bp650), .val (.int (1 : Int32)), .val (.int j696)] [(.int (5 : Int32)), (.int (6 : Int32)), (.long q0), (.ref bp650)])) rfl (by rw [hml]; rfl) (argsL := [(.ref bp650), (.long q0), (.int (6 : Int32)), (.int (5 : Int32))]) (rest := []) (lenOf pd_3 rfl) rfl (by show 2 * 0 + _ ≤ _; exact Nat.le_of_eq rfl) (hb hby at_637) (fun _ _ => ⟨rfl, e727, (by decide : 3 + 0 ≤ _), (by decide : 45 + 0 ≤ _)⟩)
    dsimp only [Pt.U, Pt.locs, Pt.cells, Pt.slots] at X731 l731 y731 z731 st731 hQ731
    subst l731 y731 z731
    obtain ⟨rfl, Nq731, e731⟩ := hQ731
    have N731 := Fr.app N730 Nq731
    have pr732 : ∀ tg, Steps pP.tables eE below (T731.setTop (mkF mM 640 #[.val (.int p1), .val (.int p2), .val (.long q0), .second, .val (.ref b2), .val (.long (5478551163 : Int64)), .second, .val (.int z245), .val (.ref r), .val (.int (5 : Int32)), .val (.ref b618), .val (.ref bp650), .val (.int (1 : Int32)), .val (.int j696)] [(.int (1 : Int32))])) tg → Steps pP.tables eE below (s₁.setTop (entryFrame mM #[(.int p1), (.int p2), (.long q0)] maxLocals)) tg := fun tg kg => pr729 _ (st731 _ kg)
    clear pr729 st731 X730 e727
    have hin733 : ¬ ((5 : Int32) < 0 ∨ cla699.slots.size ≤ ((5 : Int32)).toNatClampNeg) := inb_of Sa699 ⟨by decide, by decide⟩
    have hat733 : cla699.slots[((5 : Int32)).toNatClampNeg]? = some (.int pv) := Has.at Ha699 hin733 rfl
    have pr734 : ∀ tg, Steps pP.tables eE below (T731.setTop (mkF mM 658 #[.val (.int p1), .val (.int p2), .val (.long q0), .second, .val (.ref b2), .val (.long (5478551163 : Int64)), .second, .val (.int z245), .val (.ref r), .val (.int (5 : Int32)), .val (.ref b618), .val (.ref bp650), .val (.int (1 : Int32)), .val (.int j696)] [(.int (1 : Int32))])) tg → Steps pP.tables eE below (s₁.setTop (entryFrame mM #[(.int p1), (.int p2), (.long q0)] maxLocals)) tg := fun tg kg => pr732 _ (by
      show Steps pP.tables eE below (T731.setTop (mkF mM 640 #[.val (.int p1), .val (.int p2), .val (.long q0), .second, .val (.ref b2), .val (.long (5478551163 : Int64)), .second, .val (.int z245), .val (.ref r), .val (.int (5 : Int32)), .val (.ref b618), .val (.ref bp650), .val (.int (1 : Int32)), .val (.int j696)] [(.int (1 : Int32))])) _
      refine XS.ifNo X731.here hx rfl (hb hby at_640) rfl ((if0 _ _).trans (feq (by decide)).1) ?_
      refine XS.aload X731.here hx rfl (hb hby at_643) rfl rfl ?_
      refine XS.iload X731.here hx rfl (hb hby at_645) rfl ?_
      show Steps pP.tables eE below (T731.setTop (mkF mM 647 #[.val (.int p1), .val (.int p2), .val (.long q0), .second, .val (.ref b2), .val (.long (5478551163 : Int64)), .second, .val (.int z245), .val (.ref r), .val (.int (5 : Int32)), .val (.ref b618), .val (.ref bp650), .val (.int (1 : Int32)), .val (.int j696)] [(.int (5 : Int32)), (.ref bp650)])) _
      refine X731.baloadBytes hx (j := (5 : Int32)) (v := (.int pv)) (by rw [e731]; exact Ara699.1) (State.isArrayOf_alike hZ.alike Ara699.2.1) Ara699.2.2 hin733 hat733 (g := (mkF mM 647 #[.val (.int p1), .val (.int p2), .val (.long q0), .second, .val (.ref b2), .val (.long (5478551163 : Int64)), .second, .val (.int z245), .val (.ref r), .val (.int (5 : Int32)), .val (.ref b618), .val (.ref bp650), .val (.int (1 : Int32)), .val (.int j696)] [(.int (5 : Int32)), (.ref bp650)])) rfl rfl (hb hby at_647) _ ?_
      show Steps pP.tables eE below (T731.setTop (mkF mM 648 #[.val (.int p1), .val (.int p2), .val (.long q0), .second, .val (.ref b2), .val (.long (5478551163 : Int64)), .second, .val (.int z245), .val (.ref r), .val (.int (5 : Int32)), .val (.ref b618), .val (.ref bp650), .val (.int (1 : Int32)), .val (.int j696)] [(.int pv)])) _
      refine XS.iload X731.here hx rfl (hb hby at_648) rfl ?_
      refine XS.icmpNo X731.here hx rfl (hb hby at_650) rfl (teq (hx5.trans hj696.symm)).2 ?_
      refine XS.iconst X731.here hx rfl (hb hby at_653) ?_
      refine XS.goto X731.here hx rfl (pc0 := 654) (pc' := 658) rfl (hb hby at_654) (by decide) (by decide) ?_
      exact kg)
    clear pr732
    obtain ⟨fs, hr, hrun, hended, hW, hsame⟩ := X731.leave (v := some (.int (1 : Int32))) (fun h => by rw [Bd.returns] at h; cases h)
    refine ⟨_, _, pr734 _ (retOut X731 hx (t := .boolean) Bd.returns rfl (Or.inl ⟨rfl, Or.inr (Or.inl rfl), _, rfl⟩) (hb hby at_658) hr), hrun, hended, _, _, rfl, ?_, ⟨_, rfl⟩, hW, hsame.mono (by decide) (by decide)⟩
    show Q0 Z p1 p2 q0 a_AE a_AS a_AT a_CS a_DA a_DS a_DT a_FD a_FL a_IS a_LO a_LT a_OB a_OD a_OF a_OL a_OV a_OW a_PN a_SH a_SL a_SQ a_SS a_ST a_SV a_TM a_UC a_UI a_UL a_UN a_UR a_US a_UT a_UV h0 n0 _ T731.heap _
    rw [e731]
    exact ⟨rfl, N731⟩
  ·
    have pr735 : ∀ tg, Steps pP.tables eE below (T242.setTop (mkF mM 268 #[.val (.int p1), .val (.int p2), .val (.long q0), .second, .val (.ref b2), .val (.long (5478551163 : Int64)), .second, .val (.int z245), .val (.ref r), .val (.int (6 : Int32)), .unset, .unset, .unset, .unset] [(.int (6 : Int32))])) tg → Steps pP.tables eE below (s₁.setTop (entryFrame mM #[(.int p1), (.int p2), (.long q0)] maxLocals)) tg := fun tg kg => pr251 _ (by
      show Steps pP.tables eE below (T242.setTop (mkF mM 266 #[.val (.int p1), .val (.int p2), .val (.long q0), .second, .val (.ref b2), .val (.long (5478551163 : Int64)), .second, .val (.int z245), .val (.ref r), .val (.int (6 : Int32)), .unset, .unset, .unset, .unset] [])) _
      refine XS.iload X242.here hx rfl (hb hby at_266) rfl ?_
      exact kg)
    clear pr251
    obtain ⟨T736, h736, k736, X736, e736, E736, A736, Ex736, st736⟩ := newPE X242 hx hZ (hw _ (List.mem_of_getElem? (i := 74) rfl)) e242 (g := (mkF mM 268 #[.val (.int p1), .val (.int p2), .val (.long q0), .second, .val (.ref b2), .val (.long (5478551163 : Int64)), .second, .val (.int z245), .val (.ref r), .val (.int (6 : Int32)), .unset, .unset, .unset, .unset] [(.int (6 : Int32))])) rfl (hb hby at_268) rfl (by decide) (cap := 6) (by decide) (by decide) (by decide) (by decide) (ad := "[B") rfl
    obtain ⟨b736, g736⟩ : ∃ z, z = (h242).size := ⟨_, rfl⟩
    rw [← g736] at A736 Ex736 st736
    have ne737 : b2 ≠ b736 := Nat.ne_of_lt (Nat.lt_of_lt_of_le (V242).lt (Nat.le_of_eq g736.symm))
    have c739 := (Nat.le_trans (Nat.le_trans (Nat.le_trans (Nat.le_trans (Nat.le_trans (Nat.le_trans (Nat.le_trans (Nat.le_trans (Nat.le_trans (Nat.le_trans (Nat.le_trans (Nat.le_trans (Nat.le_trans (Nat.le_trans (Nat.le_trans (Nat.le_trans (Nat.le_trans (Nat.le_trans (Nat.le_trans (Nat.le_trans (Nat.le_trans (Nat.le_trans (Nat.le_trans (Nat.le_trans (Nat.le_trans (Nat.le_trans (Nat.le_trans (Nat.le_trans (Nat.le_trans (Nat.le_trans (Nat.le_trans (Nat.le_trans (Nat.le_trans (Nat.le_trans (Nat.le_trans Z0 E2.1) (Keep.of_wr W11).1) (Keep.of_wr W18).1) (Keep.of_wr W25).1) (Keep.of_wr W32).1) (Keep.of_wr W39).1) (Keep.of_wr W46).1) (Keep.of_wr W53).1) (Keep.of_wr W60).1) (Keep.of_wr W67).1) (Keep.of_wr W74).1) (Keep.of_wr W81).1) (Keep.of_wr W88).1) (Keep.of_wr W95).1) (Keep.of_wr W102).1) (Keep.of_wr W109).1) (Keep.of_wr W116).1) (Keep.of_wr W123).1) (Keep.of_wr W130).1) (Keep.of_wr W137).1) (Keep.of_wr W144).1) (Keep.of_wr W151).1) (Keep.of_wr W158).1) (Keep.of_wr W165).1) (Keep.of_wr W172).1) (Keep.of_wr W179).1) (Keep.of_wr W186).1) (Keep.of_wr W193).1) (Keep.of_wr W200).1) (Keep.of_wr W207).1) (Keep.of_wr W214).1) (Keep.of_wr W221).1) (Keep.of_wr W228).1) (Keep.of_wr W235).1) (Keep.of_wr W242).1)
    have gn738 : n0 ≤ b736 := Nat.le_trans c739 (Nat.le_of_eq g736.symm)
    have c741 := (Keep.wr (Keep.wr (Keep.wr (Keep.wr (Keep.wr (Keep.wr (Keep.wr (Keep.wr (Keep.wr (Keep.wr (Keep.wr (Keep.wr (Keep.wr (Keep.wr (Keep.wr (Keep.wr (Keep.wr (Keep.wr (Keep.wr (Keep.wr (Keep.wr (Keep.wr (Keep.wr (Keep.wr (Keep.wr (Keep.wr (Keep.wr (Keep.wr (Keep.wr (Keep.wr (Keep.wr (Keep.wr (Keep.wr (Keep.wr (Keep.ext (Keep.refl h0 []) E2) W11 (Or.inr gs4)) W18 (Or.inr gs4)) W25 (Or.inr gs4)) W32 (Or.inr gs4)) W39 (Or.inr gs4)) W46 (Or.inr gs4)) W53 (Or.inr gs4)) W60 (Or.inr gs4)) W67 (Or.inr gs4)) W74 (Or.inr gs4)) W81 (Or.inr gs4)) W88 (Or.inr gs4)) W95 (Or.inr gs4)) W102 (Or.inr gs4)) W109 (Or.inr gs4)) W116 (Or.inr gs4)) W123 (Or.inr gs4)) W130 (Or.inr gs4)) W137 (Or.inr gs4)) W144 (Or.inr gs4)) W151 (Or.inr gs4)) W158 (Or.inr gs4)) W165 (Or.inr gs4)) W172 (Or.inr gs4)) W179 (Or.inr gs4)) W186 (Or.inr gs4)) W193 (Or.inr gs4)) W200 (Or.inr gs4)) W207 (Or.inr gs4)) W214 (Or.inr gs4)) W221 (Or.inr gs4)) W228 (Or.inr gs4)) W235 (Or.inr gs4)) W242 (Or.inr gs4))
    have gs740 : h0.size ≤ b736 := Nat.le_trans c741.1 (Nat.le_of_eq g736.symm)
    have c742 := (Old.wr c239 W242 gn3)
    have V736 : Arv Z h736 b736 k736 .byte (6 : Int32) [(.int (0 : Int32)), (.int (0 : Int32)), (.int (0 : Int32)), (.int (0 : Int32)), (.int (0 : Int32)), (.int (0 : Int32))] (.int (0 : Int32)) := (Arv.new A736 (by decide)).pad (pad_rep [] (.int (0 : Int32)) 6)
    have pr743 : ∀ tg, Steps pP.tables eE below (T736.setTop (mkF mM 270 #[.val (.int p1), .val (.int p2), .val (.long q0), .second, .val (.ref b2), .val (.long (5478551163 : Int64)), .second, .val (.int z245), .val (.ref r), .val (.int (6 : Int32)), .unset, .unset, .unset, .unset] [(.ref b736)])) tg → Steps pP.tables eE below (s₁.setTop (entryFrame mM #[(.int p1), (.int p2), (.long q0)] maxLocals)) tg := fun tg kg => pr735 _ (st736 _ kg)
    clear pr735 st736 X242 e242
    have pr744 : ∀ tg, Steps pP.tables eE below (T736.setTop (mkF mM 283 #[.val (.int p1), .val (.int p2), .val (.long q0), .second, .val (.ref b2), .val (.long (5478551163 : Int64)), .second, .val (.int z245), .val (.ref r), .val (.int (6 : Int32)), .val (.ref b736), .unset, .unset, .unset] [(.int q0.toInt32.toInt8.toInt32), (.int (0 : Int32)), (.ref b736)])) tg → Steps pP.tables eE below (s₁.setTop (entryFrame mM #[(.int p1), (.int p2), (.long q0)] maxLocals)) tg := fun tg kg => pr743 _ (by
      show Steps pP.tables eE below (T736.setTop (mkF mM 270 #[.val (.int p1), .val (.int p2), .val (.long q0), .second, .val (.ref b2), .val (.long (5478551163 : Int64)), .second, .val (.int z245), .val (.ref r), .val (.int (6 : Int32)), .unset, .unset, .unset, .unset] [(.ref b736)])) _
      refine XS.astore X736.here hx rfl (hb hby at_270) rfl rfl (l' := #[.val (.int p1), .val (.int p2), .val (.long q0), .second, .val (.ref b2), .val (.long (5478551163 : Int64)), .second, .val (.int z245), .val (.ref r), .val (.int (6 : Int32)), .val (.ref b736), .unset, .unset, .unset]) rfl ?_
      refine XS.iload X736.here hx rfl (hb hby at_272) rfl ?_
      refine XS.ifNo X736.here hx rfl (hb hby at_274) rfl ((if0 _ _).trans (tlt (by decide)).2.2.2) ?_
      refine XS.aload X736.here hx rfl (hb hby at_277) rfl rfl ?_
      refine XS.iconst X736.here hx rfl (hb hby at_279) ?_
      refine XS.lloadN X736.here hx rfl (hb hby at_280) rfl ?_
      show Steps pP.tables eE below (T736.setTop (mkF mM 281 #[.val (.int p1), .val (.int p2), .val (.long q0), .second, .val (.ref b2), .val (.long (5478551163 : Int64)), .second, .val (.int z245), .val (.ref r), .val (.int (6 : Int32)), .val (.ref b736), .unset, .unset, .unset] [(.long q0), (.int (0 : Int32)), (.ref b736)])) _
      refine XS.l2i X736.here hx rfl (hb hby at_281) rfl ?_
      refine XS.i2b X736.here hx rfl (hb hby at_282) rfl ?_
      exact kg)
    clear pr743
    obtain ⟨cla745, Ara745, qa745, Sa745, Ma745, Ha745, Ga745⟩ := id V736
    have hin746 : ¬ ((0 : Int32) < 0 ∨ cla745.slots.size ≤ ((0 : Int32)).toNatClampNeg) := inb_of Sa745 ⟨by decide, by decide⟩
    obtain ⟨T746, h746, X746, e746, W746, st746⟩ := stB X736 hx hZ e736 Ara745 (j := (0 : Int32)) hin746 (g := (mkF mM 283 #[.val (.int p1), .val (.int p2), .val (.long q0), .second, .val (.ref b2), .val (.long (5478551163 : Int64)), .second, .val (.int z245), .val (.ref r), .val (.int (6 : Int32)), .val (.ref b736), .unset, .unset, .unset] [(.int q0.toInt32.toInt8.toInt32), (.int (0 : Int32)), (.ref b736)])) rfl rfl (hb hby at_283)
    have V746 : Arv Z h746 b736 k736 .byte (6 : Int32) [(.int (nar .byte q0.toInt32.toInt8.toInt32)), (.int (0 : Int32)), (.int (0 : Int32)), (.int (0 : Int32)), (.int (0 : Int32)), (.int (0 : Int32))] (.int (0 : Int32)) := Arv.set Ara745 qa745 Sa745 Ma745 Ha745 Ga745 (fits_nar_byte _) W746 0 rfl (Nat.le_of_ble_eq_true rfl)
    have N746 := Fr.snoc X746 N242 gn738
    have pr747 : ∀ tg, Steps pP.tables eE below (T746.setTop (mkF mM 284 #[.val (.int p1), .val (.int p2), .val (.long q0), .second, .val (.ref b2), .val (.long (5478551163 : Int64)), .second, .val (.int z245), .val (.ref r), .val (.int (6 : Int32)), .val (.ref b736), .unset, .unset, .unset] [])) tg → Steps pP.tables eE below (s₁.setTop (entryFrame mM #[(.int p1), (.int p2), (.long q0)] maxLocals)) tg := fun tg kg => pr744 _ (st746 _ kg)
    clear pr744 st746 X736 e736
    have pr748 : ∀ tg, Steps pP.tables eE below (T746.setTop (mkF mM 299 #[.val (.int p1), .val (.int p2), .val (.long q0), .second, .val (.ref b2), .val (.long (5478551163 : Int64)), .second, .val (.int z245), .val (.ref r), .val (.int (6 : Int32)), .val (.ref b736), .unset, .unset, .unset] [(.int ((q0.toUInt64 >>> ((8 : Int32) &&& 0x3f).toInt64.toUInt64).toInt64).toInt32.toInt8.toInt32), (.int (1 : Int32)), (.ref b736)])) tg → Steps pP.tables eE below (s₁.setTop (entryFrame mM #[(.int p1), (.int p2), (.long q0)] maxLocals)) tg := fun tg kg => pr747 _ (by
      show Steps pP.tables eE below (T746.setTop (mkF mM 284 #[.val (.int p1), .val (.int p2), .val (.long q0), .second, .val (.ref b2), .val (.long (5478551163 : Int64)), .second, .val (.int z245), .val (.ref r), .val (.int (6 : Int32)), .val (.ref b736), .unset, .unset, .unset] [])) _
      refine XS.iload X746.here hx rfl (hb hby at_284) rfl ?_
      refine XS.iconst X746.here hx rfl (hb hby at_286) ?_
      refine XS.icmpNo X746.here hx rfl (hb hby at_287) rfl (tlt (by decide)).2.2.2 ?_
      refine XS.aload X746.here hx rfl (hb hby at_290) rfl rfl ?_
      refine XS.iconst X746.here hx rfl (hb hby at_292) ?_
      refine XS.lloadN X746.here hx rfl (hb hby at_293) rfl ?_
      show Steps pP.tables eE below (T746.setTop (mkF mM 294 #[.val (.int p1), .val (.int p2), .val (.long q0), .second, .val (.ref b2), .val (.long (5478551163 : Int64)), .second, .val (.int z245), .val (.ref r), .val (.int (6 : Int32)), .val (.ref b736), .unset, .unset, .unset] [(.long q0), (.int (1 : Int32)), (.ref b736)])) _
      refine XS.bipush X746.here hx rfl (hb hby at_294) ?_
      refine XS.lushr X746.here hx rfl (hb hby at_296) rfl ?_
      refine XS.l2i X746.here hx rfl (hb hby at_297) rfl ?_
      refine XS.i2b X746.here hx rfl (hb hby at_298) rfl ?_
      exact kg)
    clear pr747
    obtain ⟨cla749, Ara749, qa749, Sa749, Ma749, Ha749, Ga749⟩ := id V746
    have hin750 : ¬ ((1 : Int32) < 0 ∨ cla749.slots.size ≤ ((1 : Int32)).toNatClampNeg) := inb_of Sa749 ⟨by decide, by decide⟩
    obtain ⟨T750, h750, X750, e750, W750, st750⟩ := stB X746 hx hZ e746 Ara749 (j := (1 : Int32)) hin750 (g := (mkF mM 299 #[.val (.int p1), .val (.int p2), .val (.long q0), .second, .val (.ref b2), .val (.long (5478551163 : Int64)), .second, .val (.int z245), .val (.ref r), .val (.int (6 : Int32)), .val (.ref b736), .unset, .unset, .unset] [(.int ((q0.toUInt64 >>> ((8 : Int32) &&& 0x3f).toInt64.toUInt64).toInt64).toInt32.toInt8.toInt32), (.int (1 : Int32)), (.ref b736)])) rfl rfl (hb hby at_299)
    have V750 : Arv Z h750 b736 k736 .byte (6 : Int32) [(.int (nar .byte q0.toInt32.toInt8.toInt32)), (.int (nar .byte ((q0.toUInt64 >>> ((8 : Int32) &&& 0x3f).toInt64.toUInt64).toInt64).toInt32.toInt8.toInt32)), (.int (0 : Int32)), (.int (0 : Int32)), (.int (0 : Int32)), (.int (0 : Int32))] (.int (0 : Int32)) := Arv.set Ara749 qa749 Sa749 Ma749 Ha749 Ga749 (fits_nar_byte _) W750 1 rfl (Nat.le_of_ble_eq_true rfl)
    have N750 := Fr.snoc X750 N746 gn738
    have pr751 : ∀ tg, Steps pP.tables eE below (T750.setTop (mkF mM 300 #[.val (.int p1), .val (.int p2), .val (.long q0), .second, .val (.ref b2), .val (.long (5478551163 : Int64)), .second, .val (.int z245), .val (.ref r), .val (.int (6 : Int32)), .val (.ref b736), .unset, .unset, .unset] [])) tg → Steps pP.tables eE below (s₁.setTop (entryFrame mM #[(.int p1), (.int p2), (.long q0)] maxLocals)) tg := fun tg kg => pr748 _ (st750 _ kg)
    clear pr748 st750 X746 e746
    have pr752 : ∀ tg, Steps pP.tables eE below (T750.setTop (mkF mM 315 #[.val (.int p1), .val (.int p2), .val (.long q0), .second, .val (.ref b2), .val (.long (5478551163 : Int64)), .second, .val (.int z245), .val (.ref r), .val (.int (6 : Int32)), .val (.ref b736), .unset, .unset, .unset] [(.int ((q0.toUInt64 >>> ((16 : Int32) &&& 0x3f).toInt64.toUInt64).toInt64).toInt32.toInt8.toInt32), (.int (2 : Int32)), (.ref b736)])) tg → Steps pP.tables eE below (s₁.setTop (entryFrame mM #[(.int p1), (.int p2), (.long q0)] maxLocals)) tg := fun tg kg => pr751 _ (by
      show Steps pP.tables eE below (T750.setTop (mkF mM 300 #[.val (.int p1), .val (.int p2), .val (.long q0), .second, .val (.ref b2), .val (.long (5478551163 : Int64)), .second, .val (.int z245), .val (.ref r), .val (.int (6 : Int32)), .val (.ref b736), .unset, .unset, .unset] [])) _
      refine XS.iload X750.here hx rfl (hb hby at_300) rfl ?_
      refine XS.iconst X750.here hx rfl (hb hby at_302) ?_
      refine XS.icmpNo X750.here hx rfl (hb hby at_303) rfl (tlt (by decide)).2.2.2 ?_
      refine XS.aload X750.here hx rfl (hb hby at_306) rfl rfl ?_
      refine XS.iconst X750.here hx rfl (hb hby at_308) ?_
      refine XS.lloadN X750.here hx rfl (hb hby at_309) rfl ?_
      show Steps pP.tables eE below (T750.setTop (mkF mM 310 #[.val (.int p1), .val (.int p2), .val (.long q0), .second, .val (.ref b2), .val (.long (5478551163 : Int64)), .second, .val (.int z245), .val (.ref r), .val (.int (6 : Int32)), .val (.ref b736), .unset, .unset, .unset] [(.long q0), (.int (2 : Int32)), (.ref b736)])) _
      refine XS.bipush X750.here hx rfl (hb hby at_310) ?_
      refine XS.lushr X750.here hx rfl (hb hby at_312) rfl ?_
      refine XS.l2i X750.here hx rfl (hb hby at_313) rfl ?_
      refine XS.i2b X750.here hx rfl (hb hby at_314) rfl ?_
      exact kg)
    clear pr751
    obtain ⟨cla753, Ara753, qa753, Sa753, Ma753, Ha753, Ga753⟩ := id V750
    have hin754 : ¬ ((2 : Int32) < 0 ∨ cla753.slots.size ≤ ((2 : Int32)).toNatClampNeg) := inb_of Sa753 ⟨by decide, by decide⟩
    obtain ⟨T754, h754, X754, e754, W754, st754⟩ := stB X750 hx hZ e750 Ara753 (j := (2 : Int32)) hin754 (g := (mkF mM 315 #[.val (.int p1), .val (.int p2), .val (.long q0), .second, .val (.ref b2), .val (.long (5478551163 : Int64)), .second, .val (.int z245), .val (.ref r), .val (.int (6 : Int32)), .val (.ref b736), .unset, .unset, .unset] [(.int ((q0.toUInt64 >>> ((16 : Int32) &&& 0x3f).toInt64.toUInt64).toInt64).toInt32.toInt8.toInt32), (.int (2 : Int32)), (.ref b736)])) rfl rfl (hb hby at_315)
    have V754 : Arv Z h754 b736 k736 .byte (6 : Int32) [(.int (nar .byte q0.toInt32.toInt8.toInt32)), (.int (nar .byte ((q0.toUInt64 >>> ((8 : Int32) &&& 0x3f).toInt64.toUInt64).toInt64).toInt32.toInt8.toInt32)), (.int (nar .byte ((q0.toUInt64 >>> ((16 : Int32) &&& 0x3f).toInt64.toUInt64).toInt64).toInt32.toInt8.toInt32)), (.int (0 : Int32)), (.int (0 : Int32)), (.int (0 : Int32))] (.int (0 : Int32)) := Arv.set Ara753 qa753 Sa753 Ma753 Ha753 Ga753 (fits_nar_byte _) W754 2 rfl (Nat.le_of_ble_eq_true rfl)
    have N754 := Fr.snoc X754 N750 gn738
    have pr755 : ∀ tg, Steps pP.tables eE below (T754.setTop (mkF mM 316 #[.val (.int p1), .val (.int p2), .val (.long q0), .second, .val (.ref b2), .val (.long (5478551163 : Int64)), .second, .val (.int z245), .val (.ref r), .val (.int (6 : Int32)), .val (.ref b736), .unset, .unset, .unset] [])) tg → Steps pP.tables eE below (s₁.setTop (entryFrame mM #[(.int p1), (.int p2), (.long q0)] maxLocals)) tg := fun tg kg => pr752 _ (st754 _ kg)
    clear pr752 st754 X750 e750
    have pr756 : ∀ tg, Steps pP.tables eE below (T754.setTop (mkF mM 331 #[.val (.int p1), .val (.int p2), .val (.long q0), .second, .val (.ref b2), .val (.long (5478551163 : Int64)), .second, .val (.int z245), .val (.ref r), .val (.int (6 : Int32)), .val (.ref b736), .unset, .unset, .unset] [(.int ((q0.toUInt64 >>> ((24 : Int32) &&& 0x3f).toInt64.toUInt64).toInt64).toInt32.toInt8.toInt32), (.int (3 : Int32)), (.ref b736)])) tg → Steps pP.tables eE below (s₁.setTop (entryFrame mM #[(.int p1), (.int p2), (.long q0)] maxLocals)) tg := fun tg kg => pr755 _ (by
      show Steps pP.tables eE below (T754.setTop (mkF mM 316 #[.val (.int p1), .val (.int p2), .val (.long q0), .second, .val (.ref b2), .val (.long (5478551163 : Int64)), .second, .val (.int z245), .val (.ref r), .val (.int (6 : Int32)), .val (.ref b736), .unset, .unset, .unset] [])) _
      refine XS.iload X754.here hx rfl (hb hby at_316) rfl ?_
      refine XS.iconst X754.here hx rfl (hb hby at_318) ?_
      refine XS.icmpNo X754.here hx rfl (hb hby at_319) rfl (tlt (by decide)).2.2.2 ?_
      refine XS.aload X754.here hx rfl (hb hby at_322) rfl rfl ?_
      refine XS.iconst X754.here hx rfl (hb hby at_324) ?_
      refine XS.lloadN X754.here hx rfl (hb hby at_325) rfl ?_
      show Steps pP.tables eE below (T754.setTop (mkF mM 326 #[.val (.int p1), .val (.int p2), .val (.long q0), .second, .val (.ref b2), .val (.long (5478551163 : Int64)), .second, .val (.int z245), .val (.ref r), .val (.int (6 : Int32)), .val (.ref b736), .unset, .unset, .unset] [(.long q0), (.int (3 : Int32)), (.ref b736)])) _
      refine XS.bipush X754.here hx rfl (hb hby at_326) ?_
      refine XS.lushr X754.here hx rfl (hb hby at_328) rfl ?_
      refine XS.l2i X754.here hx rfl (hb hby at_329) rfl ?_
      refine XS.i2b X754.here hx rfl (hb hby at_330) rfl ?_
      exact kg)
    clear pr755
    obtain ⟨cla757, Ara757, qa757, Sa757, Ma757, Ha757, Ga757⟩ := id V754
    have hin758 : ¬ ((3 : Int32) < 0 ∨ cla757.slots.size ≤ ((3 : Int32)).toNatClampNeg) := inb_of Sa757 ⟨by decide, by decide⟩
    obtain ⟨T758, h758, X758, e758, W758, st758⟩ := stB X754 hx hZ e754 Ara757 (j := (3 : Int32)) hin758 (g := (mkF mM 331 #[.val (.int p1), .val (.int p2), .val (.long q0), .second, .val (.ref b2), .val (.long (5478551163 : Int64)), .second, .val (.int z245), .val (.ref r), .val (.int (6 : Int32)), .val (.ref b736), .unset, .unset, .unset] [(.int ((q0.toUInt64 >>> ((24 : Int32) &&& 0x3f).toInt64.toUInt64).toInt64).toInt32.toInt8.toInt32), (.int (3 : Int32)), (.ref b736)])) rfl rfl (hb hby at_331)
    have V758 : Arv Z h758 b736 k736 .byte (6 : Int32) [(.int (nar .byte q0.toInt32.toInt8.toInt32)), (.int (nar .byte ((q0.toUInt64 >>> ((8 : Int32) &&& 0x3f).toInt64.toUInt64).toInt64).toInt32.toInt8.toInt32)), (.int (nar .byte ((q0.toUInt64 >>> ((16 : Int32) &&& 0x3f).toInt64.toUInt64).toInt64).toInt32.toInt8.toInt32)), (.int (nar .byte ((q0.toUInt64 >>> ((24 : Int32) &&& 0x3f).toInt64.toUInt64).toInt64).toInt32.toInt8.toInt32)), (.int (0 : Int32)), (.int (0 : Int32))] (.int (0 : Int32)) := Arv.set Ara757 qa757 Sa757 Ma757 Ha757 Ga757 (fits_nar_byte _) W758 3 rfl (Nat.le_of_ble_eq_true rfl)
    have N758 := Fr.snoc X758 N754 gn738
    have pr759 : ∀ tg, Steps pP.tables eE below (T758.setTop (mkF mM 332 #[.val (.int p1), .val (.int p2), .val (.long q0), .second, .val (.ref b2), .val (.long (5478551163 : Int64)), .second, .val (.int z245), .val (.ref r), .val (.int (6 : Int32)), .val (.ref b736), .unset, .unset, .unset] [])) tg → Steps pP.tables eE below (s₁.setTop (entryFrame mM #[(.int p1), (.int p2), (.long q0)] maxLocals)) tg := fun tg kg => pr756 _ (st758 _ kg)
    clear pr756 st758 X754 e754
    have pr760 : ∀ tg, Steps pP.tables eE below (T758.setTop (mkF mM 347 #[.val (.int p1), .val (.int p2), .val (.long q0), .second, .val (.ref b2), .val (.long (5478551163 : Int64)), .second, .val (.int z245), .val (.ref r), .val (.int (6 : Int32)), .val (.ref b736), .unset, .unset, .unset] [(.int ((q0.toUInt64 >>> ((32 : Int32) &&& 0x3f).toInt64.toUInt64).toInt64).toInt32.toInt8.toInt32), (.int (4 : Int32)), (.ref b736)])) tg → Steps pP.tables eE below (s₁.setTop (entryFrame mM #[(.int p1), (.int p2), (.long q0)] maxLocals)) tg := fun tg kg => pr759 _ (by
      show Steps pP.tables eE below (T758.setTop (mkF mM 332 #[.val (.int p1), .val (.int p2), .val (.long q0), .second, .val (.ref b2), .val (.long (5478551163 : Int64)), .second, .val (.int z245), .val (.ref r), .val (.int (6 : Int32)), .val (.ref b736), .unset, .unset, .unset] [])) _
      refine XS.iload X758.here hx rfl (hb hby at_332) rfl ?_
      refine XS.iconst X758.here hx rfl (hb hby at_334) ?_
      refine XS.icmpNo X758.here hx rfl (hb hby at_335) rfl (tlt (by decide)).2.2.2 ?_
      refine XS.aload X758.here hx rfl (hb hby at_338) rfl rfl ?_
      refine XS.iconst X758.here hx rfl (hb hby at_340) ?_
      refine XS.lloadN X758.here hx rfl (hb hby at_341) rfl ?_
      show Steps pP.tables eE below (T758.setTop (mkF mM 342 #[.val (.int p1), .val (.int p2), .val (.long q0), .second, .val (.ref b2), .val (.long (5478551163 : Int64)), .second, .val (.int z245), .val (.ref r), .val (.int (6 : Int32)), .val (.ref b736), .unset, .unset, .unset] [(.long q0), (.int (4 : Int32)), (.ref b736)])) _
      refine XS.bipush X758.here hx rfl (hb hby at_342) ?_
      refine XS.lushr X758.here hx rfl (hb hby at_344) rfl ?_
      refine XS.l2i X758.here hx rfl (hb hby at_345) rfl ?_
      refine XS.i2b X758.here hx rfl (hb hby at_346) rfl ?_
      exact kg)
    clear pr759
    obtain ⟨cla761, Ara761, qa761, Sa761, Ma761, Ha761, Ga761⟩ := id V758
    have hin762 : ¬ ((4 : Int32) < 0 ∨ cla761.slots.size ≤ ((4 : Int32)).toNatClampNeg) := inb_of Sa761 ⟨by decide, by decide⟩
    obtain ⟨T762, h762, X762, e762, W762, st762⟩ := stB X758 hx hZ e758 Ara761 (j := (4 : Int32)) hin762 (g := (mkF mM 347 #[.val (.int p1), .val (.int p2), .val (.long q0), .second, .val (.ref b2), .val (.long (5478551163 : Int64)), .second, .val (.int z245), .val (.ref r), .val (.int (6 : Int32)), .val (.ref b736), .unset, .unset, .unset] [(.int ((q0.toUInt64 >>> ((32 : Int32) &&& 0x3f).toInt64.toUInt64).toInt64).toInt32.toInt8.toInt32), (.int (4 : Int32)), (.ref b736)])) rfl rfl (hb hby at_347)
    have V762 : Arv Z h762 b736 k736 .byte (6 : Int32) [(.int (nar .byte q0.toInt32.toInt8.toInt32)), (.int (nar .byte ((q0.toUInt64 >>> ((8 : Int32) &&& 0x3f).toInt64.toUInt64).toInt64).toInt32.toInt8.toInt32)), (.int (nar .byte ((q0.toUInt64 >>> ((16 : Int32) &&& 0x3f).toInt64.toUInt64).toInt64).toInt32.toInt8.toInt32)), (.int (nar .byte ((q0.toUInt64 >>> ((24 : Int32) &&& 0x3f).toInt64.toUInt64).toInt64).toInt32.toInt8.toInt32)), (.int (nar .byte ((q0.toUInt64 >>> ((32 : Int32) &&& 0x3f).toInt64.toUInt64).toInt64).toInt32.toInt8.toInt32)), (.int (0 : Int32))] (.int (0 : Int32)) := Arv.set Ara761 qa761 Sa761 Ma761 Ha761 Ga761 (fits_nar_byte _) W762 4 rfl (Nat.le_of_ble_eq_true rfl)
    have N762 := Fr.snoc X762 N758 gn738
    have pr763 : ∀ tg, Steps pP.tables eE below (T762.setTop (mkF mM 348 #[.val (.int p1), .val (.int p2), .val (.long q0), .second, .val (.ref b2), .val (.long (5478551163 : Int64)), .second, .val (.int z245), .val (.ref r), .val (.int (6 : Int32)), .val (.ref b736), .unset, .unset, .unset] [])) tg → Steps pP.tables eE below (s₁.setTop (entryFrame mM #[(.int p1), (.int p2), (.long q0)] maxLocals)) tg := fun tg kg => pr760 _ (st762 _ kg)
    clear pr760 st762 X758 e758
    have pr764 : ∀ tg, Steps pP.tables eE below (T762.setTop (mkF mM 363 #[.val (.int p1), .val (.int p2), .val (.long q0), .second, .val (.ref b2), .val (.long (5478551163 : Int64)), .second, .val (.int z245), .val (.ref r), .val (.int (6 : Int32)), .val (.ref b736), .unset, .unset, .unset] [(.int ((q0.toUInt64 >>> ((40 : Int32) &&& 0x3f).toInt64.toUInt64).toInt64).toInt32.toInt8.toInt32), (.int (5 : Int32)), (.ref b736)])) tg → Steps pP.tables eE below (s₁.setTop (entryFrame mM #[(.int p1), (.int p2), (.long q0)] maxLocals)) tg := fun tg kg => pr763 _ (by
      show Steps pP.tables eE below (T762.setTop (mkF mM 348 #[.val (.int p1), .val (.int p2), .val (.long q0), .second, .val (.ref b2), .val (.long (5478551163 : Int64)), .second, .val (.int z245), .val (.ref r), .val (.int (6 : Int32)), .val (.ref b736), .unset, .unset, .unset] [])) _
      refine XS.iload X762.here hx rfl (hb hby at_348) rfl ?_
      refine XS.iconst X762.here hx rfl (hb hby at_350) ?_
      refine XS.icmpNo X762.here hx rfl (hb hby at_351) rfl (tlt (by decide)).2.2.2 ?_
      refine XS.aload X762.here hx rfl (hb hby at_354) rfl rfl ?_
      refine XS.iconst X762.here hx rfl (hb hby at_356) ?_
      refine XS.lloadN X762.here hx rfl (hb hby at_357) rfl ?_
      show Steps pP.tables eE below (T762.setTop (mkF mM 358 #[.val (.int p1), .val (.int p2), .val (.long q0), .second, .val (.ref b2), .val (.long (5478551163 : Int64)), .second, .val (.int z245), .val (.ref r), .val (.int (6 : Int32)), .val (.ref b736), .unset, .unset, .unset] [(.long q0), (.int (5 : Int32)), (.ref b736)])) _
      refine XS.bipush X762.here hx rfl (hb hby at_358) ?_
      refine XS.lushr X762.here hx rfl (hb hby at_360) rfl ?_
      refine XS.l2i X762.here hx rfl (hb hby at_361) rfl ?_
      refine XS.i2b X762.here hx rfl (hb hby at_362) rfl ?_
      exact kg)
    clear pr763
    obtain ⟨cla765, Ara765, qa765, Sa765, Ma765, Ha765, Ga765⟩ := id V762
    have hin766 : ¬ ((5 : Int32) < 0 ∨ cla765.slots.size ≤ ((5 : Int32)).toNatClampNeg) := inb_of Sa765 ⟨by decide, by decide⟩
    obtain ⟨T766, h766, X766, e766, W766, st766⟩ := stB X762 hx hZ e762 Ara765 (j := (5 : Int32)) hin766 (g := (mkF mM 363 #[.val (.int p1), .val (.int p2), .val (.long q0), .second, .val (.ref b2), .val (.long (5478551163 : Int64)), .second, .val (.int z245), .val (.ref r), .val (.int (6 : Int32)), .val (.ref b736), .unset, .unset, .unset] [(.int ((q0.toUInt64 >>> ((40 : Int32) &&& 0x3f).toInt64.toUInt64).toInt64).toInt32.toInt8.toInt32), (.int (5 : Int32)), (.ref b736)])) rfl rfl (hb hby at_363)
    have V766 : Arv Z h766 b736 k736 .byte (6 : Int32) [(.int (nar .byte q0.toInt32.toInt8.toInt32)), (.int (nar .byte ((q0.toUInt64 >>> ((8 : Int32) &&& 0x3f).toInt64.toUInt64).toInt64).toInt32.toInt8.toInt32)), (.int (nar .byte ((q0.toUInt64 >>> ((16 : Int32) &&& 0x3f).toInt64.toUInt64).toInt64).toInt32.toInt8.toInt32)), (.int (nar .byte ((q0.toUInt64 >>> ((24 : Int32) &&& 0x3f).toInt64.toUInt64).toInt64).toInt32.toInt8.toInt32)), (.int (nar .byte ((q0.toUInt64 >>> ((32 : Int32) &&& 0x3f).toInt64.toUInt64).toInt64).toInt32.toInt8.toInt32)), (.int (nar .byte ((q0.toUInt64 >>> ((40 : Int32) &&& 0x3f).toInt64.toUInt64).toInt64).toInt32.toInt8.toInt32))] (.int (0 : Int32)) := Arv.set Ara765 qa765 Sa765 Ma765 Ha765 Ga765 (fits_nar_byte _) W766 5 rfl (Nat.le_of_ble_eq_true rfl)
    have N766 := Fr.snoc X766 N762 gn738
    have pr767 : ∀ tg, Steps pP.tables eE below (T766.setTop (mkF mM 364 #[.val (.int p1), .val (.int p2), .val (.long q0), .second, .val (.ref b2), .val (.long (5478551163 : Int64)), .second, .val (.int z245), .val (.ref r), .val (.int (6 : Int32)), .val (.ref b736), .unset, .unset, .unset] [])) tg → Steps pP.tables eE below (s₁.setTop (entryFrame mM #[(.int p1), (.int p2), (.long q0)] maxLocals)) tg := fun tg kg => pr764 _ (st766 _ kg)
    clear pr764 st766 X762 e762
    have pr768 : ∀ tg, Steps pP.tables eE below (T766.setTop (mkF mM 386 #[.val (.int p1), .val (.int p2), .val (.long q0), .second, .val (.ref b2), .val (.long (5478551163 : Int64)), .second, .val (.int z245), .val (.ref r), .val (.int (6 : Int32)), .val (.ref b736), .unset, .unset, .unset] [(.ref b736), (.ref r)])) tg → Steps pP.tables eE below (s₁.setTop (entryFrame mM #[(.int p1), (.int p2), (.long q0)] maxLocals)) tg := fun tg kg => pr767 _ (by
      show Steps pP.tables eE below (T766.setTop (mkF mM 364 #[.val (.int p1), .val (.int p2), .val (.long q0), .second, .val (.ref b2), .val (.long (5478551163 : Int64)), .second, .val (.int z245), .val (.ref r), .val (.int (6 : Int32)), .val (.ref b736), .unset, .unset, .unset] [])) _
      refine XS.iload X766.here hx rfl (hb hby at_364) rfl ?_
      refine XS.bipush X766.here hx rfl (hb hby at_366) ?_
      refine XS.icmpYes X766.here hx rfl (pc0 := 368) (pc' := 382) rfl (hb hby at_368) rfl (flt (by decide)).2.2.2 (by decide) (by decide) ?_
      refine XS.aload X766.here hx rfl (hb hby at_382) rfl rfl ?_
      refine XS.aload X766.here hx rfl (hb hby at_384) rfl rfl ?_
      exact kg)
    clear pr767
    have c769 := (Nat.le_trans (Nat.le_trans (Nat.le_trans (Nat.le_trans (Nat.le_trans (Nat.le_trans (Nat.le_trans c739 E736.1) (Keep.of_wr W746).1) (Keep.of_wr W750).1) (Keep.of_wr W754).1) (Keep.of_wr W758).1) (Keep.of_wr W762).1) (Keep.of_wr W766).1)
    obtain ⟨Ls770, X770, N770⟩ := own_hide X766 N766
    clear X766 N766
    have c772 := (Old.wr (Old.wr (Old.wr (Old.wr (Old.wr (Old.wr (Old.ext c742 E736) W746 gn738) W750 gn738) W754 gn738) W758 gn738) W762 gn738) W766 gn738)
    obtain ⟨cq771, kq771, qa771, qb771, qc771⟩ := isOf hZ e766 (Exa.ext (c772).2 hx2)
    obtain ⟨_, _, ⟨T771, L771, kk771, nn771⟩, -, X771, ⟨Lc771, hQ771, l771, y771, z771⟩, st771⟩ := X770.virtualBack hx (y := (⟨"com/example/tesserae/tesserae/value/Vr", "pad", "([B)[B"⟩ : MethodName)) (z := (⟨"com/example/tesserae/tesserae/value/Vr", "pad", "([B)[B"⟩ : MethodName)) hown (mvT hZ (hw _ (List.mem_of_getElem? (i := 75) rfl))) (mvT hZ (hw _ (List.mem_of_getElem? (i := 76) rfl))) (notFace_of_selects (args := #[]) (mvT hZ (hw _ (List.mem_of_getElem? (i := 78) rfl)))) (mvT hZ (hw _ (List.mem_of_getElem? (i := 78) rfl))) (mvT hZ (hw _ (List.mem_of_getElem? (i := 77) rfl))) (by decide) (backOf (W := 0) (rm36 l Z a0 hw [] r b736 k736 (nar .byte q0.toInt32.toInt8.toInt32) (nar .byte ((q0.toUInt64 >>> ((8 : Int32) &&& 0x3f).toInt64.toUInt64).toInt64).toInt32.toInt8.toInt32) (nar .byte ((q0.toUInt64 >>> ((16 : Int32) &&& 0x3f).toInt64.toUInt64).toInt64).toInt32.toInt8.toInt32) (nar .byte ((q0.toUInt64 >>> ((24 : Int32) &&& 0x3f).toInt64.toUInt64).toInt64).toInt32.toInt8.toInt32) (nar .byte ((q0.toUInt64 >>> ((32 : Int32) &&& 0x3f).toInt64.toUInt64).toInt64).toInt32.toInt8.toInt32) (nar .byte ((q0.toUInt64 >>> ((40 : Int32) &&& 0x3f).toInt64.toUInt64).toInt64).toInt32.toInt8.toInt32) h766 n0 c769 V766) hZ (hw _ (List.mem_of_getElem? (i := 79) rfl)) (hw _ (List.mem_of_getElem? (i := 3) rfl)) (by decide) (by decide)) qa771 qc771 (g := (mkF mM 386 #[.val (.int p1), .val (.int p2), .val (.long q0), .second, .val (.ref b2), .val (.long (5478551163 : Int64)), .second, .val (.int z245), .val (.ref r), .val (.int (6 : Int32)), .val (.ref b736), .unset, .unset, .unset] [(.ref b736), (.ref r)])) rfl (by rw [hml]; rfl) (Steps.refl _) (argsL := [(.ref b736)]) (rest := []) (lenOf pd_2 rfl) rfl (by show 2 * 0 + _ ≤ _; exact Nat.le_of_eq rfl) (hb hby at_386) (fun _ _ => ⟨rfl, e766, (by decide : 2 + 0 ≤ _), (by decide : 40 + 0 ≤ _)⟩)
    dsimp only [Pt.U, Pt.locs, Pt.cells, Pt.slots] at X771 l771 y771 z771 st771 hQ771
    subst l771 y771 z771
    obtain ⟨rfl, Nq771, e771⟩ := hQ771
    have N771 := Fr.app N770 Nq771
    have pr773 : ∀ tg, Steps pP.tables eE below (T771.setTop (mkF mM 389 #[.val (.int p1), .val (.int p2), .val (.long q0), .second, .val (.ref b2), .val (.long (5478551163 : Int64)), .second, .val (.int z245), .val (.ref r), .val (.int (6 : Int32)), .val (.ref b736), .unset, .unset, .unset] [(.ref b736)])) tg → Steps pP.tables eE below (s₁.setTop (entryFrame mM #[(.int p1), (.int p2), (.long q0)] maxLocals)) tg := fun tg kg => pr768 _ (st771.trans kg)
    clear pr768 st771 X770 e766
    obtain ⟨cla774, Ara774, qa774, Sa774, Ma774, Ha774, Ga774⟩ := id V766
    have hin775 : ¬ ((0 : Int32) < 0 ∨ cla774.slots.size ≤ ((0 : Int32)).toNatClampNeg) := inb_of Sa774 ⟨by decide, by decide⟩
    have hat775 : cla774.slots[((0 : Int32)).toNatClampNeg]? = some (.int (nar .byte q0.toInt32.toInt8.toInt32)) := Has.at Ha774 hin775 rfl
    have pr776 : ∀ tg, Steps pP.tables eE below (T771.setTop (mkF mM 405 #[.val (.int p1), .val (.int p2), .val (.long q0), .second, .val (.ref b2), .val (.long (5478551163 : Int64)), .second, .val (.int z245), .val (.ref r), .val (.int (6 : Int32)), .val (.ref b736), .val (.ref b736), .unset, .unset] [(.int (6 : Int32)), (.int (0 : Int32)), (.long q0), (.ref b736)])) tg → Steps pP.tables eE below (s₁.setTop (entryFrame mM #[(.int p1), (.int p2), (.long q0)] maxLocals)) tg := fun tg kg => pr773 _ (by
      show Steps pP.tables eE below (T771.setTop (mkF mM 389 #[.val (.int p1), .val (.int p2), .val (.long q0), .second, .val (.ref b2), .val (.long (5478551163 : Int64)), .second, .val (.int z245), .val (.ref r), .val (.int (6 : Int32)), .val (.ref b736), .unset, .unset, .unset] [(.ref b736)])) _
      refine XS.astore X771.here hx rfl (hb hby at_389) rfl rfl (l' := #[.val (.int p1), .val (.int p2), .val (.long q0), .second, .val (.ref b2), .val (.long (5478551163 : Int64)), .second, .val (.int z245), .val (.ref r), .val (.int (6 : Int32)), .val (.ref b736), .val (.ref b736), .unset, .unset]) rfl ?_
      refine XS.aload X771.here hx rfl (hb hby at_391) rfl rfl ?_
      show Steps pP.tables eE below (T771.setTop (mkF mM 393 #[.val (.int p1), .val (.int p2), .val (.long q0), .second, .val (.ref b2), .val (.long (5478551163 : Int64)), .second, .val (.int z245), .val (.ref r), .val (.int (6 : Int32)), .val (.ref b736), .val (.ref b736), .unset, .unset] [(.ref b736)])) _
      refine X771.arraylength hx (by rw [e771]; exact Ara774.1) (State.isArrayOf_alike hZ.alike Ara774.2.1) (g := (mkF mM 393 #[.val (.int p1), .val (.int p2), .val (.long q0), .second, .val (.ref b2), .val (.long (5478551163 : Int64)), .second, .val (.int z245), .val (.ref r), .val (.int (6 : Int32)), .val (.ref b736), .val (.ref b736), .unset, .unset] [(.ref b736)])) rfl rfl (hb hby at_393) _ ?_
      rw [len_of Sa774 Ma774]
      show Steps pP.tables eE below (T771.setTop (mkF mM 394 #[.val (.int p1), .val (.int p2), .val (.long q0), .second, .val (.ref b2), .val (.long (5478551163 : Int64)), .second, .val (.int z245), .val (.ref r), .val (.int (6 : Int32)), .val (.ref b736), .val (.ref b736), .unset, .unset] [(.int (6 : Int32))])) _
      refine XS.iload X771.here hx rfl (hb hby at_394) rfl ?_
      refine XS.icmpNo X771.here hx rfl (hb hby at_396) rfl (teq (by decide)).2 ?_
      refine XS.aload X771.here hx rfl (hb hby at_399) rfl rfl ?_
      refine XS.lloadN X771.here hx rfl (hb hby at_401) rfl ?_
      refine XS.iconst X771.here hx rfl (hb hby at_402) ?_
      refine XS.iload X771.here hx rfl (hb hby at_403) rfl ?_
      exact kg)
    clear pr773
    obtain ⟨Ls777, X777, N777⟩ := own_hide X771 N771
    clear X771 N771
    obtain ⟨_, _, ⟨T778, L778, kk778, nn778⟩, -, X778, ⟨Lc778, hQ778, l778, y778, z778⟩, st778⟩ := Jvm.LawKit.callS X777 hx (y := (⟨"com/example/tesserae/tesserae/value/VrPadPinLaw", "sameAt", "([BJII)Z"⟩ : MethodName)) hown (mvT hZ (hw _ (List.mem_of_getElem? (i := 95) rfl))) (mvT hZ (hw _ (List.mem_of_getElem? (i := 96) rfl))) (mvT hZ (hw _ (List.mem_of_getElem? (i := 97) rfl))) (mvT hZ (hw _ (List.mem_of_getElem? (i := 98) rfl))) (by decide) (backOf (W := 0) (rm5 l Z a0 hw [] b736 q0 (0 : Int32) (6 : Int32) cla774 (nar .byte q0.toInt32.toInt8.toInt32) h766 n0 c769 (by decide) Ara774 hin775 hat775 (own_w0 q0)) hZ (hw _ (List.mem_of_getElem? (i := 98) rfl)) (hw _ (List.mem_of_getElem? (i := 97) rfl)) (by decide) (by decide)) (g := (mkF mM 405 #[.val (.int p1), .val (.int p2), .val (.long q0), .second, .val (.ref b2), .val (.long (5478551163 : Int64)), .second, .val (.int z245), .val (.ref r), .val (.int (6 : Int32)), .val (.ref b736), .val (.ref b736), .unset, .unset] [(.int (6 : Int32)), (.int (0 : Int32)), (.long q0), (.ref b736)])) rfl (by rw [hml]; rfl) (argsL := [(.ref b736), (.long q0), (.int (0 : Int32)), (.int (6 : Int32))]) (rest := []) (lenOf pd_3 rfl) rfl (by show 2 * 0 + _ ≤ _; exact Nat.le_of_eq rfl) (hb hby at_405) (fun _ _ => ⟨rfl, e771, (by decide : 2 + 0 ≤ _), (by decide : 40 + 0 ≤ _)⟩)
    dsimp only [Pt.U, Pt.locs, Pt.cells, Pt.slots] at X778 l778 y778 z778 st778 hQ778
    subst l778 y778 z778
    obtain ⟨rfl, Nq778, e778⟩ := hQ778
    have N778 := Fr.app N777 Nq778
    have pr779 : ∀ tg, Steps pP.tables eE below (T778.setTop (mkF mM 408 #[.val (.int p1), .val (.int p2), .val (.long q0), .second, .val (.ref b2), .val (.long (5478551163 : Int64)), .second, .val (.int z245), .val (.ref r), .val (.int (6 : Int32)), .val (.ref b736), .val (.ref b736), .unset, .unset] [(.int (1 : Int32))])) tg → Steps pP.tables eE below (s₁.setTop (entryFrame mM #[(.int p1), (.int p2), (.long q0)] maxLocals)) tg := fun tg kg => pr776 _ (st778 _ kg)
    clear pr776 st778 X777 e771
    have hin780 : ¬ ((1 : Int32) < 0 ∨ cla774.slots.size ≤ ((1 : Int32)).toNatClampNeg) := inb_of Sa774 ⟨by decide, by decide⟩
    have hat780 : cla774.slots[((1 : Int32)).toNatClampNeg]? = some (.int (nar .byte ((q0.toUInt64 >>> ((8 : Int32) &&& 0x3f).toInt64.toUInt64).toInt64).toInt32.toInt8.toInt32)) := Has.at Ha774 hin780 rfl
    have pr781 : ∀ tg, Steps pP.tables eE below (T778.setTop (mkF mM 417 #[.val (.int p1), .val (.int p2), .val (.long q0), .second, .val (.ref b2), .val (.long (5478551163 : Int64)), .second, .val (.int z245), .val (.ref r), .val (.int (6 : Int32)), .val (.ref b736), .val (.ref b736), .unset, .unset] [(.int (6 : Int32)), (.int (1 : Int32)), (.long q0), (.ref b736)])) tg → Steps pP.tables eE below (s₁.setTop (entryFrame mM #[(.int p1), (.int p2), (.long q0)] maxLocals)) tg := fun tg kg => pr779 _ (by
      show Steps pP.tables eE below (T778.setTop (mkF mM 408 #[.val (.int p1), .val (.int p2), .val (.long q0), .second, .val (.ref b2), .val (.long (5478551163 : Int64)), .second, .val (.int z245), .val (.ref r), .val (.int (6 : Int32)), .val (.ref b736), .val (.ref b736), .unset, .unset] [(.int (1 : Int32))])) _
      refine XS.ifNo X778.here hx rfl (hb hby at_408) rfl ((if0 _ _).trans (feq (by decide)).1) ?_
      refine XS.aload X778.here hx rfl (hb hby at_411) rfl rfl ?_
      refine XS.lloadN X778.here hx rfl (hb hby at_413) rfl ?_
      refine XS.iconst X778.here hx rfl (hb hby at_414) ?_
      refine XS.iload X778.here hx rfl (hb hby at_415) rfl ?_
      exact kg)
    clear pr779
    obtain ⟨Ls782, X782, N782⟩ := own_hide X778 N778
    clear X778 N778
    obtain ⟨_, _, ⟨T783, L783, kk783, nn783⟩, -, X783, ⟨Lc783, hQ783, l783, y783, z783⟩, st783⟩ := Jvm.LawKit.callS X782 hx (y := (⟨"com/example/tesserae/tesserae/value/VrPadPinLaw", "sameAt", "([BJII)Z"⟩ : MethodName)) hown (mvT hZ (hw _ (List.mem_of_getElem? (i := 95) rfl))) (mvT hZ (hw _ (List.mem_of_getElem? (i := 96) rfl))) (mvT hZ (hw _ (List.mem_of_getElem? (i := 97) rfl))) (mvT hZ (hw _ (List.mem_of_getElem? (i := 98) rfl))) (by decide) (backOf (W := 0) (rm5 l Z a0 hw [] b736 q0 (1 : Int32) (6 : Int32) cla774 (nar .byte ((q0.toUInt64 >>> ((8 : Int32) &&& 0x3f).toInt64.toUInt64).toInt64).toInt32.toInt8.toInt32) h766 n0 c769 (by decide) Ara774 hin780 hat780 (own_w1 q0)) hZ (hw _ (List.mem_of_getElem? (i := 98) rfl)) (hw _ (List.mem_of_getElem? (i := 97) rfl)) (by decide) (by decide)) (g := (mkF mM 417 #[.val (.int p1), .val (.int p2), .val (.long q0), .second, .val (.ref b2), .val (.long (5478551163 : Int64)), .second, .val (.int z245), .val (.ref r), .val (.int (6 : Int32)), .val (.ref b736), .val (.ref b736), .unset, .unset] [(.int (6 : Int32)), (.int (1 : Int32)), (.long q0), (.ref b736)])) rfl (by rw [hml]; rfl) (argsL := [(.ref b736), (.long q0), (.int (1 : Int32)), (.int (6 : Int32))]) (rest := []) (lenOf pd_3 rfl) rfl (by show 2 * 0 + _ ≤ _; exact Nat.le_of_eq rfl) (hb hby at_417) (fun _ _ => ⟨rfl, e778, (by decide : 2 + 0 ≤ _), (by decide : 40 + 0 ≤ _)⟩)
    dsimp only [Pt.U, Pt.locs, Pt.cells, Pt.slots] at X783 l783 y783 z783 st783 hQ783
    subst l783 y783 z783
    obtain ⟨rfl, Nq783, e783⟩ := hQ783
    have N783 := Fr.app N782 Nq783
    have pr784 : ∀ tg, Steps pP.tables eE below (T783.setTop (mkF mM 420 #[.val (.int p1), .val (.int p2), .val (.long q0), .second, .val (.ref b2), .val (.long (5478551163 : Int64)), .second, .val (.int z245), .val (.ref r), .val (.int (6 : Int32)), .val (.ref b736), .val (.ref b736), .unset, .unset] [(.int (1 : Int32))])) tg → Steps pP.tables eE below (s₁.setTop (entryFrame mM #[(.int p1), (.int p2), (.long q0)] maxLocals)) tg := fun tg kg => pr781 _ (st783 _ kg)
    clear pr781 st783 X782 e778
    have hin785 : ¬ ((2 : Int32) < 0 ∨ cla774.slots.size ≤ ((2 : Int32)).toNatClampNeg) := inb_of Sa774 ⟨by decide, by decide⟩
    have hat785 : cla774.slots[((2 : Int32)).toNatClampNeg]? = some (.int (nar .byte ((q0.toUInt64 >>> ((16 : Int32) &&& 0x3f).toInt64.toUInt64).toInt64).toInt32.toInt8.toInt32)) := Has.at Ha774 hin785 rfl
    have pr786 : ∀ tg, Steps pP.tables eE below (T783.setTop (mkF mM 429 #[.val (.int p1), .val (.int p2), .val (.long q0), .second, .val (.ref b2), .val (.long (5478551163 : Int64)), .second, .val (.int z245), .val (.ref r), .val (.int (6 : Int32)), .val (.ref b736), .val (.ref b736), .unset, .unset] [(.int (6 : Int32)), (.int (2 : Int32)), (.long q0), (.ref b736)])) tg → Steps pP.tables eE below (s₁.setTop (entryFrame mM #[(.int p1), (.int p2), (.long q0)] maxLocals)) tg := fun tg kg => pr784 _ (by
      show Steps pP.tables eE below (T783.setTop (mkF mM 420 #[.val (.int p1), .val (.int p2), .val (.long q0), .second, .val (.ref b2), .val (.long (5478551163 : Int64)), .second, .val (.int z245), .val (.ref r), .val (.int (6 : Int32)), .val (.ref b736), .val (.ref b736), .unset, .unset] [(.int (1 : Int32))])) _
      refine XS.ifNo X783.here hx rfl (hb hby at_420) rfl ((if0 _ _).trans (feq (by decide)).1) ?_
      refine XS.aload X783.here hx rfl (hb hby at_423) rfl rfl ?_
      refine XS.lloadN X783.here hx rfl (hb hby at_425) rfl ?_
      refine XS.iconst X783.here hx rfl (hb hby at_426) ?_
      refine XS.iload X783.here hx rfl (hb hby at_427) rfl ?_
      exact kg)
    clear pr784
    obtain ⟨Ls787, X787, N787⟩ := own_hide X783 N783
    clear X783 N783
    obtain ⟨_, _, ⟨T788, L788, kk788, nn788⟩, -, X788, ⟨Lc788, hQ788, l788, y788, z788⟩, st788⟩ := Jvm.LawKit.callS X787 hx (y := (⟨"com/example/tesserae/tesserae/value/VrPadPinLaw", "sameAt", "([BJII)Z"⟩ : MethodName)) hown (mvT hZ (hw _ (List.mem_of_getElem? (i := 95) rfl))) (mvT hZ (hw _ (List.mem_of_getElem? (i := 96) rfl))) (mvT hZ (hw _ (List.mem_of_getElem? (i := 97) rfl))) (mvT hZ (hw _ (List.mem_of_getElem? (i := 98) rfl))) (by decide) (backOf (W := 0) (rm5 l Z a0 hw [] b736 q0 (2 : Int32) (6 : Int32) cla774 (nar .byte ((q0.toUInt64 >>> ((16 : Int32) &&& 0x3f).toInt64.toUInt64).toInt64).toInt32.toInt8.toInt32) h766 n0 c769 (by decide) Ara774 hin785 hat785 (own_w2 q0)) hZ (hw _ (List.mem_of_getElem? (i := 98) rfl)) (hw _ (List.mem_of_getElem? (i := 97) rfl)) (by decide) (by decide)) (g := (mkF mM 429 #[.val (.int p1), .val (.int p2), .val (.long q0), .second, .val (.ref b2), .val (.long (5478551163 : Int64)), .second, .val (.int z245), .val (.ref r), .val (.int (6 : Int32)), .val (.ref b736), .val (.ref b736), .unset, .unset] [(.int (6 : Int32)), (.int (2 : Int32)), (.long q0), (.ref b736)])) rfl (by rw [hml]; rfl) (argsL := [(.ref b736), (.long q0), (.int (2 : Int32)), (.int (6 : Int32))]) (rest := []) (lenOf pd_3 rfl) rfl (by show 2 * 0 + _ ≤ _; exact Nat.le_of_eq rfl) (hb hby at_429) (fun _ _ => ⟨rfl, e783, (by decide : 2 + 0 ≤ _), (by decide : 40 + 0 ≤ _)⟩)
    dsimp only [Pt.U, Pt.locs, Pt.cells, Pt.slots] at X788 l788 y788 z788 st788 hQ788
    subst l788 y788 z788
    obtain ⟨rfl, Nq788, e788⟩ := hQ788
    have N788 := Fr.app N787 Nq788
    have pr789 : ∀ tg, Steps pP.tables eE below (T788.setTop (mkF mM 432 #[.val (.int p1), .val (.int p2), .val (.long q0), .second, .val (.ref b2), .val (.long (5478551163 : Int64)), .second, .val (.int z245), .val (.ref r), .val (.int (6 : Int32)), .val (.ref b736), .val (.ref b736), .unset, .unset] [(.int (1 : Int32))])) tg → Steps pP.tables eE below (s₁.setTop (entryFrame mM #[(.int p1), (.int p2), (.long q0)] maxLocals)) tg := fun tg kg => pr786 _ (st788 _ kg)
    clear pr786 st788 X787 e783
    have hin790 : ¬ ((3 : Int32) < 0 ∨ cla774.slots.size ≤ ((3 : Int32)).toNatClampNeg) := inb_of Sa774 ⟨by decide, by decide⟩
    have hat790 : cla774.slots[((3 : Int32)).toNatClampNeg]? = some (.int (nar .byte ((q0.toUInt64 >>> ((24 : Int32) &&& 0x3f).toInt64.toUInt64).toInt64).toInt32.toInt8.toInt32)) := Has.at Ha774 hin790 rfl
    have pr791 : ∀ tg, Steps pP.tables eE below (T788.setTop (mkF mM 441 #[.val (.int p1), .val (.int p2), .val (.long q0), .second, .val (.ref b2), .val (.long (5478551163 : Int64)), .second, .val (.int z245), .val (.ref r), .val (.int (6 : Int32)), .val (.ref b736), .val (.ref b736), .unset, .unset] [(.int (6 : Int32)), (.int (3 : Int32)), (.long q0), (.ref b736)])) tg → Steps pP.tables eE below (s₁.setTop (entryFrame mM #[(.int p1), (.int p2), (.long q0)] maxLocals)) tg := fun tg kg => pr789 _ (by
      show Steps pP.tables eE below (T788.setTop (mkF mM 432 #[.val (.int p1), .val (.int p2), .val (.long q0), .second, .val (.ref b2), .val (.long (5478551163 : Int64)), .second, .val (.int z245), .val (.ref r), .val (.int (6 : Int32)), .val (.ref b736), .val (.ref b736), .unset, .unset] [(.int (1 : Int32))])) _
      refine XS.ifNo X788.here hx rfl (hb hby at_432) rfl ((if0 _ _).trans (feq (by decide)).1) ?_
      refine XS.aload X788.here hx rfl (hb hby at_435) rfl rfl ?_
      refine XS.lloadN X788.here hx rfl (hb hby at_437) rfl ?_
      refine XS.iconst X788.here hx rfl (hb hby at_438) ?_
      refine XS.iload X788.here hx rfl (hb hby at_439) rfl ?_
      exact kg)
    clear pr789
    obtain ⟨Ls792, X792, N792⟩ := own_hide X788 N788
    clear X788 N788
    obtain ⟨_, _, ⟨T793, L793, kk793, nn793⟩, -, X793, ⟨Lc793, hQ793, l793, y793, z793⟩, st793⟩ := Jvm.LawKit.callS X792 hx (y := (⟨"com/example/tesserae/tesserae/value/VrPadPinLaw", "sameAt", "([BJII)Z"⟩ : MethodName)) hown (mvT hZ (hw _ (List.mem_of_getElem? (i := 95) rfl))) (mvT hZ (hw _ (List.mem_of_getElem? (i := 96) rfl))) (mvT hZ (hw _ (List.mem_of_getElem? (i := 97) rfl))) (mvT hZ (hw _ (List.mem_of_getElem? (i := 98) rfl))) (by decide) (backOf (W := 0) (rm5 l Z a0 hw [] b736 q0 (3 : Int32) (6 : Int32) cla774 (nar .byte ((q0.toUInt64 >>> ((24 : Int32) &&& 0x3f).toInt64.toUInt64).toInt64).toInt32.toInt8.toInt32) h766 n0 c769 (by decide) Ara774 hin790 hat790 (own_w3 q0)) hZ (hw _ (List.mem_of_getElem? (i := 98) rfl)) (hw _ (List.mem_of_getElem? (i := 97) rfl)) (by decide) (by decide)) (g := (mkF mM 441 #[.val (.int p1), .val (.int p2), .val (.long q0), .second, .val (.ref b2), .val (.long (5478551163 : Int64)), .second, .val (.int z245), .val (.ref r), .val (.int (6 : Int32)), .val (.ref b736), .val (.ref b736), .unset, .unset] [(.int (6 : Int32)), (.int (3 : Int32)), (.long q0), (.ref b736)])) rfl (by rw [hml]; rfl) (argsL := [(.ref b736), (.long q0), (.int (3 : Int32)), (.int (6 : Int32))]) (rest := []) (lenOf pd_3 rfl) rfl (by show 2 * 0 + _ ≤ _; exact Nat.le_of_eq rfl) (hb hby at_441) (fun _ _ => ⟨rfl, e788, (by decide : 2 + 0 ≤ _), (by decide : 40 + 0 ≤ _)⟩)
    dsimp only [Pt.U, Pt.locs, Pt.cells, Pt.slots] at X793 l793 y793 z793 st793 hQ793
    subst l793 y793 z793
    obtain ⟨rfl, Nq793, e793⟩ := hQ793
    have N793 := Fr.app N792 Nq793
    have pr794 : ∀ tg, Steps pP.tables eE below (T793.setTop (mkF mM 444 #[.val (.int p1), .val (.int p2), .val (.long q0), .second, .val (.ref b2), .val (.long (5478551163 : Int64)), .second, .val (.int z245), .val (.ref r), .val (.int (6 : Int32)), .val (.ref b736), .val (.ref b736), .unset, .unset] [(.int (1 : Int32))])) tg → Steps pP.tables eE below (s₁.setTop (entryFrame mM #[(.int p1), (.int p2), (.long q0)] maxLocals)) tg := fun tg kg => pr791 _ (st793 _ kg)
    clear pr791 st793 X792 e788
    have hin795 : ¬ ((4 : Int32) < 0 ∨ cla774.slots.size ≤ ((4 : Int32)).toNatClampNeg) := inb_of Sa774 ⟨by decide, by decide⟩
    have hat795 : cla774.slots[((4 : Int32)).toNatClampNeg]? = some (.int (nar .byte ((q0.toUInt64 >>> ((32 : Int32) &&& 0x3f).toInt64.toUInt64).toInt64).toInt32.toInt8.toInt32)) := Has.at Ha774 hin795 rfl
    have pr796 : ∀ tg, Steps pP.tables eE below (T793.setTop (mkF mM 453 #[.val (.int p1), .val (.int p2), .val (.long q0), .second, .val (.ref b2), .val (.long (5478551163 : Int64)), .second, .val (.int z245), .val (.ref r), .val (.int (6 : Int32)), .val (.ref b736), .val (.ref b736), .unset, .unset] [(.int (6 : Int32)), (.int (4 : Int32)), (.long q0), (.ref b736)])) tg → Steps pP.tables eE below (s₁.setTop (entryFrame mM #[(.int p1), (.int p2), (.long q0)] maxLocals)) tg := fun tg kg => pr794 _ (by
      show Steps pP.tables eE below (T793.setTop (mkF mM 444 #[.val (.int p1), .val (.int p2), .val (.long q0), .second, .val (.ref b2), .val (.long (5478551163 : Int64)), .second, .val (.int z245), .val (.ref r), .val (.int (6 : Int32)), .val (.ref b736), .val (.ref b736), .unset, .unset] [(.int (1 : Int32))])) _
      refine XS.ifNo X793.here hx rfl (hb hby at_444) rfl ((if0 _ _).trans (feq (by decide)).1) ?_
      refine XS.aload X793.here hx rfl (hb hby at_447) rfl rfl ?_
      refine XS.lloadN X793.here hx rfl (hb hby at_449) rfl ?_
      refine XS.iconst X793.here hx rfl (hb hby at_450) ?_
      refine XS.iload X793.here hx rfl (hb hby at_451) rfl ?_
      exact kg)
    clear pr794
    obtain ⟨Ls797, X797, N797⟩ := own_hide X793 N793
    clear X793 N793
    obtain ⟨_, _, ⟨T798, L798, kk798, nn798⟩, -, X798, ⟨Lc798, hQ798, l798, y798, z798⟩, st798⟩ := Jvm.LawKit.callS X797 hx (y := (⟨"com/example/tesserae/tesserae/value/VrPadPinLaw", "sameAt", "([BJII)Z"⟩ : MethodName)) hown (mvT hZ (hw _ (List.mem_of_getElem? (i := 95) rfl))) (mvT hZ (hw _ (List.mem_of_getElem? (i := 96) rfl))) (mvT hZ (hw _ (List.mem_of_getElem? (i := 97) rfl))) (mvT hZ (hw _ (List.mem_of_getElem? (i := 98) rfl))) (by decide) (backOf (W := 0) (rm5 l Z a0 hw [] b736 q0 (4 : Int32) (6 : Int32) cla774 (nar .byte ((q0.toUInt64 >>> ((32 : Int32) &&& 0x3f).toInt64.toUInt64).toInt64).toInt32.toInt8.toInt32) h766 n0 c769 (by decide) Ara774 hin795 hat795 (own_w4 q0)) hZ (hw _ (List.mem_of_getElem? (i := 98) rfl)) (hw _ (List.mem_of_getElem? (i := 97) rfl)) (by decide) (by decide)) (g := (mkF mM 453 #[.val (.int p1), .val (.int p2), .val (.long q0), .second, .val (.ref b2), .val (.long (5478551163 : Int64)), .second, .val (.int z245), .val (.ref r), .val (.int (6 : Int32)), .val (.ref b736), .val (.ref b736), .unset, .unset] [(.int (6 : Int32)), (.int (4 : Int32)), (.long q0), (.ref b736)])) rfl (by rw [hml]; rfl) (argsL := [(.ref b736), (.long q0), (.int (4 : Int32)), (.int (6 : Int32))]) (rest := []) (lenOf pd_3 rfl) rfl (by show 2 * 0 + _ ≤ _; exact Nat.le_of_eq rfl) (hb hby at_453) (fun _ _ => ⟨rfl, e793, (by decide : 2 + 0 ≤ _), (by decide : 40 + 0 ≤ _)⟩)
    dsimp only [Pt.U, Pt.locs, Pt.cells, Pt.slots] at X798 l798 y798 z798 st798 hQ798
    subst l798 y798 z798
    obtain ⟨rfl, Nq798, e798⟩ := hQ798
    have N798 := Fr.app N797 Nq798
    have pr799 : ∀ tg, Steps pP.tables eE below (T798.setTop (mkF mM 456 #[.val (.int p1), .val (.int p2), .val (.long q0), .second, .val (.ref b2), .val (.long (5478551163 : Int64)), .second, .val (.int z245), .val (.ref r), .val (.int (6 : Int32)), .val (.ref b736), .val (.ref b736), .unset, .unset] [(.int (1 : Int32))])) tg → Steps pP.tables eE below (s₁.setTop (entryFrame mM #[(.int p1), (.int p2), (.long q0)] maxLocals)) tg := fun tg kg => pr796 _ (st798 _ kg)
    clear pr796 st798 X797 e793
    have hin800 : ¬ ((5 : Int32) < 0 ∨ cla774.slots.size ≤ ((5 : Int32)).toNatClampNeg) := inb_of Sa774 ⟨by decide, by decide⟩
    have hat800 : cla774.slots[((5 : Int32)).toNatClampNeg]? = some (.int (nar .byte ((q0.toUInt64 >>> ((40 : Int32) &&& 0x3f).toInt64.toUInt64).toInt64).toInt32.toInt8.toInt32)) := Has.at Ha774 hin800 rfl
    have pr801 : ∀ tg, Steps pP.tables eE below (T798.setTop (mkF mM 465 #[.val (.int p1), .val (.int p2), .val (.long q0), .second, .val (.ref b2), .val (.long (5478551163 : Int64)), .second, .val (.int z245), .val (.ref r), .val (.int (6 : Int32)), .val (.ref b736), .val (.ref b736), .unset, .unset] [(.int (6 : Int32)), (.int (5 : Int32)), (.long q0), (.ref b736)])) tg → Steps pP.tables eE below (s₁.setTop (entryFrame mM #[(.int p1), (.int p2), (.long q0)] maxLocals)) tg := fun tg kg => pr799 _ (by
      show Steps pP.tables eE below (T798.setTop (mkF mM 456 #[.val (.int p1), .val (.int p2), .val (.long q0), .second, .val (.ref b2), .val (.long (5478551163 : Int64)), .second, .val (.int z245), .val (.ref r), .val (.int (6 : Int32)), .val (.ref b736), .val (.ref b736), .unset, .unset] [(.int (1 : Int32))])) _
      refine XS.ifNo X798.here hx rfl (hb hby at_456) rfl ((if0 _ _).trans (feq (by decide)).1) ?_
      refine XS.aload X798.here hx rfl (hb hby at_459) rfl rfl ?_
      refine XS.lloadN X798.here hx rfl (hb hby at_461) rfl ?_
      refine XS.iconst X798.here hx rfl (hb hby at_462) ?_
      refine XS.iload X798.here hx rfl (hb hby at_463) rfl ?_
      exact kg)
    clear pr799
    obtain ⟨Ls802, X802, N802⟩ := own_hide X798 N798
    clear X798 N798
    obtain ⟨_, _, ⟨T803, L803, kk803, nn803⟩, -, X803, ⟨Lc803, hQ803, l803, y803, z803⟩, st803⟩ := Jvm.LawKit.callS X802 hx (y := (⟨"com/example/tesserae/tesserae/value/VrPadPinLaw", "sameAt", "([BJII)Z"⟩ : MethodName)) hown (mvT hZ (hw _ (List.mem_of_getElem? (i := 95) rfl))) (mvT hZ (hw _ (List.mem_of_getElem? (i := 96) rfl))) (mvT hZ (hw _ (List.mem_of_getElem? (i := 97) rfl))) (mvT hZ (hw _ (List.mem_of_getElem? (i := 98) rfl))) (by decide) (backOf (W := 0) (rm5 l Z a0 hw [] b736 q0 (5 : Int32) (6 : Int32) cla774 (nar .byte ((q0.toUInt64 >>> ((40 : Int32) &&& 0x3f).toInt64.toUInt64).toInt64).toInt32.toInt8.toInt32) h766 n0 c769 (by decide) Ara774 hin800 hat800 (own_w5 q0)) hZ (hw _ (List.mem_of_getElem? (i := 98) rfl)) (hw _ (List.mem_of_getElem? (i := 97) rfl)) (by decide) (by decide)) (g := (mkF mM 465 #[.val (.int p1), .val (.int p2), .val (.long q0), .second, .val (.ref b2), .val (.long (5478551163 : Int64)), .second, .val (.int z245), .val (.ref r), .val (.int (6 : Int32)), .val (.ref b736), .val (.ref b736), .unset, .unset] [(.int (6 : Int32)), (.int (5 : Int32)), (.long q0), (.ref b736)])) rfl (by rw [hml]; rfl) (argsL := [(.ref b736), (.long q0), (.int (5 : Int32)), (.int (6 : Int32))]) (rest := []) (lenOf pd_3 rfl) rfl (by show 2 * 0 + _ ≤ _; exact Nat.le_of_eq rfl) (hb hby at_465) (fun _ _ => ⟨rfl, e798, (by decide : 2 + 0 ≤ _), (by decide : 40 + 0 ≤ _)⟩)
    dsimp only [Pt.U, Pt.locs, Pt.cells, Pt.slots] at X803 l803 y803 z803 st803 hQ803
    subst l803 y803 z803
    obtain ⟨rfl, Nq803, e803⟩ := hQ803
    have N803 := Fr.app N802 Nq803
    have pr804 : ∀ tg, Steps pP.tables eE below (T803.setTop (mkF mM 468 #[.val (.int p1), .val (.int p2), .val (.long q0), .second, .val (.ref b2), .val (.long (5478551163 : Int64)), .second, .val (.int z245), .val (.ref r), .val (.int (6 : Int32)), .val (.ref b736), .val (.ref b736), .unset, .unset] [(.int (1 : Int32))])) tg → Steps pP.tables eE below (s₁.setTop (entryFrame mM #[(.int p1), (.int p2), (.long q0)] maxLocals)) tg := fun tg kg => pr801 _ (st803 _ kg)
    clear pr801 st803 X802 e798
    have pr805 : ∀ tg, Steps pP.tables eE below (T803.setTop (mkF mM 478 #[.val (.int p1), .val (.int p2), .val (.long q0), .second, .val (.ref b2), .val (.long (5478551163 : Int64)), .second, .val (.int z245), .val (.ref r), .val (.int (6 : Int32)), .val (.ref b736), .val (.ref b736), .unset, .unset] [(.int (6 : Int32)), (.int (6 : Int32)), (.long q0), (.ref b736)])) tg → Steps pP.tables eE below (s₁.setTop (entryFrame mM #[(.int p1), (.int p2), (.long q0)] maxLocals)) tg := fun tg kg => pr804 _ (by
      show Steps pP.tables eE below (T803.setTop (mkF mM 468 #[.val (.int p1), .val (.int p2), .val (.long q0), .second, .val (.ref b2), .val (.long (5478551163 : Int64)), .second, .val (.int z245), .val (.ref r), .val (.int (6 : Int32)), .val (.ref b736), .val (.ref b736), .unset, .unset] [(.int (1 : Int32))])) _
      refine XS.ifNo X803.here hx rfl (hb hby at_468) rfl ((if0 _ _).trans (feq (by decide)).1) ?_
      refine XS.aload X803.here hx rfl (hb hby at_471) rfl rfl ?_
      refine XS.lloadN X803.here hx rfl (hb hby at_473) rfl ?_
      refine XS.bipush X803.here hx rfl (hb hby at_474) ?_
      refine XS.iload X803.here hx rfl (hb hby at_476) rfl ?_
      exact kg)
    clear pr804
    obtain ⟨Ls806, X806, N806⟩ := own_hide X803 N803
    clear X803 N803
    obtain ⟨_, _, ⟨T807, L807, kk807, nn807⟩, -, X807, ⟨Lc807, hQ807, l807, y807, z807⟩, st807⟩ := Jvm.LawKit.callS X806 hx (y := (⟨"com/example/tesserae/tesserae/value/VrPadPinLaw", "sameAt", "([BJII)Z"⟩ : MethodName)) hown (mvT hZ (hw _ (List.mem_of_getElem? (i := 95) rfl))) (mvT hZ (hw _ (List.mem_of_getElem? (i := 96) rfl))) (mvT hZ (hw _ (List.mem_of_getElem? (i := 97) rfl))) (mvT hZ (hw _ (List.mem_of_getElem? (i := 98) rfl))) (by decide) (backOf (W := 0) (rm4 l Z a0 hw [] b736 q0 (6 : Int32) (6 : Int32) h766 n0 c769 (by decide)) hZ (hw _ (List.mem_of_getElem? (i := 98) rfl)) (hw _ (List.mem_of_getElem? (i := 97) rfl)) (by decide) (by decide)) (g := (mkF mM 478 #[.val (.int p1), .val (.int p2), .val (.long q0), .second, .val (.ref b2), .val (.long (5478551163 : Int64)), .second, .val (.int z245), .val (.ref r), .val (.int (6 : Int32)), .val (.ref b736), .val (.ref b736), .unset, .unset] [(.int (6 : Int32)), (.int (6 : Int32)), (.long q0), (.ref b736)])) rfl (by rw [hml]; rfl) (argsL := [(.ref b736), (.long q0), (.int (6 : Int32)), (.int (6 : Int32))]) (rest := []) (lenOf pd_3 rfl) rfl (by show 2 * 0 + _ ≤ _; exact Nat.le_of_eq rfl) (hb hby at_478) (fun _ _ => ⟨rfl, e803, (by decide : 2 + 0 ≤ _), (by decide : 40 + 0 ≤ _)⟩)
    dsimp only [Pt.U, Pt.locs, Pt.cells, Pt.slots] at X807 l807 y807 z807 st807 hQ807
    subst l807 y807 z807
    obtain ⟨rfl, Nq807, e807⟩ := hQ807
    have N807 := Fr.app N806 Nq807
    have pr808 : ∀ tg, Steps pP.tables eE below (T807.setTop (mkF mM 481 #[.val (.int p1), .val (.int p2), .val (.long q0), .second, .val (.ref b2), .val (.long (5478551163 : Int64)), .second, .val (.int z245), .val (.ref r), .val (.int (6 : Int32)), .val (.ref b736), .val (.ref b736), .unset, .unset] [(.int (1 : Int32))])) tg → Steps pP.tables eE below (s₁.setTop (entryFrame mM #[(.int p1), (.int p2), (.long q0)] maxLocals)) tg := fun tg kg => pr805 _ (st807 _ kg)
    clear pr805 st807 X806 e803
    have pr809 : ∀ tg, Steps pP.tables eE below (T807.setTop (mkF mM 515 #[.val (.int p1), .val (.int p2), .val (.long q0), .second, .val (.ref b2), .val (.long (5478551163 : Int64)), .second, .val (.int z245), .val (.ref r), .val (.int (6 : Int32)), .val (.ref b736), .val (.ref b736), .val (.int (1 : Int32)), .unset] [(.int (1 : Int32))])) tg → Steps pP.tables eE below (s₁.setTop (entryFrame mM #[(.int p1), (.int p2), (.long q0)] maxLocals)) tg := fun tg kg => pr808 _ (by
      show Steps pP.tables eE below (T807.setTop (mkF mM 481 #[.val (.int p1), .val (.int p2), .val (.long q0), .second, .val (.ref b2), .val (.long (5478551163 : Int64)), .second, .val (.int z245), .val (.ref r), .val (.int (6 : Int32)), .val (.ref b736), .val (.ref b736), .unset, .unset] [(.int (1 : Int32))])) _
      refine XS.ifNo X807.here hx rfl (hb hby at_481) rfl ((if0 _ _).trans (feq (by decide)).1) ?_
      refine XS.iconst X807.here hx rfl (hb hby at_484) ?_
      refine XS.goto X807.here hx rfl (pc0 := 485) (pc' := 489) rfl (hb hby at_485) (by decide) (by decide) ?_
      refine XS.istore X807.here hx rfl (hb hby at_489) rfl (l' := #[.val (.int p1), .val (.int p2), .val (.long q0), .second, .val (.ref b2), .val (.long (5478551163 : Int64)), .second, .val (.int z245), .val (.ref r), .val (.int (6 : Int32)), .val (.ref b736), .val (.ref b736), .val (.int (1 : Int32)), .unset]) rfl ?_
      refine XS.iload X807.here hx rfl (hb hby at_491) rfl ?_
      refine XS.iconst X807.here hx rfl (hb hby at_493) ?_
      show Steps pP.tables eE below (T807.setTop (mkF mM 494 #[.val (.int p1), .val (.int p2), .val (.long q0), .second, .val (.ref b2), .val (.long (5478551163 : Int64)), .second, .val (.int z245), .val (.ref r), .val (.int (6 : Int32)), .val (.ref b736), .val (.ref b736), .val (.int (1 : Int32)), .unset] [(.int (1 : Int32)), (.int (6 : Int32))])) _
      refine XS.iand X807.here hx rfl (hb hby at_494) rfl ?_
      refine XS.ifNo X807.here hx rfl (hb hby at_495) rfl ((if0 _ _).trans (teq (by decide)).2) ?_
      refine XS.iload X807.here hx rfl (hb hby at_498) rfl ?_
      refine XS.ifNo X807.here hx rfl (hb hby at_500) rfl ((if0 _ _).trans (feq (by decide)).1) ?_
      refine XS.aload X807.here hx rfl (hb hby at_503) rfl rfl ?_
      refine XS.aload X807.here hx rfl (hb hby at_505) rfl rfl ?_
      show Steps pP.tables eE below (T807.setTop (mkF mM 507 #[.val (.int p1), .val (.int p2), .val (.long q0), .second, .val (.ref b2), .val (.long (5478551163 : Int64)), .second, .val (.int z245), .val (.ref r), .val (.int (6 : Int32)), .val (.ref b736), .val (.ref b736), .val (.int (1 : Int32)), .unset] [(.ref b736), (.ref b736)])) _
      refine Jvm.RoadKit.acmp (g := (mkF mM 507 #[.val (.int p1), .val (.int p2), .val (.long q0), .second, .val (.ref b2), .val (.long (5478551163 : Int64)), .second, .val (.int z245), .val (.ref r), .val (.int (6 : Int32)), .val (.ref b736), .val (.ref b736), .val (.int (1 : Int32)), .unset] [(.ref b736), (.ref b736)])) X807 hx rfl rfl rfl (pc0 := 507) (pc' := 510) (same := true) rfl (hb hby at_507) rfl (decide_eq_true rfl) (by decide) (by decide) ?_
      show Steps pP.tables eE below (T807.setTop (mkF mM 510 #[.val (.int p1), .val (.int p2), .val (.long q0), .second, .val (.ref b2), .val (.long (5478551163 : Int64)), .second, .val (.int z245), .val (.ref r), .val (.int (6 : Int32)), .val (.ref b736), .val (.ref b736), .val (.int (1 : Int32)), .unset] [])) _
      refine XS.iconst X807.here hx rfl (hb hby at_510) ?_
      refine XS.goto X807.here hx rfl (pc0 := 511) (pc' := 515) rfl (hb hby at_511) (by decide) (by decide) ?_
      exact kg)
    clear pr808
    obtain ⟨fs, hr, hrun, hended, hW, hsame⟩ := X807.leave (v := some (.int (1 : Int32))) (fun h => by rw [Bd.returns] at h; cases h)
    refine ⟨_, _, pr809 _ (retOut X807 hx (t := .boolean) Bd.returns rfl (Or.inl ⟨rfl, Or.inr (Or.inl rfl), _, rfl⟩) (hb hby at_515) hr), hrun, hended, _, _, rfl, ?_, ⟨_, rfl⟩, hW, hsame.mono (by decide) (by decide)⟩
    show Q0 Z p1 p2 q0 a_AE a_AS a_AT a_CS a_DA a_DS a_DT a_FD a_FL a_IS a_LO a_LT a_OB a_OD a_OF a_OL a_OV a_OW a_PN a_SH a_SL a_SQ a_SS a_ST a_SV a_TM a_UC a_UI a_UL a_UN a_UR a_US a_UT a_UV h0 n0 _ T807.heap _
    rw [e807]
    exact ⟨rfl, N807⟩
  ·
    have pr810 : ∀ tg, Steps pP.tables eE below (T242.setTop (mkF mM 268 #[.val (.int p1), .val (.int p2), .val (.long q0), .second, .val (.ref b2), .val (.long (5478551163 : Int64)), .second, .val (.int z245), .val (.ref r), .val (.int (7 : Int32)), .unset, .unset, .unset, .unset] [(.int (7 : Int32))])) tg → Steps pP.tables eE below (s₁.setTop (entryFrame mM #[(.int p1), (.int p2), (.long q0)] maxLocals)) tg := fun tg kg => pr251 _ (by
      show Steps pP.tables eE below (T242.setTop (mkF mM 266 #[.val (.int p1), .val (.int p2), .val (.long q0), .second, .val (.ref b2), .val (.long (5478551163 : Int64)), .second, .val (.int z245), .val (.ref r), .val (.int (7 : Int32)), .unset, .unset, .unset, .unset] [])) _
      refine XS.iload X242.here hx rfl (hb hby at_266) rfl ?_
      exact kg)
    clear pr251
    obtain ⟨T811, h811, k811, X811, e811, E811, A811, Ex811, st811⟩ := newPE X242 hx hZ (hw _ (List.mem_of_getElem? (i := 74) rfl)) e242 (g := (mkF mM 268 #[.val (.int p1), .val (.int p2), .val (.long q0), .second, .val (.ref b2), .val (.long (5478551163 : Int64)), .second, .val (.int z245), .val (.ref r), .val (.int (7 : Int32)), .unset, .unset, .unset, .unset] [(.int (7 : Int32))])) rfl (hb hby at_268) rfl (by decide) (cap := 7) (by decide) (by decide) (by decide) (by decide) (ad := "[B") rfl
    obtain ⟨b811, g811⟩ : ∃ z, z = (h242).size := ⟨_, rfl⟩
    rw [← g811] at A811 Ex811 st811
    have ne812 : b2 ≠ b811 := Nat.ne_of_lt (Nat.lt_of_lt_of_le (V242).lt (Nat.le_of_eq g811.symm))
    have c814 := (Nat.le_trans (Nat.le_trans (Nat.le_trans (Nat.le_trans (Nat.le_trans (Nat.le_trans (Nat.le_trans (Nat.le_trans (Nat.le_trans (Nat.le_trans (Nat.le_trans (Nat.le_trans (Nat.le_trans (Nat.le_trans (Nat.le_trans (Nat.le_trans (Nat.le_trans (Nat.le_trans (Nat.le_trans (Nat.le_trans (Nat.le_trans (Nat.le_trans (Nat.le_trans (Nat.le_trans (Nat.le_trans (Nat.le_trans (Nat.le_trans (Nat.le_trans (Nat.le_trans (Nat.le_trans (Nat.le_trans (Nat.le_trans (Nat.le_trans (Nat.le_trans (Nat.le_trans Z0 E2.1) (Keep.of_wr W11).1) (Keep.of_wr W18).1) (Keep.of_wr W25).1) (Keep.of_wr W32).1) (Keep.of_wr W39).1) (Keep.of_wr W46).1) (Keep.of_wr W53).1) (Keep.of_wr W60).1) (Keep.of_wr W67).1) (Keep.of_wr W74).1) (Keep.of_wr W81).1) (Keep.of_wr W88).1) (Keep.of_wr W95).1) (Keep.of_wr W102).1) (Keep.of_wr W109).1) (Keep.of_wr W116).1) (Keep.of_wr W123).1) (Keep.of_wr W130).1) (Keep.of_wr W137).1) (Keep.of_wr W144).1) (Keep.of_wr W151).1) (Keep.of_wr W158).1) (Keep.of_wr W165).1) (Keep.of_wr W172).1) (Keep.of_wr W179).1) (Keep.of_wr W186).1) (Keep.of_wr W193).1) (Keep.of_wr W200).1) (Keep.of_wr W207).1) (Keep.of_wr W214).1) (Keep.of_wr W221).1) (Keep.of_wr W228).1) (Keep.of_wr W235).1) (Keep.of_wr W242).1)
    have gn813 : n0 ≤ b811 := Nat.le_trans c814 (Nat.le_of_eq g811.symm)
    have c816 := (Keep.wr (Keep.wr (Keep.wr (Keep.wr (Keep.wr (Keep.wr (Keep.wr (Keep.wr (Keep.wr (Keep.wr (Keep.wr (Keep.wr (Keep.wr (Keep.wr (Keep.wr (Keep.wr (Keep.wr (Keep.wr (Keep.wr (Keep.wr (Keep.wr (Keep.wr (Keep.wr (Keep.wr (Keep.wr (Keep.wr (Keep.wr (Keep.wr (Keep.wr (Keep.wr (Keep.wr (Keep.wr (Keep.wr (Keep.wr (Keep.ext (Keep.refl h0 []) E2) W11 (Or.inr gs4)) W18 (Or.inr gs4)) W25 (Or.inr gs4)) W32 (Or.inr gs4)) W39 (Or.inr gs4)) W46 (Or.inr gs4)) W53 (Or.inr gs4)) W60 (Or.inr gs4)) W67 (Or.inr gs4)) W74 (Or.inr gs4)) W81 (Or.inr gs4)) W88 (Or.inr gs4)) W95 (Or.inr gs4)) W102 (Or.inr gs4)) W109 (Or.inr gs4)) W116 (Or.inr gs4)) W123 (Or.inr gs4)) W130 (Or.inr gs4)) W137 (Or.inr gs4)) W144 (Or.inr gs4)) W151 (Or.inr gs4)) W158 (Or.inr gs4)) W165 (Or.inr gs4)) W172 (Or.inr gs4)) W179 (Or.inr gs4)) W186 (Or.inr gs4)) W193 (Or.inr gs4)) W200 (Or.inr gs4)) W207 (Or.inr gs4)) W214 (Or.inr gs4)) W221 (Or.inr gs4)) W228 (Or.inr gs4)) W235 (Or.inr gs4)) W242 (Or.inr gs4))
    have gs815 : h0.size ≤ b811 := Nat.le_trans c816.1 (Nat.le_of_eq g811.symm)
    have c817 := (Old.wr c239 W242 gn3)
    have V811 : Arv Z h811 b811 k811 .byte (7 : Int32) [(.int (0 : Int32)), (.int (0 : Int32)), (.int (0 : Int32)), (.int (0 : Int32)), (.int (0 : Int32)), (.int (0 : Int32)), (.int (0 : Int32))] (.int (0 : Int32)) := (Arv.new A811 (by decide)).pad (pad_rep [] (.int (0 : Int32)) 7)
    have pr818 : ∀ tg, Steps pP.tables eE below (T811.setTop (mkF mM 270 #[.val (.int p1), .val (.int p2), .val (.long q0), .second, .val (.ref b2), .val (.long (5478551163 : Int64)), .second, .val (.int z245), .val (.ref r), .val (.int (7 : Int32)), .unset, .unset, .unset, .unset] [(.ref b811)])) tg → Steps pP.tables eE below (s₁.setTop (entryFrame mM #[(.int p1), (.int p2), (.long q0)] maxLocals)) tg := fun tg kg => pr810 _ (st811 _ kg)
    clear pr810 st811 X242 e242
    have pr819 : ∀ tg, Steps pP.tables eE below (T811.setTop (mkF mM 283 #[.val (.int p1), .val (.int p2), .val (.long q0), .second, .val (.ref b2), .val (.long (5478551163 : Int64)), .second, .val (.int z245), .val (.ref r), .val (.int (7 : Int32)), .val (.ref b811), .unset, .unset, .unset] [(.int q0.toInt32.toInt8.toInt32), (.int (0 : Int32)), (.ref b811)])) tg → Steps pP.tables eE below (s₁.setTop (entryFrame mM #[(.int p1), (.int p2), (.long q0)] maxLocals)) tg := fun tg kg => pr818 _ (by
      show Steps pP.tables eE below (T811.setTop (mkF mM 270 #[.val (.int p1), .val (.int p2), .val (.long q0), .second, .val (.ref b2), .val (.long (5478551163 : Int64)), .second, .val (.int z245), .val (.ref r), .val (.int (7 : Int32)), .unset, .unset, .unset, .unset] [(.ref b811)])) _
      refine XS.astore X811.here hx rfl (hb hby at_270) rfl rfl (l' := #[.val (.int p1), .val (.int p2), .val (.long q0), .second, .val (.ref b2), .val (.long (5478551163 : Int64)), .second, .val (.int z245), .val (.ref r), .val (.int (7 : Int32)), .val (.ref b811), .unset, .unset, .unset]) rfl ?_
      refine XS.iload X811.here hx rfl (hb hby at_272) rfl ?_
      refine XS.ifNo X811.here hx rfl (hb hby at_274) rfl ((if0 _ _).trans (tlt (by decide)).2.2.2) ?_
      refine XS.aload X811.here hx rfl (hb hby at_277) rfl rfl ?_
      refine XS.iconst X811.here hx rfl (hb hby at_279) ?_
      refine XS.lloadN X811.here hx rfl (hb hby at_280) rfl ?_
      show Steps pP.tables eE below (T811.setTop (mkF mM 281 #[.val (.int p1), .val (.int p2), .val (.long q0), .second, .val (.ref b2), .val (.long (5478551163 : Int64)), .second, .val (.int z245), .val (.ref r), .val (.int (7 : Int32)), .val (.ref b811), .unset, .unset, .unset] [(.long q0), (.int (0 : Int32)), (.ref b811)])) _
      refine XS.l2i X811.here hx rfl (hb hby at_281) rfl ?_
      refine XS.i2b X811.here hx rfl (hb hby at_282) rfl ?_
      exact kg)
    clear pr818
    obtain ⟨cla820, Ara820, qa820, Sa820, Ma820, Ha820, Ga820⟩ := id V811
    have hin821 : ¬ ((0 : Int32) < 0 ∨ cla820.slots.size ≤ ((0 : Int32)).toNatClampNeg) := inb_of Sa820 ⟨by decide, by decide⟩
    obtain ⟨T821, h821, X821, e821, W821, st821⟩ := stB X811 hx hZ e811 Ara820 (j := (0 : Int32)) hin821 (g := (mkF mM 283 #[.val (.int p1), .val (.int p2), .val (.long q0), .second, .val (.ref b2), .val (.long (5478551163 : Int64)), .second, .val (.int z245), .val (.ref r), .val (.int (7 : Int32)), .val (.ref b811), .unset, .unset, .unset] [(.int q0.toInt32.toInt8.toInt32), (.int (0 : Int32)), (.ref b811)])) rfl rfl (hb hby at_283)
    have V821 : Arv Z h821 b811 k811 .byte (7 : Int32) [(.int (nar .byte q0.toInt32.toInt8.toInt32)), (.int (0 : Int32)), (.int (0 : Int32)), (.int (0 : Int32)), (.int (0 : Int32)), (.int (0 : Int32)), (.int (0 : Int32))] (.int (0 : Int32)) := Arv.set Ara820 qa820 Sa820 Ma820 Ha820 Ga820 (fits_nar_byte _) W821 0 rfl (Nat.le_of_ble_eq_true rfl)
    have N821 := Fr.snoc X821 N242 gn813
    have pr822 : ∀ tg, Steps pP.tables eE below (T821.setTop (mkF mM 284 #[.val (.int p1), .val (.int p2), .val (.long q0), .second, .val (.ref b2), .val (.long (5478551163 : Int64)), .second, .val (.int z245), .val (.ref r), .val (.int (7 : Int32)), .val (.ref b811), .unset, .unset, .unset] [])) tg → Steps pP.tables eE below (s₁.setTop (entryFrame mM #[(.int p1), (.int p2), (.long q0)] maxLocals)) tg := fun tg kg => pr819 _ (st821 _ kg)
    clear pr819 st821 X811 e811
    have pr823 : ∀ tg, Steps pP.tables eE below (T821.setTop (mkF mM 299 #[.val (.int p1), .val (.int p2), .val (.long q0), .second, .val (.ref b2), .val (.long (5478551163 : Int64)), .second, .val (.int z245), .val (.ref r), .val (.int (7 : Int32)), .val (.ref b811), .unset, .unset, .unset] [(.int ((q0.toUInt64 >>> ((8 : Int32) &&& 0x3f).toInt64.toUInt64).toInt64).toInt32.toInt8.toInt32), (.int (1 : Int32)), (.ref b811)])) tg → Steps pP.tables eE below (s₁.setTop (entryFrame mM #[(.int p1), (.int p2), (.long q0)] maxLocals)) tg := fun tg kg => pr822 _ (by
      show Steps pP.tables eE below (T821.setTop (mkF mM 284 #[.val (.int p1), .val (.int p2), .val (.long q0), .second, .val (.ref b2), .val (.long (5478551163 : Int64)), .second, .val (.int z245), .val (.ref r), .val (.int (7 : Int32)), .val (.ref b811), .unset, .unset, .unset] [])) _
      refine XS.iload X821.here hx rfl (hb hby at_284) rfl ?_
      refine XS.iconst X821.here hx rfl (hb hby at_286) ?_
      refine XS.icmpNo X821.here hx rfl (hb hby at_287) rfl (tlt (by decide)).2.2.2 ?_
      refine XS.aload X821.here hx rfl (hb hby at_290) rfl rfl ?_
      refine XS.iconst X821.here hx rfl (hb hby at_292) ?_
      refine XS.lloadN X821.here hx rfl (hb hby at_293) rfl ?_
      show Steps pP.tables eE below (T821.setTop (mkF mM 294 #[.val (.int p1), .val (.int p2), .val (.long q0), .second, .val (.ref b2), .val (.long (5478551163 : Int64)), .second, .val (.int z245), .val (.ref r), .val (.int (7 : Int32)), .val (.ref b811), .unset, .unset, .unset] [(.long q0), (.int (1 : Int32)), (.ref b811)])) _
      refine XS.bipush X821.here hx rfl (hb hby at_294) ?_
      refine XS.lushr X821.here hx rfl (hb hby at_296) rfl ?_
      refine XS.l2i X821.here hx rfl (hb hby at_297) rfl ?_
      refine XS.i2b X821.here hx rfl (hb hby at_298) rfl ?_
      exact kg)
    clear pr822
    obtain ⟨cla824, Ara824, qa824, Sa824, Ma824, Ha824, Ga824⟩ := id V821
    have hin825 : ¬ ((1 : Int32) < 0 ∨ cla824.slots.size ≤ ((1 : Int32)).toNatClampNeg) := inb_of Sa824 ⟨by decide, by decide⟩
    obtain ⟨T825, h825, X825, e825, W825, st825⟩ := stB X821 hx hZ e821 Ara824 (j := (1 : Int32)) hin825 (g := (mkF mM 299 #[.val (.int p1), .val (.int p2), .val (.long q0), .second, .val (.ref b2), .val (.long (5478551163 : Int64)), .second, .val (.int z245), .val (.ref r), .val (.int (7 : Int32)), .val (.ref b811), .unset, .unset, .unset] [(.int ((q0.toUInt64 >>> ((8 : Int32) &&& 0x3f).toInt64.toUInt64).toInt64).toInt32.toInt8.toInt32), (.int (1 : Int32)), (.ref b811)])) rfl rfl (hb hby at_299)
    have V825 : Arv Z h825 b811 k811 .byte (7 : Int32) [(.int (nar .byte q0.toInt32.toInt8.toInt32)), (.int (nar .byte ((q0.toUInt64 >>> ((8 : Int32) &&& 0x3f).toInt64.toUInt64).toInt64).toInt32.toInt8.toInt32)), (.int (0 : Int32)), (.int (0 : Int32)), (.int (0 : Int32)), (.int (0 : Int32)), (.int (0 : Int32))] (.int (0 : Int32)) := Arv.set Ara824 qa824 Sa824 Ma824 Ha824 Ga824 (fits_nar_byte _) W825 1 rfl (Nat.le_of_ble_eq_true rfl)
    have N825 := Fr.snoc X825 N821 gn813
    have pr826 : ∀ tg, Steps pP.tables eE below (T825.setTop (mkF mM 300 #[.val (.int p1), .val (.int p2), .val (.long q0), .second, .val (.ref b2), .val (.long (5478551163 : Int64)), .second, .val (.int z245), .val (.ref r), .val (.int (7 : Int32)), .val (.ref b811), .unset, .unset, .unset] [])) tg → Steps pP.tables eE below (s₁.setTop (entryFrame mM #[(.int p1), (.int p2), (.long q0)] maxLocals)) tg := fun tg kg => pr823 _ (st825 _ kg)
    clear pr823 st825 X821 e821
    have pr827 : ∀ tg, Steps pP.tables eE below (T825.setTop (mkF mM 315 #[.val (.int p1), .val (.int p2), .val (.long q0), .second, .val (.ref b2), .val (.long (5478551163 : Int64)), .second, .val (.int z245), .val (.ref r), .val (.int (7 : Int32)), .val (.ref b811), .unset, .unset, .unset] [(.int ((q0.toUInt64 >>> ((16 : Int32) &&& 0x3f).toInt64.toUInt64).toInt64).toInt32.toInt8.toInt32), (.int (2 : Int32)), (.ref b811)])) tg → Steps pP.tables eE below (s₁.setTop (entryFrame mM #[(.int p1), (.int p2), (.long q0)] maxLocals)) tg := fun tg kg => pr826 _ (by
      show Steps pP.tables eE below (T825.setTop (mkF mM 300 #[.val (.int p1), .val (.int p2), .val (.long q0), .second, .val (.ref b2), .val (.long (5478551163 : Int64)), .second, .val (.int z245), .val (.ref r), .val (.int (7 : Int32)), .val (.ref b811), .unset, .unset, .unset] [])) _
      refine XS.iload X825.here hx rfl (hb hby at_300) rfl ?_
      refine XS.iconst X825.here hx rfl (hb hby at_302) ?_
      refine XS.icmpNo X825.here hx rfl (hb hby at_303) rfl (tlt (by decide)).2.2.2 ?_
      refine XS.aload X825.here hx rfl (hb hby at_306) rfl rfl ?_
      refine XS.iconst X825.here hx rfl (hb hby at_308) ?_
      refine XS.lloadN X825.here hx rfl (hb hby at_309) rfl ?_
      show Steps pP.tables eE below (T825.setTop (mkF mM 310 #[.val (.int p1), .val (.int p2), .val (.long q0), .second, .val (.ref b2), .val (.long (5478551163 : Int64)), .second, .val (.int z245), .val (.ref r), .val (.int (7 : Int32)), .val (.ref b811), .unset, .unset, .unset] [(.long q0), (.int (2 : Int32)), (.ref b811)])) _
      refine XS.bipush X825.here hx rfl (hb hby at_310) ?_
      refine XS.lushr X825.here hx rfl (hb hby at_312) rfl ?_
      refine XS.l2i X825.here hx rfl (hb hby at_313) rfl ?_
      refine XS.i2b X825.here hx rfl (hb hby at_314) rfl ?_
      exact kg)
    clear pr826
    obtain ⟨cla828, Ara828, qa828, Sa828, Ma828, Ha828, Ga828⟩ := id V825
    have hin829 : ¬ ((2 : Int32) < 0 ∨ cla828.slots.size ≤ ((2 : Int32)).toNatClampNeg) := inb_of Sa828 ⟨by decide, by decide⟩
    obtain ⟨T829, h829, X829, e829, W829, st829⟩ := stB X825 hx hZ e825 Ara828 (j := (2 : Int32)) hin829 (g := (mkF mM 315 #[.val (.int p1), .val (.int p2), .val (.long q0), .second, .val (.ref b2), .val (.long (5478551163 : Int64)), .second, .val (.int z245), .val (.ref r), .val (.int (7 : Int32)), .val (.ref b811), .unset, .unset, .unset] [(.int ((q0.toUInt64 >>> ((16 : Int32) &&& 0x3f).toInt64.toUInt64).toInt64).toInt32.toInt8.toInt32), (.int (2 : Int32)), (.ref b811)])) rfl rfl (hb hby at_315)
    have V829 : Arv Z h829 b811 k811 .byte (7 : Int32) [(.int (nar .byte q0.toInt32.toInt8.toInt32)), (.int (nar .byte ((q0.toUInt64 >>> ((8 : Int32) &&& 0x3f).toInt64.toUInt64).toInt64).toInt32.toInt8.toInt32)), (.int (nar .byte ((q0.toUInt64 >>> ((16 : Int32) &&& 0x3f).toInt64.toUInt64).toInt64).toInt32.toInt8.toInt32)), (.int (0 : Int32)), (.int (0 : Int32)), (.int (0 : Int32)), (.int (0 : Int32))] (.int (0 : Int32)) := Arv.set Ara828 qa828 Sa828 Ma828 Ha828 Ga828 (fits_nar_byte _) W829 2 rfl (Nat.le_of_ble_eq_true rfl)
    have N829 := Fr.snoc X829 N825 gn813
    have pr830 : ∀ tg, Steps pP.tables eE below (T829.setTop (mkF mM 316 #[.val (.int p1), .val (.int p2), .val (.long q0), .second, .val (.ref b2), .val (.long (5478551163 : Int64)), .second, .val (.int z245), .val (.ref r), .val (.int (7 : Int32)), .val (.ref b811), .unset, .unset, .unset] [])) tg → Steps pP.tables eE below (s₁.setTop (entryFrame mM #[(.int p1), (.int p2), (.long q0)] maxLocals)) tg := fun tg kg => pr827 _ (st829 _ kg)
    clear pr827 st829 X825 e825
    have pr831 : ∀ tg, Steps pP.tables eE below (T829.setTop (mkF mM 331 #[.val (.int p1), .val (.int p2), .val (.long q0), .second, .val (.ref b2), .val (.long (5478551163 : Int64)), .second, .val (.int z245), .val (.ref r), .val (.int (7 : Int32)), .val (.ref b811), .unset, .unset, .unset] [(.int ((q0.toUInt64 >>> ((24 : Int32) &&& 0x3f).toInt64.toUInt64).toInt64).toInt32.toInt8.toInt32), (.int (3 : Int32)), (.ref b811)])) tg → Steps pP.tables eE below (s₁.setTop (entryFrame mM #[(.int p1), (.int p2), (.long q0)] maxLocals)) tg := fun tg kg => pr830 _ (by
      show Steps pP.tables eE below (T829.setTop (mkF mM 316 #[.val (.int p1), .val (.int p2), .val (.long q0), .second, .val (.ref b2), .val (.long (5478551163 : Int64)), .second, .val (.int z245), .val (.ref r), .val (.int (7 : Int32)), .val (.ref b811), .unset, .unset, .unset] [])) _
      refine XS.iload X829.here hx rfl (hb hby at_316) rfl ?_
      refine XS.iconst X829.here hx rfl (hb hby at_318) ?_
      refine XS.icmpNo X829.here hx rfl (hb hby at_319) rfl (tlt (by decide)).2.2.2 ?_
      refine XS.aload X829.here hx rfl (hb hby at_322) rfl rfl ?_
      refine XS.iconst X829.here hx rfl (hb hby at_324) ?_
      refine XS.lloadN X829.here hx rfl (hb hby at_325) rfl ?_
      show Steps pP.tables eE below (T829.setTop (mkF mM 326 #[.val (.int p1), .val (.int p2), .val (.long q0), .second, .val (.ref b2), .val (.long (5478551163 : Int64)), .second, .val (.int z245), .val (.ref r), .val (.int (7 : Int32)), .val (.ref b811), .unset, .unset, .unset] [(.long q0), (.int (3 : Int32)), (.ref b811)])) _
      refine XS.bipush X829.here hx rfl (hb hby at_326) ?_
      refine XS.lushr X829.here hx rfl (hb hby at_328) rfl ?_
      refine XS.l2i X829.here hx rfl (hb hby at_329) rfl ?_
      refine XS.i2b X829.here hx rfl (hb hby at_330) rfl ?_
      exact kg)
    clear pr830
    obtain ⟨cla832, Ara832, qa832, Sa832, Ma832, Ha832, Ga832⟩ := id V829
    have hin833 : ¬ ((3 : Int32) < 0 ∨ cla832.slots.size ≤ ((3 : Int32)).toNatClampNeg) := inb_of Sa832 ⟨by decide, by decide⟩
    obtain ⟨T833, h833, X833, e833, W833, st833⟩ := stB X829 hx hZ e829 Ara832 (j := (3 : Int32)) hin833 (g := (mkF mM 331 #[.val (.int p1), .val (.int p2), .val (.long q0), .second, .val (.ref b2), .val (.long (5478551163 : Int64)), .second, .val (.int z245), .val (.ref r), .val (.int (7 : Int32)), .val (.ref b811), .unset, .unset, .unset] [(.int ((q0.toUInt64 >>> ((24 : Int32) &&& 0x3f).toInt64.toUInt64).toInt64).toInt32.toInt8.toInt32), (.int (3 : Int32)), (.ref b811)])) rfl rfl (hb hby at_331)
    have V833 : Arv Z h833 b811 k811 .byte (7 : Int32) [(.int (nar .byte q0.toInt32.toInt8.toInt32)), (.int (nar .byte ((q0.toUInt64 >>> ((8 : Int32) &&& 0x3f).toInt64.toUInt64).toInt64).toInt32.toInt8.toInt32)), (.int (nar .byte ((q0.toUInt64 >>> ((16 : Int32) &&& 0x3f).toInt64.toUInt64).toInt64).toInt32.toInt8.toInt32)), (.int (nar .byte ((q0.toUInt64 >>> ((24 : Int32) &&& 0x3f).toInt64.toUInt64).toInt64).toInt32.toInt8.toInt32)), (.int (0 : Int32)), (.int (0 : Int32)), (.int (0 : Int32))] (.int (0 : Int32)) := Arv.set Ara832 qa832 Sa832 Ma832 Ha832 Ga832 (fits_nar_byte _) W833 3 rfl (Nat.le_of_ble_eq_true rfl)
    have N833 := Fr.snoc X833 N829 gn813
    have pr834 : ∀ tg, Steps pP.tables eE below (T833.setTop (mkF mM 332 #[.val (.int p1), .val (.int p2), .val (.long q0), .second, .val (.ref b2), .val (.long (5478551163 : Int64)), .second, .val (.int z245), .val (.ref r), .val (.int (7 : Int32)), .val (.ref b811), .unset, .unset, .unset] [])) tg → Steps pP.tables eE below (s₁.setTop (entryFrame mM #[(.int p1), (.int p2), (.long q0)] maxLocals)) tg := fun tg kg => pr831 _ (st833 _ kg)
    clear pr831 st833 X829 e829
    have pr835 : ∀ tg, Steps pP.tables eE below (T833.setTop (mkF mM 347 #[.val (.int p1), .val (.int p2), .val (.long q0), .second, .val (.ref b2), .val (.long (5478551163 : Int64)), .second, .val (.int z245), .val (.ref r), .val (.int (7 : Int32)), .val (.ref b811), .unset, .unset, .unset] [(.int ((q0.toUInt64 >>> ((32 : Int32) &&& 0x3f).toInt64.toUInt64).toInt64).toInt32.toInt8.toInt32), (.int (4 : Int32)), (.ref b811)])) tg → Steps pP.tables eE below (s₁.setTop (entryFrame mM #[(.int p1), (.int p2), (.long q0)] maxLocals)) tg := fun tg kg => pr834 _ (by
      show Steps pP.tables eE below (T833.setTop (mkF mM 332 #[.val (.int p1), .val (.int p2), .val (.long q0), .second, .val (.ref b2), .val (.long (5478551163 : Int64)), .second, .val (.int z245), .val (.ref r), .val (.int (7 : Int32)), .val (.ref b811), .unset, .unset, .unset] [])) _
      refine XS.iload X833.here hx rfl (hb hby at_332) rfl ?_
      refine XS.iconst X833.here hx rfl (hb hby at_334) ?_
      refine XS.icmpNo X833.here hx rfl (hb hby at_335) rfl (tlt (by decide)).2.2.2 ?_
      refine XS.aload X833.here hx rfl (hb hby at_338) rfl rfl ?_
      refine XS.iconst X833.here hx rfl (hb hby at_340) ?_
      refine XS.lloadN X833.here hx rfl (hb hby at_341) rfl ?_
      show Steps pP.tables eE below (T833.setTop (mkF mM 342 #[.val (.int p1), .val (.int p2), .val (.long q0), .second, .val (.ref b2), .val (.long (5478551163 : Int64)), .second, .val (.int z245), .val (.ref r), .val (.int (7 : Int32)), .val (.ref b811), .unset, .unset, .unset] [(.long q0), (.int (4 : Int32)), (.ref b811)])) _
      refine XS.bipush X833.here hx rfl (hb hby at_342) ?_
      refine XS.lushr X833.here hx rfl (hb hby at_344) rfl ?_
      refine XS.l2i X833.here hx rfl (hb hby at_345) rfl ?_
      refine XS.i2b X833.here hx rfl (hb hby at_346) rfl ?_
      exact kg)
    clear pr834
    obtain ⟨cla836, Ara836, qa836, Sa836, Ma836, Ha836, Ga836⟩ := id V833
    have hin837 : ¬ ((4 : Int32) < 0 ∨ cla836.slots.size ≤ ((4 : Int32)).toNatClampNeg) := inb_of Sa836 ⟨by decide, by decide⟩
    obtain ⟨T837, h837, X837, e837, W837, st837⟩ := stB X833 hx hZ e833 Ara836 (j := (4 : Int32)) hin837 (g := (mkF mM 347 #[.val (.int p1), .val (.int p2), .val (.long q0), .second, .val (.ref b2), .val (.long (5478551163 : Int64)), .second, .val (.int z245), .val (.ref r), .val (.int (7 : Int32)), .val (.ref b811), .unset, .unset, .unset] [(.int ((q0.toUInt64 >>> ((32 : Int32) &&& 0x3f).toInt64.toUInt64).toInt64).toInt32.toInt8.toInt32), (.int (4 : Int32)), (.ref b811)])) rfl rfl (hb hby at_347)
    have V837 : Arv Z h837 b811 k811 .byte (7 : Int32) [(.int (nar .byte q0.toInt32.toInt8.toInt32)), (.int (nar .byte ((q0.toUInt64 >>> ((8 : Int32) &&& 0x3f).toInt64.toUInt64).toInt64).toInt32.toInt8.toInt32)), (.int (nar .byte ((q0.toUInt64 >>> ((16 : Int32) &&& 0x3f).toInt64.toUInt64).toInt64).toInt32.toInt8.toInt32)), (.int (nar .byte ((q0.toUInt64 >>> ((24 : Int32) &&& 0x3f).toInt64.toUInt64).toInt64).toInt32.toInt8.toInt32)), (.int (nar .byte ((q0.toUInt64 >>> ((32 : Int32) &&& 0x3f).toInt64.toUInt64).toInt64).toInt32.toInt8.toInt32)), (.int (0 : Int32)), (.int (0 : Int32))] (.int (0 : Int32)) := Arv.set Ara836 qa836 Sa836 Ma836 Ha836 Ga836 (fits_nar_byte _) W837 4 rfl (Nat.le_of_ble_eq_true rfl)
    have N837 := Fr.snoc X837 N833 gn813
    have pr838 : ∀ tg, Steps pP.tables eE below (T837.setTop (mkF mM 348 #[.val (.int p1), .val (.int p2), .val (.long q0), .second, .val (.ref b2), .val (.long (5478551163 : Int64)), .second, .val (.int z245), .val (.ref r), .val (.int (7 : Int32)), .val (.ref b811), .unset, .unset, .unset] [])) tg → Steps pP.tables eE below (s₁.setTop (entryFrame mM #[(.int p1), (.int p2), (.long q0)] maxLocals)) tg := fun tg kg => pr835 _ (st837 _ kg)
    clear pr835 st837 X833 e833
    have pr839 : ∀ tg, Steps pP.tables eE below (T837.setTop (mkF mM 363 #[.val (.int p1), .val (.int p2), .val (.long q0), .second, .val (.ref b2), .val (.long (5478551163 : Int64)), .second, .val (.int z245), .val (.ref r), .val (.int (7 : Int32)), .val (.ref b811), .unset, .unset, .unset] [(.int ((q0.toUInt64 >>> ((40 : Int32) &&& 0x3f).toInt64.toUInt64).toInt64).toInt32.toInt8.toInt32), (.int (5 : Int32)), (.ref b811)])) tg → Steps pP.tables eE below (s₁.setTop (entryFrame mM #[(.int p1), (.int p2), (.long q0)] maxLocals)) tg := fun tg kg => pr838 _ (by
      show Steps pP.tables eE below (T837.setTop (mkF mM 348 #[.val (.int p1), .val (.int p2), .val (.long q0), .second, .val (.ref b2), .val (.long (5478551163 : Int64)), .second, .val (.int z245), .val (.ref r), .val (.int (7 : Int32)), .val (.ref b811), .unset, .unset, .unset] [])) _
      refine XS.iload X837.here hx rfl (hb hby at_348) rfl ?_
      refine XS.iconst X837.here hx rfl (hb hby at_350) ?_
      refine XS.icmpNo X837.here hx rfl (hb hby at_351) rfl (tlt (by decide)).2.2.2 ?_
      refine XS.aload X837.here hx rfl (hb hby at_354) rfl rfl ?_
      refine XS.iconst X837.here hx rfl (hb hby at_356) ?_
      refine XS.lloadN X837.here hx rfl (hb hby at_357) rfl ?_
      show Steps pP.tables eE below (T837.setTop (mkF mM 358 #[.val (.int p1), .val (.int p2), .val (.long q0), .second, .val (.ref b2), .val (.long (5478551163 : Int64)), .second, .val (.int z245), .val (.ref r), .val (.int (7 : Int32)), .val (.ref b811), .unset, .unset, .unset] [(.long q0), (.int (5 : Int32)), (.ref b811)])) _
      refine XS.bipush X837.here hx rfl (hb hby at_358) ?_
      refine XS.lushr X837.here hx rfl (hb hby at_360) rfl ?_
      refine XS.l2i X837.here hx rfl (hb hby at_361) rfl ?_
      refine XS.i2b X837.here hx rfl (hb hby at_362) rfl ?_
      exact kg)
    clear pr838
    obtain ⟨cla840, Ara840, qa840, Sa840, Ma840, Ha840, Ga840⟩ := id V837
    have hin841 : ¬ ((5 : Int32) < 0 ∨ cla840.slots.size ≤ ((5 : Int32)).toNatClampNeg) := inb_of Sa840 ⟨by decide, by decide⟩
    obtain ⟨T841, h841, X841, e841, W841, st841⟩ := stB X837 hx hZ e837 Ara840 (j := (5 : Int32)) hin841 (g := (mkF mM 363 #[.val (.int p1), .val (.int p2), .val (.long q0), .second, .val (.ref b2), .val (.long (5478551163 : Int64)), .second, .val (.int z245), .val (.ref r), .val (.int (7 : Int32)), .val (.ref b811), .unset, .unset, .unset] [(.int ((q0.toUInt64 >>> ((40 : Int32) &&& 0x3f).toInt64.toUInt64).toInt64).toInt32.toInt8.toInt32), (.int (5 : Int32)), (.ref b811)])) rfl rfl (hb hby at_363)
    have V841 : Arv Z h841 b811 k811 .byte (7 : Int32) [(.int (nar .byte q0.toInt32.toInt8.toInt32)), (.int (nar .byte ((q0.toUInt64 >>> ((8 : Int32) &&& 0x3f).toInt64.toUInt64).toInt64).toInt32.toInt8.toInt32)), (.int (nar .byte ((q0.toUInt64 >>> ((16 : Int32) &&& 0x3f).toInt64.toUInt64).toInt64).toInt32.toInt8.toInt32)), (.int (nar .byte ((q0.toUInt64 >>> ((24 : Int32) &&& 0x3f).toInt64.toUInt64).toInt64).toInt32.toInt8.toInt32)), (.int (nar .byte ((q0.toUInt64 >>> ((32 : Int32) &&& 0x3f).toInt64.toUInt64).toInt64).toInt32.toInt8.toInt32)), (.int (nar .byte ((q0.toUInt64 >>> ((40 : Int32) &&& 0x3f).toInt64.toUInt64).toInt64).toInt32.toInt8.toInt32)), (.int (0 : Int32))] (.int (0 : Int32)) := Arv.set Ara840 qa840 Sa840 Ma840 Ha840 Ga840 (fits_nar_byte _) W841 5 rfl (Nat.le_of_ble_eq_true rfl)
    have N841 := Fr.snoc X841 N837 gn813
    have pr842 : ∀ tg, Steps pP.tables eE below (T841.setTop (mkF mM 364 #[.val (.int p1), .val (.int p2), .val (.long q0), .second, .val (.ref b2), .val (.long (5478551163 : Int64)), .second, .val (.int z245), .val (.ref r), .val (.int (7 : Int32)), .val (.ref b811), .unset, .unset, .unset] [])) tg → Steps pP.tables eE below (s₁.setTop (entryFrame mM #[(.int p1), (.int p2), (.long q0)] maxLocals)) tg := fun tg kg => pr839 _ (st841 _ kg)
    clear pr839 st841 X837 e837
    have pr843 : ∀ tg, Steps pP.tables eE below (T841.setTop (mkF mM 381 #[.val (.int p1), .val (.int p2), .val (.long q0), .second, .val (.ref b2), .val (.long (5478551163 : Int64)), .second, .val (.int z245), .val (.ref r), .val (.int (7 : Int32)), .val (.ref b811), .unset, .unset, .unset] [(.int ((q0.toUInt64 >>> ((48 : Int32) &&& 0x3f).toInt64.toUInt64).toInt64).toInt32.toInt8.toInt32), (.int (6 : Int32)), (.ref b811)])) tg → Steps pP.tables eE below (s₁.setTop (entryFrame mM #[(.int p1), (.int p2), (.long q0)] maxLocals)) tg := fun tg kg => pr842 _ (by
      show Steps pP.tables eE below (T841.setTop (mkF mM 364 #[.val (.int p1), .val (.int p2), .val (.long q0), .second, .val (.ref b2), .val (.long (5478551163 : Int64)), .second, .val (.int z245), .val (.ref r), .val (.int (7 : Int32)), .val (.ref b811), .unset, .unset, .unset] [])) _
      refine XS.iload X841.here hx rfl (hb hby at_364) rfl ?_
      refine XS.bipush X841.here hx rfl (hb hby at_366) ?_
      refine XS.icmpNo X841.here hx rfl (hb hby at_368) rfl (tlt (by decide)).2.2.2 ?_
      refine XS.aload X841.here hx rfl (hb hby at_371) rfl rfl ?_
      refine XS.bipush X841.here hx rfl (hb hby at_373) ?_
      refine XS.lloadN X841.here hx rfl (hb hby at_375) rfl ?_
      show Steps pP.tables eE below (T841.setTop (mkF mM 376 #[.val (.int p1), .val (.int p2), .val (.long q0), .second, .val (.ref b2), .val (.long (5478551163 : Int64)), .second, .val (.int z245), .val (.ref r), .val (.int (7 : Int32)), .val (.ref b811), .unset, .unset, .unset] [(.long q0), (.int (6 : Int32)), (.ref b811)])) _
      refine XS.bipush X841.here hx rfl (hb hby at_376) ?_
      refine XS.lushr X841.here hx rfl (hb hby at_378) rfl ?_
      refine XS.l2i X841.here hx rfl (hb hby at_379) rfl ?_
      refine XS.i2b X841.here hx rfl (hb hby at_380) rfl ?_
      exact kg)
    clear pr842
    obtain ⟨cla844, Ara844, qa844, Sa844, Ma844, Ha844, Ga844⟩ := id V841
    have hin845 : ¬ ((6 : Int32) < 0 ∨ cla844.slots.size ≤ ((6 : Int32)).toNatClampNeg) := inb_of Sa844 ⟨by decide, by decide⟩
    obtain ⟨T845, h845, X845, e845, W845, st845⟩ := stB X841 hx hZ e841 Ara844 (j := (6 : Int32)) hin845 (g := (mkF mM 381 #[.val (.int p1), .val (.int p2), .val (.long q0), .second, .val (.ref b2), .val (.long (5478551163 : Int64)), .second, .val (.int z245), .val (.ref r), .val (.int (7 : Int32)), .val (.ref b811), .unset, .unset, .unset] [(.int ((q0.toUInt64 >>> ((48 : Int32) &&& 0x3f).toInt64.toUInt64).toInt64).toInt32.toInt8.toInt32), (.int (6 : Int32)), (.ref b811)])) rfl rfl (hb hby at_381)
    have V845 : Arv Z h845 b811 k811 .byte (7 : Int32) [(.int (nar .byte q0.toInt32.toInt8.toInt32)), (.int (nar .byte ((q0.toUInt64 >>> ((8 : Int32) &&& 0x3f).toInt64.toUInt64).toInt64).toInt32.toInt8.toInt32)), (.int (nar .byte ((q0.toUInt64 >>> ((16 : Int32) &&& 0x3f).toInt64.toUInt64).toInt64).toInt32.toInt8.toInt32)), (.int (nar .byte ((q0.toUInt64 >>> ((24 : Int32) &&& 0x3f).toInt64.toUInt64).toInt64).toInt32.toInt8.toInt32)), (.int (nar .byte ((q0.toUInt64 >>> ((32 : Int32) &&& 0x3f).toInt64.toUInt64).toInt64).toInt32.toInt8.toInt32)), (.int (nar .byte ((q0.toUInt64 >>> ((40 : Int32) &&& 0x3f).toInt64.toUInt64).toInt64).toInt32.toInt8.toInt32)), (.int (nar .byte ((q0.toUInt64 >>> ((48 : Int32) &&& 0x3f).toInt64.toUInt64).toInt64).toInt32.toInt8.toInt32))] (.int (0 : Int32)) := Arv.set Ara844 qa844 Sa844 Ma844 Ha844 Ga844 (fits_nar_byte _) W845 6 rfl (Nat.le_of_ble_eq_true rfl)
    have N845 := Fr.snoc X845 N841 gn813
    have pr846 : ∀ tg, Steps pP.tables eE below (T845.setTop (mkF mM 382 #[.val (.int p1), .val (.int p2), .val (.long q0), .second, .val (.ref b2), .val (.long (5478551163 : Int64)), .second, .val (.int z245), .val (.ref r), .val (.int (7 : Int32)), .val (.ref b811), .unset, .unset, .unset] [])) tg → Steps pP.tables eE below (s₁.setTop (entryFrame mM #[(.int p1), (.int p2), (.long q0)] maxLocals)) tg := fun tg kg => pr843 _ (st845 _ kg)
    clear pr843 st845 X841 e841
    have c847 := (Old.wr (Old.wr (Old.wr (Old.wr (Old.wr (Old.wr (Old.wr (Old.ext c817 E811) W821 gn813) W825 gn813) W829 gn813) W833 gn813) W837 gn813) W841 gn813) W845 gn813)
    have pr848 : ∀ tg, Steps pP.tables eE below (T845.setTop (mkF mM 386 #[.val (.int p1), .val (.int p2), .val (.long q0), .second, .val (.ref b2), .val (.long (5478551163 : Int64)), .second, .val (.int z245), .val (.ref r), .val (.int (7 : Int32)), .val (.ref b811), .unset, .unset, .unset] [(.ref b811), (.ref r)])) tg → Steps pP.tables eE below (s₁.setTop (entryFrame mM #[(.int p1), (.int p2), (.long q0)] maxLocals)) tg := fun tg kg => pr846 _ (by
      show Steps pP.tables eE below (T845.setTop (mkF mM 382 #[.val (.int p1), .val (.int p2), .val (.long q0), .second, .val (.ref b2), .val (.long (5478551163 : Int64)), .second, .val (.int z245), .val (.ref r), .val (.int (7 : Int32)), .val (.ref b811), .unset, .unset, .unset] [])) _
      refine XS.aload X845.here hx rfl (hb hby at_382) rfl rfl ?_
      refine XS.aload X845.here hx rfl (hb hby at_384) rfl rfl ?_
      exact kg)
    clear pr846
    have c849 := (Nat.le_trans (Nat.le_trans (Nat.le_trans (Nat.le_trans (Nat.le_trans (Nat.le_trans (Nat.le_trans (Nat.le_trans c814 E811.1) (Keep.of_wr W821).1) (Keep.of_wr W825).1) (Keep.of_wr W829).1) (Keep.of_wr W833).1) (Keep.of_wr W837).1) (Keep.of_wr W841).1) (Keep.of_wr W845).1)
    obtain ⟨Ls850, X850, N850⟩ := own_hide X845 N845
    clear X845 N845
    obtain ⟨cq851, kq851, qa851, qb851, qc851⟩ := isOf hZ e845 (Exa.ext (c847).2 hx2)
    obtain ⟨_, _, ⟨T851, L851, kk851, nn851⟩, -, X851, ⟨Lc851, hQ851, l851, y851, z851⟩, st851⟩ := X850.virtualBack hx (y := (⟨"com/example/tesserae/tesserae/value/Vr", "pad", "([B)[B"⟩ : MethodName)) (z := (⟨"com/example/tesserae/tesserae/value/Vr", "pad", "([B)[B"⟩ : MethodName)) hown (mvT hZ (hw _ (List.mem_of_getElem? (i := 75) rfl))) (mvT hZ (hw _ (List.mem_of_getElem? (i := 76) rfl))) (notFace_of_selects (args := #[]) (mvT hZ (hw _ (List.mem_of_getElem? (i := 78) rfl)))) (mvT hZ (hw _ (List.mem_of_getElem? (i := 78) rfl))) (mvT hZ (hw _ (List.mem_of_getElem? (i := 77) rfl))) (by decide) (backOf (W := 0) (rm37 l Z a0 hw [] r tx pv a_UI b811 k811 (nar .byte q0.toInt32.toInt8.toInt32) (nar .byte ((q0.toUInt64 >>> ((8 : Int32) &&& 0x3f).toInt64.toUInt64).toInt64).toInt32.toInt8.toInt32) (nar .byte ((q0.toUInt64 >>> ((16 : Int32) &&& 0x3f).toInt64.toUInt64).toInt64).toInt32.toInt8.toInt32) (nar .byte ((q0.toUInt64 >>> ((24 : Int32) &&& 0x3f).toInt64.toUInt64).toInt64).toInt32.toInt8.toInt32) (nar .byte ((q0.toUInt64 >>> ((32 : Int32) &&& 0x3f).toInt64.toUInt64).toInt64).toInt32.toInt8.toInt32) (nar .byte ((q0.toUInt64 >>> ((40 : Int32) &&& 0x3f).toInt64.toUInt64).toInt64).toInt32.toInt8.toInt32) (nar .byte ((q0.toUInt64 >>> ((48 : Int32) &&& 0x3f).toInt64.toUInt64).toInt64).toInt32.toInt8.toInt32) h845 n0 c849 c847 S_UI hx2 hx3 hx4 V845) hZ (hw _ (List.mem_of_getElem? (i := 79) rfl)) (hw _ (List.mem_of_getElem? (i := 3) rfl)) (by decide) (by decide)) qa851 qc851 (g := (mkF mM 386 #[.val (.int p1), .val (.int p2), .val (.long q0), .second, .val (.ref b2), .val (.long (5478551163 : Int64)), .second, .val (.int z245), .val (.ref r), .val (.int (7 : Int32)), .val (.ref b811), .unset, .unset, .unset] [(.ref b811), (.ref r)])) rfl (by rw [hml]; rfl) (Steps.refl _) (argsL := [(.ref b811)]) (rest := []) (lenOf pd_2 rfl) rfl (by show 2 * 0 + _ ≤ _; exact Nat.le_of_eq rfl) (hb hby at_386) (fun _ _ => ⟨rfl, e845, (by decide : 2 + 1 ≤ _), (by decide : 41 + 8 ≤ _)⟩)
    dsimp only [Pt.U, Pt.locs, Pt.cells, Pt.slots] at X851 l851 y851 z851 st851 hQ851
    subst l851 y851 z851
    obtain ⟨bp851, rfl, ge851, Nq851, K851, kp851, V851⟩ := hQ851
    have N851 := Fr.app N850 Nq851
    have c853 := (Arv.other (Arv.other (Arv.other (Arv.other (Arv.other (Arv.other (Arv.other (Arv.ext V242 E811) W821 ne812) W825 ne812) W829 ne812) W833 ne812) W837 ne812) W841 ne812) W845 ne812)
    have ne852 : b2 ≠ bp851 := Nat.ne_of_lt (Nat.lt_of_lt_of_le (c853).lt ge851)
    have ne854 : b811 ≠ bp851 := Nat.ne_of_lt (Nat.lt_of_lt_of_le (V845).lt ge851)
    have gn855 : n0 ≤ bp851 := Nat.le_trans c849 ge851
    have c857 := (Keep.wr (Keep.wr (Keep.wr (Keep.wr (Keep.wr (Keep.wr (Keep.wr (Keep.ext c816 E811) W821 (Or.inr gs815)) W825 (Or.inr gs815)) W829 (Or.inr gs815)) W833 (Or.inr gs815)) W837 (Or.inr gs815)) W841 (Or.inr gs815)) W845 (Or.inr gs815))
    have gs856 : h0.size ≤ bp851 := Nat.le_trans c857.1 ge851
    have pr858 : ∀ tg, Steps pP.tables eE below (T851.setTop (mkF mM 389 #[.val (.int p1), .val (.int p2), .val (.long q0), .second, .val (.ref b2), .val (.long (5478551163 : Int64)), .second, .val (.int z245), .val (.ref r), .val (.int (7 : Int32)), .val (.ref b811), .unset, .unset, .unset] [(.ref bp851)])) tg → Steps pP.tables eE below (s₁.setTop (entryFrame mM #[(.int p1), (.int p2), (.long q0)] maxLocals)) tg := fun tg kg => pr848 _ (st851.trans kg)
    clear pr848 st851 X850 e845
    have c859 := (Arv.keep V845 K851 nin0)
    obtain ⟨cla860, Ara860, qa860, Sa860, Ma860, Ha860, Ga860⟩ := id c859
    have hin861 : ¬ ((0 : Int32) < 0 ∨ cla860.slots.size ≤ ((0 : Int32)).toNatClampNeg) := inb_of Sa860 ⟨by decide, by decide⟩
    have hat861 : cla860.slots[((0 : Int32)).toNatClampNeg]? = some (.int (nar .byte q0.toInt32.toInt8.toInt32)) := Has.at Ha860 hin861 rfl
    have pr862 : ∀ tg, Steps pP.tables eE below (T851.setTop (mkF mM 405 #[.val (.int p1), .val (.int p2), .val (.long q0), .second, .val (.ref b2), .val (.long (5478551163 : Int64)), .second, .val (.int z245), .val (.ref r), .val (.int (7 : Int32)), .val (.ref b811), .val (.ref bp851), .unset, .unset] [(.int (7 : Int32)), (.int (0 : Int32)), (.long q0), (.ref b811)])) tg → Steps pP.tables eE below (s₁.setTop (entryFrame mM #[(.int p1), (.int p2), (.long q0)] maxLocals)) tg := fun tg kg => pr858 _ (by
      show Steps pP.tables eE below (T851.setTop (mkF mM 389 #[.val (.int p1), .val (.int p2), .val (.long q0), .second, .val (.ref b2), .val (.long (5478551163 : Int64)), .second, .val (.int z245), .val (.ref r), .val (.int (7 : Int32)), .val (.ref b811), .unset, .unset, .unset] [(.ref bp851)])) _
      refine XS.astore X851.here hx rfl (hb hby at_389) rfl rfl (l' := #[.val (.int p1), .val (.int p2), .val (.long q0), .second, .val (.ref b2), .val (.long (5478551163 : Int64)), .second, .val (.int z245), .val (.ref r), .val (.int (7 : Int32)), .val (.ref b811), .val (.ref bp851), .unset, .unset]) rfl ?_
      refine XS.aload X851.here hx rfl (hb hby at_391) rfl rfl ?_
      show Steps pP.tables eE below (T851.setTop (mkF mM 393 #[.val (.int p1), .val (.int p2), .val (.long q0), .second, .val (.ref b2), .val (.long (5478551163 : Int64)), .second, .val (.int z245), .val (.ref r), .val (.int (7 : Int32)), .val (.ref b811), .val (.ref bp851), .unset, .unset] [(.ref b811)])) _
      refine X851.arraylength hx Ara860.1 (State.isArrayOf_alike hZ.alike Ara860.2.1) (g := (mkF mM 393 #[.val (.int p1), .val (.int p2), .val (.long q0), .second, .val (.ref b2), .val (.long (5478551163 : Int64)), .second, .val (.int z245), .val (.ref r), .val (.int (7 : Int32)), .val (.ref b811), .val (.ref bp851), .unset, .unset] [(.ref b811)])) rfl rfl (hb hby at_393) _ ?_
      rw [len_of Sa860 Ma860]
      show Steps pP.tables eE below (T851.setTop (mkF mM 394 #[.val (.int p1), .val (.int p2), .val (.long q0), .second, .val (.ref b2), .val (.long (5478551163 : Int64)), .second, .val (.int z245), .val (.ref r), .val (.int (7 : Int32)), .val (.ref b811), .val (.ref bp851), .unset, .unset] [(.int (7 : Int32))])) _
      refine XS.iload X851.here hx rfl (hb hby at_394) rfl ?_
      refine XS.icmpNo X851.here hx rfl (hb hby at_396) rfl (teq (by decide)).2 ?_
      refine XS.aload X851.here hx rfl (hb hby at_399) rfl rfl ?_
      refine XS.lloadN X851.here hx rfl (hb hby at_401) rfl ?_
      refine XS.iconst X851.here hx rfl (hb hby at_402) ?_
      refine XS.iload X851.here hx rfl (hb hby at_403) rfl ?_
      exact kg)
    clear pr858
    have c863 := (Nat.le_trans c849 K851.1)
    obtain ⟨Ls864, X864, N864⟩ := own_hide X851 N851
    clear X851 N851
    obtain ⟨_, _, ⟨T865, L865, kk865, nn865⟩, -, X865, ⟨Lc865, hQ865, l865, y865, z865⟩, st865⟩ := Jvm.LawKit.callS X864 hx (y := (⟨"com/example/tesserae/tesserae/value/VrPadPinLaw", "sameAt", "([BJII)Z"⟩ : MethodName)) hown (mvT hZ (hw _ (List.mem_of_getElem? (i := 95) rfl))) (mvT hZ (hw _ (List.mem_of_getElem? (i := 96) rfl))) (mvT hZ (hw _ (List.mem_of_getElem? (i := 97) rfl))) (mvT hZ (hw _ (List.mem_of_getElem? (i := 98) rfl))) (by decide) (backOf (W := 0) (rm5 l Z a0 hw [] b811 q0 (0 : Int32) (7 : Int32) cla860 (nar .byte q0.toInt32.toInt8.toInt32) T851.heap n0 c863 (by decide) Ara860 hin861 hat861 (own_w0 q0)) hZ (hw _ (List.mem_of_getElem? (i := 98) rfl)) (hw _ (List.mem_of_getElem? (i := 97) rfl)) (by decide) (by decide)) (g := (mkF mM 405 #[.val (.int p1), .val (.int p2), .val (.long q0), .second, .val (.ref b2), .val (.long (5478551163 : Int64)), .second, .val (.int z245), .val (.ref r), .val (.int (7 : Int32)), .val (.ref b811), .val (.ref bp851), .unset, .unset] [(.int (7 : Int32)), (.int (0 : Int32)), (.long q0), (.ref b811)])) rfl (by rw [hml]; rfl) (argsL := [(.ref b811), (.long q0), (.int (0 : Int32)), (.int (7 : Int32))]) (rest := []) (lenOf pd_3 rfl) rfl (by show 2 * 0 + _ ≤ _; exact Nat.le_of_eq rfl) (hb hby at_405) (fun _ _ => ⟨rfl, rfl, (by decide : 3 + 0 ≤ _), (by decide : 49 + 0 ≤ _)⟩)
    dsimp only [Pt.U, Pt.locs, Pt.cells, Pt.slots] at X865 l865 y865 z865 st865 hQ865
    subst l865 y865 z865
    obtain ⟨rfl, Nq865, e865⟩ := hQ865
    have N865 := Fr.app N864 Nq865
    have pr866 : ∀ tg, Steps pP.tables eE below (T865.setTop (mkF mM 408 #[.val (.int p1), .val (.int p2), .val (.long q0), .second, .val (.ref b2), .val (.long (5478551163 : Int64)), .second, .val (.int z245), .val (.ref r), .val (.int (7 : Int32)), .val (.ref b811), .val (.ref bp851), .unset, .unset] [(.int (1 : Int32))])) tg → Steps pP.tables eE below (s₁.setTop (entryFrame mM #[(.int p1), (.int p2), (.long q0)] maxLocals)) tg := fun tg kg => pr862 _ (st865 _ kg)
    clear pr862 st865 X864
    have hin867 : ¬ ((1 : Int32) < 0 ∨ cla860.slots.size ≤ ((1 : Int32)).toNatClampNeg) := inb_of Sa860 ⟨by decide, by decide⟩
    have hat867 : cla860.slots[((1 : Int32)).toNatClampNeg]? = some (.int (nar .byte ((q0.toUInt64 >>> ((8 : Int32) &&& 0x3f).toInt64.toUInt64).toInt64).toInt32.toInt8.toInt32)) := Has.at Ha860 hin867 rfl
    have pr868 : ∀ tg, Steps pP.tables eE below (T865.setTop (mkF mM 417 #[.val (.int p1), .val (.int p2), .val (.long q0), .second, .val (.ref b2), .val (.long (5478551163 : Int64)), .second, .val (.int z245), .val (.ref r), .val (.int (7 : Int32)), .val (.ref b811), .val (.ref bp851), .unset, .unset] [(.int (7 : Int32)), (.int (1 : Int32)), (.long q0), (.ref b811)])) tg → Steps pP.tables eE below (s₁.setTop (entryFrame mM #[(.int p1), (.int p2), (.long q0)] maxLocals)) tg := fun tg kg => pr866 _ (by
      show Steps pP.tables eE below (T865.setTop (mkF mM 408 #[.val (.int p1), .val (.int p2), .val (.long q0), .second, .val (.ref b2), .val (.long (5478551163 : Int64)), .second, .val (.int z245), .val (.ref r), .val (.int (7 : Int32)), .val (.ref b811), .val (.ref bp851), .unset, .unset] [(.int (1 : Int32))])) _
      refine XS.ifNo X865.here hx rfl (hb hby at_408) rfl ((if0 _ _).trans (feq (by decide)).1) ?_
      refine XS.aload X865.here hx rfl (hb hby at_411) rfl rfl ?_
      refine XS.lloadN X865.here hx rfl (hb hby at_413) rfl ?_
      refine XS.iconst X865.here hx rfl (hb hby at_414) ?_
      refine XS.iload X865.here hx rfl (hb hby at_415) rfl ?_
      exact kg)
    clear pr866
    obtain ⟨Ls869, X869, N869⟩ := own_hide X865 N865
    clear X865 N865
    obtain ⟨_, _, ⟨T870, L870, kk870, nn870⟩, -, X870, ⟨Lc870, hQ870, l870, y870, z870⟩, st870⟩ := Jvm.LawKit.callS X869 hx (y := (⟨"com/example/tesserae/tesserae/value/VrPadPinLaw", "sameAt", "([BJII)Z"⟩ : MethodName)) hown (mvT hZ (hw _ (List.mem_of_getElem? (i := 95) rfl))) (mvT hZ (hw _ (List.mem_of_getElem? (i := 96) rfl))) (mvT hZ (hw _ (List.mem_of_getElem? (i := 97) rfl))) (mvT hZ (hw _ (List.mem_of_getElem? (i := 98) rfl))) (by decide) (backOf (W := 0) (rm5 l Z a0 hw [] b811 q0 (1 : Int32) (7 : Int32) cla860 (nar .byte ((q0.toUInt64 >>> ((8 : Int32) &&& 0x3f).toInt64.toUInt64).toInt64).toInt32.toInt8.toInt32) T851.heap n0 c863 (by decide) Ara860 hin867 hat867 (own_w1 q0)) hZ (hw _ (List.mem_of_getElem? (i := 98) rfl)) (hw _ (List.mem_of_getElem? (i := 97) rfl)) (by decide) (by decide)) (g := (mkF mM 417 #[.val (.int p1), .val (.int p2), .val (.long q0), .second, .val (.ref b2), .val (.long (5478551163 : Int64)), .second, .val (.int z245), .val (.ref r), .val (.int (7 : Int32)), .val (.ref b811), .val (.ref bp851), .unset, .unset] [(.int (7 : Int32)), (.int (1 : Int32)), (.long q0), (.ref b811)])) rfl (by rw [hml]; rfl) (argsL := [(.ref b811), (.long q0), (.int (1 : Int32)), (.int (7 : Int32))]) (rest := []) (lenOf pd_3 rfl) rfl (by show 2 * 0 + _ ≤ _; exact Nat.le_of_eq rfl) (hb hby at_417) (fun _ _ => ⟨rfl, e865, (by decide : 3 + 0 ≤ _), (by decide : 49 + 0 ≤ _)⟩)
    dsimp only [Pt.U, Pt.locs, Pt.cells, Pt.slots] at X870 l870 y870 z870 st870 hQ870
    subst l870 y870 z870
    obtain ⟨rfl, Nq870, e870⟩ := hQ870
    have N870 := Fr.app N869 Nq870
    have pr871 : ∀ tg, Steps pP.tables eE below (T870.setTop (mkF mM 420 #[.val (.int p1), .val (.int p2), .val (.long q0), .second, .val (.ref b2), .val (.long (5478551163 : Int64)), .second, .val (.int z245), .val (.ref r), .val (.int (7 : Int32)), .val (.ref b811), .val (.ref bp851), .unset, .unset] [(.int (1 : Int32))])) tg → Steps pP.tables eE below (s₁.setTop (entryFrame mM #[(.int p1), (.int p2), (.long q0)] maxLocals)) tg := fun tg kg => pr868 _ (st870 _ kg)
    clear pr868 st870 X869 e865
    have hin872 : ¬ ((2 : Int32) < 0 ∨ cla860.slots.size ≤ ((2 : Int32)).toNatClampNeg) := inb_of Sa860 ⟨by decide, by decide⟩
    have hat872 : cla860.slots[((2 : Int32)).toNatClampNeg]? = some (.int (nar .byte ((q0.toUInt64 >>> ((16 : Int32) &&& 0x3f).toInt64.toUInt64).toInt64).toInt32.toInt8.toInt32)) := Has.at Ha860 hin872 rfl
    have pr873 : ∀ tg, Steps pP.tables eE below (T870.setTop (mkF mM 429 #[.val (.int p1), .val (.int p2), .val (.long q0), .second, .val (.ref b2), .val (.long (5478551163 : Int64)), .second, .val (.int z245), .val (.ref r), .val (.int (7 : Int32)), .val (.ref b811), .val (.ref bp851), .unset, .unset] [(.int (7 : Int32)), (.int (2 : Int32)), (.long q0), (.ref b811)])) tg → Steps pP.tables eE below (s₁.setTop (entryFrame mM #[(.int p1), (.int p2), (.long q0)] maxLocals)) tg := fun tg kg => pr871 _ (by
      show Steps pP.tables eE below (T870.setTop (mkF mM 420 #[.val (.int p1), .val (.int p2), .val (.long q0), .second, .val (.ref b2), .val (.long (5478551163 : Int64)), .second, .val (.int z245), .val (.ref r), .val (.int (7 : Int32)), .val (.ref b811), .val (.ref bp851), .unset, .unset] [(.int (1 : Int32))])) _
      refine XS.ifNo X870.here hx rfl (hb hby at_420) rfl ((if0 _ _).trans (feq (by decide)).1) ?_
      refine XS.aload X870.here hx rfl (hb hby at_423) rfl rfl ?_
      refine XS.lloadN X870.here hx rfl (hb hby at_425) rfl ?_
      refine XS.iconst X870.here hx rfl (hb hby at_426) ?_
      refine XS.iload X870.here hx rfl (hb hby at_427) rfl ?_
      exact kg)
    clear pr871
    obtain ⟨Ls874, X874, N874⟩ := own_hide X870 N870
    clear X870 N870
    obtain ⟨_, _, ⟨T875, L875, kk875, nn875⟩, -, X875, ⟨Lc875, hQ875, l875, y875, z875⟩, st875⟩ := Jvm.LawKit.callS X874 hx (y := (⟨"com/example/tesserae/tesserae/value/VrPadPinLaw", "sameAt", "([BJII)Z"⟩ : MethodName)) hown (mvT hZ (hw _ (List.mem_of_getElem? (i := 95) rfl))) (mvT hZ (hw _ (List.mem_of_getElem? (i := 96) rfl))) (mvT hZ (hw _ (List.mem_of_getElem? (i := 97) rfl))) (mvT hZ (hw _ (List.mem_of_getElem? (i := 98) rfl))) (by decide) (backOf (W := 0) (rm5 l Z a0 hw [] b811 q0 (2 : Int32) (7 : Int32) cla860 (nar .byte ((q0.toUInt64 >>> ((16 : Int32) &&& 0x3f).toInt64.toUInt64).toInt64).toInt32.toInt8.toInt32) T851.heap n0 c863 (by decide) Ara860 hin872 hat872 (own_w2 q0)) hZ (hw _ (List.mem_of_getElem? (i := 98) rfl)) (hw _ (List.mem_of_getElem? (i := 97) rfl)) (by decide) (by decide)) (g := (mkF mM 429 #[.val (.int p1), .val (.int p2), .val (.long q0), .second, .val (.ref b2), .val (.long (5478551163 : Int64)), .second, .val (.int z245), .val (.ref r), .val (.int (7 : Int32)), .val (.ref b811), .val (.ref bp851), .unset, .unset] [(.int (7 : Int32)), (.int (2 : Int32)), (.long q0), (.ref b811)])) rfl (by rw [hml]; rfl) (argsL := [(.ref b811), (.long q0), (.int (2 : Int32)), (.int (7 : Int32))]) (rest := []) (lenOf pd_3 rfl) rfl (by show 2 * 0 + _ ≤ _; exact Nat.le_of_eq rfl) (hb hby at_429) (fun _ _ => ⟨rfl, e870, (by decide : 3 + 0 ≤ _), (by decide : 49 + 0 ≤ _)⟩)
    dsimp only [Pt.U, Pt.locs, Pt.cells, Pt.slots] at X875 l875 y875 z875 st875 hQ875
    subst l875 y875 z875
    obtain ⟨rfl, Nq875, e875⟩ := hQ875
    have N875 := Fr.app N874 Nq875
    have pr876 : ∀ tg, Steps pP.tables eE below (T875.setTop (mkF mM 432 #[.val (.int p1), .val (.int p2), .val (.long q0), .second, .val (.ref b2), .val (.long (5478551163 : Int64)), .second, .val (.int z245), .val (.ref r), .val (.int (7 : Int32)), .val (.ref b811), .val (.ref bp851), .unset, .unset] [(.int (1 : Int32))])) tg → Steps pP.tables eE below (s₁.setTop (entryFrame mM #[(.int p1), (.int p2), (.long q0)] maxLocals)) tg := fun tg kg => pr873 _ (st875 _ kg)
    clear pr873 st875 X874 e870
    have hin877 : ¬ ((3 : Int32) < 0 ∨ cla860.slots.size ≤ ((3 : Int32)).toNatClampNeg) := inb_of Sa860 ⟨by decide, by decide⟩
    have hat877 : cla860.slots[((3 : Int32)).toNatClampNeg]? = some (.int (nar .byte ((q0.toUInt64 >>> ((24 : Int32) &&& 0x3f).toInt64.toUInt64).toInt64).toInt32.toInt8.toInt32)) := Has.at Ha860 hin877 rfl
    have pr878 : ∀ tg, Steps pP.tables eE below (T875.setTop (mkF mM 441 #[.val (.int p1), .val (.int p2), .val (.long q0), .second, .val (.ref b2), .val (.long (5478551163 : Int64)), .second, .val (.int z245), .val (.ref r), .val (.int (7 : Int32)), .val (.ref b811), .val (.ref bp851), .unset, .unset] [(.int (7 : Int32)), (.int (3 : Int32)), (.long q0), (.ref b811)])) tg → Steps pP.tables eE below (s₁.setTop (entryFrame mM #[(.int p1), (.int p2), (.long q0)] maxLocals)) tg := fun tg kg => pr876 _ (by
      show Steps pP.tables eE below (T875.setTop (mkF mM 432 #[.val (.int p1), .val (.int p2), .val (.long q0), .second, .val (.ref b2), .val (.long (5478551163 : Int64)), .second, .val (.int z245), .val (.ref r), .val (.int (7 : Int32)), .val (.ref b811), .val (.ref bp851), .unset, .unset] [(.int (1 : Int32))])) _
      refine XS.ifNo X875.here hx rfl (hb hby at_432) rfl ((if0 _ _).trans (feq (by decide)).1) ?_
      refine XS.aload X875.here hx rfl (hb hby at_435) rfl rfl ?_
      refine XS.lloadN X875.here hx rfl (hb hby at_437) rfl ?_
      refine XS.iconst X875.here hx rfl (hb hby at_438) ?_
      refine XS.iload X875.here hx rfl (hb hby at_439) rfl ?_
      exact kg)
    clear pr876
    obtain ⟨Ls879, X879, N879⟩ := own_hide X875 N875
    clear X875 N875
    obtain ⟨_, _, ⟨T880, L880, kk880, nn880⟩, -, X880, ⟨Lc880, hQ880, l880, y880, z880⟩, st880⟩ := Jvm.LawKit.callS X879 hx (y := (⟨"com/example/tesserae/tesserae/value/VrPadPinLaw", "sameAt", "([BJII)Z"⟩ : MethodName)) hown (mvT hZ (hw _ (List.mem_of_getElem? (i := 95) rfl))) (mvT hZ (hw _ (List.mem_of_getElem? (i := 96) rfl))) (mvT hZ (hw _ (List.mem_of_getElem? (i := 97) rfl))) (mvT hZ (hw _ (List.mem_of_getElem? (i := 98) rfl))) (by decide) (backOf (W := 0) (rm5 l Z a0 hw [] b811 q0 (3 : Int32) (7 : Int32) cla860 (nar .byte ((q0.toUInt64 >>> ((24 : Int32) &&& 0x3f).toInt64.toUInt64).toInt64).toInt32.toInt8.toInt32) T851.heap n0 c863 (by decide) Ara860 hin877 hat877 (own_w3 q0)) hZ (hw _ (List.mem_of_getElem? (i := 98) rfl)) (hw _ (List.mem_of_getElem? (i := 97) rfl)) (by decide) (by decide)) (g := (mkF mM 441 #[.val (.int p1), .val (.int p2), .val (.long q0), .second, .val (.ref b2), .val (.long (5478551163 : Int64)), .second, .val (.int z245), .val (.ref r), .val (.int (7 : Int32)), .val (.ref b811), .val (.ref bp851), .unset, .unset] [(.int (7 : Int32)), (.int (3 : Int32)), (.long q0), (.ref b811)])) rfl (by rw [hml]; rfl) (argsL := [(.ref b811), (.long q0), (.int (3 : Int32)), (.int (7 : Int32))]) (rest := []) (lenOf pd_3 rfl) rfl (by show 2 * 0 + _ ≤ _; exact Nat.le_of_eq rfl) (hb hby at_441) (fun _ _ => ⟨rfl, e875, (by decide : 3 + 0 ≤ _), (by decide : 49 + 0 ≤ _)⟩)
    dsimp only [Pt.U, Pt.locs, Pt.cells, Pt.slots] at X880 l880 y880 z880 st880 hQ880
    subst l880 y880 z880
    obtain ⟨rfl, Nq880, e880⟩ := hQ880
    have N880 := Fr.app N879 Nq880
    have pr881 : ∀ tg, Steps pP.tables eE below (T880.setTop (mkF mM 444 #[.val (.int p1), .val (.int p2), .val (.long q0), .second, .val (.ref b2), .val (.long (5478551163 : Int64)), .second, .val (.int z245), .val (.ref r), .val (.int (7 : Int32)), .val (.ref b811), .val (.ref bp851), .unset, .unset] [(.int (1 : Int32))])) tg → Steps pP.tables eE below (s₁.setTop (entryFrame mM #[(.int p1), (.int p2), (.long q0)] maxLocals)) tg := fun tg kg => pr878 _ (st880 _ kg)
    clear pr878 st880 X879 e875
    have hin882 : ¬ ((4 : Int32) < 0 ∨ cla860.slots.size ≤ ((4 : Int32)).toNatClampNeg) := inb_of Sa860 ⟨by decide, by decide⟩
    have hat882 : cla860.slots[((4 : Int32)).toNatClampNeg]? = some (.int (nar .byte ((q0.toUInt64 >>> ((32 : Int32) &&& 0x3f).toInt64.toUInt64).toInt64).toInt32.toInt8.toInt32)) := Has.at Ha860 hin882 rfl
    have pr883 : ∀ tg, Steps pP.tables eE below (T880.setTop (mkF mM 453 #[.val (.int p1), .val (.int p2), .val (.long q0), .second, .val (.ref b2), .val (.long (5478551163 : Int64)), .second, .val (.int z245), .val (.ref r), .val (.int (7 : Int32)), .val (.ref b811), .val (.ref bp851), .unset, .unset] [(.int (7 : Int32)), (.int (4 : Int32)), (.long q0), (.ref b811)])) tg → Steps pP.tables eE below (s₁.setTop (entryFrame mM #[(.int p1), (.int p2), (.long q0)] maxLocals)) tg := fun tg kg => pr881 _ (by
      show Steps pP.tables eE below (T880.setTop (mkF mM 444 #[.val (.int p1), .val (.int p2), .val (.long q0), .second, .val (.ref b2), .val (.long (5478551163 : Int64)), .second, .val (.int z245), .val (.ref r), .val (.int (7 : Int32)), .val (.ref b811), .val (.ref bp851), .unset, .unset] [(.int (1 : Int32))])) _
      refine XS.ifNo X880.here hx rfl (hb hby at_444) rfl ((if0 _ _).trans (feq (by decide)).1) ?_
      refine XS.aload X880.here hx rfl (hb hby at_447) rfl rfl ?_
      refine XS.lloadN X880.here hx rfl (hb hby at_449) rfl ?_
      refine XS.iconst X880.here hx rfl (hb hby at_450) ?_
      refine XS.iload X880.here hx rfl (hb hby at_451) rfl ?_
      exact kg)
    clear pr881
    obtain ⟨Ls884, X884, N884⟩ := own_hide X880 N880
    clear X880 N880
    obtain ⟨_, _, ⟨T885, L885, kk885, nn885⟩, -, X885, ⟨Lc885, hQ885, l885, y885, z885⟩, st885⟩ := Jvm.LawKit.callS X884 hx (y := (⟨"com/example/tesserae/tesserae/value/VrPadPinLaw", "sameAt", "([BJII)Z"⟩ : MethodName)) hown (mvT hZ (hw _ (List.mem_of_getElem? (i := 95) rfl))) (mvT hZ (hw _ (List.mem_of_getElem? (i := 96) rfl))) (mvT hZ (hw _ (List.mem_of_getElem? (i := 97) rfl))) (mvT hZ (hw _ (List.mem_of_getElem? (i := 98) rfl))) (by decide) (backOf (W := 0) (rm5 l Z a0 hw [] b811 q0 (4 : Int32) (7 : Int32) cla860 (nar .byte ((q0.toUInt64 >>> ((32 : Int32) &&& 0x3f).toInt64.toUInt64).toInt64).toInt32.toInt8.toInt32) T851.heap n0 c863 (by decide) Ara860 hin882 hat882 (own_w4 q0)) hZ (hw _ (List.mem_of_getElem? (i := 98) rfl)) (hw _ (List.mem_of_getElem? (i := 97) rfl)) (by decide) (by decide)) (g := (mkF mM 453 #[.val (.int p1), .val (.int p2), .val (.long q0), .second, .val (.ref b2), .val (.long (5478551163 : Int64)), .second, .val (.int z245), .val (.ref r), .val (.int (7 : Int32)), .val (.ref b811), .val (.ref bp851), .unset, .unset] [(.int (7 : Int32)), (.int (4 : Int32)), (.long q0), (.ref b811)])) rfl (by rw [hml]; rfl) (argsL := [(.ref b811), (.long q0), (.int (4 : Int32)), (.int (7 : Int32))]) (rest := []) (lenOf pd_3 rfl) rfl (by show 2 * 0 + _ ≤ _; exact Nat.le_of_eq rfl) (hb hby at_453) (fun _ _ => ⟨rfl, e880, (by decide : 3 + 0 ≤ _), (by decide : 49 + 0 ≤ _)⟩)
    dsimp only [Pt.U, Pt.locs, Pt.cells, Pt.slots] at X885 l885 y885 z885 st885 hQ885
    subst l885 y885 z885
    obtain ⟨rfl, Nq885, e885⟩ := hQ885
    have N885 := Fr.app N884 Nq885
    have pr886 : ∀ tg, Steps pP.tables eE below (T885.setTop (mkF mM 456 #[.val (.int p1), .val (.int p2), .val (.long q0), .second, .val (.ref b2), .val (.long (5478551163 : Int64)), .second, .val (.int z245), .val (.ref r), .val (.int (7 : Int32)), .val (.ref b811), .val (.ref bp851), .unset, .unset] [(.int (1 : Int32))])) tg → Steps pP.tables eE below (s₁.setTop (entryFrame mM #[(.int p1), (.int p2), (.long q0)] maxLocals)) tg := fun tg kg => pr883 _ (st885 _ kg)
    clear pr883 st885 X884 e880
    have hin887 : ¬ ((5 : Int32) < 0 ∨ cla860.slots.size ≤ ((5 : Int32)).toNatClampNeg) := inb_of Sa860 ⟨by decide, by decide⟩
    have hat887 : cla860.slots[((5 : Int32)).toNatClampNeg]? = some (.int (nar .byte ((q0.toUInt64 >>> ((40 : Int32) &&& 0x3f).toInt64.toUInt64).toInt64).toInt32.toInt8.toInt32)) := Has.at Ha860 hin887 rfl
    have pr888 : ∀ tg, Steps pP.tables eE below (T885.setTop (mkF mM 465 #[.val (.int p1), .val (.int p2), .val (.long q0), .second, .val (.ref b2), .val (.long (5478551163 : Int64)), .second, .val (.int z245), .val (.ref r), .val (.int (7 : Int32)), .val (.ref b811), .val (.ref bp851), .unset, .unset] [(.int (7 : Int32)), (.int (5 : Int32)), (.long q0), (.ref b811)])) tg → Steps pP.tables eE below (s₁.setTop (entryFrame mM #[(.int p1), (.int p2), (.long q0)] maxLocals)) tg := fun tg kg => pr886 _ (by
      show Steps pP.tables eE below (T885.setTop (mkF mM 456 #[.val (.int p1), .val (.int p2), .val (.long q0), .second, .val (.ref b2), .val (.long (5478551163 : Int64)), .second, .val (.int z245), .val (.ref r), .val (.int (7 : Int32)), .val (.ref b811), .val (.ref bp851), .unset, .unset] [(.int (1 : Int32))])) _
      refine XS.ifNo X885.here hx rfl (hb hby at_456) rfl ((if0 _ _).trans (feq (by decide)).1) ?_
      refine XS.aload X885.here hx rfl (hb hby at_459) rfl rfl ?_
      refine XS.lloadN X885.here hx rfl (hb hby at_461) rfl ?_
      refine XS.iconst X885.here hx rfl (hb hby at_462) ?_
      refine XS.iload X885.here hx rfl (hb hby at_463) rfl ?_
      exact kg)
    clear pr886
    obtain ⟨Ls889, X889, N889⟩ := own_hide X885 N885
    clear X885 N885
    obtain ⟨_, _, ⟨T890, L890, kk890, nn890⟩, -, X890, ⟨Lc890, hQ890, l890, y890, z890⟩, st890⟩ := Jvm.LawKit.callS X889 hx (y := (⟨"com/example/tesserae/tesserae/value/VrPadPinLaw", "sameAt", "([BJII)Z"⟩ : MethodName)) hown (mvT hZ (hw _ (List.mem_of_getElem? (i := 95) rfl))) (mvT hZ (hw _ (List.mem_of_getElem? (i := 96) rfl))) (mvT hZ (hw _ (List.mem_of_getElem? (i := 97) rfl))) (mvT hZ (hw _ (List.mem_of_getElem? (i := 98) rfl))) (by decide) (backOf (W := 0) (rm5 l Z a0 hw [] b811 q0 (5 : Int32) (7 : Int32) cla860 (nar .byte ((q0.toUInt64 >>> ((40 : Int32) &&& 0x3f).toInt64.toUInt64).toInt64).toInt32.toInt8.toInt32) T851.heap n0 c863 (by decide) Ara860 hin887 hat887 (own_w5 q0)) hZ (hw _ (List.mem_of_getElem? (i := 98) rfl)) (hw _ (List.mem_of_getElem? (i := 97) rfl)) (by decide) (by decide)) (g := (mkF mM 465 #[.val (.int p1), .val (.int p2), .val (.long q0), .second, .val (.ref b2), .val (.long (5478551163 : Int64)), .second, .val (.int z245), .val (.ref r), .val (.int (7 : Int32)), .val (.ref b811), .val (.ref bp851), .unset, .unset] [(.int (7 : Int32)), (.int (5 : Int32)), (.long q0), (.ref b811)])) rfl (by rw [hml]; rfl) (argsL := [(.ref b811), (.long q0), (.int (5 : Int32)), (.int (7 : Int32))]) (rest := []) (lenOf pd_3 rfl) rfl (by show 2 * 0 + _ ≤ _; exact Nat.le_of_eq rfl) (hb hby at_465) (fun _ _ => ⟨rfl, e885, (by decide : 3 + 0 ≤ _), (by decide : 49 + 0 ≤ _)⟩)
    dsimp only [Pt.U, Pt.locs, Pt.cells, Pt.slots] at X890 l890 y890 z890 st890 hQ890
    subst l890 y890 z890
    obtain ⟨rfl, Nq890, e890⟩ := hQ890
    have N890 := Fr.app N889 Nq890
    have pr891 : ∀ tg, Steps pP.tables eE below (T890.setTop (mkF mM 468 #[.val (.int p1), .val (.int p2), .val (.long q0), .second, .val (.ref b2), .val (.long (5478551163 : Int64)), .second, .val (.int z245), .val (.ref r), .val (.int (7 : Int32)), .val (.ref b811), .val (.ref bp851), .unset, .unset] [(.int (1 : Int32))])) tg → Steps pP.tables eE below (s₁.setTop (entryFrame mM #[(.int p1), (.int p2), (.long q0)] maxLocals)) tg := fun tg kg => pr888 _ (st890 _ kg)
    clear pr888 st890 X889 e885
    have hin892 : ¬ ((6 : Int32) < 0 ∨ cla860.slots.size ≤ ((6 : Int32)).toNatClampNeg) := inb_of Sa860 ⟨by decide, by decide⟩
    have hat892 : cla860.slots[((6 : Int32)).toNatClampNeg]? = some (.int (nar .byte ((q0.toUInt64 >>> ((48 : Int32) &&& 0x3f).toInt64.toUInt64).toInt64).toInt32.toInt8.toInt32)) := Has.at Ha860 hin892 rfl
    have pr893 : ∀ tg, Steps pP.tables eE below (T890.setTop (mkF mM 478 #[.val (.int p1), .val (.int p2), .val (.long q0), .second, .val (.ref b2), .val (.long (5478551163 : Int64)), .second, .val (.int z245), .val (.ref r), .val (.int (7 : Int32)), .val (.ref b811), .val (.ref bp851), .unset, .unset] [(.int (7 : Int32)), (.int (6 : Int32)), (.long q0), (.ref b811)])) tg → Steps pP.tables eE below (s₁.setTop (entryFrame mM #[(.int p1), (.int p2), (.long q0)] maxLocals)) tg := fun tg kg => pr891 _ (by
      show Steps pP.tables eE below (T890.setTop (mkF mM 468 #[.val (.int p1), .val (.int p2), .val (.long q0), .second, .val (.ref b2), .val (.long (5478551163 : Int64)), .second, .val (.int z245), .val (.ref r), .val (.int (7 : Int32)), .val (.ref b811), .val (.ref bp851), .unset, .unset] [(.int (1 : Int32))])) _
      refine XS.ifNo X890.here hx rfl (hb hby at_468) rfl ((if0 _ _).trans (feq (by decide)).1) ?_
      refine XS.aload X890.here hx rfl (hb hby at_471) rfl rfl ?_
      refine XS.lloadN X890.here hx rfl (hb hby at_473) rfl ?_
      refine XS.bipush X890.here hx rfl (hb hby at_474) ?_
      refine XS.iload X890.here hx rfl (hb hby at_476) rfl ?_
      exact kg)
    clear pr891
    obtain ⟨Ls894, X894, N894⟩ := own_hide X890 N890
    clear X890 N890
    obtain ⟨_, _, ⟨T895, L895, kk895, nn895⟩, -, X895, ⟨Lc895, hQ895, l895, y895, z895⟩, st895⟩ := Jvm.LawKit.callS X894 hx (y := (⟨"com/example/tesserae/tesserae/value/VrPadPinLaw", "sameAt", "([BJII)Z"⟩ : MethodName)) hown (mvT hZ (hw _ (List.mem_of_getElem? (i := 95) rfl))) (mvT hZ (hw _ (List.mem_of_getElem? (i := 96) rfl))) (mvT hZ (hw _ (List.mem_of_getElem? (i := 97) rfl))) (mvT hZ (hw _ (List.mem_of_getElem? (i := 98) rfl))) (by decide) (backOf (W := 0) (rm5 l Z a0 hw [] b811 q0 (6 : Int32) (7 : Int32) cla860 (nar .byte ((q0.toUInt64 >>> ((48 : Int32) &&& 0x3f).toInt64.toUInt64).toInt64).toInt32.toInt8.toInt32) T851.heap n0 c863 (by decide) Ara860 hin892 hat892 (own_w6 q0)) hZ (hw _ (List.mem_of_getElem? (i := 98) rfl)) (hw _ (List.mem_of_getElem? (i := 97) rfl)) (by decide) (by decide)) (g := (mkF mM 478 #[.val (.int p1), .val (.int p2), .val (.long q0), .second, .val (.ref b2), .val (.long (5478551163 : Int64)), .second, .val (.int z245), .val (.ref r), .val (.int (7 : Int32)), .val (.ref b811), .val (.ref bp851), .unset, .unset] [(.int (7 : Int32)), (.int (6 : Int32)), (.long q0), (.ref b811)])) rfl (by rw [hml]; rfl) (argsL := [(.ref b811), (.long q0), (.int (6 : Int32)), (.int (7 : Int32))]) (rest := []) (lenOf pd_3 rfl) rfl (by show 2 * 0 + _ ≤ _; exact Nat.le_of_eq rfl) (hb hby at_478) (fun _ _ => ⟨rfl, e890, (by decide : 3 + 0 ≤ _), (by decide : 49 + 0 ≤ _)⟩)
    dsimp only [Pt.U, Pt.locs, Pt.cells, Pt.slots] at X895 l895 y895 z895 st895 hQ895
    subst l895 y895 z895
    obtain ⟨rfl, Nq895, e895⟩ := hQ895
    have N895 := Fr.app N894 Nq895
    have pr896 : ∀ tg, Steps pP.tables eE below (T895.setTop (mkF mM 481 #[.val (.int p1), .val (.int p2), .val (.long q0), .second, .val (.ref b2), .val (.long (5478551163 : Int64)), .second, .val (.int z245), .val (.ref r), .val (.int (7 : Int32)), .val (.ref b811), .val (.ref bp851), .unset, .unset] [(.int (1 : Int32))])) tg → Steps pP.tables eE below (s₁.setTop (entryFrame mM #[(.int p1), (.int p2), (.long q0)] maxLocals)) tg := fun tg kg => pr893 _ (st895 _ kg)
    clear pr893 st895 X894 e890
    have pr897 : ∀ tg, Steps pP.tables eE below (T895.setTop (mkF mM 525 #[.val (.int p1), .val (.int p2), .val (.long q0), .second, .val (.ref b2), .val (.long (5478551163 : Int64)), .second, .val (.int z245), .val (.ref r), .val (.int (7 : Int32)), .val (.ref b811), .val (.ref bp851), .val (.int (1 : Int32)), .unset] [(.int (lcmpW ((((5478551163 : Int64).toUInt64 >>> (z245 &&& 0x3f).toInt64.toUInt64).toInt64) &&& (1 : Int64)) (0 : Int64)))])) tg → Steps pP.tables eE below (s₁.setTop (entryFrame mM #[(.int p1), (.int p2), (.long q0)] maxLocals)) tg := fun tg kg => pr896 _ (by
      show Steps pP.tables eE below (T895.setTop (mkF mM 481 #[.val (.int p1), .val (.int p2), .val (.long q0), .second, .val (.ref b2), .val (.long (5478551163 : Int64)), .second, .val (.int z245), .val (.ref r), .val (.int (7 : Int32)), .val (.ref b811), .val (.ref bp851), .unset, .unset] [(.int (1 : Int32))])) _
      refine XS.ifNo X895.here hx rfl (hb hby at_481) rfl ((if0 _ _).trans (feq (by decide)).1) ?_
      refine XS.iconst X895.here hx rfl (hb hby at_484) ?_
      refine XS.goto X895.here hx rfl (pc0 := 485) (pc' := 489) rfl (hb hby at_485) (by decide) (by decide) ?_
      refine XS.istore X895.here hx rfl (hb hby at_489) rfl (l' := #[.val (.int p1), .val (.int p2), .val (.long q0), .second, .val (.ref b2), .val (.long (5478551163 : Int64)), .second, .val (.int z245), .val (.ref r), .val (.int (7 : Int32)), .val (.ref b811), .val (.ref bp851), .val (.int (1 : Int32)), .unset]) rfl ?_
      refine XS.iload X895.here hx rfl (hb hby at_491) rfl ?_
      refine XS.iconst X895.here hx rfl (hb hby at_493) ?_
      show Steps pP.tables eE below (T895.setTop (mkF mM 494 #[.val (.int p1), .val (.int p2), .val (.long q0), .second, .val (.ref b2), .val (.long (5478551163 : Int64)), .second, .val (.int z245), .val (.ref r), .val (.int (7 : Int32)), .val (.ref b811), .val (.ref bp851), .val (.int (1 : Int32)), .unset] [(.int (1 : Int32)), (.int (7 : Int32))])) _
      refine XS.iand X895.here hx rfl (hb hby at_494) rfl ?_
      refine XS.ifYes X895.here hx rfl (pc0 := 495) (pc' := 516) rfl (hb hby at_495) rfl ((if0 _ _).trans (feq (by decide)).2) (by decide) (by decide) ?_
      refine XS.lload X895.here hx rfl (hb hby at_516) rfl ?_
      refine XS.iload X895.here hx rfl (hb hby at_518) rfl ?_
      refine XS.lushr X895.here hx rfl (hb hby at_520) rfl ?_
      refine XS.lconst X895.here hx rfl (hb hby at_521) ?_
      show Steps pP.tables eE below (T895.setTop (mkF mM 522 #[.val (.int p1), .val (.int p2), .val (.long q0), .second, .val (.ref b2), .val (.long (5478551163 : Int64)), .second, .val (.int z245), .val (.ref r), .val (.int (7 : Int32)), .val (.ref b811), .val (.ref bp851), .val (.int (1 : Int32)), .unset] [(.long (1 : Int64)), (.long (((5478551163 : Int64).toUInt64 >>> (z245 &&& 0x3f).toInt64.toUInt64).toInt64))])) _
      refine XS.land X895.here hx rfl (hb hby at_522) rfl ?_
      refine XS.lconst X895.here hx rfl (hb hby at_523) ?_
      refine XS.lcmp X895.here hx rfl (hb hby at_524) rfl ?_
      exact kg)
    clear pr896
    obtain ⟨j899, hj899, st900⟩ : ∃ (j899 : Int32), j899 = (if ((((5478551163 : Int64).toUInt64 >>> (z245 &&& 0x3f).toInt64.toUInt64).toInt64) &&& (1 : Int64)) = (0 : Int64) then (0 : Int32) else (32 : Int32)) ∧ ∀ tg, Steps pP.tables eE below (T895.setTop (mkF mM 534 #[.val (.int p1), .val (.int p2), .val (.long q0), .second, .val (.ref b2), .val (.long (5478551163 : Int64)), .second, .val (.int z245), .val (.ref r), .val (.int (7 : Int32)), .val (.ref b811), .val (.ref bp851), .val (.int (1 : Int32)), .unset] [(.int j899)])) tg → Steps pP.tables eE below (T895.setTop (mkF mM 525 #[.val (.int p1), .val (.int p2), .val (.long q0), .second, .val (.ref b2), .val (.long (5478551163 : Int64)), .second, .val (.int z245), .val (.ref r), .val (.int (7 : Int32)), .val (.ref b811), .val (.ref bp851), .val (.int (1 : Int32)), .unset] [(.int (lcmpW ((((5478551163 : Int64).toUInt64 >>> (z245 &&& 0x3f).toInt64.toUInt64).toInt64) &&& (1 : Int64)) (0 : Int64)))])) tg := by
      by_cases hj525_898 : ((((5478551163 : Int64).toUInt64 >>> (z245 &&& 0x3f).toInt64.toUInt64).toInt64) &&& (1 : Int64)) = (0 : Int64)
      ·
        refine ⟨(0 : Int32), (by rw [if_pos hj525_898]), fun tg kg => ?_⟩
        show Steps pP.tables eE below (T895.setTop (mkF mM 525 #[.val (.int p1), .val (.int p2), .val (.long q0), .second, .val (.ref b2), .val (.long (5478551163 : Int64)), .second, .val (.int z245), .val (.ref r), .val (.int (7 : Int32)), .val (.ref b811), .val (.ref bp851), .val (.int (1 : Int32)), .unset] [(.int (lcmpW ((((5478551163 : Int64).toUInt64 >>> (z245 &&& 0x3f).toInt64.toUInt64).toInt64) &&& (1 : Int64)) (0 : Int64)))])) _
        refine XS.ifYes X895.here hx rfl (pc0 := 525) (pc' := 533) rfl (hb hby at_525) rfl ((if0 _ _).trans (teq ((lw_eq _ _).mpr hj525_898)).1) (by decide) (by decide) ?_
        refine XS.iconst X895.here hx rfl (hb hby at_533) ?_
        exact kg
      ·
        refine ⟨(32 : Int32), (by rw [if_neg hj525_898]), fun tg kg => ?_⟩
        show Steps pP.tables eE below (T895.setTop (mkF mM 525 #[.val (.int p1), .val (.int p2), .val (.long q0), .second, .val (.ref b2), .val (.long (5478551163 : Int64)), .second, .val (.int z245), .val (.ref r), .val (.int (7 : Int32)), .val (.ref b811), .val (.ref bp851), .val (.int (1 : Int32)), .unset] [(.int (lcmpW ((((5478551163 : Int64).toUInt64 >>> (z245 &&& 0x3f).toInt64.toUInt64).toInt64) &&& (1 : Int64)) (0 : Int64)))])) _
        refine XS.ifNo X895.here hx rfl (hb hby at_525) rfl ((if0 _ _).trans (feq (fun q => hj525_898 ((lw_eq _ _).mp q))).1) ?_
        refine XS.bipush X895.here hx rfl (hb hby at_528) ?_
        refine XS.goto X895.here hx rfl (pc0 := 530) (pc' := 534) rfl (hb hby at_530) (by decide) (by decide) ?_
        exact kg
    have pr901 : ∀ tg, Steps pP.tables eE below (T895.setTop (mkF mM 534 #[.val (.int p1), .val (.int p2), .val (.long q0), .second, .val (.ref b2), .val (.long (5478551163 : Int64)), .second, .val (.int z245), .val (.ref r), .val (.int (7 : Int32)), .val (.ref b811), .val (.ref bp851), .val (.int (1 : Int32)), .unset] [(.int j899)])) tg → Steps pP.tables eE below (s₁.setTop (entryFrame mM #[(.int p1), (.int p2), (.long q0)] maxLocals)) tg := fun tg kg => pr897 _ (st900 _ kg)
    clear pr897 st900
    obtain ⟨cla902, Ara902, qa902, Sa902, Ma902, Ha902, Ga902⟩ := id V851
    have hin903 : ¬ ((0 : Int32) < 0 ∨ cla902.slots.size ≤ ((0 : Int32)).toNatClampNeg) := inb_of Sa902 ⟨by decide, by decide⟩
    have hat903 : cla902.slots[((0 : Int32)).toNatClampNeg]? = some (.int (nar .byte q0.toInt32.toInt8.toInt32)) := Has.at Ha902 hin903 rfl
    have pr904 : ∀ tg, Steps pP.tables eE below (T895.setTop (mkF mM 564 #[.val (.int p1), .val (.int p2), .val (.long q0), .second, .val (.ref b2), .val (.long (5478551163 : Int64)), .second, .val (.int z245), .val (.ref r), .val (.int (7 : Int32)), .val (.ref b811), .val (.ref bp851), .val (.int (1 : Int32)), .val (.int j899)] [(.int (7 : Int32)), (.int (0 : Int32)), (.long q0), (.ref bp851)])) tg → Steps pP.tables eE below (s₁.setTop (entryFrame mM #[(.int p1), (.int p2), (.long q0)] maxLocals)) tg := fun tg kg => pr901 _ (by
      show Steps pP.tables eE below (T895.setTop (mkF mM 534 #[.val (.int p1), .val (.int p2), .val (.long q0), .second, .val (.ref b2), .val (.long (5478551163 : Int64)), .second, .val (.int z245), .val (.ref r), .val (.int (7 : Int32)), .val (.ref b811), .val (.ref bp851), .val (.int (1 : Int32)), .unset] [(.int j899)])) _
      refine XS.istore X895.here hx rfl (hb hby at_534) rfl (l' := #[.val (.int p1), .val (.int p2), .val (.long q0), .second, .val (.ref b2), .val (.long (5478551163 : Int64)), .second, .val (.int z245), .val (.ref r), .val (.int (7 : Int32)), .val (.ref b811), .val (.ref bp851), .val (.int (1 : Int32)), .val (.int j899)]) rfl ?_
      refine XS.iload X895.here hx rfl (hb hby at_536) rfl ?_
      refine XS.ifNo X895.here hx rfl (hb hby at_538) rfl ((if0 _ _).trans (feq (by decide)).1) ?_
      refine XS.aload X895.here hx rfl (hb hby at_541) rfl rfl ?_
      refine XS.aload X895.here hx rfl (hb hby at_543) rfl rfl ?_
      show Steps pP.tables eE below (T895.setTop (mkF mM 545 #[.val (.int p1), .val (.int p2), .val (.long q0), .second, .val (.ref b2), .val (.long (5478551163 : Int64)), .second, .val (.int z245), .val (.ref r), .val (.int (7 : Int32)), .val (.ref b811), .val (.ref bp851), .val (.int (1 : Int32)), .val (.int j899)] [(.ref b811), (.ref bp851)])) _
      refine Jvm.RoadKit.acmp (g := (mkF mM 545 #[.val (.int p1), .val (.int p2), .val (.long q0), .second, .val (.ref b2), .val (.long (5478551163 : Int64)), .second, .val (.int z245), .val (.ref r), .val (.int (7 : Int32)), .val (.ref b811), .val (.ref bp851), .val (.int (1 : Int32)), .val (.int j899)] [(.ref b811), (.ref bp851)])) X895 hx rfl rfl rfl (pc0 := 545) (pc' := 548) (same := false) rfl (hb hby at_545) rfl (decide_eq_false fun q => (Ne.symm ne854) (Value.ref.inj q)) (by decide) (by decide) ?_
      show Steps pP.tables eE below (T895.setTop (mkF mM 548 #[.val (.int p1), .val (.int p2), .val (.long q0), .second, .val (.ref b2), .val (.long (5478551163 : Int64)), .second, .val (.int z245), .val (.ref r), .val (.int (7 : Int32)), .val (.ref b811), .val (.ref bp851), .val (.int (1 : Int32)), .val (.int j899)] [])) _
      refine XS.aload X895.here hx rfl (hb hby at_548) rfl rfl ?_
      show Steps pP.tables eE below (T895.setTop (mkF mM 550 #[.val (.int p1), .val (.int p2), .val (.long q0), .second, .val (.ref b2), .val (.long (5478551163 : Int64)), .second, .val (.int z245), .val (.ref r), .val (.int (7 : Int32)), .val (.ref b811), .val (.ref bp851), .val (.int (1 : Int32)), .val (.int j899)] [(.ref bp851)])) _
      refine X895.arraylength hx (by rw [e895]; exact Ara902.1) (State.isArrayOf_alike hZ.alike Ara902.2.1) (g := (mkF mM 550 #[.val (.int p1), .val (.int p2), .val (.long q0), .second, .val (.ref b2), .val (.long (5478551163 : Int64)), .second, .val (.int z245), .val (.ref r), .val (.int (7 : Int32)), .val (.ref b811), .val (.ref bp851), .val (.int (1 : Int32)), .val (.int j899)] [(.ref bp851)])) rfl rfl (hb hby at_550) _ ?_
      rw [len_of Sa902 Ma902]
      show Steps pP.tables eE below (T895.setTop (mkF mM 551 #[.val (.int p1), .val (.int p2), .val (.long q0), .second, .val (.ref b2), .val (.long (5478551163 : Int64)), .second, .val (.int z245), .val (.ref r), .val (.int (7 : Int32)), .val (.ref b811), .val (.ref bp851), .val (.int (1 : Int32)), .val (.int j899)] [(.int (8 : Int32))])) _
      refine XS.iload X895.here hx rfl (hb hby at_551) rfl ?_
      refine XS.iconst X895.here hx rfl (hb hby at_553) ?_
      refine XS.iadd X895.here hx rfl (hb hby at_554) rfl ?_
      refine XS.icmpNo X895.here hx rfl (hb hby at_555) rfl (teq (by decide)).2 ?_
      refine XS.aload X895.here hx rfl (hb hby at_558) rfl rfl ?_
      refine XS.lloadN X895.here hx rfl (hb hby at_560) rfl ?_
      show Steps pP.tables eE below (T895.setTop (mkF mM 561 #[.val (.int p1), .val (.int p2), .val (.long q0), .second, .val (.ref b2), .val (.long (5478551163 : Int64)), .second, .val (.int z245), .val (.ref r), .val (.int (7 : Int32)), .val (.ref b811), .val (.ref bp851), .val (.int (1 : Int32)), .val (.int j899)] [(.long q0), (.ref bp851)])) _
      refine XS.iconst X895.here hx rfl (hb hby at_561) ?_
      refine XS.iload X895.here hx rfl (hb hby at_562) rfl ?_
      exact kg)
    clear pr901
    obtain ⟨Ls905, X905, N905⟩ := own_hide X895 N895
    clear X895 N895
    obtain ⟨_, _, ⟨T906, L906, kk906, nn906⟩, -, X906, ⟨Lc906, hQ906, l906, y906, z906⟩, st906⟩ := Jvm.LawKit.callS X905 hx (y := (⟨"com/example/tesserae/tesserae/value/VrPadPinLaw", "sameAt", "([BJII)Z"⟩ : MethodName)) hown (mvT hZ (hw _ (List.mem_of_getElem? (i := 95) rfl))) (mvT hZ (hw _ (List.mem_of_getElem? (i := 96) rfl))) (mvT hZ (hw _ (List.mem_of_getElem? (i := 97) rfl))) (mvT hZ (hw _ (List.mem_of_getElem? (i := 98) rfl))) (by decide) (backOf (W := 0) (rm5 l Z a0 hw [] bp851 q0 (0 : Int32) (7 : Int32) cla902 (nar .byte q0.toInt32.toInt8.toInt32) T851.heap n0 c863 (by decide) Ara902 hin903 hat903 (own_w0 q0)) hZ (hw _ (List.mem_of_getElem? (i := 98) rfl)) (hw _ (List.mem_of_getElem? (i := 97) rfl)) (by decide) (by decide)) (g := (mkF mM 564 #[.val (.int p1), .val (.int p2), .val (.long q0), .second, .val (.ref b2), .val (.long (5478551163 : Int64)), .second, .val (.int z245), .val (.ref r), .val (.int (7 : Int32)), .val (.ref b811), .val (.ref bp851), .val (.int (1 : Int32)), .val (.int j899)] [(.int (7 : Int32)), (.int (0 : Int32)), (.long q0), (.ref bp851)])) rfl (by rw [hml]; rfl) (argsL := [(.ref bp851), (.long q0), (.int (0 : Int32)), (.int (7 : Int32))]) (rest := []) (lenOf pd_3 rfl) rfl (by show 2 * 0 + _ ≤ _; exact Nat.le_of_eq rfl) (hb hby at_564) (fun _ _ => ⟨rfl, e895, (by decide : 3 + 0 ≤ _), (by decide : 49 + 0 ≤ _)⟩)
    dsimp only [Pt.U, Pt.locs, Pt.cells, Pt.slots] at X906 l906 y906 z906 st906 hQ906
    subst l906 y906 z906
    obtain ⟨rfl, Nq906, e906⟩ := hQ906
    have N906 := Fr.app N905 Nq906
    have pr907 : ∀ tg, Steps pP.tables eE below (T906.setTop (mkF mM 567 #[.val (.int p1), .val (.int p2), .val (.long q0), .second, .val (.ref b2), .val (.long (5478551163 : Int64)), .second, .val (.int z245), .val (.ref r), .val (.int (7 : Int32)), .val (.ref b811), .val (.ref bp851), .val (.int (1 : Int32)), .val (.int j899)] [(.int (1 : Int32))])) tg → Steps pP.tables eE below (s₁.setTop (entryFrame mM #[(.int p1), (.int p2), (.long q0)] maxLocals)) tg := fun tg kg => pr904 _ (st906 _ kg)
    clear pr904 st906 X905 e895
    have hin908 : ¬ ((1 : Int32) < 0 ∨ cla902.slots.size ≤ ((1 : Int32)).toNatClampNeg) := inb_of Sa902 ⟨by decide, by decide⟩
    have hat908 : cla902.slots[((1 : Int32)).toNatClampNeg]? = some (.int (nar .byte ((q0.toUInt64 >>> ((8 : Int32) &&& 0x3f).toInt64.toUInt64).toInt64).toInt32.toInt8.toInt32)) := Has.at Ha902 hin908 rfl
    have pr909 : ∀ tg, Steps pP.tables eE below (T906.setTop (mkF mM 576 #[.val (.int p1), .val (.int p2), .val (.long q0), .second, .val (.ref b2), .val (.long (5478551163 : Int64)), .second, .val (.int z245), .val (.ref r), .val (.int (7 : Int32)), .val (.ref b811), .val (.ref bp851), .val (.int (1 : Int32)), .val (.int j899)] [(.int (7 : Int32)), (.int (1 : Int32)), (.long q0), (.ref bp851)])) tg → Steps pP.tables eE below (s₁.setTop (entryFrame mM #[(.int p1), (.int p2), (.long q0)] maxLocals)) tg := fun tg kg => pr907 _ (by
      show Steps pP.tables eE below (T906.setTop (mkF mM 567 #[.val (.int p1), .val (.int p2), .val (.long q0), .second, .val (.ref b2), .val (.long (5478551163 : Int64)), .second, .val (.int z245), .val (.ref r), .val (.int (7 : Int32)), .val (.ref b811), .val (.ref bp851), .val (.int (1 : Int32)), .val (.int j899)] [(.int (1 : Int32))])) _
      refine XS.ifNo X906.here hx rfl (hb hby at_567) rfl ((if0 _ _).trans (feq (by decide)).1) ?_
      refine XS.aload X906.here hx rfl (hb hby at_570) rfl rfl ?_
      refine XS.lloadN X906.here hx rfl (hb hby at_572) rfl ?_
      refine XS.iconst X906.here hx rfl (hb hby at_573) ?_
      refine XS.iload X906.here hx rfl (hb hby at_574) rfl ?_
      exact kg)
    clear pr907
    obtain ⟨Ls910, X910, N910⟩ := own_hide X906 N906
    clear X906 N906
    obtain ⟨_, _, ⟨T911, L911, kk911, nn911⟩, -, X911, ⟨Lc911, hQ911, l911, y911, z911⟩, st911⟩ := Jvm.LawKit.callS X910 hx (y := (⟨"com/example/tesserae/tesserae/value/VrPadPinLaw", "sameAt", "([BJII)Z"⟩ : MethodName)) hown (mvT hZ (hw _ (List.mem_of_getElem? (i := 95) rfl))) (mvT hZ (hw _ (List.mem_of_getElem? (i := 96) rfl))) (mvT hZ (hw _ (List.mem_of_getElem? (i := 97) rfl))) (mvT hZ (hw _ (List.mem_of_getElem? (i := 98) rfl))) (by decide) (backOf (W := 0) (rm5 l Z a0 hw [] bp851 q0 (1 : Int32) (7 : Int32) cla902 (nar .byte ((q0.toUInt64 >>> ((8 : Int32) &&& 0x3f).toInt64.toUInt64).toInt64).toInt32.toInt8.toInt32) T851.heap n0 c863 (by decide) Ara902 hin908 hat908 (own_w1 q0)) hZ (hw _ (List.mem_of_getElem? (i := 98) rfl)) (hw _ (List.mem_of_getElem? (i := 97) rfl)) (by decide) (by decide)) (g := (mkF mM 576 #[.val (.int p1), .val (.int p2), .val (.long q0), .second, .val (.ref b2), .val (.long (5478551163 : Int64)), .second, .val (.int z245), .val (.ref r), .val (.int (7 : Int32)), .val (.ref b811), .val (.ref bp851), .val (.int (1 : Int32)), .val (.int j899)] [(.int (7 : Int32)), (.int (1 : Int32)), (.long q0), (.ref bp851)])) rfl (by rw [hml]; rfl) (argsL := [(.ref bp851), (.long q0), (.int (1 : Int32)), (.int (7 : Int32))]) (rest := []) (lenOf pd_3 rfl) rfl (by show 2 * 0 + _ ≤ _; exact Nat.le_of_eq rfl) (hb hby at_576) (fun _ _ => ⟨rfl, e906, (by decide : 3 + 0 ≤ _), (by decide : 49 + 0 ≤ _)⟩)
    dsimp only [Pt.U, Pt.locs, Pt.cells, Pt.slots] at X911 l911 y911 z911 st911 hQ911
    subst l911 y911 z911
    obtain ⟨rfl, Nq911, e911⟩ := hQ911
    have N911 := Fr.app N910 Nq911
    have pr912 : ∀ tg, Steps pP.tables eE below (T911.setTop (mkF mM 579 #[.val (.int p1), .val (.int p2), .val (.long q0), .second, .val (.ref b2), .val (.long (5478551163 : Int64)), .second, .val (.int z245), .val (.ref r), .val (.int (7 : Int32)), .val (.ref b811), .val (.ref bp851), .val (.int (1 : Int32)), .val (.int j899)] [(.int (1 : Int32))])) tg → Steps pP.tables eE below (s₁.setTop (entryFrame mM #[(.int p1), (.int p2), (.long q0)] maxLocals)) tg := fun tg kg => pr909 _ (st911 _ kg)
    clear pr909 st911 X910 e906
    have hin913 : ¬ ((2 : Int32) < 0 ∨ cla902.slots.size ≤ ((2 : Int32)).toNatClampNeg) := inb_of Sa902 ⟨by decide, by decide⟩
    have hat913 : cla902.slots[((2 : Int32)).toNatClampNeg]? = some (.int (nar .byte ((q0.toUInt64 >>> ((16 : Int32) &&& 0x3f).toInt64.toUInt64).toInt64).toInt32.toInt8.toInt32)) := Has.at Ha902 hin913 rfl
    have pr914 : ∀ tg, Steps pP.tables eE below (T911.setTop (mkF mM 588 #[.val (.int p1), .val (.int p2), .val (.long q0), .second, .val (.ref b2), .val (.long (5478551163 : Int64)), .second, .val (.int z245), .val (.ref r), .val (.int (7 : Int32)), .val (.ref b811), .val (.ref bp851), .val (.int (1 : Int32)), .val (.int j899)] [(.int (7 : Int32)), (.int (2 : Int32)), (.long q0), (.ref bp851)])) tg → Steps pP.tables eE below (s₁.setTop (entryFrame mM #[(.int p1), (.int p2), (.long q0)] maxLocals)) tg := fun tg kg => pr912 _ (by
      show Steps pP.tables eE below (T911.setTop (mkF mM 579 #[.val (.int p1), .val (.int p2), .val (.long q0), .second, .val (.ref b2), .val (.long (5478551163 : Int64)), .second, .val (.int z245), .val (.ref r), .val (.int (7 : Int32)), .val (.ref b811), .val (.ref bp851), .val (.int (1 : Int32)), .val (.int j899)] [(.int (1 : Int32))])) _
      refine XS.ifNo X911.here hx rfl (hb hby at_579) rfl ((if0 _ _).trans (feq (by decide)).1) ?_
      refine XS.aload X911.here hx rfl (hb hby at_582) rfl rfl ?_
      refine XS.lloadN X911.here hx rfl (hb hby at_584) rfl ?_
      refine XS.iconst X911.here hx rfl (hb hby at_585) ?_
      refine XS.iload X911.here hx rfl (hb hby at_586) rfl ?_
      exact kg)
    clear pr912
    obtain ⟨Ls915, X915, N915⟩ := own_hide X911 N911
    clear X911 N911
    obtain ⟨_, _, ⟨T916, L916, kk916, nn916⟩, -, X916, ⟨Lc916, hQ916, l916, y916, z916⟩, st916⟩ := Jvm.LawKit.callS X915 hx (y := (⟨"com/example/tesserae/tesserae/value/VrPadPinLaw", "sameAt", "([BJII)Z"⟩ : MethodName)) hown (mvT hZ (hw _ (List.mem_of_getElem? (i := 95) rfl))) (mvT hZ (hw _ (List.mem_of_getElem? (i := 96) rfl))) (mvT hZ (hw _ (List.mem_of_getElem? (i := 97) rfl))) (mvT hZ (hw _ (List.mem_of_getElem? (i := 98) rfl))) (by decide) (backOf (W := 0) (rm5 l Z a0 hw [] bp851 q0 (2 : Int32) (7 : Int32) cla902 (nar .byte ((q0.toUInt64 >>> ((16 : Int32) &&& 0x3f).toInt64.toUInt64).toInt64).toInt32.toInt8.toInt32) T851.heap n0 c863 (by decide) Ara902 hin913 hat913 (own_w2 q0)) hZ (hw _ (List.mem_of_getElem? (i := 98) rfl)) (hw _ (List.mem_of_getElem? (i := 97) rfl)) (by decide) (by decide)) (g := (mkF mM 588 #[.val (.int p1), .val (.int p2), .val (.long q0), .second, .val (.ref b2), .val (.long (5478551163 : Int64)), .second, .val (.int z245), .val (.ref r), .val (.int (7 : Int32)), .val (.ref b811), .val (.ref bp851), .val (.int (1 : Int32)), .val (.int j899)] [(.int (7 : Int32)), (.int (2 : Int32)), (.long q0), (.ref bp851)])) rfl (by rw [hml]; rfl) (argsL := [(.ref bp851), (.long q0), (.int (2 : Int32)), (.int (7 : Int32))]) (rest := []) (lenOf pd_3 rfl) rfl (by show 2 * 0 + _ ≤ _; exact Nat.le_of_eq rfl) (hb hby at_588) (fun _ _ => ⟨rfl, e911, (by decide : 3 + 0 ≤ _), (by decide : 49 + 0 ≤ _)⟩)
    dsimp only [Pt.U, Pt.locs, Pt.cells, Pt.slots] at X916 l916 y916 z916 st916 hQ916
    subst l916 y916 z916
    obtain ⟨rfl, Nq916, e916⟩ := hQ916
    have N916 := Fr.app N915 Nq916
    have pr917 : ∀ tg, Steps pP.tables eE below (T916.setTop (mkF mM 591 #[.val (.int p1), .val (.int p2), .val (.long q0), .second, .val (.ref b2), .val (.long (5478551163 : Int64)), .second, .val (.int z245), .val (.ref r), .val (.int (7 : Int32)), .val (.ref b811), .val (.ref bp851), .val (.int (1 : Int32)), .val (.int j899)] [(.int (1 : Int32))])) tg → Steps pP.tables eE below (s₁.setTop (entryFrame mM #[(.int p1), (.int p2), (.long q0)] maxLocals)) tg := fun tg kg => pr914 _ (st916 _ kg)
    clear pr914 st916 X915 e911
    have hin918 : ¬ ((3 : Int32) < 0 ∨ cla902.slots.size ≤ ((3 : Int32)).toNatClampNeg) := inb_of Sa902 ⟨by decide, by decide⟩
    have hat918 : cla902.slots[((3 : Int32)).toNatClampNeg]? = some (.int (nar .byte ((q0.toUInt64 >>> ((24 : Int32) &&& 0x3f).toInt64.toUInt64).toInt64).toInt32.toInt8.toInt32)) := Has.at Ha902 hin918 rfl
    have pr919 : ∀ tg, Steps pP.tables eE below (T916.setTop (mkF mM 600 #[.val (.int p1), .val (.int p2), .val (.long q0), .second, .val (.ref b2), .val (.long (5478551163 : Int64)), .second, .val (.int z245), .val (.ref r), .val (.int (7 : Int32)), .val (.ref b811), .val (.ref bp851), .val (.int (1 : Int32)), .val (.int j899)] [(.int (7 : Int32)), (.int (3 : Int32)), (.long q0), (.ref bp851)])) tg → Steps pP.tables eE below (s₁.setTop (entryFrame mM #[(.int p1), (.int p2), (.long q0)] maxLocals)) tg := fun tg kg => pr917 _ (by
      show Steps pP.tables eE below (T916.setTop (mkF mM 591 #[.val (.int p1), .val (.int p2), .val (.long q0), .second, .val (.ref b2), .val (.long (5478551163 : Int64)), .second, .val (.int z245), .val (.ref r), .val (.int (7 : Int32)), .val (.ref b811), .val (.ref bp851), .val (.int (1 : Int32)), .val (.int j899)] [(.int (1 : Int32))])) _
      refine XS.ifNo X916.here hx rfl (hb hby at_591) rfl ((if0 _ _).trans (feq (by decide)).1) ?_
      refine XS.aload X916.here hx rfl (hb hby at_594) rfl rfl ?_
      refine XS.lloadN X916.here hx rfl (hb hby at_596) rfl ?_
      refine XS.iconst X916.here hx rfl (hb hby at_597) ?_
      refine XS.iload X916.here hx rfl (hb hby at_598) rfl ?_
      exact kg)
    clear pr917
    obtain ⟨Ls920, X920, N920⟩ := own_hide X916 N916
    clear X916 N916
    obtain ⟨_, _, ⟨T921, L921, kk921, nn921⟩, -, X921, ⟨Lc921, hQ921, l921, y921, z921⟩, st921⟩ := Jvm.LawKit.callS X920 hx (y := (⟨"com/example/tesserae/tesserae/value/VrPadPinLaw", "sameAt", "([BJII)Z"⟩ : MethodName)) hown (mvT hZ (hw _ (List.mem_of_getElem? (i := 95) rfl))) (mvT hZ (hw _ (List.mem_of_getElem? (i := 96) rfl))) (mvT hZ (hw _ (List.mem_of_getElem? (i := 97) rfl))) (mvT hZ (hw _ (List.mem_of_getElem? (i := 98) rfl))) (by decide) (backOf (W := 0) (rm5 l Z a0 hw [] bp851 q0 (3 : Int32) (7 : Int32) cla902 (nar .byte ((q0.toUInt64 >>> ((24 : Int32) &&& 0x3f).toInt64.toUInt64).toInt64).toInt32.toInt8.toInt32) T851.heap n0 c863 (by decide) Ara902 hin918 hat918 (own_w3 q0)) hZ (hw _ (List.mem_of_getElem? (i := 98) rfl)) (hw _ (List.mem_of_getElem? (i := 97) rfl)) (by decide) (by decide)) (g := (mkF mM 600 #[.val (.int p1), .val (.int p2), .val (.long q0), .second, .val (.ref b2), .val (.long (5478551163 : Int64)), .second, .val (.int z245), .val (.ref r), .val (.int (7 : Int32)), .val (.ref b811), .val (.ref bp851), .val (.int (1 : Int32)), .val (.int j899)] [(.int (7 : Int32)), (.int (3 : Int32)), (.long q0), (.ref bp851)])) rfl (by rw [hml]; rfl) (argsL := [(.ref bp851), (.long q0), (.int (3 : Int32)), (.int (7 : Int32))]) (rest := []) (lenOf pd_3 rfl) rfl (by show 2 * 0 + _ ≤ _; exact Nat.le_of_eq rfl) (hb hby at_600) (fun _ _ => ⟨rfl, e916, (by decide : 3 + 0 ≤ _), (by decide : 49 + 0 ≤ _)⟩)
    dsimp only [Pt.U, Pt.locs, Pt.cells, Pt.slots] at X921 l921 y921 z921 st921 hQ921
    subst l921 y921 z921
    obtain ⟨rfl, Nq921, e921⟩ := hQ921
    have N921 := Fr.app N920 Nq921
    have pr922 : ∀ tg, Steps pP.tables eE below (T921.setTop (mkF mM 603 #[.val (.int p1), .val (.int p2), .val (.long q0), .second, .val (.ref b2), .val (.long (5478551163 : Int64)), .second, .val (.int z245), .val (.ref r), .val (.int (7 : Int32)), .val (.ref b811), .val (.ref bp851), .val (.int (1 : Int32)), .val (.int j899)] [(.int (1 : Int32))])) tg → Steps pP.tables eE below (s₁.setTop (entryFrame mM #[(.int p1), (.int p2), (.long q0)] maxLocals)) tg := fun tg kg => pr919 _ (st921 _ kg)
    clear pr919 st921 X920 e916
    have hin923 : ¬ ((4 : Int32) < 0 ∨ cla902.slots.size ≤ ((4 : Int32)).toNatClampNeg) := inb_of Sa902 ⟨by decide, by decide⟩
    have hat923 : cla902.slots[((4 : Int32)).toNatClampNeg]? = some (.int (nar .byte ((q0.toUInt64 >>> ((32 : Int32) &&& 0x3f).toInt64.toUInt64).toInt64).toInt32.toInt8.toInt32)) := Has.at Ha902 hin923 rfl
    have pr924 : ∀ tg, Steps pP.tables eE below (T921.setTop (mkF mM 612 #[.val (.int p1), .val (.int p2), .val (.long q0), .second, .val (.ref b2), .val (.long (5478551163 : Int64)), .second, .val (.int z245), .val (.ref r), .val (.int (7 : Int32)), .val (.ref b811), .val (.ref bp851), .val (.int (1 : Int32)), .val (.int j899)] [(.int (7 : Int32)), (.int (4 : Int32)), (.long q0), (.ref bp851)])) tg → Steps pP.tables eE below (s₁.setTop (entryFrame mM #[(.int p1), (.int p2), (.long q0)] maxLocals)) tg := fun tg kg => pr922 _ (by
      show Steps pP.tables eE below (T921.setTop (mkF mM 603 #[.val (.int p1), .val (.int p2), .val (.long q0), .second, .val (.ref b2), .val (.long (5478551163 : Int64)), .second, .val (.int z245), .val (.ref r), .val (.int (7 : Int32)), .val (.ref b811), .val (.ref bp851), .val (.int (1 : Int32)), .val (.int j899)] [(.int (1 : Int32))])) _
      refine XS.ifNo X921.here hx rfl (hb hby at_603) rfl ((if0 _ _).trans (feq (by decide)).1) ?_
      refine XS.aload X921.here hx rfl (hb hby at_606) rfl rfl ?_
      refine XS.lloadN X921.here hx rfl (hb hby at_608) rfl ?_
      refine XS.iconst X921.here hx rfl (hb hby at_609) ?_
      refine XS.iload X921.here hx rfl (hb hby at_610) rfl ?_
      exact kg)
    clear pr922
    obtain ⟨Ls925, X925, N925⟩ := own_hide X921 N921
    clear X921 N921
    obtain ⟨_, _, ⟨T926, L926, kk926, nn926⟩, -, X926, ⟨Lc926, hQ926, l926, y926, z926⟩, st926⟩ := Jvm.LawKit.callS X925 hx (y := (⟨"com/example/tesserae/tesserae/value/VrPadPinLaw", "sameAt", "([BJII)Z"⟩ : MethodName)) hown (mvT hZ (hw _ (List.mem_of_getElem? (i := 95) rfl))) (mvT hZ (hw _ (List.mem_of_getElem? (i := 96) rfl))) (mvT hZ (hw _ (List.mem_of_getElem? (i := 97) rfl))) (mvT hZ (hw _ (List.mem_of_getElem? (i := 98) rfl))) (by decide) (backOf (W := 0) (rm5 l Z a0 hw [] bp851 q0 (4 : Int32) (7 : Int32) cla902 (nar .byte ((q0.toUInt64 >>> ((32 : Int32) &&& 0x3f).toInt64.toUInt64).toInt64).toInt32.toInt8.toInt32) T851.heap n0 c863 (by decide) Ara902 hin923 hat923 (own_w4 q0)) hZ (hw _ (List.mem_of_getElem? (i := 98) rfl)) (hw _ (List.mem_of_getElem? (i := 97) rfl)) (by decide) (by decide)) (g := (mkF mM 612 #[.val (.int p1), .val (.int p2), .val (.long q0), .second, .val (.ref b2), .val (.long (5478551163 : Int64)), .second, .val (.int z245), .val (.ref r), .val (.int (7 : Int32)), .val (.ref b811), .val (.ref bp851), .val (.int (1 : Int32)), .val (.int j899)] [(.int (7 : Int32)), (.int (4 : Int32)), (.long q0), (.ref bp851)])) rfl (by rw [hml]; rfl) (argsL := [(.ref bp851), (.long q0), (.int (4 : Int32)), (.int (7 : Int32))]) (rest := []) (lenOf pd_3 rfl) rfl (by show 2 * 0 + _ ≤ _; exact Nat.le_of_eq rfl) (hb hby at_612) (fun _ _ => ⟨rfl, e921, (by decide : 3 + 0 ≤ _), (by decide : 49 + 0 ≤ _)⟩)
    dsimp only [Pt.U, Pt.locs, Pt.cells, Pt.slots] at X926 l926 y926 z926 st926 hQ926
    subst l926 y926 z926
    obtain ⟨rfl, Nq926, e926⟩ := hQ926
    have N926 := Fr.app N925 Nq926
    have pr927 : ∀ tg, Steps pP.tables eE below (T926.setTop (mkF mM 615 #[.val (.int p1), .val (.int p2), .val (.long q0), .second, .val (.ref b2), .val (.long (5478551163 : Int64)), .second, .val (.int z245), .val (.ref r), .val (.int (7 : Int32)), .val (.ref b811), .val (.ref bp851), .val (.int (1 : Int32)), .val (.int j899)] [(.int (1 : Int32))])) tg → Steps pP.tables eE below (s₁.setTop (entryFrame mM #[(.int p1), (.int p2), (.long q0)] maxLocals)) tg := fun tg kg => pr924 _ (st926 _ kg)
    clear pr924 st926 X925 e921
    have hin928 : ¬ ((5 : Int32) < 0 ∨ cla902.slots.size ≤ ((5 : Int32)).toNatClampNeg) := inb_of Sa902 ⟨by decide, by decide⟩
    have hat928 : cla902.slots[((5 : Int32)).toNatClampNeg]? = some (.int (nar .byte ((q0.toUInt64 >>> ((40 : Int32) &&& 0x3f).toInt64.toUInt64).toInt64).toInt32.toInt8.toInt32)) := Has.at Ha902 hin928 rfl
    have pr929 : ∀ tg, Steps pP.tables eE below (T926.setTop (mkF mM 624 #[.val (.int p1), .val (.int p2), .val (.long q0), .second, .val (.ref b2), .val (.long (5478551163 : Int64)), .second, .val (.int z245), .val (.ref r), .val (.int (7 : Int32)), .val (.ref b811), .val (.ref bp851), .val (.int (1 : Int32)), .val (.int j899)] [(.int (7 : Int32)), (.int (5 : Int32)), (.long q0), (.ref bp851)])) tg → Steps pP.tables eE below (s₁.setTop (entryFrame mM #[(.int p1), (.int p2), (.long q0)] maxLocals)) tg := fun tg kg => pr927 _ (by
      show Steps pP.tables eE below (T926.setTop (mkF mM 615 #[.val (.int p1), .val (.int p2), .val (.long q0), .second, .val (.ref b2), .val (.long (5478551163 : Int64)), .second, .val (.int z245), .val (.ref r), .val (.int (7 : Int32)), .val (.ref b811), .val (.ref bp851), .val (.int (1 : Int32)), .val (.int j899)] [(.int (1 : Int32))])) _
      refine XS.ifNo X926.here hx rfl (hb hby at_615) rfl ((if0 _ _).trans (feq (by decide)).1) ?_
      refine XS.aload X926.here hx rfl (hb hby at_618) rfl rfl ?_
      refine XS.lloadN X926.here hx rfl (hb hby at_620) rfl ?_
      refine XS.iconst X926.here hx rfl (hb hby at_621) ?_
      refine XS.iload X926.here hx rfl (hb hby at_622) rfl ?_
      exact kg)
    clear pr927
    obtain ⟨Ls930, X930, N930⟩ := own_hide X926 N926
    clear X926 N926
    obtain ⟨_, _, ⟨T931, L931, kk931, nn931⟩, -, X931, ⟨Lc931, hQ931, l931, y931, z931⟩, st931⟩ := Jvm.LawKit.callS X930 hx (y := (⟨"com/example/tesserae/tesserae/value/VrPadPinLaw", "sameAt", "([BJII)Z"⟩ : MethodName)) hown (mvT hZ (hw _ (List.mem_of_getElem? (i := 95) rfl))) (mvT hZ (hw _ (List.mem_of_getElem? (i := 96) rfl))) (mvT hZ (hw _ (List.mem_of_getElem? (i := 97) rfl))) (mvT hZ (hw _ (List.mem_of_getElem? (i := 98) rfl))) (by decide) (backOf (W := 0) (rm5 l Z a0 hw [] bp851 q0 (5 : Int32) (7 : Int32) cla902 (nar .byte ((q0.toUInt64 >>> ((40 : Int32) &&& 0x3f).toInt64.toUInt64).toInt64).toInt32.toInt8.toInt32) T851.heap n0 c863 (by decide) Ara902 hin928 hat928 (own_w5 q0)) hZ (hw _ (List.mem_of_getElem? (i := 98) rfl)) (hw _ (List.mem_of_getElem? (i := 97) rfl)) (by decide) (by decide)) (g := (mkF mM 624 #[.val (.int p1), .val (.int p2), .val (.long q0), .second, .val (.ref b2), .val (.long (5478551163 : Int64)), .second, .val (.int z245), .val (.ref r), .val (.int (7 : Int32)), .val (.ref b811), .val (.ref bp851), .val (.int (1 : Int32)), .val (.int j899)] [(.int (7 : Int32)), (.int (5 : Int32)), (.long q0), (.ref bp851)])) rfl (by rw [hml]; rfl) (argsL := [(.ref bp851), (.long q0), (.int (5 : Int32)), (.int (7 : Int32))]) (rest := []) (lenOf pd_3 rfl) rfl (by show 2 * 0 + _ ≤ _; exact Nat.le_of_eq rfl) (hb hby at_624) (fun _ _ => ⟨rfl, e926, (by decide : 3 + 0 ≤ _), (by decide : 49 + 0 ≤ _)⟩)
    dsimp only [Pt.U, Pt.locs, Pt.cells, Pt.slots] at X931 l931 y931 z931 st931 hQ931
    subst l931 y931 z931
    obtain ⟨rfl, Nq931, e931⟩ := hQ931
    have N931 := Fr.app N930 Nq931
    have pr932 : ∀ tg, Steps pP.tables eE below (T931.setTop (mkF mM 627 #[.val (.int p1), .val (.int p2), .val (.long q0), .second, .val (.ref b2), .val (.long (5478551163 : Int64)), .second, .val (.int z245), .val (.ref r), .val (.int (7 : Int32)), .val (.ref b811), .val (.ref bp851), .val (.int (1 : Int32)), .val (.int j899)] [(.int (1 : Int32))])) tg → Steps pP.tables eE below (s₁.setTop (entryFrame mM #[(.int p1), (.int p2), (.long q0)] maxLocals)) tg := fun tg kg => pr929 _ (st931 _ kg)
    clear pr929 st931 X930 e926
    have hin933 : ¬ ((6 : Int32) < 0 ∨ cla902.slots.size ≤ ((6 : Int32)).toNatClampNeg) := inb_of Sa902 ⟨by decide, by decide⟩
    have hat933 : cla902.slots[((6 : Int32)).toNatClampNeg]? = some (.int (nar .byte ((q0.toUInt64 >>> ((48 : Int32) &&& 0x3f).toInt64.toUInt64).toInt64).toInt32.toInt8.toInt32)) := Has.at Ha902 hin933 rfl
    have pr934 : ∀ tg, Steps pP.tables eE below (T931.setTop (mkF mM 637 #[.val (.int p1), .val (.int p2), .val (.long q0), .second, .val (.ref b2), .val (.long (5478551163 : Int64)), .second, .val (.int z245), .val (.ref r), .val (.int (7 : Int32)), .val (.ref b811), .val (.ref bp851), .val (.int (1 : Int32)), .val (.int j899)] [(.int (7 : Int32)), (.int (6 : Int32)), (.long q0), (.ref bp851)])) tg → Steps pP.tables eE below (s₁.setTop (entryFrame mM #[(.int p1), (.int p2), (.long q0)] maxLocals)) tg := fun tg kg => pr932 _ (by
      show Steps pP.tables eE below (T931.setTop (mkF mM 627 #[.val (.int p1), .val (.int p2), .val (.long q0), .second, .val (.ref b2), .val (.long (5478551163 : Int64)), .second, .val (.int z245), .val (.ref r), .val (.int (7 : Int32)), .val (.ref b811), .val (.ref bp851), .val (.int (1 : Int32)), .val (.int j899)] [(.int (1 : Int32))])) _
      refine XS.ifNo X931.here hx rfl (hb hby at_627) rfl ((if0 _ _).trans (feq (by decide)).1) ?_
      refine XS.aload X931.here hx rfl (hb hby at_630) rfl rfl ?_
      refine XS.lloadN X931.here hx rfl (hb hby at_632) rfl ?_
      refine XS.bipush X931.here hx rfl (hb hby at_633) ?_
      refine XS.iload X931.here hx rfl (hb hby at_635) rfl ?_
      exact kg)
    clear pr932
    obtain ⟨Ls935, X935, N935⟩ := own_hide X931 N931
    clear X931 N931
    obtain ⟨_, _, ⟨T936, L936, kk936, nn936⟩, -, X936, ⟨Lc936, hQ936, l936, y936, z936⟩, st936⟩ := Jvm.LawKit.callS X935 hx (y := (⟨"com/example/tesserae/tesserae/value/VrPadPinLaw", "sameAt", "([BJII)Z"⟩ : MethodName)) hown (mvT hZ (hw _ (List.mem_of_getElem? (i := 95) rfl))) (mvT hZ (hw _ (List.mem_of_getElem? (i := 96) rfl))) (mvT hZ (hw _ (List.mem_of_getElem? (i := 97) rfl))) (mvT hZ (hw _ (List.mem_of_getElem? (i := 98) rfl))) (by decide) (backOf (W := 0) (rm5 l Z a0 hw [] bp851 q0 (6 : Int32) (7 : Int32) cla902 (nar .byte ((q0.toUInt64 >>> ((48 : Int32) &&& 0x3f).toInt64.toUInt64).toInt64).toInt32.toInt8.toInt32) T851.heap n0 c863 (by decide) Ara902 hin933 hat933 (own_w6 q0)) hZ (hw _ (List.mem_of_getElem? (i := 98) rfl)) (hw _ (List.mem_of_getElem? (i := 97) rfl)) (by decide) (by decide)) (g := (mkF mM 637 #[.val (.int p1), .val (.int p2), .val (.long q0), .second, .val (.ref b2), .val (.long (5478551163 : Int64)), .second, .val (.int z245), .val (.ref r), .val (.int (7 : Int32)), .val (.ref b811), .val (.ref bp851), .val (.int (1 : Int32)), .val (.int j899)] [(.int (7 : Int32)), (.int (6 : Int32)), (.long q0), (.ref bp851)])) rfl (by rw [hml]; rfl) (argsL := [(.ref bp851), (.long q0), (.int (6 : Int32)), (.int (7 : Int32))]) (rest := []) (lenOf pd_3 rfl) rfl (by show 2 * 0 + _ ≤ _; exact Nat.le_of_eq rfl) (hb hby at_637) (fun _ _ => ⟨rfl, e931, (by decide : 3 + 0 ≤ _), (by decide : 49 + 0 ≤ _)⟩)
    dsimp only [Pt.U, Pt.locs, Pt.cells, Pt.slots] at X936 l936 y936 z936 st936 hQ936
    subst l936 y936 z936
    obtain ⟨rfl, Nq936, e936⟩ := hQ936
    have N936 := Fr.app N935 Nq936
    have pr937 : ∀ tg, Steps pP.tables eE below (T936.setTop (mkF mM 640 #[.val (.int p1), .val (.int p2), .val (.long q0), .second, .val (.ref b2), .val (.long (5478551163 : Int64)), .second, .val (.int z245), .val (.ref r), .val (.int (7 : Int32)), .val (.ref b811), .val (.ref bp851), .val (.int (1 : Int32)), .val (.int j899)] [(.int (1 : Int32))])) tg → Steps pP.tables eE below (s₁.setTop (entryFrame mM #[(.int p1), (.int p2), (.long q0)] maxLocals)) tg := fun tg kg => pr934 _ (st936 _ kg)
    clear pr934 st936 X935 e931
    have hin938 : ¬ ((7 : Int32) < 0 ∨ cla902.slots.size ≤ ((7 : Int32)).toNatClampNeg) := inb_of Sa902 ⟨by decide, by decide⟩
    have hat938 : cla902.slots[((7 : Int32)).toNatClampNeg]? = some (.int pv) := Has.at Ha902 hin938 rfl
    have pr939 : ∀ tg, Steps pP.tables eE below (T936.setTop (mkF mM 658 #[.val (.int p1), .val (.int p2), .val (.long q0), .second, .val (.ref b2), .val (.long (5478551163 : Int64)), .second, .val (.int z245), .val (.ref r), .val (.int (7 : Int32)), .val (.ref b811), .val (.ref bp851), .val (.int (1 : Int32)), .val (.int j899)] [(.int (1 : Int32))])) tg → Steps pP.tables eE below (s₁.setTop (entryFrame mM #[(.int p1), (.int p2), (.long q0)] maxLocals)) tg := fun tg kg => pr937 _ (by
      show Steps pP.tables eE below (T936.setTop (mkF mM 640 #[.val (.int p1), .val (.int p2), .val (.long q0), .second, .val (.ref b2), .val (.long (5478551163 : Int64)), .second, .val (.int z245), .val (.ref r), .val (.int (7 : Int32)), .val (.ref b811), .val (.ref bp851), .val (.int (1 : Int32)), .val (.int j899)] [(.int (1 : Int32))])) _
      refine XS.ifNo X936.here hx rfl (hb hby at_640) rfl ((if0 _ _).trans (feq (by decide)).1) ?_
      refine XS.aload X936.here hx rfl (hb hby at_643) rfl rfl ?_
      refine XS.iload X936.here hx rfl (hb hby at_645) rfl ?_
      show Steps pP.tables eE below (T936.setTop (mkF mM 647 #[.val (.int p1), .val (.int p2), .val (.long q0), .second, .val (.ref b2), .val (.long (5478551163 : Int64)), .second, .val (.int z245), .val (.ref r), .val (.int (7 : Int32)), .val (.ref b811), .val (.ref bp851), .val (.int (1 : Int32)), .val (.int j899)] [(.int (7 : Int32)), (.ref bp851)])) _
      refine X936.baloadBytes hx (j := (7 : Int32)) (v := (.int pv)) (by rw [e936]; exact Ara902.1) (State.isArrayOf_alike hZ.alike Ara902.2.1) Ara902.2.2 hin938 hat938 (g := (mkF mM 647 #[.val (.int p1), .val (.int p2), .val (.long q0), .second, .val (.ref b2), .val (.long (5478551163 : Int64)), .second, .val (.int z245), .val (.ref r), .val (.int (7 : Int32)), .val (.ref b811), .val (.ref bp851), .val (.int (1 : Int32)), .val (.int j899)] [(.int (7 : Int32)), (.ref bp851)])) rfl rfl (hb hby at_647) _ ?_
      show Steps pP.tables eE below (T936.setTop (mkF mM 648 #[.val (.int p1), .val (.int p2), .val (.long q0), .second, .val (.ref b2), .val (.long (5478551163 : Int64)), .second, .val (.int z245), .val (.ref r), .val (.int (7 : Int32)), .val (.ref b811), .val (.ref bp851), .val (.int (1 : Int32)), .val (.int j899)] [(.int pv)])) _
      refine XS.iload X936.here hx rfl (hb hby at_648) rfl ?_
      refine XS.icmpNo X936.here hx rfl (hb hby at_650) rfl (teq (hx5.trans hj899.symm)).2 ?_
      refine XS.iconst X936.here hx rfl (hb hby at_653) ?_
      refine XS.goto X936.here hx rfl (pc0 := 654) (pc' := 658) rfl (hb hby at_654) (by decide) (by decide) ?_
      exact kg)
    clear pr937
    obtain ⟨fs, hr, hrun, hended, hW, hsame⟩ := X936.leave (v := some (.int (1 : Int32))) (fun h => by rw [Bd.returns] at h; cases h)
    refine ⟨_, _, pr939 _ (retOut X936 hx (t := .boolean) Bd.returns rfl (Or.inl ⟨rfl, Or.inr (Or.inl rfl), _, rfl⟩) (hb hby at_658) hr), hrun, hended, _, _, rfl, ?_, ⟨_, rfl⟩, hW, hsame.mono (by decide) (by decide)⟩
    show Q0 Z p1 p2 q0 a_AE a_AS a_AT a_CS a_DA a_DS a_DT a_FD a_FL a_IS a_LO a_LT a_OB a_OD a_OF a_OL a_OV a_OW a_PN a_SH a_SL a_SQ a_SS a_ST a_SV a_TM a_UC a_UI a_UL a_UN a_UR a_US a_UT a_UV h0 n0 _ T936.heap _
    rw [e936]
    exact ⟨rfl, N936⟩
set_option maxRecDepth 65536 in
set_option maxHeartbeats 40000000 in
theorem comes_1 {Post : Tables → Env → Array Value → State → Outcome → State → Prop} (hpost : ∀ tb e args s v u, (limb_1_1.after args s (.returned v) u = true ∧ limb_1_2.after args s (.returned v) u = true ∧ True) → FrameEnd s (.returned v) u (Jvm.fieldLocs frame_1_writes args s ++ Jvm.arrayLocs frame_1_arrays args s ++ Jvm.staticLocs frame_1_statics s) 16 192 → Post tb e args s (.returned v) u) :
    ArmFor flags0 classFile x code maxLocals ret World_1 tables_1 room_1 Calls_1 rest_1 Pre_1 Post := by
  intro l hfl _ _ p e ha hc hk s m args below hf hA hF happ hP
  obtain ⟨hcalls, hrest, hpre⟩ := hP
  obtain ⟨-, -, -, hnamed, -, -, -, hat⟩ := (Spec.applies_iff hf).mp happ
  obtain ⟨hg, hn⟩ := and_e (Cond.before_iff.mp (show (Jvm.Cond.and given_1 narrow_1).before args s = true from hpre))
  obtain ⟨n1, n2⟩ := and_e hg
  obtain ⟨n3, n4⟩ := and_e n2
  obtain ⟨n5, n6⟩ := and_e n4
  obtain ⟨w0, w1, w2, rfl⟩ : ∃ w0 w1 w2 : Value, args = #[w0, w1, w2] := by
    have hs : args.size = 3 := by simpa [Cond.value, given_1] using n1
    obtain ⟨L⟩ := args
    match L, hs with
    | [w0, w1, w2], _ => exact ⟨w0, w1, w2, rfl⟩
  have hw := fun d (hd : d ∈ tables_1) => atoms_spec (ws := Jvm.Cond.code x code maxLocals ret :: tables_1) hat d (List.mem_cons_of_mem _ hd)
  have hfit : Fit s := fun {y c} hc i hi => by
    obtain ⟨ha, rfl⟩ := Array.getElem?_eq_some_iff.mp hc
    have q := List.all_eq_true.mp ((Array.all_eq_true_iff_forall_mem.mp hF) _ (Array.getElem_mem ha)) i (List.mem_range.mpr hi)
    simpa [Array.getElem?_eq_getElem hi] using q
  obtain ⟨i0, ei0⟩ := is_v n3
  obtain rfl : w0 = (.int i0) := Option.some.inj ei0
  obtain ⟨i1, ei1⟩ := is_v n5
  obtain rfl : w1 = (.int i1) := Option.some.inj ei1
  obtain ⟨i2, ei2⟩ := isL_v n6
  obtain rfl : w2 = (.long i2) := Option.some.inj ei2
  obtain ⟨n7, n8⟩ := and_e hn
  obtain ⟨n9, n10⟩ := and_e n8
  obtain ⟨n11, n12⟩ := and_e n10
  obtain ⟨n13, n14⟩ := and_e n12
  obtain ⟨n15, n16⟩ := and_e n14
  obtain ⟨n17, n18⟩ := and_e n16
  obtain ⟨n19, n20⟩ := and_e n18
  obtain ⟨n21, n22⟩ := and_e n20
  obtain ⟨n23, n24⟩ := and_e n22
  obtain ⟨n25, n26⟩ := and_e n24
  obtain ⟨n27, n28⟩ := and_e n26
  obtain ⟨n29, n30⟩ := and_e n28
  obtain ⟨n31, n32⟩ := and_e n30
  obtain ⟨n33, n34⟩ := and_e n32
  obtain ⟨n35, n36⟩ := and_e n34
  obtain ⟨n37, n38⟩ := and_e n36
  obtain ⟨n39, n40⟩ := and_e n38
  obtain ⟨n41, n42⟩ := and_e n40
  obtain ⟨n43, n44⟩ := and_e n42
  obtain ⟨n45, n46⟩ := and_e n44
  obtain ⟨n47, n48⟩ := and_e n46
  obtain ⟨n49, n50⟩ := and_e n48
  obtain ⟨n51, n52⟩ := and_e n50
  obtain ⟨n53, n54⟩ := and_e n52
  obtain ⟨n55, n56⟩ := and_e n54
  obtain ⟨n57, n58⟩ := and_e n56
  obtain ⟨n59, n60⟩ := and_e n58
  obtain ⟨n61, n62⟩ := and_e n60
  obtain ⟨n63, n64⟩ := and_e n62
  obtain ⟨n65, n66⟩ := and_e n64
  obtain ⟨n67, n68⟩ := and_e n66
  obtain ⟨n69, n70⟩ := and_e n68
  obtain ⟨n71, n72⟩ := and_e n70
  obtain ⟨n73, n74⟩ := and_e n72
  obtain ⟨n75, n76⟩ := and_e n74
  obtain ⟨n77, n78⟩ := and_e n76
  obtain ⟨n79, n80⟩ := and_e n78
  obtain ⟨n81, n82⟩ := and_e n80
  obtain ⟨n83, n84⟩ := and_e n82
  obtain ⟨n85, n86⟩ := and_e n84
  obtain ⟨n87, n88⟩ := and_e n86
  obtain ⟨n89, n90⟩ := and_e n88
  obtain ⟨n91, n92⟩ := and_e n90
  obtain ⟨n93, n94⟩ := and_e n92
  obtain ⟨n95, n96⟩ := and_e n94
  obtain ⟨n97, n98⟩ := and_e n96
  obtain ⟨n99, n100⟩ := and_e n98
  obtain ⟨n101, n102⟩ := and_e n100
  obtain ⟨n103, n104⟩ := and_e n102
  obtain ⟨n105, n106⟩ := and_e n104
  obtain ⟨n107, n108⟩ := and_e n106
  obtain ⟨n109, n110⟩ := and_e n108
  obtain ⟨n111, n112⟩ := and_e n110
  obtain ⟨n113, n114⟩ := and_e n112
  obtain ⟨n115, n116⟩ := and_e n114
  obtain ⟨n117, n118⟩ := and_e n116
  obtain ⟨n119, n120⟩ := and_e n118
  obtain ⟨n121, n122⟩ := and_e n120
  obtain ⟨n123, n124⟩ := and_e n122
  obtain ⟨n125, n126⟩ := and_e n124
  obtain ⟨n127, n128⟩ := and_e n126
  obtain ⟨n129, n130⟩ := and_e n128
  obtain ⟨n131, n132⟩ := and_e n130
  obtain ⟨n133, n134⟩ := and_e n132
  obtain ⟨n135, n136⟩ := and_e n134
  obtain ⟨n137, n138⟩ := and_e n136
  obtain ⟨n139, n140⟩ := and_e n138
  obtain ⟨n141, n142⟩ := and_e n140
  obtain ⟨n143, n144⟩ := and_e n142
  obtain ⟨n145, n146⟩ := and_e n144
  obtain ⟨n147, n148⟩ := and_e n146
  obtain ⟨n149, n150⟩ := and_e n148
  obtain ⟨n151, n152⟩ := and_e n150
  obtain ⟨n153, n154⟩ := and_e n152
  obtain ⟨n155, n156⟩ := and_e n154
  obtain ⟨n157, n158⟩ := and_e n156
  obtain ⟨n159, n160⟩ := and_e n158
  obtain ⟨n161, n162⟩ := and_e n160
  obtain ⟨n163, n164⟩ := and_e n162
  obtain ⟨n165, n166⟩ := and_e n164
  obtain ⟨n167, n168⟩ := and_e n166
  obtain ⟨n169, n170⟩ := and_e n168
  obtain ⟨n171, n172⟩ := and_e n170
  obtain ⟨n173, n174⟩ := and_e n172
  obtain ⟨a_AE, ea_AE⟩ := exa_v n7
  have S_AE : Sta s s.heap "com/example/tesserae/tesserae/value/Vr" "AE" "Lcom/example/tesserae/tesserae/value/Vr;" (.ref a_AE) := Sta.start ea_AE (Or.inr ⟨(hw _ (List.mem_of_getElem? (i := 3) rfl)), (hw _ (List.mem_of_getElem? (i := 4) rfl))⟩)
  have E_AE : Exa s s.heap a_AE "com/example/tesserae/tesserae/value/Vr" := Exa.start ea_AE n7
  obtain ⟨a_AS, ea_AS⟩ := exa_v n9
  have S_AS : Sta s s.heap "com/example/tesserae/tesserae/value/Vr" "AS" "Lcom/example/tesserae/tesserae/value/Vr;" (.ref a_AS) := Sta.start ea_AS (Or.inr ⟨(hw _ (List.mem_of_getElem? (i := 3) rfl)), (hw _ (List.mem_of_getElem? (i := 7) rfl))⟩)
  have E_AS : Exa s s.heap a_AS "com/example/tesserae/tesserae/value/Vr" := Exa.start ea_AS n9
  obtain ⟨a_AT, ea_AT⟩ := exa_v n11
  have S_AT : Sta s s.heap "com/example/tesserae/tesserae/value/Vr" "AT" "Lcom/example/tesserae/tesserae/value/Vr;" (.ref a_AT) := Sta.start ea_AT (Or.inr ⟨(hw _ (List.mem_of_getElem? (i := 3) rfl)), (hw _ (List.mem_of_getElem? (i := 9) rfl))⟩)
  have E_AT : Exa s s.heap a_AT "com/example/tesserae/tesserae/value/Vr" := Exa.start ea_AT n11
  obtain ⟨a_CS, ea_CS⟩ := exa_v n13
  have S_CS : Sta s s.heap "com/example/tesserae/tesserae/value/Vr" "CS" "Lcom/example/tesserae/tesserae/value/Vr;" (.ref a_CS) := Sta.start ea_CS (Or.inr ⟨(hw _ (List.mem_of_getElem? (i := 3) rfl)), (hw _ (List.mem_of_getElem? (i := 11) rfl))⟩)
  have E_CS : Exa s s.heap a_CS "com/example/tesserae/tesserae/value/Vr" := Exa.start ea_CS n13
  obtain ⟨a_DA, ea_DA⟩ := exa_v n15
  have S_DA : Sta s s.heap "com/example/tesserae/tesserae/value/Vr" "DA" "Lcom/example/tesserae/tesserae/value/Vr;" (.ref a_DA) := Sta.start ea_DA (Or.inr ⟨(hw _ (List.mem_of_getElem? (i := 3) rfl)), (hw _ (List.mem_of_getElem? (i := 13) rfl))⟩)
  have E_DA : Exa s s.heap a_DA "com/example/tesserae/tesserae/value/Vr" := Exa.start ea_DA n15
  obtain ⟨a_DS, ea_DS⟩ := exa_v n17
  have S_DS : Sta s s.heap "com/example/tesserae/tesserae/value/Vr" "DS" "Lcom/example/tesserae/tesserae/value/Vr;" (.ref a_DS) := Sta.start ea_DS (Or.inr ⟨(hw _ (List.mem_of_getElem? (i := 3) rfl)), (hw _ (List.mem_of_getElem? (i := 15) rfl))⟩)
  have E_DS : Exa s s.heap a_DS "com/example/tesserae/tesserae/value/Vr" := Exa.start ea_DS n17
  obtain ⟨a_DT, ea_DT⟩ := exa_v n19
  have S_DT : Sta s s.heap "com/example/tesserae/tesserae/value/Vr" "DT" "Lcom/example/tesserae/tesserae/value/Vr;" (.ref a_DT) := Sta.start ea_DT (Or.inr ⟨(hw _ (List.mem_of_getElem? (i := 3) rfl)), (hw _ (List.mem_of_getElem? (i := 17) rfl))⟩)
  have E_DT : Exa s s.heap a_DT "com/example/tesserae/tesserae/value/Vr" := Exa.start ea_DT n19
  obtain ⟨a_FD, ea_FD⟩ := exa_v n21
  have S_FD : Sta s s.heap "com/example/tesserae/tesserae/value/Vr" "FD" "Lcom/example/tesserae/tesserae/value/Vr;" (.ref a_FD) := Sta.start ea_FD (Or.inr ⟨(hw _ (List.mem_of_getElem? (i := 3) rfl)), (hw _ (List.mem_of_getElem? (i := 19) rfl))⟩)
  have E_FD : Exa s s.heap a_FD "com/example/tesserae/tesserae/value/Vr" := Exa.start ea_FD n21
  obtain ⟨a_FL, ea_FL⟩ := exa_v n23
  have S_FL : Sta s s.heap "com/example/tesserae/tesserae/value/Vr" "FL" "Lcom/example/tesserae/tesserae/value/Vr;" (.ref a_FL) := Sta.start ea_FL (Or.inr ⟨(hw _ (List.mem_of_getElem? (i := 3) rfl)), (hw _ (List.mem_of_getElem? (i := 21) rfl))⟩)
  have E_FL : Exa s s.heap a_FL "com/example/tesserae/tesserae/value/Vr" := Exa.start ea_FL n23
  obtain ⟨a_IS, ea_IS⟩ := exa_v n25
  have S_IS : Sta s s.heap "com/example/tesserae/tesserae/value/Vr" "IS" "Lcom/example/tesserae/tesserae/value/Vr;" (.ref a_IS) := Sta.start ea_IS (Or.inr ⟨(hw _ (List.mem_of_getElem? (i := 3) rfl)), (hw _ (List.mem_of_getElem? (i := 23) rfl))⟩)
  have E_IS : Exa s s.heap a_IS "com/example/tesserae/tesserae/value/Vr" := Exa.start ea_IS n25
  obtain ⟨a_LO, ea_LO⟩ := exa_v n27
  have S_LO : Sta s s.heap "com/example/tesserae/tesserae/value/Vr" "LO" "Lcom/example/tesserae/tesserae/value/Vr;" (.ref a_LO) := Sta.start ea_LO (Or.inr ⟨(hw _ (List.mem_of_getElem? (i := 3) rfl)), (hw _ (List.mem_of_getElem? (i := 25) rfl))⟩)
  have E_LO : Exa s s.heap a_LO "com/example/tesserae/tesserae/value/Vr" := Exa.start ea_LO n27
  obtain ⟨a_LT, ea_LT⟩ := exa_v n29
  have S_LT : Sta s s.heap "com/example/tesserae/tesserae/value/Vr" "LT" "Lcom/example/tesserae/tesserae/value/Vr;" (.ref a_LT) := Sta.start ea_LT (Or.inr ⟨(hw _ (List.mem_of_getElem? (i := 3) rfl)), (hw _ (List.mem_of_getElem? (i := 27) rfl))⟩)
  have E_LT : Exa s s.heap a_LT "com/example/tesserae/tesserae/value/Vr" := Exa.start ea_LT n29
  obtain ⟨a_OB, ea_OB⟩ := exa_v n31
  have S_OB : Sta s s.heap "com/example/tesserae/tesserae/value/Vr" "OB" "Lcom/example/tesserae/tesserae/value/Vr;" (.ref a_OB) := Sta.start ea_OB (Or.inr ⟨(hw _ (List.mem_of_getElem? (i := 3) rfl)), (hw _ (List.mem_of_getElem? (i := 29) rfl))⟩)
  have E_OB : Exa s s.heap a_OB "com/example/tesserae/tesserae/value/Vr" := Exa.start ea_OB n31
  obtain ⟨a_OD, ea_OD⟩ := exa_v n33
  have S_OD : Sta s s.heap "com/example/tesserae/tesserae/value/Vr" "OD" "Lcom/example/tesserae/tesserae/value/Vr;" (.ref a_OD) := Sta.start ea_OD (Or.inr ⟨(hw _ (List.mem_of_getElem? (i := 3) rfl)), (hw _ (List.mem_of_getElem? (i := 31) rfl))⟩)
  have E_OD : Exa s s.heap a_OD "com/example/tesserae/tesserae/value/Vr" := Exa.start ea_OD n33
  obtain ⟨a_OF, ea_OF⟩ := exa_v n35
  have S_OF : Sta s s.heap "com/example/tesserae/tesserae/value/Vr" "OF" "Lcom/example/tesserae/tesserae/value/Vr;" (.ref a_OF) := Sta.start ea_OF (Or.inr ⟨(hw _ (List.mem_of_getElem? (i := 3) rfl)), (hw _ (List.mem_of_getElem? (i := 33) rfl))⟩)
  have E_OF : Exa s s.heap a_OF "com/example/tesserae/tesserae/value/Vr" := Exa.start ea_OF n35
  obtain ⟨a_OL, ea_OL⟩ := exa_v n37
  have S_OL : Sta s s.heap "com/example/tesserae/tesserae/value/Vr" "OL" "Lcom/example/tesserae/tesserae/value/Vr;" (.ref a_OL) := Sta.start ea_OL (Or.inr ⟨(hw _ (List.mem_of_getElem? (i := 3) rfl)), (hw _ (List.mem_of_getElem? (i := 35) rfl))⟩)
  have E_OL : Exa s s.heap a_OL "com/example/tesserae/tesserae/value/Vr" := Exa.start ea_OL n37
  obtain ⟨a_OV, ea_OV⟩ := exa_v n39
  have S_OV : Sta s s.heap "com/example/tesserae/tesserae/value/Vr" "OV" "Lcom/example/tesserae/tesserae/value/Vr;" (.ref a_OV) := Sta.start ea_OV (Or.inr ⟨(hw _ (List.mem_of_getElem? (i := 3) rfl)), (hw _ (List.mem_of_getElem? (i := 37) rfl))⟩)
  have E_OV : Exa s s.heap a_OV "com/example/tesserae/tesserae/value/Vr" := Exa.start ea_OV n39
  obtain ⟨a_OW, ea_OW⟩ := exa_v n41
  have S_OW : Sta s s.heap "com/example/tesserae/tesserae/value/Vr" "OW" "Lcom/example/tesserae/tesserae/value/Vr;" (.ref a_OW) := Sta.start ea_OW (Or.inr ⟨(hw _ (List.mem_of_getElem? (i := 3) rfl)), (hw _ (List.mem_of_getElem? (i := 39) rfl))⟩)
  have E_OW : Exa s s.heap a_OW "com/example/tesserae/tesserae/value/Vr" := Exa.start ea_OW n41
  obtain ⟨a_PN, ea_PN⟩ := exa_v n43
  have S_PN : Sta s s.heap "com/example/tesserae/tesserae/value/Vr" "PN" "Lcom/example/tesserae/tesserae/value/Vr;" (.ref a_PN) := Sta.start ea_PN (Or.inr ⟨(hw _ (List.mem_of_getElem? (i := 3) rfl)), (hw _ (List.mem_of_getElem? (i := 41) rfl))⟩)
  have E_PN : Exa s s.heap a_PN "com/example/tesserae/tesserae/value/Vr" := Exa.start ea_PN n43
  obtain ⟨a_SH, ea_SH⟩ := exa_v n45
  have S_SH : Sta s s.heap "com/example/tesserae/tesserae/value/Vr" "SH" "Lcom/example/tesserae/tesserae/value/Vr;" (.ref a_SH) := Sta.start ea_SH (Or.inr ⟨(hw _ (List.mem_of_getElem? (i := 3) rfl)), (hw _ (List.mem_of_getElem? (i := 43) rfl))⟩)
  have E_SH : Exa s s.heap a_SH "com/example/tesserae/tesserae/value/Vr" := Exa.start ea_SH n45
  obtain ⟨a_SL, ea_SL⟩ := exa_v n47
  have S_SL : Sta s s.heap "com/example/tesserae/tesserae/value/Vr" "SL" "Lcom/example/tesserae/tesserae/value/Vr;" (.ref a_SL) := Sta.start ea_SL (Or.inr ⟨(hw _ (List.mem_of_getElem? (i := 3) rfl)), (hw _ (List.mem_of_getElem? (i := 45) rfl))⟩)
  have E_SL : Exa s s.heap a_SL "com/example/tesserae/tesserae/value/Vr" := Exa.start ea_SL n47
  obtain ⟨a_SQ, ea_SQ⟩ := exa_v n49
  have S_SQ : Sta s s.heap "com/example/tesserae/tesserae/value/Vr" "SQ" "Lcom/example/tesserae/tesserae/value/Vr;" (.ref a_SQ) := Sta.start ea_SQ (Or.inr ⟨(hw _ (List.mem_of_getElem? (i := 3) rfl)), (hw _ (List.mem_of_getElem? (i := 47) rfl))⟩)
  have E_SQ : Exa s s.heap a_SQ "com/example/tesserae/tesserae/value/Vr" := Exa.start ea_SQ n49
  obtain ⟨a_SS, ea_SS⟩ := exa_v n51
  have S_SS : Sta s s.heap "com/example/tesserae/tesserae/value/Vr" "SS" "Lcom/example/tesserae/tesserae/value/Vr;" (.ref a_SS) := Sta.start ea_SS (Or.inr ⟨(hw _ (List.mem_of_getElem? (i := 3) rfl)), (hw _ (List.mem_of_getElem? (i := 49) rfl))⟩)
  have E_SS : Exa s s.heap a_SS "com/example/tesserae/tesserae/value/Vr" := Exa.start ea_SS n51
  obtain ⟨a_ST, ea_ST⟩ := exa_v n53
  have S_ST : Sta s s.heap "com/example/tesserae/tesserae/value/Vr" "ST" "Lcom/example/tesserae/tesserae/value/Vr;" (.ref a_ST) := Sta.start ea_ST (Or.inr ⟨(hw _ (List.mem_of_getElem? (i := 3) rfl)), (hw _ (List.mem_of_getElem? (i := 51) rfl))⟩)
  have E_ST : Exa s s.heap a_ST "com/example/tesserae/tesserae/value/Vr" := Exa.start ea_ST n53
  obtain ⟨a_SV, ea_SV⟩ := exa_v n55
  have S_SV : Sta s s.heap "com/example/tesserae/tesserae/value/Vr" "SV" "Lcom/example/tesserae/tesserae/value/Vr;" (.ref a_SV) := Sta.start ea_SV (Or.inr ⟨(hw _ (List.mem_of_getElem? (i := 3) rfl)), (hw _ (List.mem_of_getElem? (i := 53) rfl))⟩)
  have E_SV : Exa s s.heap a_SV "com/example/tesserae/tesserae/value/Vr" := Exa.start ea_SV n55
  obtain ⟨a_TM, ea_TM⟩ := exa_v n57
  have S_TM : Sta s s.heap "com/example/tesserae/tesserae/value/Vr" "TM" "Lcom/example/tesserae/tesserae/value/Vr;" (.ref a_TM) := Sta.start ea_TM (Or.inr ⟨(hw _ (List.mem_of_getElem? (i := 3) rfl)), (hw _ (List.mem_of_getElem? (i := 55) rfl))⟩)
  have E_TM : Exa s s.heap a_TM "com/example/tesserae/tesserae/value/Vr" := Exa.start ea_TM n57
  obtain ⟨a_UC, ea_UC⟩ := exa_v n59
  have S_UC : Sta s s.heap "com/example/tesserae/tesserae/value/Vr" "UC" "Lcom/example/tesserae/tesserae/value/Vr;" (.ref a_UC) := Sta.start ea_UC (Or.inr ⟨(hw _ (List.mem_of_getElem? (i := 3) rfl)), (hw _ (List.mem_of_getElem? (i := 57) rfl))⟩)
  have E_UC : Exa s s.heap a_UC "com/example/tesserae/tesserae/value/Vr" := Exa.start ea_UC n59
  obtain ⟨a_UI, ea_UI⟩ := exa_v n61
  have S_UI : Sta s s.heap "com/example/tesserae/tesserae/value/Vr" "UI" "Lcom/example/tesserae/tesserae/value/Vr;" (.ref a_UI) := Sta.start ea_UI (Or.inr ⟨(hw _ (List.mem_of_getElem? (i := 3) rfl)), (hw _ (List.mem_of_getElem? (i := 59) rfl))⟩)
  have E_UI : Exa s s.heap a_UI "com/example/tesserae/tesserae/value/Vr" := Exa.start ea_UI n61
  obtain ⟨a_UL, ea_UL⟩ := exa_v n63
  have S_UL : Sta s s.heap "com/example/tesserae/tesserae/value/Vr" "UL" "Lcom/example/tesserae/tesserae/value/Vr;" (.ref a_UL) := Sta.start ea_UL (Or.inr ⟨(hw _ (List.mem_of_getElem? (i := 3) rfl)), (hw _ (List.mem_of_getElem? (i := 61) rfl))⟩)
  have E_UL : Exa s s.heap a_UL "com/example/tesserae/tesserae/value/Vr" := Exa.start ea_UL n63
  obtain ⟨a_UN, ea_UN⟩ := exa_v n65
  have S_UN : Sta s s.heap "com/example/tesserae/tesserae/value/Vr" "UN" "Lcom/example/tesserae/tesserae/value/Vr;" (.ref a_UN) := Sta.start ea_UN (Or.inr ⟨(hw _ (List.mem_of_getElem? (i := 3) rfl)), (hw _ (List.mem_of_getElem? (i := 63) rfl))⟩)
  have E_UN : Exa s s.heap a_UN "com/example/tesserae/tesserae/value/Vr" := Exa.start ea_UN n65
  obtain ⟨a_UR, ea_UR⟩ := exa_v n67
  have S_UR : Sta s s.heap "com/example/tesserae/tesserae/value/Vr" "UR" "Lcom/example/tesserae/tesserae/value/Vr;" (.ref a_UR) := Sta.start ea_UR (Or.inr ⟨(hw _ (List.mem_of_getElem? (i := 3) rfl)), (hw _ (List.mem_of_getElem? (i := 65) rfl))⟩)
  have E_UR : Exa s s.heap a_UR "com/example/tesserae/tesserae/value/Vr" := Exa.start ea_UR n67
  obtain ⟨a_US, ea_US⟩ := exa_v n69
  have S_US : Sta s s.heap "com/example/tesserae/tesserae/value/Vr" "US" "Lcom/example/tesserae/tesserae/value/Vr;" (.ref a_US) := Sta.start ea_US (Or.inr ⟨(hw _ (List.mem_of_getElem? (i := 3) rfl)), (hw _ (List.mem_of_getElem? (i := 67) rfl))⟩)
  have E_US : Exa s s.heap a_US "com/example/tesserae/tesserae/value/Vr" := Exa.start ea_US n69
  obtain ⟨a_UT, ea_UT⟩ := exa_v n71
  have S_UT : Sta s s.heap "com/example/tesserae/tesserae/value/Vr" "UT" "Lcom/example/tesserae/tesserae/value/Vr;" (.ref a_UT) := Sta.start ea_UT (Or.inr ⟨(hw _ (List.mem_of_getElem? (i := 3) rfl)), (hw _ (List.mem_of_getElem? (i := 69) rfl))⟩)
  have E_UT : Exa s s.heap a_UT "com/example/tesserae/tesserae/value/Vr" := Exa.start ea_UT n71
  obtain ⟨a_UV, ea_UV⟩ := exa_v n73
  have S_UV : Sta s s.heap "com/example/tesserae/tesserae/value/Vr" "UV" "Lcom/example/tesserae/tesserae/value/Vr;" (.ref a_UV) := Sta.start ea_UV (Or.inr ⟨(hw _ (List.mem_of_getElem? (i := 3) rfl)), (hw _ (List.mem_of_getElem? (i := 71) rfl))⟩)
  have E_UV : Exa s s.heap a_UV "com/example/tesserae/tesserae/value/Vr" := Exa.start ea_UV n73
  have F_AE_text : Fld s s.heap a_AE "com/example/tesserae/tesserae/value/Vr" "text" "Z" (.int (1 : Int32)) := Fld.start ((fld_at ea_AE).symm.trans (eqv_i (Term.int_eval (1)) n75))
  have F_AE_ordinal : Fld s s.heap a_AE "java/lang/Enum" "ordinal" "I" (.int (0 : Int32)) := Fld.start ((fld_at ea_AE).symm.trans (eqv_i (Term.int_eval (0)) n77))
  have F_UI_ordinal : Fld s s.heap a_UI "java/lang/Enum" "ordinal" "I" (.int (27 : Int32)) := Fld.start ((fld_at ea_UI).symm.trans (eqv_i (Term.int_eval (27)) n79))
  have F_OB_text : Fld s s.heap a_OB "com/example/tesserae/tesserae/value/Vr" "text" "Z" (.int (0 : Int32)) := Fld.start ((fld_at ea_OB).symm.trans (eqv_i (Term.int_eval (0)) n81))
  have F_LT_text : Fld s s.heap a_LT "com/example/tesserae/tesserae/value/Vr" "text" "Z" (.int (1 : Int32)) := Fld.start ((fld_at ea_LT).symm.trans (eqv_i (Term.int_eval (1)) n83))
  have F_LT_ordinal : Fld s s.heap a_LT "java/lang/Enum" "ordinal" "I" (.int (11 : Int32)) := Fld.start ((fld_at ea_LT).symm.trans (eqv_i (Term.int_eval (11)) n85))
  have F_PN_text : Fld s s.heap a_PN "com/example/tesserae/tesserae/value/Vr" "text" "Z" (.int (1 : Int32)) := Fld.start ((fld_at ea_PN).symm.trans (eqv_i (Term.int_eval (1)) n87))
  have F_PN_ordinal : Fld s s.heap a_PN "java/lang/Enum" "ordinal" "I" (.int (18 : Int32)) := Fld.start ((fld_at ea_PN).symm.trans (eqv_i (Term.int_eval (18)) n89))
  have F_FL_text : Fld s s.heap a_FL "com/example/tesserae/tesserae/value/Vr" "text" "Z" (.int (0 : Int32)) := Fld.start ((fld_at ea_FL).symm.trans (eqv_i (Term.int_eval (0)) n91))
  have F_LO_text : Fld s s.heap a_LO "com/example/tesserae/tesserae/value/Vr" "text" "Z" (.int (1 : Int32)) := Fld.start ((fld_at ea_LO).symm.trans (eqv_i (Term.int_eval (1)) n93))
  have F_LO_ordinal : Fld s s.heap a_LO "java/lang/Enum" "ordinal" "I" (.int (10 : Int32)) := Fld.start ((fld_at ea_LO).symm.trans (eqv_i (Term.int_eval (10)) n95))
  have F_AS_text : Fld s s.heap a_AS "com/example/tesserae/tesserae/value/Vr" "text" "Z" (.int (1 : Int32)) := Fld.start ((fld_at ea_AS).symm.trans (eqv_i (Term.int_eval (1)) n97))
  have F_AS_ordinal : Fld s s.heap a_AS "java/lang/Enum" "ordinal" "I" (.int (1 : Int32)) := Fld.start ((fld_at ea_AS).symm.trans (eqv_i (Term.int_eval (1)) n99))
  have F_AT_text : Fld s s.heap a_AT "com/example/tesserae/tesserae/value/Vr" "text" "Z" (.int (0 : Int32)) := Fld.start ((fld_at ea_AT).symm.trans (eqv_i (Term.int_eval (0)) n101))
  have F_CS_text : Fld s s.heap a_CS "com/example/tesserae/tesserae/value/Vr" "text" "Z" (.int (1 : Int32)) := Fld.start ((fld_at ea_CS).symm.trans (eqv_i (Term.int_eval (1)) n103))
  have F_CS_ordinal : Fld s s.heap a_CS "java/lang/Enum" "ordinal" "I" (.int (3 : Int32)) := Fld.start ((fld_at ea_CS).symm.trans (eqv_i (Term.int_eval (3)) n105))
  have F_FD_text : Fld s s.heap a_FD "com/example/tesserae/tesserae/value/Vr" "text" "Z" (.int (0 : Int32)) := Fld.start ((fld_at ea_FD).symm.trans (eqv_i (Term.int_eval (0)) n107))
  have F_OW_text : Fld s s.heap a_OW "com/example/tesserae/tesserae/value/Vr" "text" "Z" (.int (0 : Int32)) := Fld.start ((fld_at ea_OW).symm.trans (eqv_i (Term.int_eval (0)) n109))
  have F_IS_text : Fld s s.heap a_IS "com/example/tesserae/tesserae/value/Vr" "text" "Z" (.int (1 : Int32)) := Fld.start ((fld_at ea_IS).symm.trans (eqv_i (Term.int_eval (1)) n111))
  have F_IS_ordinal : Fld s s.heap a_IS "java/lang/Enum" "ordinal" "I" (.int (9 : Int32)) := Fld.start ((fld_at ea_IS).symm.trans (eqv_i (Term.int_eval (9)) n113))
  have F_DS_text : Fld s s.heap a_DS "com/example/tesserae/tesserae/value/Vr" "text" "Z" (.int (1 : Int32)) := Fld.start ((fld_at ea_DS).symm.trans (eqv_i (Term.int_eval (1)) n115))
  have F_DS_ordinal : Fld s s.heap a_DS "java/lang/Enum" "ordinal" "I" (.int (5 : Int32)) := Fld.start ((fld_at ea_DS).symm.trans (eqv_i (Term.int_eval (5)) n117))
  have F_UV_text : Fld s s.heap a_UV "com/example/tesserae/tesserae/value/Vr" "text" "Z" (.int (0 : Int32)) := Fld.start ((fld_at ea_UV).symm.trans (eqv_i (Term.int_eval (0)) n119))
  have F_SQ_text : Fld s s.heap a_SQ "com/example/tesserae/tesserae/value/Vr" "text" "Z" (.int (0 : Int32)) := Fld.start ((fld_at ea_SQ).symm.trans (eqv_i (Term.int_eval (0)) n121))
  have F_TM_text : Fld s s.heap a_TM "com/example/tesserae/tesserae/value/Vr" "text" "Z" (.int (1 : Int32)) := Fld.start ((fld_at ea_TM).symm.trans (eqv_i (Term.int_eval (1)) n123))
  have F_TM_ordinal : Fld s s.heap a_TM "java/lang/Enum" "ordinal" "I" (.int (25 : Int32)) := Fld.start ((fld_at ea_TM).symm.trans (eqv_i (Term.int_eval (25)) n125))
  have F_UR_text : Fld s s.heap a_UR "com/example/tesserae/tesserae/value/Vr" "text" "Z" (.int (1 : Int32)) := Fld.start ((fld_at ea_UR).symm.trans (eqv_i (Term.int_eval (1)) n127))
  have F_UR_ordinal : Fld s s.heap a_UR "java/lang/Enum" "ordinal" "I" (.int (30 : Int32)) := Fld.start ((fld_at ea_UR).symm.trans (eqv_i (Term.int_eval (30)) n129))
  have F_DA_text : Fld s s.heap a_DA "com/example/tesserae/tesserae/value/Vr" "text" "Z" (.int (1 : Int32)) := Fld.start ((fld_at ea_DA).symm.trans (eqv_i (Term.int_eval (1)) n131))
  have F_DA_ordinal : Fld s s.heap a_DA "java/lang/Enum" "ordinal" "I" (.int (4 : Int32)) := Fld.start ((fld_at ea_DA).symm.trans (eqv_i (Term.int_eval (4)) n133))
  have F_UN_text : Fld s s.heap a_UN "com/example/tesserae/tesserae/value/Vr" "text" "Z" (.int (0 : Int32)) := Fld.start ((fld_at ea_UN).symm.trans (eqv_i (Term.int_eval (0)) n135))
  have F_SL_text : Fld s s.heap a_SL "com/example/tesserae/tesserae/value/Vr" "text" "Z" (.int (0 : Int32)) := Fld.start ((fld_at ea_SL).symm.trans (eqv_i (Term.int_eval (0)) n137))
  have F_OV_text : Fld s s.heap a_OV "com/example/tesserae/tesserae/value/Vr" "text" "Z" (.int (0 : Int32)) := Fld.start ((fld_at ea_OV).symm.trans (eqv_i (Term.int_eval (0)) n139))
  have F_SV_text : Fld s s.heap a_SV "com/example/tesserae/tesserae/value/Vr" "text" "Z" (.int (0 : Int32)) := Fld.start ((fld_at ea_SV).symm.trans (eqv_i (Term.int_eval (0)) n141))
  have F_OF_text : Fld s s.heap a_OF "com/example/tesserae/tesserae/value/Vr" "text" "Z" (.int (0 : Int32)) := Fld.start ((fld_at ea_OF).symm.trans (eqv_i (Term.int_eval (0)) n143))
  have F_OD_text : Fld s s.heap a_OD "com/example/tesserae/tesserae/value/Vr" "text" "Z" (.int (0 : Int32)) := Fld.start ((fld_at ea_OD).symm.trans (eqv_i (Term.int_eval (0)) n145))
  have F_DT_text : Fld s s.heap a_DT "com/example/tesserae/tesserae/value/Vr" "text" "Z" (.int (1 : Int32)) := Fld.start ((fld_at ea_DT).symm.trans (eqv_i (Term.int_eval (1)) n147))
  have F_DT_ordinal : Fld s s.heap a_DT "java/lang/Enum" "ordinal" "I" (.int (6 : Int32)) := Fld.start ((fld_at ea_DT).symm.trans (eqv_i (Term.int_eval (6)) n149))
  have F_SH_text : Fld s s.heap a_SH "com/example/tesserae/tesserae/value/Vr" "text" "Z" (.int (1 : Int32)) := Fld.start ((fld_at ea_SH).symm.trans (eqv_i (Term.int_eval (1)) n151))
  have F_SH_ordinal : Fld s s.heap a_SH "java/lang/Enum" "ordinal" "I" (.int (19 : Int32)) := Fld.start ((fld_at ea_SH).symm.trans (eqv_i (Term.int_eval (19)) n153))
  have F_OL_text : Fld s s.heap a_OL "com/example/tesserae/tesserae/value/Vr" "text" "Z" (.int (0 : Int32)) := Fld.start ((fld_at ea_OL).symm.trans (eqv_i (Term.int_eval (0)) n155))
  have F_ST_text : Fld s s.heap a_ST "com/example/tesserae/tesserae/value/Vr" "text" "Z" (.int (1 : Int32)) := Fld.start ((fld_at ea_ST).symm.trans (eqv_i (Term.int_eval (1)) n157))
  have F_ST_ordinal : Fld s s.heap a_ST "java/lang/Enum" "ordinal" "I" (.int (23 : Int32)) := Fld.start ((fld_at ea_ST).symm.trans (eqv_i (Term.int_eval (23)) n159))
  have F_SS_text : Fld s s.heap a_SS "com/example/tesserae/tesserae/value/Vr" "text" "Z" (.int (0 : Int32)) := Fld.start ((fld_at ea_SS).symm.trans (eqv_i (Term.int_eval (0)) n161))
  have F_US_text : Fld s s.heap a_US "com/example/tesserae/tesserae/value/Vr" "text" "Z" (.int (0 : Int32)) := Fld.start ((fld_at ea_US).symm.trans (eqv_i (Term.int_eval (0)) n163))
  have F_UC_text : Fld s s.heap a_UC "com/example/tesserae/tesserae/value/Vr" "text" "Z" (.int (1 : Int32)) := Fld.start ((fld_at ea_UC).symm.trans (eqv_i (Term.int_eval (1)) n165))
  have F_UC_ordinal : Fld s s.heap a_UC "java/lang/Enum" "ordinal" "I" (.int (26 : Int32)) := Fld.start ((fld_at ea_UC).symm.trans (eqv_i (Term.int_eval (26)) n167))
  have F_UT_text : Fld s s.heap a_UT "com/example/tesserae/tesserae/value/Vr" "text" "Z" (.int (1 : Int32)) := Fld.start ((fld_at ea_UT).symm.trans (eqv_i (Term.int_eval (1)) n169))
  have F_UT_ordinal : Fld s s.heap a_UT "java/lang/Enum" "ordinal" "I" (.int (32 : Int32)) := Fld.start ((fld_at ea_UT).symm.trans (eqv_i (Term.int_eval (32)) n171))
  have F_UI_text : Fld s s.heap a_UI "com/example/tesserae/tesserae/value/Vr" "text" "Z" (.int (1 : Int32)) := Fld.start ((fld_at ea_UI).symm.trans (eqv_i (Term.int_eval (1)) n173))
  have F_UL_text : Fld s s.heap a_UL "com/example/tesserae/tesserae/value/Vr" "text" "Z" (.int (0 : Int32)) := Fld.start ((fld_at ea_UL).symm.trans (eqv_i (Term.int_eval (0)) n174))
  obtain ⟨n, o, h1, h2, h3, _, L, rfl, ⟨rfl, N⟩, hq⟩ := rm0 l s _ hw tables_1 i0 i1 i2 a_AE a_AS a_AT a_CS a_DA a_DS a_DT a_FD a_FL a_IS a_LO a_LT a_OB a_OD a_OF a_OL a_OV a_OW a_PN a_SH a_SL a_SQ a_SS a_ST a_SV a_TM a_UC a_UI a_UL a_UN a_UR a_US a_UT a_UV s.heap s.heap.size (Nat.le_refl _) (Old.start s) S_AE E_AE S_AS E_AS S_AT E_AT S_CS E_CS S_DA E_DA S_DS E_DS S_DT E_DT S_FD E_FD S_FL E_FL S_IS E_IS S_LO E_LO S_LT E_LT S_OB E_OB S_OD E_OD S_OF E_OF S_OL E_OL S_OV E_OV S_OW E_OW S_PN E_PN S_SH E_SH S_SL E_SL S_SQ E_SQ S_SS E_SS S_ST E_ST S_SV E_SV S_TM E_TM S_UC E_UC S_UI E_UI S_UL E_UL S_UN E_UN S_UR E_UR S_US E_US S_UT E_UT S_UV E_UV F_AE_text F_AE_ordinal F_UI_ordinal F_OB_text F_LT_text F_LT_ordinal F_PN_text F_PN_ordinal F_FL_text F_LO_text F_LO_ordinal F_AS_text F_AS_ordinal F_AT_text F_CS_text F_CS_ordinal F_FD_text F_OW_text F_IS_text F_IS_ordinal F_DS_text F_DS_ordinal F_UV_text F_SQ_text F_TM_text F_TM_ordinal F_UR_text F_UR_ordinal F_DA_text F_DA_ordinal F_UN_text F_SL_text F_OV_text F_SV_text F_OF_text F_OD_text F_DT_text F_DT_ordinal F_SH_text F_SH_ordinal F_OL_text F_ST_text F_ST_ordinal F_SS_text F_US_text F_UC_text F_UC_ordinal F_UT_text F_UT_ordinal F_UI_text F_UL_text p e ha hc hk s m _ below hf ((Spec.applies_iff_loose hf).mp happ).1 ⟨rfl, State.Warmed39.refl s, rfl⟩ trivial
  refine ⟨n, _, h1, h2, h3, hpost _ _ _ _ _ _ ⟨Cond.after_iff.mpr rfl, Cond.after_iff.mpr (eq_i res_at (Term.int_eval (1)) rfl), trivial⟩ ⟨hq.1, hq.2.1, (hq.2.2.sift fun y hy => Or.inr (N y hy)).mono (by decide) (by decide)⟩⟩
theorem main_1_1 : Claimed_1_1 := comes_1 fun _ _ _ _ _ _ h hF => ⟨h.1, hF⟩
theorem main_1_2 : Claimed_1_2 := comes_1 fun _ _ _ _ _ _ h hF => ⟨h.2.1, hF⟩
end Jvm.Pilot.@@N@@
namespace Jvm.Pilot.@@N@@
open Jvm Jvm.ClassFile Sem Op Lib Jvm.Free Jvm.Stand Jvm.Pilot.@@N@@.Jvm.D
/-! MADE BY PROGRAM (witnessworld.py) out of the Statement's table words and the real class files: 16 classes; the members and pool entries that the words name. The judged class is class 1, her method 2. -/
namespace start1
open Jvm.ClassFile
def u (s : String) : CpInfo := .utf8 (stringToUtf16 s)
/-- a pool by its gaps: so many unusable entries, then the entry; so many at the end -/
def gap : Nat → List CpInfo → List CpInfo
  | 0, r => r
  | n + 1, r => .unusable :: gap n r
def poolList (es : List (Nat × CpInfo)) (last : Nat) : List CpInfo := es.foldr (fun e r => gap e.1 (e.2 :: r)) (gap last [])
def pool (es : List (Nat × CpInfo)) (last : Nat) : Array CpInfo := ⟨poolList es last⟩
def fileOf (pool : Array CpInfo) (this : Nat) (attrs : Array Attribute := #[]) (ms : Array MethodInfo := #[]) (fl : Nat := 33) (sup : Nat := 0) (ifs : Array Nat := #[]) (fds : Array FieldInfo := #[]) : ClassFile where
  minorVersion := 0
  majorVersion := 65
  constantPool := pool
  accessFlags := fl
  thisClass := this
  superClass := sup
  interfaces := ifs
  fields := fds
  methods := ms
  attributes := attrs
def plain (name : String) (sup : Option ClassId) : Class where
  name := name
  kind := .ordinary
  loader := none
  accessFlags := 33
  super := sup
  interfaces := #[]
  cf := none
  fields := #[]
  methods := #[]
  instanceTypes := #[]
  staticTypes := #[]
  resolved := #[]
  callSites := []
  init := .initialized
  statics := none
  mirror := none

def pool0 : Array CpInfo := pool [(5, u "<init>"), (0, u "()V"), (1, .class_ 10), (1, u "java/lang/Object")] 113

def k0m0 : Method := { name := "<init>", desc := "()V", sig := { parameters := [], returnType := none }, accessFlags := 1, code := none }
/-- java/lang/Object -/
def k0 : Class := { plain "java/lang/Object" none with
  accessFlags := 33
  interfaces := #[]
  cf := some (fileOf pool0 8 #[] #[{ accessFlags := 1, nameIndex := 5, descriptorIndex := 6, attributes := #[] }] 33 0 #[] #[])
  fields := #[]
  methods := #[k0m0]
  instanceTypes := #[]
  staticTypes := #[]
  resolved := Array.replicate 124 none
  statics := none }

def pool1 : Array CpInfo := pool [(2, .class_ 4), (1, u "java/lang/Object"), (0, u "<init>"), (0, u "()V"), (0, .class_ 8), (0, u "com/example/tesserae/tesserae/value/Vr"), (0, .fieldref 7 10), (0, .nameAndType 11 12), (0, u "AE"), (0, u "Lcom/example/tesserae/tesserae/value/Vr;"), (0, .fieldref 7 14), (0, .nameAndType 15 12), (0, u "AS"), (0, .fieldref 7 17), (0, .nameAndType 18 12), (0, u "AT"), (0, .fieldref 7 20), (0, .nameAndType 21 12), (0, u "CS"), (0, .fieldref 7 23), (0, .nameAndType 24 12), (0, u "DA"), (0, .fieldref 7 26), (0, .nameAndType 27 12), (0, u "DS"), (0, .fieldref 7 29), (0, .nameAndType 30 12), (0, u "DT"), (0, .fieldref 7 32), (0, .nameAndType 33 12), (0, u "FD"), (0, .fieldref 7 35), (0, .nameAndType 36 12), (0, u "FL"), (0, .fieldref 7 38), (0, .nameAndType 39 12), (0, u "IS"), (0, .fieldref 7 41), (0, .nameAndType 42 12), (0, u "LO"), (0, .fieldref 7 44), (0, .nameAndType 45 12), (0, u "LT"), (0, .fieldref 7 47), (0, .nameAndType 48 12), (0, u "OB"), (0, .fieldref 7 50), (0, .nameAndType 51 12), (0, u "OD"), (0, .fieldref 7 53), (0, .nameAndType 54 12), (0, u "OF"), (0, .fieldref 7 56), (0, .nameAndType 57 12), (0, u "OL"), (0, .fieldref 7 59), (0, .nameAndType 60 12), (0, u "OV"), (0, .fieldref 7 62), (0, .nameAndType 63 12), (0, u "OW"), (0, .fieldref 7 65), (0, .nameAndType 66 12), (0, u "PN"), (0, .fieldref 7 68), (0, .nameAndType 69 12), (0, u "SH"), (0, .fieldref 7 71), (0, .nameAndType 72 12), (0, u "SL"), (0, .fieldref 7 74), (0, .nameAndType 75 12), (0, u "SQ"), (0, .fieldref 7 77), (0, .nameAndType 78 12), (0, u "SS"), (0, .fieldref 7 80), (0, .nameAndType 81 12), (0, u "ST"), (0, .fieldref 7 83), (0, .nameAndType 84 12), (0, u "SV"), (0, .fieldref 7 86), (0, .nameAndType 87 12), (0, u "TM"), (0, .fieldref 7 89), (0, .nameAndType 90 12), (0, u "UC"), (0, .fieldref 7 92), (0, .nameAndType 93 12), (0, u "UI"), (0, .fieldref 7 95), (0, .nameAndType 96 12), (0, u "UL"), (0, .fieldref 7 98), (0, .nameAndType 99 12), (0, u "UN"), (0, .fieldref 7 101), (0, .nameAndType 102 12), (0, u "UR"), (0, .fieldref 7 104), (0, .nameAndType 105 12), (0, u "US"), (0, .fieldref 7 107), (0, .nameAndType 108 12), (0, u "UT"), (0, .fieldref 7 110), (0, .nameAndType 111 12), (0, u "UV"), (0, .long 5478551163), (1, .integer 2147483647), (0, .methodref 7 116), (0, .nameAndType 117 118), (0, u "pad"), (0, u "([B)[B"), (0, .methodref 120 121), (0, .class_ 122), (0, .nameAndType 123 124), (0, u "com/example/tesserae/tesserae/value/VrPadPinLaw"), (0, u "sameAt"), (0, u "([BJII)Z"), (3, u "law"), (0, u "(IIJ)Z")] 6

def k1m0 : Method := { name := "<init>", desc := "()V", sig := { parameters := [], returnType := none }, accessFlags := 1, code := none }
def k1c1 : Code := { maxStack := 5, maxLocals := 5, code := method_2_code, exceptionTable := #[], attributes := #[] }
def k1m1 : Method := { name := "sameAt", desc := "([BJII)Z", sig := { parameters := [(.array .byte), .long, .int, .int], returnType := some .boolean }, accessFlags := 10, code := some k1c1 }
def k1c2 : Code := { maxStack := 5, maxLocals := 14, code := code, exceptionTable := #[], attributes := #[] }
def k1m2 : Method := { name := "law", desc := "(IIJ)Z", sig := { parameters := [.int, .int, .long], returnType := some .boolean }, accessFlags := 9, code := some k1c2 }
/-- com/example/tesserae/tesserae/value/VrPadPinLaw -/
def k1 : Class := { plain "com/example/tesserae/tesserae/value/VrPadPinLaw" (some 0) with
  accessFlags := 49
  interfaces := #[]
  cf := some (fileOf pool1 120 #[] #[{ accessFlags := 1, nameIndex := 5, descriptorIndex := 6, attributes := #[] }, { accessFlags := 10, nameIndex := 123, descriptorIndex := 124, attributes := #[] }, { accessFlags := 9, nameIndex := 128, descriptorIndex := 129, attributes := #[] }] 49 2 #[] #[])
  fields := #[]
  methods := #[k1m0, k1m1, k1m2]
  instanceTypes := #[]
  staticTypes := #[]
  resolved := Array.replicate 136 none
  statics := none }

def pool2 : Array CpInfo := pool [(1, .class_ 2), (0, u "java/lang/constant/Constable"), (0, .class_ 4), (0, u "java/lang/Object")] 6

/-- java/lang/constant/Constable -/
def k2 : Class := { plain "java/lang/constant/Constable" (some 0) with
  accessFlags := 1537
  interfaces := #[]
  cf := some (fileOf pool2 1 #[] #[] 1537 3 #[] #[])
  fields := #[]
  methods := #[]
  instanceTypes := #[]
  staticTypes := #[]
  resolved := Array.replicate 11 none
  statics := none }

def pool3 : Array CpInfo := pool [(1, .class_ 2), (0, u "java/lang/Comparable"), (0, .class_ 4), (0, u "java/lang/Object")] 7

/-- java/lang/Comparable -/
def k3 : Class := { plain "java/lang/Comparable" (some 0) with
  accessFlags := 1537
  interfaces := #[]
  cf := some (fileOf pool3 1 #[] #[] 1537 3 #[] #[])
  fields := #[]
  methods := #[]
  instanceTypes := #[]
  staticTypes := #[]
  resolved := Array.replicate 12 none
  statics := none }

def pool4 : Array CpInfo := pool [(1, .class_ 2), (0, u "java/io/Serializable"), (0, .class_ 4), (0, u "java/lang/Object")] 2

/-- java/io/Serializable -/
def k4 : Class := { plain "java/io/Serializable" (some 0) with
  accessFlags := 1537
  interfaces := #[]
  cf := some (fileOf pool4 1 #[] #[] 1537 3 #[] #[])
  fields := #[]
  methods := #[]
  instanceTypes := #[]
  staticTypes := #[]
  resolved := Array.replicate 7 none
  statics := none }

def pool5 : Array CpInfo := pool [(2, .class_ 4), (1, u "java/lang/Enum"), (0, u "name"), (0, u "Ljava/lang/String;"), (2, u "ordinal"), (0, u "I"), (1, .class_ 14), (1, u "java/lang/Object"), (4, u "hash"), (86, .class_ 108), (1, u "java/lang/Enum$EnumDesc"), (2, .class_ 112), (0, u "java/lang/constant/Constable"), (0, .class_ 114), (0, u "java/lang/Comparable"), (0, .class_ 116), (0, u "java/io/Serializable")] 87

/-- java/lang/Enum -/
def k5 : Class := { plain "java/lang/Enum" (some 0) with
  accessFlags := 1057
  interfaces := #[2, 3, 4]
  cf := some (fileOf pool5 2 #[.nestMembers #[106]] #[] 1057 12 #[111, 113, 115] #[{ accessFlags := 18, nameIndex := 5, descriptorIndex := 6, attributes := #[] }, { accessFlags := 18, nameIndex := 9, descriptorIndex := 10, attributes := #[] }, { accessFlags := 2, nameIndex := 19, descriptorIndex := 10, attributes := #[] }])
  fields := #[{ name := "name", type := (.object "java/lang/String"), accessFlags := 18, slot := 0, constantValue := 0 }, { name := "ordinal", type := .int, accessFlags := 18, slot := 1, constantValue := 0 }, { name := "hash", type := .int, accessFlags := 2, slot := 2, constantValue := 0 }]
  methods := #[]
  instanceTypes := #[(.object "java/lang/String"), .int, .int]
  staticTypes := #[]
  resolved := Array.replicate 204 none
  statics := none }

def pool6 : Array CpInfo := pool [(1, .class_ 2), (0, u "com/example/tesserae/tesserae/value/Vr"), (2, u "AE"), (0, u "Lcom/example/tesserae/tesserae/value/Vr;"), (2, u "AS"), (2, u "AT"), (2, u "CS"), (2, u "DA"), (2, u "DS"), (2, u "DT"), (2, u "FD"), (2, u "FL"), (2, u "IS"), (2, u "LO"), (2, u "LT"), (2, u "OB"), (2, u "OD"), (2, u "OF"), (2, u "OL"), (2, u "OV"), (2, u "OW"), (2, u "PN"), (2, u "SH"), (2, u "SL"), (2, u "SQ"), (2, u "SS"), (2, u "ST"), (2, u "SV"), (2, u "TM"), (2, u "UC"), (0, .fieldref 1 86), (0, .nameAndType 87 6), (0, u "UI"), (2, u "UL"), (2, u "UN"), (2, u "UR"), (2, u "US"), (2, u "UT"), (2, u "UV"), (2, u "$VALUES"), (0, u "[Lcom/example/tesserae/tesserae/value/Vr;"), (6, .class_ 118), (1, u "java/lang/Enum"), (6, .fieldref 1 126), (0, .nameAndType 127 128), (0, u "text"), (0, u "Z"), (2, u "longLength"), (2, u "maxLength"), (0, u "I"), (48, u "WORDS"), (0, u "Ljava/util/Set;"), (35, .methodref 222 223), (0, .class_ 224), (0, .nameAndType 225 226), (0, u "java/util/Arrays"), (0, u "copyOf"), (0, u "([BI)[B"), (51, u "DELIMITER_STAND_IN"), (0, u "C"), (20, u "pad"), (0, u "([B)[B")] 6

def k6c0 : Code := { maxStack := 3, maxLocals := 3, code := prog_24_method_15_code, exceptionTable := #[], attributes := #[] }
def k6m0 : Method := { name := "pad", desc := "([B)[B", sig := { parameters := [(.array .byte)], returnType := some (.array .byte) }, accessFlags := 1, code := some k6c0 }
/-- com/example/tesserae/tesserae/value/Vr -/
def k6 : Class := { plain "com/example/tesserae/tesserae/value/Vr" (some 5) with
  accessFlags := 16433
  interfaces := #[]
  cf := some (fileOf pool6 1 #[] #[{ accessFlags := 1, nameIndex := 300, descriptorIndex := 301, attributes := #[] }] 16433 116 #[] #[{ accessFlags := 16409, nameIndex := 5, descriptorIndex := 6, attributes := #[] }, { accessFlags := 16409, nameIndex := 9, descriptorIndex := 6, attributes := #[] }, { accessFlags := 16409, nameIndex := 12, descriptorIndex := 6, attributes := #[] }, { accessFlags := 16409, nameIndex := 15, descriptorIndex := 6, attributes := #[] }, { accessFlags := 16409, nameIndex := 18, descriptorIndex := 6, attributes := #[] }, { accessFlags := 16409, nameIndex := 21, descriptorIndex := 6, attributes := #[] }, { accessFlags := 16409, nameIndex := 24, descriptorIndex := 6, attributes := #[] }, { accessFlags := 16409, nameIndex := 27, descriptorIndex := 6, attributes := #[] }, { accessFlags := 16409, nameIndex := 30, descriptorIndex := 6, attributes := #[] }, { accessFlags := 16409, nameIndex := 33, descriptorIndex := 6, attributes := #[] }, { accessFlags := 16409, nameIndex := 36, descriptorIndex := 6, attributes := #[] }, { accessFlags := 16409, nameIndex := 39, descriptorIndex := 6, attributes := #[] }, { accessFlags := 16409, nameIndex := 42, descriptorIndex := 6, attributes := #[] }, { accessFlags := 16409, nameIndex := 45, descriptorIndex := 6, attributes := #[] }, { accessFlags := 16409, nameIndex := 48, descriptorIndex := 6, attributes := #[] }, { accessFlags := 16409, nameIndex := 51, descriptorIndex := 6, attributes := #[] }, { accessFlags := 16409, nameIndex := 54, descriptorIndex := 6, attributes := #[] }, { accessFlags := 16409, nameIndex := 57, descriptorIndex := 6, attributes := #[] }, { accessFlags := 16409, nameIndex := 60, descriptorIndex := 6, attributes := #[] }, { accessFlags := 16409, nameIndex := 63, descriptorIndex := 6, attributes := #[] }, { accessFlags := 16409, nameIndex := 66, descriptorIndex := 6, attributes := #[] }, { accessFlags := 16409, nameIndex := 69, descriptorIndex := 6, attributes := #[] }, { accessFlags := 16409, nameIndex := 72, descriptorIndex := 6, attributes := #[] }, { accessFlags := 16409, nameIndex := 75, descriptorIndex := 6, attributes := #[] }, { accessFlags := 16409, nameIndex := 78, descriptorIndex := 6, attributes := #[] }, { accessFlags := 16409, nameIndex := 81, descriptorIndex := 6, attributes := #[] }, { accessFlags := 16409, nameIndex := 84, descriptorIndex := 6, attributes := #[] }, { accessFlags := 16409, nameIndex := 87, descriptorIndex := 6, attributes := #[] }, { accessFlags := 16409, nameIndex := 90, descriptorIndex := 6, attributes := #[] }, { accessFlags := 16409, nameIndex := 93, descriptorIndex := 6, attributes := #[] }, { accessFlags := 16409, nameIndex := 96, descriptorIndex := 6, attributes := #[] }, { accessFlags := 16409, nameIndex := 99, descriptorIndex := 6, attributes := #[] }, { accessFlags := 16409, nameIndex := 102, descriptorIndex := 6, attributes := #[] }, { accessFlags := 16409, nameIndex := 105, descriptorIndex := 6, attributes := #[] }, { accessFlags := 26, nameIndex := 184, descriptorIndex := 185, attributes := #[] }, { accessFlags := 26, nameIndex := 278, descriptorIndex := 279, attributes := #[] }, { accessFlags := 18, nameIndex := 127, descriptorIndex := 128, attributes := #[] }, { accessFlags := 18, nameIndex := 131, descriptorIndex := 128, attributes := #[] }, { accessFlags := 18, nameIndex := 134, descriptorIndex := 135, attributes := #[] }, { accessFlags := 4122, nameIndex := 108, descriptorIndex := 109, attributes := #[] }])
  fields := #[{ name := "AE", type := (.object "com/example/tesserae/tesserae/value/Vr"), accessFlags := 16409, slot := 0, constantValue := 0 }, { name := "AS", type := (.object "com/example/tesserae/tesserae/value/Vr"), accessFlags := 16409, slot := 1, constantValue := 0 }, { name := "AT", type := (.object "com/example/tesserae/tesserae/value/Vr"), accessFlags := 16409, slot := 2, constantValue := 0 }, { name := "CS", type := (.object "com/example/tesserae/tesserae/value/Vr"), accessFlags := 16409, slot := 3, constantValue := 0 }, { name := "DA", type := (.object "com/example/tesserae/tesserae/value/Vr"), accessFlags := 16409, slot := 4, constantValue := 0 }, { name := "DS", type := (.object "com/example/tesserae/tesserae/value/Vr"), accessFlags := 16409, slot := 5, constantValue := 0 }, { name := "DT", type := (.object "com/example/tesserae/tesserae/value/Vr"), accessFlags := 16409, slot := 6, constantValue := 0 }, { name := "FD", type := (.object "com/example/tesserae/tesserae/value/Vr"), accessFlags := 16409, slot := 7, constantValue := 0 }, { name := "FL", type := (.object "com/example/tesserae/tesserae/value/Vr"), accessFlags := 16409, slot := 8, constantValue := 0 }, { name := "IS", type := (.object "com/example/tesserae/tesserae/value/Vr"), accessFlags := 16409, slot := 9, constantValue := 0 }, { name := "LO", type := (.object "com/example/tesserae/tesserae/value/Vr"), accessFlags := 16409, slot := 10, constantValue := 0 }, { name := "LT", type := (.object "com/example/tesserae/tesserae/value/Vr"), accessFlags := 16409, slot := 11, constantValue := 0 }, { name := "OB", type := (.object "com/example/tesserae/tesserae/value/Vr"), accessFlags := 16409, slot := 12, constantValue := 0 }, { name := "OD", type := (.object "com/example/tesserae/tesserae/value/Vr"), accessFlags := 16409, slot := 13, constantValue := 0 }, { name := "OF", type := (.object "com/example/tesserae/tesserae/value/Vr"), accessFlags := 16409, slot := 14, constantValue := 0 }, { name := "OL", type := (.object "com/example/tesserae/tesserae/value/Vr"), accessFlags := 16409, slot := 15, constantValue := 0 }, { name := "OV", type := (.object "com/example/tesserae/tesserae/value/Vr"), accessFlags := 16409, slot := 16, constantValue := 0 }, { name := "OW", type := (.object "com/example/tesserae/tesserae/value/Vr"), accessFlags := 16409, slot := 17, constantValue := 0 }, { name := "PN", type := (.object "com/example/tesserae/tesserae/value/Vr"), accessFlags := 16409, slot := 18, constantValue := 0 }, { name := "SH", type := (.object "com/example/tesserae/tesserae/value/Vr"), accessFlags := 16409, slot := 19, constantValue := 0 }, { name := "SL", type := (.object "com/example/tesserae/tesserae/value/Vr"), accessFlags := 16409, slot := 20, constantValue := 0 }, { name := "SQ", type := (.object "com/example/tesserae/tesserae/value/Vr"), accessFlags := 16409, slot := 21, constantValue := 0 }, { name := "SS", type := (.object "com/example/tesserae/tesserae/value/Vr"), accessFlags := 16409, slot := 22, constantValue := 0 }, { name := "ST", type := (.object "com/example/tesserae/tesserae/value/Vr"), accessFlags := 16409, slot := 23, constantValue := 0 }, { name := "SV", type := (.object "com/example/tesserae/tesserae/value/Vr"), accessFlags := 16409, slot := 24, constantValue := 0 }, { name := "TM", type := (.object "com/example/tesserae/tesserae/value/Vr"), accessFlags := 16409, slot := 25, constantValue := 0 }, { name := "UC", type := (.object "com/example/tesserae/tesserae/value/Vr"), accessFlags := 16409, slot := 26, constantValue := 0 }, { name := "UI", type := (.object "com/example/tesserae/tesserae/value/Vr"), accessFlags := 16409, slot := 27, constantValue := 0 }, { name := "UL", type := (.object "com/example/tesserae/tesserae/value/Vr"), accessFlags := 16409, slot := 28, constantValue := 0 }, { name := "UN", type := (.object "com/example/tesserae/tesserae/value/Vr"), accessFlags := 16409, slot := 29, constantValue := 0 }, { name := "UR", type := (.object "com/example/tesserae/tesserae/value/Vr"), accessFlags := 16409, slot := 30, constantValue := 0 }, { name := "US", type := (.object "com/example/tesserae/tesserae/value/Vr"), accessFlags := 16409, slot := 31, constantValue := 0 }, { name := "UT", type := (.object "com/example/tesserae/tesserae/value/Vr"), accessFlags := 16409, slot := 32, constantValue := 0 }, { name := "UV", type := (.object "com/example/tesserae/tesserae/value/Vr"), accessFlags := 16409, slot := 33, constantValue := 0 }, { name := "WORDS", type := (.object "java/util/Set"), accessFlags := 26, slot := 34, constantValue := 0 }, { name := "DELIMITER_STAND_IN", type := .char, accessFlags := 26, slot := 35, constantValue := 0 }, { name := "text", type := .boolean, accessFlags := 18, slot := 3, constantValue := 0 }, { name := "longLength", type := .boolean, accessFlags := 18, slot := 4, constantValue := 0 }, { name := "maxLength", type := .int, accessFlags := 18, slot := 5, constantValue := 0 }, { name := "$VALUES", type := (.array (.object "com/example/tesserae/tesserae/value/Vr")), accessFlags := 4122, slot := 36, constantValue := 0 }]
  methods := #[k6m0]
  instanceTypes := #[(.object "java/lang/String"), .int, .int, .boolean, .boolean, .int]
  staticTypes := #[(.object "com/example/tesserae/tesserae/value/Vr"), (.object "com/example/tesserae/tesserae/value/Vr"), (.object "com/example/tesserae/tesserae/value/Vr"), (.object "com/example/tesserae/tesserae/value/Vr"), (.object "com/example/tesserae/tesserae/value/Vr"), (.object "com/example/tesserae/tesserae/value/Vr"), (.object "com/example/tesserae/tesserae/value/Vr"), (.object "com/example/tesserae/tesserae/value/Vr"), (.object "com/example/tesserae/tesserae/value/Vr"), (.object "com/example/tesserae/tesserae/value/Vr"), (.object "com/example/tesserae/tesserae/value/Vr"), (.object "com/example/tesserae/tesserae/value/Vr"), (.object "com/example/tesserae/tesserae/value/Vr"), (.object "com/example/tesserae/tesserae/value/Vr"), (.object "com/example/tesserae/tesserae/value/Vr"), (.object "com/example/tesserae/tesserae/value/Vr"), (.object "com/example/tesserae/tesserae/value/Vr"), (.object "com/example/tesserae/tesserae/value/Vr"), (.object "com/example/tesserae/tesserae/value/Vr"), (.object "com/example/tesserae/tesserae/value/Vr"), (.object "com/example/tesserae/tesserae/value/Vr"), (.object "com/example/tesserae/tesserae/value/Vr"), (.object "com/example/tesserae/tesserae/value/Vr"), (.object "com/example/tesserae/tesserae/value/Vr"), (.object "com/example/tesserae/tesserae/value/Vr"), (.object "com/example/tesserae/tesserae/value/Vr"), (.object "com/example/tesserae/tesserae/value/Vr"), (.object "com/example/tesserae/tesserae/value/Vr"), (.object "com/example/tesserae/tesserae/value/Vr"), (.object "com/example/tesserae/tesserae/value/Vr"), (.object "com/example/tesserae/tesserae/value/Vr"), (.object "com/example/tesserae/tesserae/value/Vr"), (.object "com/example/tesserae/tesserae/value/Vr"), (.object "com/example/tesserae/tesserae/value/Vr"), (.object "java/util/Set"), .char, (.array (.object "com/example/tesserae/tesserae/value/Vr"))]
  resolved := Array.replicate 308 none
  statics := some 0 }

def pool7 : Array CpInfo := pool [(2, .class_ 4), (1, u "java/lang/Object"), (0, u "<init>"), (0, u "()V"), (7, .class_ 16), (1, u "java/util/Arrays"), (57, .class_ 76), (1, u "java/util/Arrays$NaturalOrder"), (36, .class_ 115), (1, u "java/util/Arrays$LegacyMergeSort"), (1, u "Z"), (32, .methodref 151 152), (0, .class_ 153), (0, .nameAndType 154 155), (0, u "java/lang/System"), (0, u "arraycopy"), (0, u "(Ljava/lang/Object;ILjava/lang/Object;II)V"), (146, u "copyOf"), (1, .methodref 305 306), (0, .class_ 307), (0, .nameAndType 308 309), (0, u "java/lang/Math"), (0, u "min"), (0, u "(II)I"), (65, .class_ 376), (0, u "java/util/Arrays$ArrayList"), (68, u "$assertionsDisabled"), (269, u "MIN_ARRAY_SORT_GRAN"), (0, u "I"), (2, u "INSERTIONSORT_THRESHOLD"), (149, u "([BI)[B"), (105, .class_ 976), (0, u "java/util/Arrays$ArrayItr")] 52

def k7m0 : Method := { name := "<init>", desc := "()V", sig := { parameters := [], returnType := none }, accessFlags := 2, code := none }
def k7c1 : Code := { maxStack := 6, maxLocals := 3, code := jdk_65_method_121_code, exceptionTable := #[], attributes := #[] }
def k7m1 : Method := { name := "copyOf", desc := "([BI)[B", sig := { parameters := [(.array .byte), .int], returnType := some (.array .byte) }, accessFlags := 9, code := some k7c1 }
/-- java/util/Arrays -/
def k7 : Class := { plain "java/util/Arrays" (some 0) with
  accessFlags := 49
  interfaces := #[]
  cf := some (fileOf pool7 14 #[.nestMembers #[975, 375, 113, 74]] #[{ accessFlags := 2, nameIndex := 5, descriptorIndex := 6, attributes := #[] }, { accessFlags := 9, nameIndex := 302, descriptorIndex := 869, attributes := #[] }] 49 2 #[] #[{ accessFlags := 26, nameIndex := 715, descriptorIndex := 716, attributes := #[] }, { accessFlags := 26, nameIndex := 719, descriptorIndex := 716, attributes := #[] }, { accessFlags := 4120, nameIndex := 445, descriptorIndex := 117, attributes := #[] }])
  fields := #[{ name := "MIN_ARRAY_SORT_GRAN", type := .int, accessFlags := 26, slot := 0, constantValue := 0 }, { name := "INSERTIONSORT_THRESHOLD", type := .int, accessFlags := 26, slot := 1, constantValue := 0 }, { name := "$assertionsDisabled", type := .boolean, accessFlags := 4120, slot := 2, constantValue := 0 }]
  methods := #[k7m0, k7m1]
  instanceTypes := #[]
  staticTypes := #[.int, .int, .boolean]
  resolved := Array.replicate 1029 none
  statics := none }

def pool8 : Array CpInfo := pool [(1, .class_ 2), (0, u "java/lang/Math"), (1, .class_ 6), (1, u "java/lang/Object"), (0, u "<init>"), (0, u "()V"), (89, .class_ 100), (1, u "java/lang/Math$RandomNumberGeneratorHolder"), (71, u "negativeZeroFloatBits"), (0, u "J"), (2, u "negativeZeroDoubleBits"), (24, u "min"), (43, u "$assertionsDisabled"), (0, u "Z"), (88, u "(II)I"), (2, u "twoToTheDoubleScaleDown"), (0, u "D"), (4, u "twoToTheDoubleScaleUp"), (9, u "E"), (3, u "PI"), (2, u "TAU"), (2, u "DEGREES_TO_RADIANS"), (0, u "RADIANS_TO_DEGREES")] 94

def k8m0 : Method := { name := "<init>", desc := "()V", sig := { parameters := [], returnType := none }, accessFlags := 2, code := none }
def k8c1 : Code := { maxStack := 2, maxLocals := 2, code := jdk_29_method_69_code, exceptionTable := #[], attributes := #[] }
def k8m1 : Method := { name := "min", desc := "(II)I", sig := { parameters := [.int, .int], returnType := some .int }, accessFlags := 9, code := some k8c1 }
/-- java/lang/Math -/
def k8 : Class := { plain "java/lang/Math" (some 0) with
  accessFlags := 49
  interfaces := #[]
  cf := some (fileOf pool8 1 #[.nestMembers #[98]] #[{ accessFlags := 2, nameIndex := 7, descriptorIndex := 8, attributes := #[] }, { accessFlags := 9, nameIndex := 201, descriptorIndex := 335, attributes := #[] }] 49 4 #[] #[{ accessFlags := 25, nameIndex := 354, descriptorIndex := 339, attributes := #[] }, { accessFlags := 25, nameIndex := 358, descriptorIndex := 339, attributes := #[] }, { accessFlags := 25, nameIndex := 361, descriptorIndex := 339, attributes := #[] }, { accessFlags := 26, nameIndex := 364, descriptorIndex := 339, attributes := #[] }, { accessFlags := 26, nameIndex := 365, descriptorIndex := 339, attributes := #[] }, { accessFlags := 26, nameIndex := 172, descriptorIndex := 173, attributes := #[] }, { accessFlags := 26, nameIndex := 176, descriptorIndex := 173, attributes := #[] }, { accessFlags := 8, nameIndex := 344, descriptorIndex := 339, attributes := #[] }, { accessFlags := 8, nameIndex := 338, descriptorIndex := 339, attributes := #[] }, { accessFlags := 4120, nameIndex := 245, descriptorIndex := 246, attributes := #[] }])
  fields := #[{ name := "E", type := .double, accessFlags := 25, slot := 0, constantValue := 0 }, { name := "PI", type := .double, accessFlags := 25, slot := 1, constantValue := 0 }, { name := "TAU", type := .double, accessFlags := 25, slot := 2, constantValue := 0 }, { name := "DEGREES_TO_RADIANS", type := .double, accessFlags := 26, slot := 3, constantValue := 0 }, { name := "RADIANS_TO_DEGREES", type := .double, accessFlags := 26, slot := 4, constantValue := 0 }, { name := "negativeZeroFloatBits", type := .long, accessFlags := 26, slot := 5, constantValue := 0 }, { name := "negativeZeroDoubleBits", type := .long, accessFlags := 26, slot := 6, constantValue := 0 }, { name := "twoToTheDoubleScaleUp", type := .double, accessFlags := 8, slot := 7, constantValue := 0 }, { name := "twoToTheDoubleScaleDown", type := .double, accessFlags := 8, slot := 8, constantValue := 0 }, { name := "$assertionsDisabled", type := .boolean, accessFlags := 4120, slot := 9, constantValue := 0 }]
  methods := #[k8m0, k8m1]
  instanceTypes := #[]
  staticTypes := #[.double, .double, .double, .double, .double, .long, .long, .double, .double, .boolean]
  resolved := Array.replicate 460 none
  statics := none }

def pool9 : Array CpInfo := pool [(2, .class_ 4), (1, u "java/lang/Object"), (0, u "<init>"), (0, u "()V"), (1, .class_ 10), (1, u "java/lang/System"), (0, u "allowSecurityManager"), (0, u "I"), (16, u "cons"), (0, u "Ljava/io/Console;"), (77, .class_ 110), (1, u "java/lang/System$CallersHolder"), (43, u "initialErrStream"), (0, u "Ljava/io/PrintStream;"), (19, u "security"), (0, u "Ljava/lang/SecurityManager;"), (31, .class_ 209), (0, u "java/lang/System$1"), (7, u "props"), (0, u "Ljava/util/Properties;"), (2, u "lineSeparator"), (0, u "Ljava/lang/String;"), (96, .class_ 321), (1, u "java/lang/System$LoggerFinder"), (5, .class_ 328), (0, u "java/lang/System$Logger"), (67, u "err"), (2, u "out"), (91, u "notSupportedJnuEncoding"), (15, u "in"), (17, u "initialIn"), (0, u "Ljava/io/InputStream;"), (35, u "bootLayer"), (0, u "Ljava/lang/ModuleLayer;"), (99, .class_ 664), (0, u "java/lang/System$2"), (9, u "NEVER"), (2, u "MAYBE"), (49, u "arraycopy"), (0, u "(Ljava/lang/Object;ILjava/lang/Object;II)V"), (72, .class_ 802), (0, u "java/lang/System$Logger$Level")] 31

def k9m0 : Method := { name := "<init>", desc := "()V", sig := { parameters := [], returnType := none }, accessFlags := 2, code := none }
def k9m1 : Method := { name := "arraycopy", desc := "(Ljava/lang/Object;ILjava/lang/Object;II)V", sig := { parameters := [(.object "java/lang/Object"), .int, (.object "java/lang/Object"), .int, .int], returnType := none }, accessFlags := 265, code := none }
/-- java/lang/System -/
def k9 : Class := { plain "java/lang/System" (some 0) with
  accessFlags := 49
  interfaces := #[]
  cf := some (fileOf pool9 8 #[.nestMembers #[319, 327, 801, 108, 663, 208]] #[{ accessFlags := 2, nameIndex := 5, descriptorIndex := 6, attributes := #[] }, { accessFlags := 265, nameIndex := 727, descriptorIndex := 728, attributes := #[] }] 49 2 #[] #[{ accessFlags := 25, nameIndex := 507, descriptorIndex := 526, attributes := #[] }, { accessFlags := 25, nameIndex := 399, descriptorIndex := 155, attributes := #[] }, { accessFlags := 25, nameIndex := 396, descriptorIndex := 155, attributes := #[] }, { accessFlags := 10, nameIndex := 525, descriptorIndex := 526, attributes := #[] }, { accessFlags := 26, nameIndex := 674, descriptorIndex := 12, attributes := #[] }, { accessFlags := 26, nameIndex := 677, descriptorIndex := 12, attributes := #[] }, { accessFlags := 10, nameIndex := 11, descriptorIndex := 12, attributes := #[] }, { accessFlags := 74, nameIndex := 175, descriptorIndex := 176, attributes := #[] }, { accessFlags := 10, nameIndex := 491, descriptorIndex := 222, attributes := #[] }, { accessFlags := 74, nameIndex := 29, descriptorIndex := 30, attributes := #[] }, { accessFlags := 74, nameIndex := 154, descriptorIndex := 155, attributes := #[] }, { accessFlags := 10, nameIndex := 217, descriptorIndex := 218, attributes := #[] }, { accessFlags := 10, nameIndex := 221, descriptorIndex := 222, attributes := #[] }, { accessFlags := 8, nameIndex := 562, descriptorIndex := 563, attributes := #[] }])
  fields := #[{ name := "in", type := (.object "java/io/InputStream"), accessFlags := 25, slot := 0, constantValue := 0 }, { name := "out", type := (.object "java/io/PrintStream"), accessFlags := 25, slot := 1, constantValue := 0 }, { name := "err", type := (.object "java/io/PrintStream"), accessFlags := 25, slot := 2, constantValue := 0 }, { name := "initialIn", type := (.object "java/io/InputStream"), accessFlags := 10, slot := 3, constantValue := 0 }, { name := "NEVER", type := .int, accessFlags := 26, slot := 4, constantValue := 0 }, { name := "MAYBE", type := .int, accessFlags := 26, slot := 5, constantValue := 0 }, { name := "allowSecurityManager", type := .int, accessFlags := 10, slot := 6, constantValue := 0 }, { name := "security", type := (.object "java/lang/SecurityManager"), accessFlags := 74, slot := 7, constantValue := 0 }, { name := "notSupportedJnuEncoding", type := (.object "java/lang/String"), accessFlags := 10, slot := 8, constantValue := 0 }, { name := "cons", type := (.object "java/io/Console"), accessFlags := 74, slot := 9, constantValue := 0 }, { name := "initialErrStream", type := (.object "java/io/PrintStream"), accessFlags := 74, slot := 10, constantValue := 0 }, { name := "props", type := (.object "java/util/Properties"), accessFlags := 10, slot := 11, constantValue := 0 }, { name := "lineSeparator", type := (.object "java/lang/String"), accessFlags := 10, slot := 12, constantValue := 0 }, { name := "bootLayer", type := (.object "java/lang/ModuleLayer"), accessFlags := 8, slot := 13, constantValue := 0 }]
  methods := #[k9m0, k9m1]
  instanceTypes := #[]
  staticTypes := #[(.object "java/io/InputStream"), (.object "java/io/PrintStream"), (.object "java/io/PrintStream"), (.object "java/io/InputStream"), .int, .int, .int, (.object "java/lang/SecurityManager"), (.object "java/lang/String"), (.object "java/io/Console"), (.object "java/io/PrintStream"), (.object "java/util/Properties"), (.object "java/lang/String"), (.object "java/lang/ModuleLayer")]
  resolved := Array.replicate 834 none
  statics := none }

def pool10 : Array CpInfo := pool [(1, u "java/lang/Cloneable"), (0, .class_ 1), (0, u "java/lang/Object"), (0, .class_ 3)] 3

/-- java/lang/Cloneable -/
def k10 : Class := { plain "java/lang/Cloneable" (some 0) with
  accessFlags := 1537
  interfaces := #[]
  cf := some (fileOf pool10 2 #[] #[] 1537 4 #[] #[])
  fields := #[]
  methods := #[]
  instanceTypes := #[]
  staticTypes := #[]
  resolved := Array.replicate 8 none
  statics := none }

/-- the primitive byte -/
def k11 : Class := { plain "byte" none with kind := .primitive 'B', accessFlags := 0x411 }
/-- [B -/
def k12 : Class := { plain "[B" (some 0) with kind := .array 11 .byte, interfaces := #[10, 4], accessFlags := 1041 }

/-- the primitive int -/
def k13 : Class := { plain "int" none with kind := .primitive 'I', accessFlags := 0x411 }
/-- [I -/
def k14 : Class := { plain "[I" (some 0) with kind := .array 13 .int, interfaces := #[10, 4], accessFlags := 1041 }

/-- [Lcom/example/tesserae/tesserae/value/Vr; -/
def k15 : Class := { plain "[Lcom/example/tesserae/tesserae/value/Vr;" (some 0) with kind := .array 6 (.object "com/example/tesserae/tesserae/value/Vr"), interfaces := #[10, 4], accessFlags := 1041 }

def heap : Heap := #[{ cls := 6, slots := #[.ref 1, .ref 2, .ref 3, .ref 4, .ref 5, .ref 6, .ref 7, .ref 8, .ref 9, .ref 10, .ref 11, .ref 12, .ref 13, .ref 14, .ref 15, .ref 16, .ref 17, .ref 18, .ref 19, .ref 20, .ref 21, .ref 22, .ref 23, .ref 24, .ref 25, .ref 26, .ref 27, .ref 28, .ref 29, .ref 30, .ref 31, .ref 32, .ref 33, .ref 34, .null, .int 0, .null], vm := .statics 6 },
  { cls := 6, slots := #[.null, .int 0, .int 0, .int 1, .int 0, .int 0], vm := .none },
  { cls := 6, slots := #[.null, .int 1, .int 0, .int 1, .int 0, .int 0], vm := .none },
  { cls := 6, slots := #[.null, .int 0, .int 0, .int 0, .int 0, .int 0], vm := .none },
  { cls := 6, slots := #[.null, .int 3, .int 0, .int 1, .int 0, .int 0], vm := .none },
  { cls := 6, slots := #[.null, .int 4, .int 0, .int 1, .int 0, .int 0], vm := .none },
  { cls := 6, slots := #[.null, .int 5, .int 0, .int 1, .int 0, .int 0], vm := .none },
  { cls := 6, slots := #[.null, .int 6, .int 0, .int 1, .int 0, .int 0], vm := .none },
  { cls := 6, slots := #[.null, .int 0, .int 0, .int 0, .int 0, .int 0], vm := .none },
  { cls := 6, slots := #[.null, .int 0, .int 0, .int 0, .int 0, .int 0], vm := .none },
  { cls := 6, slots := #[.null, .int 9, .int 0, .int 1, .int 0, .int 0], vm := .none },
  { cls := 6, slots := #[.null, .int 10, .int 0, .int 1, .int 0, .int 0], vm := .none },
  { cls := 6, slots := #[.null, .int 11, .int 0, .int 1, .int 0, .int 0], vm := .none },
  { cls := 6, slots := #[.null, .int 0, .int 0, .int 0, .int 0, .int 0], vm := .none },
  { cls := 6, slots := #[.null, .int 0, .int 0, .int 0, .int 0, .int 0], vm := .none },
  { cls := 6, slots := #[.null, .int 0, .int 0, .int 0, .int 0, .int 0], vm := .none },
  { cls := 6, slots := #[.null, .int 0, .int 0, .int 0, .int 0, .int 0], vm := .none },
  { cls := 6, slots := #[.null, .int 0, .int 0, .int 0, .int 0, .int 0], vm := .none },
  { cls := 6, slots := #[.null, .int 0, .int 0, .int 0, .int 0, .int 0], vm := .none },
  { cls := 6, slots := #[.null, .int 18, .int 0, .int 1, .int 0, .int 0], vm := .none },
  { cls := 6, slots := #[.null, .int 19, .int 0, .int 1, .int 0, .int 0], vm := .none },
  { cls := 6, slots := #[.null, .int 0, .int 0, .int 0, .int 0, .int 0], vm := .none },
  { cls := 6, slots := #[.null, .int 0, .int 0, .int 0, .int 0, .int 0], vm := .none },
  { cls := 6, slots := #[.null, .int 0, .int 0, .int 0, .int 0, .int 0], vm := .none },
  { cls := 6, slots := #[.null, .int 23, .int 0, .int 1, .int 0, .int 0], vm := .none },
  { cls := 6, slots := #[.null, .int 0, .int 0, .int 0, .int 0, .int 0], vm := .none },
  { cls := 6, slots := #[.null, .int 25, .int 0, .int 1, .int 0, .int 0], vm := .none },
  { cls := 6, slots := #[.null, .int 26, .int 0, .int 1, .int 0, .int 0], vm := .none },
  { cls := 6, slots := #[.null, .int 27, .int 0, .int 1, .int 0, .int 0], vm := .none },
  { cls := 6, slots := #[.null, .int 0, .int 0, .int 0, .int 0, .int 0], vm := .none },
  { cls := 6, slots := #[.null, .int 0, .int 0, .int 0, .int 0, .int 0], vm := .none },
  { cls := 6, slots := #[.null, .int 30, .int 0, .int 1, .int 0, .int 0], vm := .none },
  { cls := 6, slots := #[.null, .int 0, .int 0, .int 0, .int 0, .int 0], vm := .none },
  { cls := 6, slots := #[.null, .int 32, .int 0, .int 1, .int 0, .int 0], vm := .none },
  { cls := 6, slots := #[.null, .int 0, .int 0, .int 0, .int 0, .int 0], vm := .none }]
def classes : Array Class := #[k0, k1, k2, k3, k4, k5, k6, k7, k8, k9, k10, k11, k12, k13, k14, k15]
def interned : List (Array UInt16 × Addr) := []
def slotsUsed : Nat := 241
def theMethod : MethodId := ⟨1, 2⟩
def args0 : Array Value := #[.int 5, .int 3, .long 99]
def aboutOver (below : List Frame) : State where
  vm := { classes := classes, interned := interned.toArray }
  heap := heap
  slotsUsed := slotsUsed
  threads := #[{ frames := .invoking theMethod args0 :: below }]
def below0 : List Frame := [.native { method := ⟨0, 0⟩, args := #[] }]
def about1 : State := aboutOver below0
def p0 : Program := .bare "" "" ""
def e0 : Env := launch0.env 0 0 0
theorem w_frames : about1.frames = Frame.invoking theMethod args0 :: below0 := rfl
set_option maxRecDepth 65536 in
theorem w_args : argsFit about1.vm theMethod args0 = true := by decide +kernel
set_option maxRecDepth 65536 in
theorem w_heap : heapFits about1 = true := by decide +kernel
set_option maxRecDepth 65536 in
theorem w_runnable : about1.curStatus? = some .runnable := by decide +kernel
set_option maxRecDepth 65536 in
theorem w_alone : about1.alone = true := by decide +kernel
set_option maxRecDepth 65536 in
theorem w_named : about1.methodNamed? x = some theMethod := by decide +kernel
set_option maxRecDepth 65536 in
theorem w_hears : about1.hears theMethod below0 = true := by decide +kernel
set_option maxRecDepth 65536 in
theorem w_ripe : about1.ripe theMethod args0 below0 = true := by decide +kernel
theorem w_running : about1.status = .running := rfl
set_option maxRecDepth 65536 in
theorem w_room : about1.hasRoom e0.platform room_1 = true :=
  launch0.hasRoom_least _ room_1 (by decide +kernel) (by decide +kernel) (by decide +kernel) (by decide +kernel) (by decide +kernel) (by decide +kernel)
theorem allAtoms_all (ts : List Jvm.Cond) (a : Array Jvm.Value) (st : Jvm.State) : (allAtoms ts).before a st = ts.all (fun c => c.before a st) := by
  induction ts with
  | nil => rfl
  | cons c t ih =>
    show (Jvm.Cond.and c (allAtoms t)).before a st = _
    rw [Jvm.Cond.before_and, ih, List.all_cons]
def words1 : List Jvm.Cond := Jvm.Cond.code x code maxLocals ret :: tables_1
/-- a 'code' word, met by the world's own term for the bytes: nothing is compared byte by byte -/
theorem code_word {y : MethodName} {bytes : ByteArray} {mx : Nat} {rt : Option FieldType} {a : Array Value} {s : State} {m : MethodId} {meth : Method} {c : Code} (h1 : s.methodNamed? y = some m) (h2 : s.vm.method? m = some meth) (h3 : meth.code = some c) (h4 : c.code = bytes)
    (h5 : (c.maxLocals == mx && c.exceptionTable.isEmpty && decide (c.maxStack ≤ mostOperands) && decide (meth.sig.returnType = rt) && !meth.locks && decide (parseMethodDescriptor y.desc = some meth.sig)) = true) : (Jvm.Cond.code y bytes mx rt).before a s = true := by
  simp only [Bool.and_eq_true, beq_iff_eq, Bool.not_eq_true', decide_eq_true_eq] at h5
  obtain ⟨⟨⟨⟨⟨g1, g2⟩, g3⟩, g4⟩, g5⟩, g6⟩ := h5
  simp [Cond.before, Cond.holds, Cond.value, h1, h2, h3, h4, g1, g2, g3, g4, g5, g6]
def isCode : Jvm.Cond → Bool
  | .code _ _ _ _ => true
  | _ => false
theorem all_split {L : List Jvm.Cond} {P : Jvm.Cond → Bool} (h1 : L.all (fun c => isCode c || P c) = true) (h2 : ∀ c ∈ L.filter isCode, P c = true) : L.all P = true := by
  refine List.all_eq_true.mpr fun c hc => ?_
  have h := List.all_eq_true.mp h1 c hc
  rcases Bool.eq_false_or_eq_true (isCode c) with hi | hi
  · exact h2 c (List.mem_filter.mpr ⟨hc, hi⟩)
  · simpa [hi] using h
set_option maxRecDepth 65536 in
theorem w_c0 : (Jvm.Cond.code x code maxLocals ret).before args0 about1 = true := code_word (m := ⟨1, 2⟩) (meth := k1m2) (c := k1c2) (by decide +kernel) rfl rfl rfl (by decide +kernel)
set_option maxRecDepth 65536 in
theorem w_c1 : (Jvm.Cond.code ({ cls := "com/example/tesserae/tesserae/value/Vr", name := "pad", desc := "([B)[B" } : Jvm.MethodName) prog_24_method_15_code (3 : Nat) (Option.some (Jvm.ClassFile.FieldType.array Jvm.ClassFile.FieldType.byte))).before args0 about1 = true := code_word (m := ⟨6, 0⟩) (meth := k6m0) (c := k6c0) (by decide +kernel) rfl rfl rfl (by decide +kernel)
set_option maxRecDepth 65536 in
theorem w_c2 : (Jvm.Cond.code ({ cls := "java/util/Arrays", name := "copyOf", desc := "([BI)[B" } : Jvm.MethodName) jdk_65_method_121_code (3 : Nat) (Option.some (Jvm.ClassFile.FieldType.array Jvm.ClassFile.FieldType.byte))).before args0 about1 = true := code_word (m := ⟨7, 1⟩) (meth := k7m1) (c := k7c1) (by decide +kernel) rfl rfl rfl (by decide +kernel)
set_option maxRecDepth 65536 in
theorem w_c3 : (Jvm.Cond.code ({ cls := "java/lang/Math", name := "min", desc := "(II)I" } : Jvm.MethodName) jdk_29_method_69_code (2 : Nat) (Option.some Jvm.ClassFile.FieldType.int)).before args0 about1 = true := code_word (m := ⟨8, 1⟩) (meth := k8m1) (c := k8c1) (by decide +kernel) rfl rfl rfl (by decide +kernel)
set_option maxRecDepth 65536 in
theorem w_c4 : (Jvm.Cond.code ({ cls := "com/example/tesserae/tesserae/value/VrPadPinLaw", name := "sameAt", desc := "([BJII)Z" } : Jvm.MethodName) method_2_code (5 : Nat) (Option.some Jvm.ClassFile.FieldType.boolean)).before args0 about1 = true := code_word (m := ⟨1, 1⟩) (meth := k1m1) (c := k1c1) (by decide +kernel) rfl rfl rfl (by decide +kernel)
def codes1 : List Jvm.Cond := [Jvm.Cond.code x code maxLocals ret, Jvm.Cond.code ({ cls := "com/example/tesserae/tesserae/value/Vr", name := "pad", desc := "([B)[B" } : Jvm.MethodName) prog_24_method_15_code (3 : Nat) (Option.some (Jvm.ClassFile.FieldType.array Jvm.ClassFile.FieldType.byte)), Jvm.Cond.code ({ cls := "java/util/Arrays", name := "copyOf", desc := "([BI)[B" } : Jvm.MethodName) jdk_65_method_121_code (3 : Nat) (Option.some (Jvm.ClassFile.FieldType.array Jvm.ClassFile.FieldType.byte)), Jvm.Cond.code ({ cls := "java/lang/Math", name := "min", desc := "(II)I" } : Jvm.MethodName) jdk_29_method_69_code (2 : Nat) (Option.some Jvm.ClassFile.FieldType.int), Jvm.Cond.code ({ cls := "com/example/tesserae/tesserae/value/VrPadPinLaw", name := "sameAt", desc := "([BJII)Z" } : Jvm.MethodName) method_2_code (5 : Nat) (Option.some Jvm.ClassFile.FieldType.boolean)]
set_option maxRecDepth 65536 in
theorem codes_eq : words1.filter isCode = codes1 := rfl
theorem w_codes : ∀ c ∈ words1.filter isCode, c.before args0 about1 = true := by
  rw [codes_eq]
  intro c hc
  simp only [codes1, List.mem_cons, List.not_mem_nil, or_false] at hc
  rcases hc with rfl | rfl | rfl | rfl | rfl
  · exact w_c0
  · exact w_c1
  · exact w_c2
  · exact w_c3
  · exact w_c4
set_option maxRecDepth 65536 in
theorem w_t1 : (words1.take 24).all (fun c => isCode c || c.before args0 about1) = true := by decide +kernel
set_option maxRecDepth 65536 in
theorem w_t2 : ((words1.drop 24).take 24).all (fun c => isCode c || c.before args0 about1) = true := by decide +kernel
set_option maxRecDepth 65536 in
theorem w_t3 : (((words1.drop 24).drop 24).take 24).all (fun c => isCode c || c.before args0 about1) = true := by decide +kernel
set_option maxRecDepth 65536 in
theorem w_t4 : ((((words1.drop 24).drop 24).drop 24).take 24).all (fun c => isCode c || c.before args0 about1) = true := by decide +kernel
set_option maxRecDepth 65536 in
theorem w_t5 : ((((words1.drop 24).drop 24).drop 24).drop 24).all (fun c => isCode c || c.before args0 about1) = true := by decide +kernel
theorem w_tables : (allAtoms (Jvm.Cond.code x code maxLocals ret :: tables_1)).before args0 about1 = true := by
  rw [allAtoms_all]
  show words1.all (fun c => c.before args0 about1) = true
  refine all_split ?_ w_codes
  rw [← List.take_append_drop 24 words1, List.all_append, w_t1, ← List.take_append_drop 24 (words1.drop 24), List.all_append, w_t2, ← List.take_append_drop 24 ((words1.drop 24).drop 24), List.all_append, w_t3, ← List.take_append_drop 24 (((words1.drop 24).drop 24).drop 24), List.all_append, w_t4, w_t5]
  rfl
set_option maxRecDepth 65536 in
theorem w_case : (Jvm.Cond.and given_1 narrow_1).before args0 about1 = true := by decide +kernel
theorem w_applies : (headSpec (Jvm.Cond.code x code maxLocals ret :: tables_1) room_1).applies x e0.platform about1 = true :=
  (Spec.applies_iff w_frames).mpr ⟨w_running, w_runnable, w_alone, w_named, w_hears, w_ripe, w_room, w_tables⟩
theorem atStart : AtStart classFile x code maxLocals ret World_1 tables_1 room_1 Calls_1 rest_1 Pre_1 launch0 p0 e0 about1 theMethod args0 below0 :=
  ⟨lists_1, trivial, launch0.admits_env _ _ _, launch0.least_env, fairChoices_fair.cas, fairChoices_fair.clock, w_frames, w_args, w_heap, w_applies, trivial, trivial, w_case⟩
end start1
theorem witness_1 : WitnessClaimed_1 := ⟨start1.p0, start1.e0, start1.about1, start1.theMethod, start1.args0, start1.below0, start1.atStart⟩
end Jvm.Pilot.@@N@@
