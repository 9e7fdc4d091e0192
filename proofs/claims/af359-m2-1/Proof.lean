import JvmDerived
import JvmDerived.Pilot.@@N@@Statement
import JvmDerived.Pilot.@@N@@Code
set_option linter.unusedVariables false
set_option linter.unusedSimpArgs false
@@BLOCK:NumsL.lean.txt@@
namespace Jvm.Pilot.@@N@@
open Jvm Jvm.ClassFile Sem Op Lib Jvm.Free Jvm.Stand Jvm.LawKit Jvm.RoadKit Bundle Jvm.Pilot.@@N@@.Jvm.D
theorem d1_0 : decode jdk_37_method_2_code 0 = .ok (.aload_n 0, 1) := by decide +kernel
theorem d1_1 : decode jdk_37_method_2_code 1 = .ok (.getfield 7, 3) := by decide +kernel
theorem d1_4 : decode jdk_37_method_2_code 4 = .ok (.ireturn, 1) := by decide +kernel
theorem pn_0 : plainName "java/lang/Enum" = true := by first | (simp [plainName, overriddenIn]; done) | decide +kernel
theorem ef_1 (mM : MethodId) (x0 : Addr) : entryFrame mM #[(.ref x0)] 1 = mkF mM 0 #[.val (.ref x0)] [] := by first | (simp [entryFrame, mkF, argsToLocals, Value.category]; done) | rfl
def Q1 (Z : State) (a : Addr) (o : Int32) (h0 : Heap) (n0 : Nat) (v : Option Value) (h : Heap) (L : List Loc) : Prop := v = some (.int o) ∧ Fr n0 L ∧ h = h0
set_option maxRecDepth 65536 in
set_option maxHeartbeats 40000000 in
theorem rm1 (l : Launch) (Z : State) (a0 : Array Value) (hw : ∀ d ∈ tables_1, d.before a0 Z = true) (ws : List Jvm.Cond) (a : Addr) (o : Int32) (h0 : Heap) (n0 : Nat) (Z0 : n0 ≤ h0.size) (F_ordinal : Fld Z h0 a "java/lang/Enum" "ordinal" "I" (.int o)) :
    MetFree l (⟨"java/lang/Enum", "ordinal", "()I"⟩ : MethodName) (head1 (Jvm.Cond.code (⟨"java/lang/Enum", "ordinal", "()I"⟩ : MethodName) jdk_37_method_2_code 1 (some .int) :: ws) ({ frames := 0, cells := 0, slots := 0, locals := 0 } : Room)) (fun aA uU => aA = #[(.ref a)] ∧ Z.Warmed39 uU.vm ∧ uU.heap = h0) (fun _ _ _ _ _ => True) (fun _ uU oO uU' => ∃ vV lL, oO = .returned vV ∧ Q1 Z a o h0 n0 vV uU'.heap lL ∧ FrameEnd uU oO uU' lL ({ frames := 0, cells := 0, slots := 0, locals := 0 } : Room).cells ({ frames := 0, cells := 0, slots := 0, locals := 0 } : Room).slots) := by
  refine MetFree.of_bodySF (plainFor_of_name pn_0) hisR ?_
  intro pP eE sS mM args below meth cC s₁ Bd hml0 hP hK
  obtain ⟨rfl, hZ, hh⟩ := hP
  have hx := Bd.exec
  have hby := Bd.bytes
  have hml : cC.maxLocals = 1 := hml0
  have hown : sS.vm.findClass "java/lang/Enum" = some mM.cls := findClass_of_methodNamed Bd.named
  have hnm := (name_of_methodNamed Bd.named Bd.method).1
  have X0 : Stand pP l eE ({ frames := 0, cells := 0, slots := 0, locals := 0 } : Room) sS mM #[(.ref a)] below meth cC s₁ [] 0 0 := Stand.of_body Bd
  have e0 : s₁.heap = h0 := by rw [← hh, Bd.state]; rfl
  have N0 := Fr.nil n0
  have pre0 : ∀ tg, Steps pP.tables eE below (s₁.setTop (mkF mM 0 #[.val (.ref a)] [])) tg → Steps pP.tables eE below (s₁.setTop (entryFrame mM #[(.ref a)] 1)) tg := fun tg kg => castTop (ef_1 mM a) kg
  have pr1 : ∀ tg, Steps pP.tables eE below (s₁.setTop (mkF mM 1 #[.val (.ref a)] [(.ref a)])) tg → Steps pP.tables eE below (s₁.setTop (entryFrame mM #[(.ref a)] 1)) tg := fun tg kg => pre0 _ (by
    show Steps pP.tables eE below (s₁.setTop (mkF mM 0 #[.val (.ref a)] [])) _
    refine XS.aloadN X0.here hx rfl (hb hby d1_0) rfl rfl ?_
    exact kg)
  obtain ⟨T2, X2, e2, st2⟩ := getF X0 hx hZ hown (host := "") (Or.inl (hw _ (List.mem_of_getElem? (i := 28) rfl))) Via.refl e0 F_ordinal (g := (mkF mM 1 #[.val (.ref a)] [(.ref a)])) rfl rfl (hb hby d1_1)
  have pr3 : ∀ tg, Steps pP.tables eE below (T2.setTop (mkF mM 4 #[.val (.ref a)] [(.int o)])) tg → Steps pP.tables eE below (s₁.setTop (entryFrame mM #[(.ref a)] 1)) tg := fun tg kg => pr1 _ (st2 _ kg)
  obtain ⟨fs, hr, hrun, hended, hW, hsame⟩ := X2.leave (v := some (.int o)) (fun h => by rw [Bd.returns] at h; cases h)
  refine ⟨_, _, pr3 _ (retOut X2 hx (t := .int) Bd.returns rfl (Or.inl ⟨rfl, Or.inl rfl, _, rfl⟩) (hb hby d1_4) hr), hrun, hended, _, _, rfl, ?_, ⟨_, rfl⟩, hW, hsame.mono (by decide) (by decide)⟩
  show Q1 Z a o h0 n0 _ T2.heap _
  rw [e2]
  exact ⟨rfl, N0, rfl⟩
theorem pd_0 : parseMethodDescriptor "()I" = some ⟨[], some .int⟩ := by decide +kernel
theorem d200_0 : decode prog_51_method_4_code 0 = .ok (.aload_n 0, 1) := by decide +kernel
theorem d200_1 : decode prog_51_method_4_code 1 = .ok (.invokevirtual 38, 3) := by decide +kernel
theorem d200_4 : decode prog_51_method_4_code 4 = .ok (.tableswitch 36 0 4 #[46, 68, 83, 87, 87], 36) := by decide +kernel
theorem d200_50 : decode prog_51_method_4_code 50 = .ok (.aload_n 1, 1) := by decide +kernel
theorem d200_51 : decode prog_51_method_4_code 51 = .ok (.getstatic 10, 3) := by decide +kernel
theorem d200_54 : decode prog_51_method_4_code 54 = .ok (.if_acmp .eq 10, 3) := by decide +kernel
theorem d200_57 : decode prog_51_method_4_code 57 = .ok (.aload_n 1, 1) := by decide +kernel
theorem d200_58 : decode prog_51_method_4_code 58 = .ok (.getstatic 13, 3) := by decide +kernel
theorem d200_61 : decode prog_51_method_4_code 61 = .ok (.if_acmp .ne 7, 3) := by decide +kernel
theorem d200_68 : decode prog_51_method_4_code 68 = .ok (.iconst 0, 1) := by decide +kernel
theorem d200_69 : decode prog_51_method_4_code 69 = .ok (.goto 41, 3) := by decide +kernel
theorem d200_110 : decode prog_51_method_4_code 110 = .ok (.ireturn, 1) := by decide +kernel
theorem pn_1 : plainName "com/example/settle/settle/service/LockTable$Mode" = true := by first | (simp [plainName, overriddenIn]; done) | decide +kernel
theorem ef_200 (mM : MethodId) (x0 : Addr) (x1 : Addr) : entryFrame mM #[(.ref x0), (.ref x1)] 2 = mkF mM 0 #[.val (.ref x0), .val (.ref x1)] [] := by first | (simp [entryFrame, mkF, argsToLocals, Value.category]; done) | rfl
def Q200 (Z : State) (a_SHARED : Addr) (a_UPDATE : Addr) (a_EXCLUSIVE : Addr) (a_CHANGE : Addr) (a_KEEP : Addr) (h0 : Heap) (n0 : Nat) (v : Option Value) (h : Heap) (L : List Loc) : Prop := v = some (.int (0 : Int32)) ∧ Fr n0 L ∧ h = h0
set_option maxRecDepth 65536 in
set_option maxHeartbeats 40000000 in
theorem rm200 (l : Launch) (Z : State) (a0 : Array Value) (hw : ∀ d ∈ tables_1, d.before a0 Z = true) (ws : List Jvm.Cond) (a_SHARED : Addr) (a_UPDATE : Addr) (a_EXCLUSIVE : Addr) (a_CHANGE : Addr) (a_KEEP : Addr) (h0 : Heap) (n0 : Nat) (Z0 : n0 ≤ h0.size) (O : Old Z n0 h0) (S_SHARED : Sta Z Z.heap "com/example/settle/settle/service/LockTable$Mode" "SHARED" "Lcom/example/settle/settle/service/LockTable$Mode;" (.ref a_SHARED)) (E_SHARED : Exa Z Z.heap a_SHARED "com/example/settle/settle/service/LockTable$Mode") (S_UPDATE : Sta Z Z.heap "com/example/settle/settle/service/LockTable$Mode" "UPDATE" "Lcom/example/settle/settle/service/LockTable$Mode;" (.ref a_UPDATE)) (E_UPDATE : Exa Z Z.heap a_UPDATE "com/example/settle/settle/service/LockTable$Mode") (S_EXCLUSIVE : Sta Z Z.heap "com/example/settle/settle/service/LockTable$Mode" "EXCLUSIVE" "Lcom/example/settle/settle/service/LockTable$Mode;" (.ref a_EXCLUSIVE)) (E_EXCLUSIVE : Exa Z Z.heap a_EXCLUSIVE "com/example/settle/settle/service/LockTable$Mode") (S_CHANGE : Sta Z Z.heap "com/example/settle/settle/service/LockTable$Mode" "CHANGE" "Lcom/example/settle/settle/service/LockTable$Mode;" (.ref a_CHANGE)) (E_CHANGE : Exa Z Z.heap a_CHANGE "com/example/settle/settle/service/LockTable$Mode") (S_KEEP : Sta Z Z.heap "com/example/settle/settle/service/LockTable$Mode" "KEEP" "Lcom/example/settle/settle/service/LockTable$Mode;" (.ref a_KEEP)) (E_KEEP : Exa Z Z.heap a_KEEP "com/example/settle/settle/service/LockTable$Mode") (F_SHARED_ordinal : Fld Z Z.heap a_SHARED "java/lang/Enum" "ordinal" "I" (.int (0 : Int32))) (F_CHANGE_ordinal : Fld Z Z.heap a_CHANGE "java/lang/Enum" "ordinal" "I" (.int (3 : Int32))) (F_EXCLUSIVE_ordinal : Fld Z Z.heap a_EXCLUSIVE "java/lang/Enum" "ordinal" "I" (.int (2 : Int32))) (F_KEEP_ordinal : Fld Z Z.heap a_KEEP "java/lang/Enum" "ordinal" "I" (.int (4 : Int32))) (F_UPDATE_ordinal : Fld Z Z.heap a_UPDATE "java/lang/Enum" "ordinal" "I" (.int (1 : Int32))) :
    MetFree l (⟨"com/example/settle/settle/service/LockTable$Mode", "keepsOut", "(Lcom/example/settle/settle/service/LockTable$Mode;)Z"⟩ : MethodName) (head1 (Jvm.Cond.code (⟨"com/example/settle/settle/service/LockTable$Mode", "keepsOut", "(Lcom/example/settle/settle/service/LockTable$Mode;)Z"⟩ : MethodName) prog_51_method_4_code 2 (some .boolean) :: ws) ({ frames := 1, cells := 0, slots := 0, locals := 12 } : Room)) (fun aA uU => aA = #[(.ref a_SHARED), (.ref a_SHARED)] ∧ Z.Warmed39 uU.vm ∧ uU.heap = h0) (fun _ _ _ _ _ => True) (fun _ uU oO uU' => ∃ vV lL, oO = .returned vV ∧ Q200 Z a_SHARED a_UPDATE a_EXCLUSIVE a_CHANGE a_KEEP h0 n0 vV uU'.heap lL ∧ FrameEnd uU oO uU' lL ({ frames := 1, cells := 0, slots := 0, locals := 12 } : Room).cells ({ frames := 1, cells := 0, slots := 0, locals := 12 } : Room).slots) := by
  refine MetFree.of_bodySF (plainFor_of_name pn_1) hisR ?_
  intro pP eE sS mM args below meth cC s₁ Bd hml0 hP hK
  obtain ⟨rfl, hZ, hh⟩ := hP
  have hx := Bd.exec
  have hby := Bd.bytes
  have hml : cC.maxLocals = 2 := hml0
  have hown : sS.vm.findClass "com/example/settle/settle/service/LockTable$Mode" = some mM.cls := findClass_of_methodNamed Bd.named
  have hnm := (name_of_methodNamed Bd.named Bd.method).1
  have X0 : Stand pP l eE ({ frames := 1, cells := 0, slots := 0, locals := 12 } : Room) sS mM #[(.ref a_SHARED), (.ref a_SHARED)] below meth cC s₁ [] 0 0 := Stand.of_body Bd
  have e0 : s₁.heap = h0 := by rw [← hh, Bd.state]; rfl
  have N0 := Fr.nil n0
  have pre0 : ∀ tg, Steps pP.tables eE below (s₁.setTop (mkF mM 0 #[.val (.ref a_SHARED), .val (.ref a_SHARED)] [])) tg → Steps pP.tables eE below (s₁.setTop (entryFrame mM #[(.ref a_SHARED), (.ref a_SHARED)] 2)) tg := fun tg kg => castTop (ef_200 mM a_SHARED a_SHARED) kg
  have pr1 : ∀ tg, Steps pP.tables eE below (s₁.setTop (mkF mM 1 #[.val (.ref a_SHARED), .val (.ref a_SHARED)] [(.ref a_SHARED)])) tg → Steps pP.tables eE below (s₁.setTop (entryFrame mM #[(.ref a_SHARED), (.ref a_SHARED)] 2)) tg := fun tg kg => pre0 _ (by
    show Steps pP.tables eE below (s₁.setTop (mkF mM 0 #[.val (.ref a_SHARED), .val (.ref a_SHARED)] [])) _
    refine XS.aloadN X0.here hx rfl (hb hby d200_0) rfl rfl ?_
    exact kg)
  obtain ⟨cq2, kq2, qa2, qb2, qc2⟩ := isOf hZ e0 (Exa.ext (O).2 E_SHARED)
  obtain ⟨_, _, ⟨T2, L2, kk2, nn2⟩, -, X2, ⟨Lc2, hQ2, l2, y2, z2⟩, st2⟩ := X0.virtualBackUp hx (owner := "java/lang/Enum") (x := (⟨"com/example/settle/settle/service/LockTable$Mode", "ordinal", "()I"⟩ : MethodName)) (y := (⟨"java/lang/Enum", "ordinal", "()I"⟩ : MethodName)) hown (mvT hZ (hw _ (List.mem_of_getElem? (i := 21) rfl))) (mvT hZ (hw _ (List.mem_of_getElem? (i := 22) rfl))) (mvT hZ (hw _ (List.mem_of_getElem? (i := 23) rfl))) (by decide) (mvT hZ (hw _ (List.mem_of_getElem? (i := 25) rfl))) (mvT hZ (hw _ (List.mem_of_getElem? (i := 24) rfl))) (backOf (W := 0) (rm1 l Z a0 hw [] a_SHARED (0 : Int32) h0 n0 Z0 (Fld.ext (O).2 F_SHARED_ordinal)) hZ (hw _ (List.mem_of_getElem? (i := 27) rfl)) (hw _ (List.mem_of_getElem? (i := 26) rfl)) (by decide) (by decide)) qa2 qc2 (g := (mkF mM 1 #[.val (.ref a_SHARED), .val (.ref a_SHARED)] [(.ref a_SHARED)])) rfl (by rw [hml]; rfl) (Steps.refl _) (argsL := []) (rest := []) (lenOf pd_0 rfl) rfl (by show 2 * 0 + _ ≤ _; exact Nat.le_of_eq rfl) (hb hby d200_1) (fun _ _ => ⟨rfl, e0, (by decide : 0 + 0 ≤ _), (by decide : 0 + 0 ≤ _)⟩)
  dsimp only [Pt.U, Pt.locs, Pt.cells, Pt.slots] at X2 l2 y2 z2 st2 hQ2
  subst l2 y2 z2
  obtain ⟨rfl, Nq2, e2⟩ := hQ2
  have N2 := Fr.app N0 Nq2
  have pr3 : ∀ tg, Steps pP.tables eE below (T2.setTop (mkF mM 4 #[.val (.ref a_SHARED), .val (.ref a_SHARED)] [(.int (0 : Int32))])) tg → Steps pP.tables eE below (s₁.setTop (entryFrame mM #[(.ref a_SHARED), (.ref a_SHARED)] 2)) tg := fun tg kg => pr1 _ (st2.trans kg)
  have pr4 : ∀ tg, Steps pP.tables eE below (T2.setTop (mkF mM 51 #[.val (.ref a_SHARED), .val (.ref a_SHARED)] [(.ref a_SHARED)])) tg → Steps pP.tables eE below (s₁.setTop (entryFrame mM #[(.ref a_SHARED), (.ref a_SHARED)] 2)) tg := fun tg kg => pr3 _ (by
    show Steps pP.tables eE below (T2.setTop (mkF mM 4 #[.val (.ref a_SHARED), .val (.ref a_SHARED)] [(.int (0 : Int32))])) _
    refine XS.tswIn X2.here hx rfl (pc0 := 4) (pc' := 50) rfl (hb hby d200_4) rfl (by decide) (o := 46) (by decide) (by decide) (by decide) ?_
    show Steps pP.tables eE below (T2.setTop (mkF mM 50 #[.val (.ref a_SHARED), .val (.ref a_SHARED)] [])) _
    refine XS.aloadN X2.here hx rfl (hb hby d200_50) rfl rfl ?_
    exact kg)
  obtain ⟨T5, X5, e5, st5⟩ := getS2 X2 hx hZ hown (host := "") (Or.inl (hw _ (List.mem_of_getElem? (i := 30) rfl))) Via.refl e2 (Sta.ext (O).2 S_EXCLUSIVE) (g := (mkF mM 51 #[.val (.ref a_SHARED), .val (.ref a_SHARED)] [(.ref a_SHARED)])) rfl (hb hby d200_51)
  have pr6 : ∀ tg, Steps pP.tables eE below (T5.setTop (mkF mM 54 #[.val (.ref a_SHARED), .val (.ref a_SHARED)] [(.ref a_EXCLUSIVE), (.ref a_SHARED)])) tg → Steps pP.tables eE below (s₁.setTop (entryFrame mM #[(.ref a_SHARED), (.ref a_SHARED)] 2)) tg := fun tg kg => pr4 _ (st5 _ kg)
  have pr7 : ∀ tg, Steps pP.tables eE below (T5.setTop (mkF mM 58 #[.val (.ref a_SHARED), .val (.ref a_SHARED)] [(.ref a_SHARED)])) tg → Steps pP.tables eE below (s₁.setTop (entryFrame mM #[(.ref a_SHARED), (.ref a_SHARED)] 2)) tg := fun tg kg => pr6 _ (by
    show Steps pP.tables eE below (T5.setTop (mkF mM 54 #[.val (.ref a_SHARED), .val (.ref a_SHARED)] [(.ref a_EXCLUSIVE), (.ref a_SHARED)])) _
    refine Jvm.RoadKit.acmp (g := (mkF mM 54 #[.val (.ref a_SHARED), .val (.ref a_SHARED)] [(.ref a_EXCLUSIVE), (.ref a_SHARED)])) X5 hx rfl rfl rfl (pc0 := 54) (pc' := 57) (same := false) rfl (hb hby d200_54) rfl (decide_eq_false fun q => (Fld.ne F_SHARED_ordinal F_EXCLUSIVE_ordinal (by decide)) (Value.ref.inj q)) (by decide) (by decide) ?_
    show Steps pP.tables eE below (T5.setTop (mkF mM 57 #[.val (.ref a_SHARED), .val (.ref a_SHARED)] [])) _
    refine XS.aloadN X5.here hx rfl (hb hby d200_57) rfl rfl ?_
    exact kg)
  obtain ⟨T8, X8, e8, st8⟩ := getS2 X5 hx hZ hown (host := "") (Or.inl (hw _ (List.mem_of_getElem? (i := 31) rfl))) Via.refl e5 (Sta.ext (O).2 S_CHANGE) (g := (mkF mM 58 #[.val (.ref a_SHARED), .val (.ref a_SHARED)] [(.ref a_SHARED)])) rfl (hb hby d200_58)
  have pr9 : ∀ tg, Steps pP.tables eE below (T8.setTop (mkF mM 61 #[.val (.ref a_SHARED), .val (.ref a_SHARED)] [(.ref a_CHANGE), (.ref a_SHARED)])) tg → Steps pP.tables eE below (s₁.setTop (entryFrame mM #[(.ref a_SHARED), (.ref a_SHARED)] 2)) tg := fun tg kg => pr7 _ (st8 _ kg)
  have pr10 : ∀ tg, Steps pP.tables eE below (T8.setTop (mkF mM 110 #[.val (.ref a_SHARED), .val (.ref a_SHARED)] [(.int (0 : Int32))])) tg → Steps pP.tables eE below (s₁.setTop (entryFrame mM #[(.ref a_SHARED), (.ref a_SHARED)] 2)) tg := fun tg kg => pr9 _ (by
    show Steps pP.tables eE below (T8.setTop (mkF mM 61 #[.val (.ref a_SHARED), .val (.ref a_SHARED)] [(.ref a_CHANGE), (.ref a_SHARED)])) _
    refine Jvm.RoadKit.acmp (g := (mkF mM 61 #[.val (.ref a_SHARED), .val (.ref a_SHARED)] [(.ref a_CHANGE), (.ref a_SHARED)])) X8 hx rfl rfl rfl (pc0 := 61) (pc' := 68) (same := false) rfl (hb hby d200_61) rfl (decide_eq_false fun q => (Fld.ne F_SHARED_ordinal F_CHANGE_ordinal (by decide)) (Value.ref.inj q)) (by decide) (by decide) ?_
    show Steps pP.tables eE below (T8.setTop (mkF mM 68 #[.val (.ref a_SHARED), .val (.ref a_SHARED)] [])) _
    refine XS.iconst X8.here hx rfl (hb hby d200_68) ?_
    show Steps pP.tables eE below (T8.setTop (mkF mM 69 #[.val (.ref a_SHARED), .val (.ref a_SHARED)] [(.int (0 : Int32))])) _
    refine XS.goto X8.here hx rfl (pc0 := 69) (pc' := 110) rfl (hb hby d200_69) (by decide) (by decide) ?_
    exact kg)
  obtain ⟨fs, hr, hrun, hended, hW, hsame⟩ := X8.leave (v := some (.int (0 : Int32))) (fun h => by rw [Bd.returns] at h; cases h)
  refine ⟨_, _, pr10 _ (retOut X8 hx (t := .boolean) Bd.returns rfl (Or.inl ⟨rfl, Or.inr (Or.inl rfl), _, rfl⟩) (hb hby d200_110) hr), hrun, hended, _, _, rfl, ?_, ⟨_, rfl⟩, hW, hsame.mono (by decide) (by decide)⟩
  show Q200 Z a_SHARED a_UPDATE a_EXCLUSIVE a_CHANGE a_KEEP h0 n0 _ T8.heap _
  rw [e8]
  exact ⟨rfl, N2, rfl⟩
theorem d201_0 : decode prog_51_method_4_code 0 = .ok (.aload_n 0, 1) := by decide +kernel
theorem d201_1 : decode prog_51_method_4_code 1 = .ok (.invokevirtual 38, 3) := by decide +kernel
theorem d201_4 : decode prog_51_method_4_code 4 = .ok (.tableswitch 36 0 4 #[46, 68, 83, 87, 87], 36) := by decide +kernel
theorem d201_50 : decode prog_51_method_4_code 50 = .ok (.aload_n 1, 1) := by decide +kernel
theorem d201_51 : decode prog_51_method_4_code 51 = .ok (.getstatic 10, 3) := by decide +kernel
theorem d201_54 : decode prog_51_method_4_code 54 = .ok (.if_acmp .eq 10, 3) := by decide +kernel
theorem d201_57 : decode prog_51_method_4_code 57 = .ok (.aload_n 1, 1) := by decide +kernel
theorem d201_58 : decode prog_51_method_4_code 58 = .ok (.getstatic 13, 3) := by decide +kernel
theorem d201_61 : decode prog_51_method_4_code 61 = .ok (.if_acmp .ne 7, 3) := by decide +kernel
theorem d201_68 : decode prog_51_method_4_code 68 = .ok (.iconst 0, 1) := by decide +kernel
theorem d201_69 : decode prog_51_method_4_code 69 = .ok (.goto 41, 3) := by decide +kernel
theorem d201_110 : decode prog_51_method_4_code 110 = .ok (.ireturn, 1) := by decide +kernel
theorem ef_201 (mM : MethodId) (x0 : Addr) (x1 : Addr) : entryFrame mM #[(.ref x0), (.ref x1)] 2 = mkF mM 0 #[.val (.ref x0), .val (.ref x1)] [] := by first | (simp [entryFrame, mkF, argsToLocals, Value.category]; done) | rfl
def Q201 (Z : State) (a_SHARED : Addr) (a_UPDATE : Addr) (a_EXCLUSIVE : Addr) (a_CHANGE : Addr) (a_KEEP : Addr) (h0 : Heap) (n0 : Nat) (v : Option Value) (h : Heap) (L : List Loc) : Prop := v = some (.int (0 : Int32)) ∧ Fr n0 L ∧ h = h0
set_option maxRecDepth 65536 in
set_option maxHeartbeats 40000000 in
theorem rm201 (l : Launch) (Z : State) (a0 : Array Value) (hw : ∀ d ∈ tables_1, d.before a0 Z = true) (ws : List Jvm.Cond) (a_SHARED : Addr) (a_UPDATE : Addr) (a_EXCLUSIVE : Addr) (a_CHANGE : Addr) (a_KEEP : Addr) (h0 : Heap) (n0 : Nat) (Z0 : n0 ≤ h0.size) (O : Old Z n0 h0) (S_SHARED : Sta Z Z.heap "com/example/settle/settle/service/LockTable$Mode" "SHARED" "Lcom/example/settle/settle/service/LockTable$Mode;" (.ref a_SHARED)) (E_SHARED : Exa Z Z.heap a_SHARED "com/example/settle/settle/service/LockTable$Mode") (S_UPDATE : Sta Z Z.heap "com/example/settle/settle/service/LockTable$Mode" "UPDATE" "Lcom/example/settle/settle/service/LockTable$Mode;" (.ref a_UPDATE)) (E_UPDATE : Exa Z Z.heap a_UPDATE "com/example/settle/settle/service/LockTable$Mode") (S_EXCLUSIVE : Sta Z Z.heap "com/example/settle/settle/service/LockTable$Mode" "EXCLUSIVE" "Lcom/example/settle/settle/service/LockTable$Mode;" (.ref a_EXCLUSIVE)) (E_EXCLUSIVE : Exa Z Z.heap a_EXCLUSIVE "com/example/settle/settle/service/LockTable$Mode") (S_CHANGE : Sta Z Z.heap "com/example/settle/settle/service/LockTable$Mode" "CHANGE" "Lcom/example/settle/settle/service/LockTable$Mode;" (.ref a_CHANGE)) (E_CHANGE : Exa Z Z.heap a_CHANGE "com/example/settle/settle/service/LockTable$Mode") (S_KEEP : Sta Z Z.heap "com/example/settle/settle/service/LockTable$Mode" "KEEP" "Lcom/example/settle/settle/service/LockTable$Mode;" (.ref a_KEEP)) (E_KEEP : Exa Z Z.heap a_KEEP "com/example/settle/settle/service/LockTable$Mode") (F_SHARED_ordinal : Fld Z Z.heap a_SHARED "java/lang/Enum" "ordinal" "I" (.int (0 : Int32))) (F_CHANGE_ordinal : Fld Z Z.heap a_CHANGE "java/lang/Enum" "ordinal" "I" (.int (3 : Int32))) (F_EXCLUSIVE_ordinal : Fld Z Z.heap a_EXCLUSIVE "java/lang/Enum" "ordinal" "I" (.int (2 : Int32))) (F_KEEP_ordinal : Fld Z Z.heap a_KEEP "java/lang/Enum" "ordinal" "I" (.int (4 : Int32))) (F_UPDATE_ordinal : Fld Z Z.heap a_UPDATE "java/lang/Enum" "ordinal" "I" (.int (1 : Int32))) :
    MetFree l (⟨"com/example/settle/settle/service/LockTable$Mode", "keepsOut", "(Lcom/example/settle/settle/service/LockTable$Mode;)Z"⟩ : MethodName) (head1 (Jvm.Cond.code (⟨"com/example/settle/settle/service/LockTable$Mode", "keepsOut", "(Lcom/example/settle/settle/service/LockTable$Mode;)Z"⟩ : MethodName) prog_51_method_4_code 2 (some .boolean) :: ws) ({ frames := 1, cells := 0, slots := 0, locals := 12 } : Room)) (fun aA uU => aA = #[(.ref a_SHARED), (.ref a_UPDATE)] ∧ Z.Warmed39 uU.vm ∧ uU.heap = h0) (fun _ _ _ _ _ => True) (fun _ uU oO uU' => ∃ vV lL, oO = .returned vV ∧ Q201 Z a_SHARED a_UPDATE a_EXCLUSIVE a_CHANGE a_KEEP h0 n0 vV uU'.heap lL ∧ FrameEnd uU oO uU' lL ({ frames := 1, cells := 0, slots := 0, locals := 12 } : Room).cells ({ frames := 1, cells := 0, slots := 0, locals := 12 } : Room).slots) := by
  refine MetFree.of_bodySF (plainFor_of_name pn_1) hisR ?_
  intro pP eE sS mM args below meth cC s₁ Bd hml0 hP hK
  obtain ⟨rfl, hZ, hh⟩ := hP
  have hx := Bd.exec
  have hby := Bd.bytes
  have hml : cC.maxLocals = 2 := hml0
  have hown : sS.vm.findClass "com/example/settle/settle/service/LockTable$Mode" = some mM.cls := findClass_of_methodNamed Bd.named
  have hnm := (name_of_methodNamed Bd.named Bd.method).1
  have X0 : Stand pP l eE ({ frames := 1, cells := 0, slots := 0, locals := 12 } : Room) sS mM #[(.ref a_SHARED), (.ref a_UPDATE)] below meth cC s₁ [] 0 0 := Stand.of_body Bd
  have e0 : s₁.heap = h0 := by rw [← hh, Bd.state]; rfl
  have N0 := Fr.nil n0
  have pre0 : ∀ tg, Steps pP.tables eE below (s₁.setTop (mkF mM 0 #[.val (.ref a_SHARED), .val (.ref a_UPDATE)] [])) tg → Steps pP.tables eE below (s₁.setTop (entryFrame mM #[(.ref a_SHARED), (.ref a_UPDATE)] 2)) tg := fun tg kg => castTop (ef_201 mM a_SHARED a_UPDATE) kg
  have pr1 : ∀ tg, Steps pP.tables eE below (s₁.setTop (mkF mM 1 #[.val (.ref a_SHARED), .val (.ref a_UPDATE)] [(.ref a_SHARED)])) tg → Steps pP.tables eE below (s₁.setTop (entryFrame mM #[(.ref a_SHARED), (.ref a_UPDATE)] 2)) tg := fun tg kg => pre0 _ (by
    show Steps pP.tables eE below (s₁.setTop (mkF mM 0 #[.val (.ref a_SHARED), .val (.ref a_UPDATE)] [])) _
    refine XS.aloadN X0.here hx rfl (hb hby d201_0) rfl rfl ?_
    exact kg)
  obtain ⟨cq2, kq2, qa2, qb2, qc2⟩ := isOf hZ e0 (Exa.ext (O).2 E_SHARED)
  obtain ⟨_, _, ⟨T2, L2, kk2, nn2⟩, -, X2, ⟨Lc2, hQ2, l2, y2, z2⟩, st2⟩ := X0.virtualBackUp hx (owner := "java/lang/Enum") (x := (⟨"com/example/settle/settle/service/LockTable$Mode", "ordinal", "()I"⟩ : MethodName)) (y := (⟨"java/lang/Enum", "ordinal", "()I"⟩ : MethodName)) hown (mvT hZ (hw _ (List.mem_of_getElem? (i := 21) rfl))) (mvT hZ (hw _ (List.mem_of_getElem? (i := 22) rfl))) (mvT hZ (hw _ (List.mem_of_getElem? (i := 23) rfl))) (by decide) (mvT hZ (hw _ (List.mem_of_getElem? (i := 25) rfl))) (mvT hZ (hw _ (List.mem_of_getElem? (i := 24) rfl))) (backOf (W := 0) (rm1 l Z a0 hw [] a_SHARED (0 : Int32) h0 n0 Z0 (Fld.ext (O).2 F_SHARED_ordinal)) hZ (hw _ (List.mem_of_getElem? (i := 27) rfl)) (hw _ (List.mem_of_getElem? (i := 26) rfl)) (by decide) (by decide)) qa2 qc2 (g := (mkF mM 1 #[.val (.ref a_SHARED), .val (.ref a_UPDATE)] [(.ref a_SHARED)])) rfl (by rw [hml]; rfl) (Steps.refl _) (argsL := []) (rest := []) (lenOf pd_0 rfl) rfl (by show 2 * 0 + _ ≤ _; exact Nat.le_of_eq rfl) (hb hby d201_1) (fun _ _ => ⟨rfl, e0, (by decide : 0 + 0 ≤ _), (by decide : 0 + 0 ≤ _)⟩)
  dsimp only [Pt.U, Pt.locs, Pt.cells, Pt.slots] at X2 l2 y2 z2 st2 hQ2
  subst l2 y2 z2
  obtain ⟨rfl, Nq2, e2⟩ := hQ2
  have N2 := Fr.app N0 Nq2
  have pr3 : ∀ tg, Steps pP.tables eE below (T2.setTop (mkF mM 4 #[.val (.ref a_SHARED), .val (.ref a_UPDATE)] [(.int (0 : Int32))])) tg → Steps pP.tables eE below (s₁.setTop (entryFrame mM #[(.ref a_SHARED), (.ref a_UPDATE)] 2)) tg := fun tg kg => pr1 _ (st2.trans kg)
  have pr4 : ∀ tg, Steps pP.tables eE below (T2.setTop (mkF mM 51 #[.val (.ref a_SHARED), .val (.ref a_UPDATE)] [(.ref a_UPDATE)])) tg → Steps pP.tables eE below (s₁.setTop (entryFrame mM #[(.ref a_SHARED), (.ref a_UPDATE)] 2)) tg := fun tg kg => pr3 _ (by
    show Steps pP.tables eE below (T2.setTop (mkF mM 4 #[.val (.ref a_SHARED), .val (.ref a_UPDATE)] [(.int (0 : Int32))])) _
    refine XS.tswIn X2.here hx rfl (pc0 := 4) (pc' := 50) rfl (hb hby d201_4) rfl (by decide) (o := 46) (by decide) (by decide) (by decide) ?_
    show Steps pP.tables eE below (T2.setTop (mkF mM 50 #[.val (.ref a_SHARED), .val (.ref a_UPDATE)] [])) _
    refine XS.aloadN X2.here hx rfl (hb hby d201_50) rfl rfl ?_
    exact kg)
  obtain ⟨T5, X5, e5, st5⟩ := getS2 X2 hx hZ hown (host := "") (Or.inl (hw _ (List.mem_of_getElem? (i := 30) rfl))) Via.refl e2 (Sta.ext (O).2 S_EXCLUSIVE) (g := (mkF mM 51 #[.val (.ref a_SHARED), .val (.ref a_UPDATE)] [(.ref a_UPDATE)])) rfl (hb hby d201_51)
  have pr6 : ∀ tg, Steps pP.tables eE below (T5.setTop (mkF mM 54 #[.val (.ref a_SHARED), .val (.ref a_UPDATE)] [(.ref a_EXCLUSIVE), (.ref a_UPDATE)])) tg → Steps pP.tables eE below (s₁.setTop (entryFrame mM #[(.ref a_SHARED), (.ref a_UPDATE)] 2)) tg := fun tg kg => pr4 _ (st5 _ kg)
  have pr7 : ∀ tg, Steps pP.tables eE below (T5.setTop (mkF mM 58 #[.val (.ref a_SHARED), .val (.ref a_UPDATE)] [(.ref a_UPDATE)])) tg → Steps pP.tables eE below (s₁.setTop (entryFrame mM #[(.ref a_SHARED), (.ref a_UPDATE)] 2)) tg := fun tg kg => pr6 _ (by
    show Steps pP.tables eE below (T5.setTop (mkF mM 54 #[.val (.ref a_SHARED), .val (.ref a_UPDATE)] [(.ref a_EXCLUSIVE), (.ref a_UPDATE)])) _
    refine Jvm.RoadKit.acmp (g := (mkF mM 54 #[.val (.ref a_SHARED), .val (.ref a_UPDATE)] [(.ref a_EXCLUSIVE), (.ref a_UPDATE)])) X5 hx rfl rfl rfl (pc0 := 54) (pc' := 57) (same := false) rfl (hb hby d201_54) rfl (decide_eq_false fun q => (Fld.ne F_UPDATE_ordinal F_EXCLUSIVE_ordinal (by decide)) (Value.ref.inj q)) (by decide) (by decide) ?_
    show Steps pP.tables eE below (T5.setTop (mkF mM 57 #[.val (.ref a_SHARED), .val (.ref a_UPDATE)] [])) _
    refine XS.aloadN X5.here hx rfl (hb hby d201_57) rfl rfl ?_
    exact kg)
  obtain ⟨T8, X8, e8, st8⟩ := getS2 X5 hx hZ hown (host := "") (Or.inl (hw _ (List.mem_of_getElem? (i := 31) rfl))) Via.refl e5 (Sta.ext (O).2 S_CHANGE) (g := (mkF mM 58 #[.val (.ref a_SHARED), .val (.ref a_UPDATE)] [(.ref a_UPDATE)])) rfl (hb hby d201_58)
  have pr9 : ∀ tg, Steps pP.tables eE below (T8.setTop (mkF mM 61 #[.val (.ref a_SHARED), .val (.ref a_UPDATE)] [(.ref a_CHANGE), (.ref a_UPDATE)])) tg → Steps pP.tables eE below (s₁.setTop (entryFrame mM #[(.ref a_SHARED), (.ref a_UPDATE)] 2)) tg := fun tg kg => pr7 _ (st8 _ kg)
  have pr10 : ∀ tg, Steps pP.tables eE below (T8.setTop (mkF mM 110 #[.val (.ref a_SHARED), .val (.ref a_UPDATE)] [(.int (0 : Int32))])) tg → Steps pP.tables eE below (s₁.setTop (entryFrame mM #[(.ref a_SHARED), (.ref a_UPDATE)] 2)) tg := fun tg kg => pr9 _ (by
    show Steps pP.tables eE below (T8.setTop (mkF mM 61 #[.val (.ref a_SHARED), .val (.ref a_UPDATE)] [(.ref a_CHANGE), (.ref a_UPDATE)])) _
    refine Jvm.RoadKit.acmp (g := (mkF mM 61 #[.val (.ref a_SHARED), .val (.ref a_UPDATE)] [(.ref a_CHANGE), (.ref a_UPDATE)])) X8 hx rfl rfl rfl (pc0 := 61) (pc' := 68) (same := false) rfl (hb hby d201_61) rfl (decide_eq_false fun q => (Fld.ne F_UPDATE_ordinal F_CHANGE_ordinal (by decide)) (Value.ref.inj q)) (by decide) (by decide) ?_
    show Steps pP.tables eE below (T8.setTop (mkF mM 68 #[.val (.ref a_SHARED), .val (.ref a_UPDATE)] [])) _
    refine XS.iconst X8.here hx rfl (hb hby d201_68) ?_
    show Steps pP.tables eE below (T8.setTop (mkF mM 69 #[.val (.ref a_SHARED), .val (.ref a_UPDATE)] [(.int (0 : Int32))])) _
    refine XS.goto X8.here hx rfl (pc0 := 69) (pc' := 110) rfl (hb hby d201_69) (by decide) (by decide) ?_
    exact kg)
  obtain ⟨fs, hr, hrun, hended, hW, hsame⟩ := X8.leave (v := some (.int (0 : Int32))) (fun h => by rw [Bd.returns] at h; cases h)
  refine ⟨_, _, pr10 _ (retOut X8 hx (t := .boolean) Bd.returns rfl (Or.inl ⟨rfl, Or.inr (Or.inl rfl), _, rfl⟩) (hb hby d201_110) hr), hrun, hended, _, _, rfl, ?_, ⟨_, rfl⟩, hW, hsame.mono (by decide) (by decide)⟩
  show Q201 Z a_SHARED a_UPDATE a_EXCLUSIVE a_CHANGE a_KEEP h0 n0 _ T8.heap _
  rw [e8]
  exact ⟨rfl, N2, rfl⟩
theorem d202_0 : decode prog_51_method_4_code 0 = .ok (.aload_n 0, 1) := by decide +kernel
theorem d202_1 : decode prog_51_method_4_code 1 = .ok (.invokevirtual 38, 3) := by decide +kernel
theorem d202_4 : decode prog_51_method_4_code 4 = .ok (.tableswitch 36 0 4 #[46, 68, 83, 87, 87], 36) := by decide +kernel
theorem d202_50 : decode prog_51_method_4_code 50 = .ok (.aload_n 1, 1) := by decide +kernel
theorem d202_51 : decode prog_51_method_4_code 51 = .ok (.getstatic 10, 3) := by decide +kernel
theorem d202_54 : decode prog_51_method_4_code 54 = .ok (.if_acmp .eq 10, 3) := by decide +kernel
theorem d202_64 : decode prog_51_method_4_code 64 = .ok (.iconst 1, 1) := by decide +kernel
theorem d202_65 : decode prog_51_method_4_code 65 = .ok (.goto 45, 3) := by decide +kernel
theorem d202_110 : decode prog_51_method_4_code 110 = .ok (.ireturn, 1) := by decide +kernel
theorem ef_202 (mM : MethodId) (x0 : Addr) (x1 : Addr) : entryFrame mM #[(.ref x0), (.ref x1)] 2 = mkF mM 0 #[.val (.ref x0), .val (.ref x1)] [] := by first | (simp [entryFrame, mkF, argsToLocals, Value.category]; done) | rfl
def Q202 (Z : State) (a_SHARED : Addr) (a_UPDATE : Addr) (a_EXCLUSIVE : Addr) (a_CHANGE : Addr) (a_KEEP : Addr) (h0 : Heap) (n0 : Nat) (v : Option Value) (h : Heap) (L : List Loc) : Prop := v = some (.int (1 : Int32)) ∧ Fr n0 L ∧ h = h0
set_option maxRecDepth 65536 in
set_option maxHeartbeats 40000000 in
theorem rm202 (l : Launch) (Z : State) (a0 : Array Value) (hw : ∀ d ∈ tables_1, d.before a0 Z = true) (ws : List Jvm.Cond) (a_SHARED : Addr) (a_UPDATE : Addr) (a_EXCLUSIVE : Addr) (a_CHANGE : Addr) (a_KEEP : Addr) (h0 : Heap) (n0 : Nat) (Z0 : n0 ≤ h0.size) (O : Old Z n0 h0) (S_SHARED : Sta Z Z.heap "com/example/settle/settle/service/LockTable$Mode" "SHARED" "Lcom/example/settle/settle/service/LockTable$Mode;" (.ref a_SHARED)) (E_SHARED : Exa Z Z.heap a_SHARED "com/example/settle/settle/service/LockTable$Mode") (S_UPDATE : Sta Z Z.heap "com/example/settle/settle/service/LockTable$Mode" "UPDATE" "Lcom/example/settle/settle/service/LockTable$Mode;" (.ref a_UPDATE)) (E_UPDATE : Exa Z Z.heap a_UPDATE "com/example/settle/settle/service/LockTable$Mode") (S_EXCLUSIVE : Sta Z Z.heap "com/example/settle/settle/service/LockTable$Mode" "EXCLUSIVE" "Lcom/example/settle/settle/service/LockTable$Mode;" (.ref a_EXCLUSIVE)) (E_EXCLUSIVE : Exa Z Z.heap a_EXCLUSIVE "com/example/settle/settle/service/LockTable$Mode") (S_CHANGE : Sta Z Z.heap "com/example/settle/settle/service/LockTable$Mode" "CHANGE" "Lcom/example/settle/settle/service/LockTable$Mode;" (.ref a_CHANGE)) (E_CHANGE : Exa Z Z.heap a_CHANGE "com/example/settle/settle/service/LockTable$Mode") (S_KEEP : Sta Z Z.heap "com/example/settle/settle/service/LockTable$Mode" "KEEP" "Lcom/example/settle/settle/service/LockTable$Mode;" (.ref a_KEEP)) (E_KEEP : Exa Z Z.heap a_KEEP "com/example/settle/settle/service/LockTable$Mode") (F_SHARED_ordinal : Fld Z Z.heap a_SHARED "java/lang/Enum" "ordinal" "I" (.int (0 : Int32))) (F_CHANGE_ordinal : Fld Z Z.heap a_CHANGE "java/lang/Enum" "ordinal" "I" (.int (3 : Int32))) (F_EXCLUSIVE_ordinal : Fld Z Z.heap a_EXCLUSIVE "java/lang/Enum" "ordinal" "I" (.int (2 : Int32))) (F_KEEP_ordinal : Fld Z Z.heap a_KEEP "java/lang/Enum" "ordinal" "I" (.int (4 : Int32))) (F_UPDATE_ordinal : Fld Z Z.heap a_UPDATE "java/lang/Enum" "ordinal" "I" (.int (1 : Int32))) :
    MetFree l (⟨"com/example/settle/settle/service/LockTable$Mode", "keepsOut", "(Lcom/example/settle/settle/service/LockTable$Mode;)Z"⟩ : MethodName) (head1 (Jvm.Cond.code (⟨"com/example/settle/settle/service/LockTable$Mode", "keepsOut", "(Lcom/example/settle/settle/service/LockTable$Mode;)Z"⟩ : MethodName) prog_51_method_4_code 2 (some .boolean) :: ws) ({ frames := 1, cells := 0, slots := 0, locals := 12 } : Room)) (fun aA uU => aA = #[(.ref a_SHARED), (.ref a_EXCLUSIVE)] ∧ Z.Warmed39 uU.vm ∧ uU.heap = h0) (fun _ _ _ _ _ => True) (fun _ uU oO uU' => ∃ vV lL, oO = .returned vV ∧ Q202 Z a_SHARED a_UPDATE a_EXCLUSIVE a_CHANGE a_KEEP h0 n0 vV uU'.heap lL ∧ FrameEnd uU oO uU' lL ({ frames := 1, cells := 0, slots := 0, locals := 12 } : Room).cells ({ frames := 1, cells := 0, slots := 0, locals := 12 } : Room).slots) := by
  refine MetFree.of_bodySF (plainFor_of_name pn_1) hisR ?_
  intro pP eE sS mM args below meth cC s₁ Bd hml0 hP hK
  obtain ⟨rfl, hZ, hh⟩ := hP
  have hx := Bd.exec
  have hby := Bd.bytes
  have hml : cC.maxLocals = 2 := hml0
  have hown : sS.vm.findClass "com/example/settle/settle/service/LockTable$Mode" = some mM.cls := findClass_of_methodNamed Bd.named
  have hnm := (name_of_methodNamed Bd.named Bd.method).1
  have X0 : Stand pP l eE ({ frames := 1, cells := 0, slots := 0, locals := 12 } : Room) sS mM #[(.ref a_SHARED), (.ref a_EXCLUSIVE)] below meth cC s₁ [] 0 0 := Stand.of_body Bd
  have e0 : s₁.heap = h0 := by rw [← hh, Bd.state]; rfl
  have N0 := Fr.nil n0
  have pre0 : ∀ tg, Steps pP.tables eE below (s₁.setTop (mkF mM 0 #[.val (.ref a_SHARED), .val (.ref a_EXCLUSIVE)] [])) tg → Steps pP.tables eE below (s₁.setTop (entryFrame mM #[(.ref a_SHARED), (.ref a_EXCLUSIVE)] 2)) tg := fun tg kg => castTop (ef_202 mM a_SHARED a_EXCLUSIVE) kg
  have pr1 : ∀ tg, Steps pP.tables eE below (s₁.setTop (mkF mM 1 #[.val (.ref a_SHARED), .val (.ref a_EXCLUSIVE)] [(.ref a_SHARED)])) tg → Steps pP.tables eE below (s₁.setTop (entryFrame mM #[(.ref a_SHARED), (.ref a_EXCLUSIVE)] 2)) tg := fun tg kg => pre0 _ (by
    show Steps pP.tables eE below (s₁.setTop (mkF mM 0 #[.val (.ref a_SHARED), .val (.ref a_EXCLUSIVE)] [])) _
    refine XS.aloadN X0.here hx rfl (hb hby d202_0) rfl rfl ?_
    exact kg)
  obtain ⟨cq2, kq2, qa2, qb2, qc2⟩ := isOf hZ e0 (Exa.ext (O).2 E_SHARED)
  obtain ⟨_, _, ⟨T2, L2, kk2, nn2⟩, -, X2, ⟨Lc2, hQ2, l2, y2, z2⟩, st2⟩ := X0.virtualBackUp hx (owner := "java/lang/Enum") (x := (⟨"com/example/settle/settle/service/LockTable$Mode", "ordinal", "()I"⟩ : MethodName)) (y := (⟨"java/lang/Enum", "ordinal", "()I"⟩ : MethodName)) hown (mvT hZ (hw _ (List.mem_of_getElem? (i := 21) rfl))) (mvT hZ (hw _ (List.mem_of_getElem? (i := 22) rfl))) (mvT hZ (hw _ (List.mem_of_getElem? (i := 23) rfl))) (by decide) (mvT hZ (hw _ (List.mem_of_getElem? (i := 25) rfl))) (mvT hZ (hw _ (List.mem_of_getElem? (i := 24) rfl))) (backOf (W := 0) (rm1 l Z a0 hw [] a_SHARED (0 : Int32) h0 n0 Z0 (Fld.ext (O).2 F_SHARED_ordinal)) hZ (hw _ (List.mem_of_getElem? (i := 27) rfl)) (hw _ (List.mem_of_getElem? (i := 26) rfl)) (by decide) (by decide)) qa2 qc2 (g := (mkF mM 1 #[.val (.ref a_SHARED), .val (.ref a_EXCLUSIVE)] [(.ref a_SHARED)])) rfl (by rw [hml]; rfl) (Steps.refl _) (argsL := []) (rest := []) (lenOf pd_0 rfl) rfl (by show 2 * 0 + _ ≤ _; exact Nat.le_of_eq rfl) (hb hby d202_1) (fun _ _ => ⟨rfl, e0, (by decide : 0 + 0 ≤ _), (by decide : 0 + 0 ≤ _)⟩)
  dsimp only [Pt.U, Pt.locs, Pt.cells, Pt.slots] at X2 l2 y2 z2 st2 hQ2
  subst l2 y2 z2
  obtain ⟨rfl, Nq2, e2⟩ := hQ2
  have N2 := Fr.app N0 Nq2
  have pr3 : ∀ tg, Steps pP.tables eE below (T2.setTop (mkF mM 4 #[.val (.ref a_SHARED), .val (.ref a_EXCLUSIVE)] [(.int (0 : Int32))])) tg → Steps pP.tables eE below (s₁.setTop (entryFrame mM #[(.ref a_SHARED), (.ref a_EXCLUSIVE)] 2)) tg := fun tg kg => pr1 _ (st2.trans kg)
  have pr4 : ∀ tg, Steps pP.tables eE below (T2.setTop (mkF mM 51 #[.val (.ref a_SHARED), .val (.ref a_EXCLUSIVE)] [(.ref a_EXCLUSIVE)])) tg → Steps pP.tables eE below (s₁.setTop (entryFrame mM #[(.ref a_SHARED), (.ref a_EXCLUSIVE)] 2)) tg := fun tg kg => pr3 _ (by
    show Steps pP.tables eE below (T2.setTop (mkF mM 4 #[.val (.ref a_SHARED), .val (.ref a_EXCLUSIVE)] [(.int (0 : Int32))])) _
    refine XS.tswIn X2.here hx rfl (pc0 := 4) (pc' := 50) rfl (hb hby d202_4) rfl (by decide) (o := 46) (by decide) (by decide) (by decide) ?_
    show Steps pP.tables eE below (T2.setTop (mkF mM 50 #[.val (.ref a_SHARED), .val (.ref a_EXCLUSIVE)] [])) _
    refine XS.aloadN X2.here hx rfl (hb hby d202_50) rfl rfl ?_
    exact kg)
  obtain ⟨T5, X5, e5, st5⟩ := getS2 X2 hx hZ hown (host := "") (Or.inl (hw _ (List.mem_of_getElem? (i := 30) rfl))) Via.refl e2 (Sta.ext (O).2 S_EXCLUSIVE) (g := (mkF mM 51 #[.val (.ref a_SHARED), .val (.ref a_EXCLUSIVE)] [(.ref a_EXCLUSIVE)])) rfl (hb hby d202_51)
  have pr6 : ∀ tg, Steps pP.tables eE below (T5.setTop (mkF mM 54 #[.val (.ref a_SHARED), .val (.ref a_EXCLUSIVE)] [(.ref a_EXCLUSIVE), (.ref a_EXCLUSIVE)])) tg → Steps pP.tables eE below (s₁.setTop (entryFrame mM #[(.ref a_SHARED), (.ref a_EXCLUSIVE)] 2)) tg := fun tg kg => pr4 _ (st5 _ kg)
  have pr7 : ∀ tg, Steps pP.tables eE below (T5.setTop (mkF mM 110 #[.val (.ref a_SHARED), .val (.ref a_EXCLUSIVE)] [(.int (1 : Int32))])) tg → Steps pP.tables eE below (s₁.setTop (entryFrame mM #[(.ref a_SHARED), (.ref a_EXCLUSIVE)] 2)) tg := fun tg kg => pr6 _ (by
    show Steps pP.tables eE below (T5.setTop (mkF mM 54 #[.val (.ref a_SHARED), .val (.ref a_EXCLUSIVE)] [(.ref a_EXCLUSIVE), (.ref a_EXCLUSIVE)])) _
    refine Jvm.RoadKit.acmp (g := (mkF mM 54 #[.val (.ref a_SHARED), .val (.ref a_EXCLUSIVE)] [(.ref a_EXCLUSIVE), (.ref a_EXCLUSIVE)])) X5 hx rfl rfl rfl (pc0 := 54) (pc' := 64) (same := true) rfl (hb hby d202_54) rfl (decide_eq_true rfl) (by decide) (by decide) ?_
    show Steps pP.tables eE below (T5.setTop (mkF mM 64 #[.val (.ref a_SHARED), .val (.ref a_EXCLUSIVE)] [])) _
    refine XS.iconst X5.here hx rfl (hb hby d202_64) ?_
    show Steps pP.tables eE below (T5.setTop (mkF mM 65 #[.val (.ref a_SHARED), .val (.ref a_EXCLUSIVE)] [(.int (1 : Int32))])) _
    refine XS.goto X5.here hx rfl (pc0 := 65) (pc' := 110) rfl (hb hby d202_65) (by decide) (by decide) ?_
    exact kg)
  obtain ⟨fs, hr, hrun, hended, hW, hsame⟩ := X5.leave (v := some (.int (1 : Int32))) (fun h => by rw [Bd.returns] at h; cases h)
  refine ⟨_, _, pr7 _ (retOut X5 hx (t := .boolean) Bd.returns rfl (Or.inl ⟨rfl, Or.inr (Or.inl rfl), _, rfl⟩) (hb hby d202_110) hr), hrun, hended, _, _, rfl, ?_, ⟨_, rfl⟩, hW, hsame.mono (by decide) (by decide)⟩
  show Q202 Z a_SHARED a_UPDATE a_EXCLUSIVE a_CHANGE a_KEEP h0 n0 _ T5.heap _
  rw [e5]
  exact ⟨rfl, N2, rfl⟩
theorem d203_0 : decode prog_51_method_4_code 0 = .ok (.aload_n 0, 1) := by decide +kernel
theorem d203_1 : decode prog_51_method_4_code 1 = .ok (.invokevirtual 38, 3) := by decide +kernel
theorem d203_4 : decode prog_51_method_4_code 4 = .ok (.tableswitch 36 0 4 #[46, 68, 83, 87, 87], 36) := by decide +kernel
theorem d203_50 : decode prog_51_method_4_code 50 = .ok (.aload_n 1, 1) := by decide +kernel
theorem d203_51 : decode prog_51_method_4_code 51 = .ok (.getstatic 10, 3) := by decide +kernel
theorem d203_54 : decode prog_51_method_4_code 54 = .ok (.if_acmp .eq 10, 3) := by decide +kernel
theorem d203_57 : decode prog_51_method_4_code 57 = .ok (.aload_n 1, 1) := by decide +kernel
theorem d203_58 : decode prog_51_method_4_code 58 = .ok (.getstatic 13, 3) := by decide +kernel
theorem d203_61 : decode prog_51_method_4_code 61 = .ok (.if_acmp .ne 7, 3) := by decide +kernel
theorem d203_64 : decode prog_51_method_4_code 64 = .ok (.iconst 1, 1) := by decide +kernel
theorem d203_65 : decode prog_51_method_4_code 65 = .ok (.goto 45, 3) := by decide +kernel
theorem d203_110 : decode prog_51_method_4_code 110 = .ok (.ireturn, 1) := by decide +kernel
theorem ef_203 (mM : MethodId) (x0 : Addr) (x1 : Addr) : entryFrame mM #[(.ref x0), (.ref x1)] 2 = mkF mM 0 #[.val (.ref x0), .val (.ref x1)] [] := by first | (simp [entryFrame, mkF, argsToLocals, Value.category]; done) | rfl
def Q203 (Z : State) (a_SHARED : Addr) (a_UPDATE : Addr) (a_EXCLUSIVE : Addr) (a_CHANGE : Addr) (a_KEEP : Addr) (h0 : Heap) (n0 : Nat) (v : Option Value) (h : Heap) (L : List Loc) : Prop := v = some (.int (1 : Int32)) ∧ Fr n0 L ∧ h = h0
set_option maxRecDepth 65536 in
set_option maxHeartbeats 40000000 in
theorem rm203 (l : Launch) (Z : State) (a0 : Array Value) (hw : ∀ d ∈ tables_1, d.before a0 Z = true) (ws : List Jvm.Cond) (a_SHARED : Addr) (a_UPDATE : Addr) (a_EXCLUSIVE : Addr) (a_CHANGE : Addr) (a_KEEP : Addr) (h0 : Heap) (n0 : Nat) (Z0 : n0 ≤ h0.size) (O : Old Z n0 h0) (S_SHARED : Sta Z Z.heap "com/example/settle/settle/service/LockTable$Mode" "SHARED" "Lcom/example/settle/settle/service/LockTable$Mode;" (.ref a_SHARED)) (E_SHARED : Exa Z Z.heap a_SHARED "com/example/settle/settle/service/LockTable$Mode") (S_UPDATE : Sta Z Z.heap "com/example/settle/settle/service/LockTable$Mode" "UPDATE" "Lcom/example/settle/settle/service/LockTable$Mode;" (.ref a_UPDATE)) (E_UPDATE : Exa Z Z.heap a_UPDATE "com/example/settle/settle/service/LockTable$Mode") (S_EXCLUSIVE : Sta Z Z.heap "com/example/settle/settle/service/LockTable$Mode" "EXCLUSIVE" "Lcom/example/settle/settle/service/LockTable$Mode;" (.ref a_EXCLUSIVE)) (E_EXCLUSIVE : Exa Z Z.heap a_EXCLUSIVE "com/example/settle/settle/service/LockTable$Mode") (S_CHANGE : Sta Z Z.heap "com/example/settle/settle/service/LockTable$Mode" "CHANGE" "Lcom/example/settle/settle/service/LockTable$Mode;" (.ref a_CHANGE)) (E_CHANGE : Exa Z Z.heap a_CHANGE "com/example/settle/settle/service/LockTable$Mode") (S_KEEP : Sta Z Z.heap "com/example/settle/settle/service/LockTable$Mode" "KEEP" "Lcom/example/settle/settle/service/LockTable$Mode;" (.ref a_KEEP)) (E_KEEP : Exa Z Z.heap a_KEEP "com/example/settle/settle/service/LockTable$Mode") (F_SHARED_ordinal : Fld Z Z.heap a_SHARED "java/lang/Enum" "ordinal" "I" (.int (0 : Int32))) (F_CHANGE_ordinal : Fld Z Z.heap a_CHANGE "java/lang/Enum" "ordinal" "I" (.int (3 : Int32))) (F_EXCLUSIVE_ordinal : Fld Z Z.heap a_EXCLUSIVE "java/lang/Enum" "ordinal" "I" (.int (2 : Int32))) (F_KEEP_ordinal : Fld Z Z.heap a_KEEP "java/lang/Enum" "ordinal" "I" (.int (4 : Int32))) (F_UPDATE_ordinal : Fld Z Z.heap a_UPDATE "java/lang/Enum" "ordinal" "I" (.int (1 : Int32))) :
    MetFree l (⟨"com/example/settle/settle/service/LockTable$Mode", "keepsOut", "(Lcom/example/settle/settle/service/LockTable$Mode;)Z"⟩ : MethodName) (head1 (Jvm.Cond.code (⟨"com/example/settle/settle/service/LockTable$Mode", "keepsOut", "(Lcom/example/settle/settle/service/LockTable$Mode;)Z"⟩ : MethodName) prog_51_method_4_code 2 (some .boolean) :: ws) ({ frames := 1, cells := 0, slots := 0, locals := 12 } : Room)) (fun aA uU => aA = #[(.ref a_SHARED), (.ref a_CHANGE)] ∧ Z.Warmed39 uU.vm ∧ uU.heap = h0) (fun _ _ _ _ _ => True) (fun _ uU oO uU' => ∃ vV lL, oO = .returned vV ∧ Q203 Z a_SHARED a_UPDATE a_EXCLUSIVE a_CHANGE a_KEEP h0 n0 vV uU'.heap lL ∧ FrameEnd uU oO uU' lL ({ frames := 1, cells := 0, slots := 0, locals := 12 } : Room).cells ({ frames := 1, cells := 0, slots := 0, locals := 12 } : Room).slots) := by
  refine MetFree.of_bodySF (plainFor_of_name pn_1) hisR ?_
  intro pP eE sS mM args below meth cC s₁ Bd hml0 hP hK
  obtain ⟨rfl, hZ, hh⟩ := hP
  have hx := Bd.exec
  have hby := Bd.bytes
  have hml : cC.maxLocals = 2 := hml0
  have hown : sS.vm.findClass "com/example/settle/settle/service/LockTable$Mode" = some mM.cls := findClass_of_methodNamed Bd.named
  have hnm := (name_of_methodNamed Bd.named Bd.method).1
  have X0 : Stand pP l eE ({ frames := 1, cells := 0, slots := 0, locals := 12 } : Room) sS mM #[(.ref a_SHARED), (.ref a_CHANGE)] below meth cC s₁ [] 0 0 := Stand.of_body Bd
  have e0 : s₁.heap = h0 := by rw [← hh, Bd.state]; rfl
  have N0 := Fr.nil n0
  have pre0 : ∀ tg, Steps pP.tables eE below (s₁.setTop (mkF mM 0 #[.val (.ref a_SHARED), .val (.ref a_CHANGE)] [])) tg → Steps pP.tables eE below (s₁.setTop (entryFrame mM #[(.ref a_SHARED), (.ref a_CHANGE)] 2)) tg := fun tg kg => castTop (ef_203 mM a_SHARED a_CHANGE) kg
  have pr1 : ∀ tg, Steps pP.tables eE below (s₁.setTop (mkF mM 1 #[.val (.ref a_SHARED), .val (.ref a_CHANGE)] [(.ref a_SHARED)])) tg → Steps pP.tables eE below (s₁.setTop (entryFrame mM #[(.ref a_SHARED), (.ref a_CHANGE)] 2)) tg := fun tg kg => pre0 _ (by
    show Steps pP.tables eE below (s₁.setTop (mkF mM 0 #[.val (.ref a_SHARED), .val (.ref a_CHANGE)] [])) _
    refine XS.aloadN X0.here hx rfl (hb hby d203_0) rfl rfl ?_
    exact kg)
  obtain ⟨cq2, kq2, qa2, qb2, qc2⟩ := isOf hZ e0 (Exa.ext (O).2 E_SHARED)
  obtain ⟨_, _, ⟨T2, L2, kk2, nn2⟩, -, X2, ⟨Lc2, hQ2, l2, y2, z2⟩, st2⟩ := X0.virtualBackUp hx (owner := "java/lang/Enum") (x := (⟨"com/example/settle/settle/service/LockTable$Mode", "ordinal", "()I"⟩ : MethodName)) (y := (⟨"java/lang/Enum", "ordinal", "()I"⟩ : MethodName)) hown (mvT hZ (hw _ (List.mem_of_getElem? (i := 21) rfl))) (mvT hZ (hw _ (List.mem_of_getElem? (i := 22) rfl))) (mvT hZ (hw _ (List.mem_of_getElem? (i := 23) rfl))) (by decide) (mvT hZ (hw _ (List.mem_of_getElem? (i := 25) rfl))) (mvT hZ (hw _ (List.mem_of_getElem? (i := 24) rfl))) (backOf (W := 0) (rm1 l Z a0 hw [] a_SHARED (0 : Int32) h0 n0 Z0 (Fld.ext (O).2 F_SHARED_ordinal)) hZ (hw _ (List.mem_of_getElem? (i := 27) rfl)) (hw _ (List.mem_of_getElem? (i := 26) rfl)) (by decide) (by decide)) qa2 qc2 (g := (mkF mM 1 #[.val (.ref a_SHARED), .val (.ref a_CHANGE)] [(.ref a_SHARED)])) rfl (by rw [hml]; rfl) (Steps.refl _) (argsL := []) (rest := []) (lenOf pd_0 rfl) rfl (by show 2 * 0 + _ ≤ _; exact Nat.le_of_eq rfl) (hb hby d203_1) (fun _ _ => ⟨rfl, e0, (by decide : 0 + 0 ≤ _), (by decide : 0 + 0 ≤ _)⟩)
  dsimp only [Pt.U, Pt.locs, Pt.cells, Pt.slots] at X2 l2 y2 z2 st2 hQ2
  subst l2 y2 z2
  obtain ⟨rfl, Nq2, e2⟩ := hQ2
  have N2 := Fr.app N0 Nq2
  have pr3 : ∀ tg, Steps pP.tables eE below (T2.setTop (mkF mM 4 #[.val (.ref a_SHARED), .val (.ref a_CHANGE)] [(.int (0 : Int32))])) tg → Steps pP.tables eE below (s₁.setTop (entryFrame mM #[(.ref a_SHARED), (.ref a_CHANGE)] 2)) tg := fun tg kg => pr1 _ (st2.trans kg)
  have pr4 : ∀ tg, Steps pP.tables eE below (T2.setTop (mkF mM 51 #[.val (.ref a_SHARED), .val (.ref a_CHANGE)] [(.ref a_CHANGE)])) tg → Steps pP.tables eE below (s₁.setTop (entryFrame mM #[(.ref a_SHARED), (.ref a_CHANGE)] 2)) tg := fun tg kg => pr3 _ (by
    show Steps pP.tables eE below (T2.setTop (mkF mM 4 #[.val (.ref a_SHARED), .val (.ref a_CHANGE)] [(.int (0 : Int32))])) _
    refine XS.tswIn X2.here hx rfl (pc0 := 4) (pc' := 50) rfl (hb hby d203_4) rfl (by decide) (o := 46) (by decide) (by decide) (by decide) ?_
    show Steps pP.tables eE below (T2.setTop (mkF mM 50 #[.val (.ref a_SHARED), .val (.ref a_CHANGE)] [])) _
    refine XS.aloadN X2.here hx rfl (hb hby d203_50) rfl rfl ?_
    exact kg)
  obtain ⟨T5, X5, e5, st5⟩ := getS2 X2 hx hZ hown (host := "") (Or.inl (hw _ (List.mem_of_getElem? (i := 30) rfl))) Via.refl e2 (Sta.ext (O).2 S_EXCLUSIVE) (g := (mkF mM 51 #[.val (.ref a_SHARED), .val (.ref a_CHANGE)] [(.ref a_CHANGE)])) rfl (hb hby d203_51)
  have pr6 : ∀ tg, Steps pP.tables eE below (T5.setTop (mkF mM 54 #[.val (.ref a_SHARED), .val (.ref a_CHANGE)] [(.ref a_EXCLUSIVE), (.ref a_CHANGE)])) tg → Steps pP.tables eE below (s₁.setTop (entryFrame mM #[(.ref a_SHARED), (.ref a_CHANGE)] 2)) tg := fun tg kg => pr4 _ (st5 _ kg)
  have pr7 : ∀ tg, Steps pP.tables eE below (T5.setTop (mkF mM 58 #[.val (.ref a_SHARED), .val (.ref a_CHANGE)] [(.ref a_CHANGE)])) tg → Steps pP.tables eE below (s₁.setTop (entryFrame mM #[(.ref a_SHARED), (.ref a_CHANGE)] 2)) tg := fun tg kg => pr6 _ (by
    show Steps pP.tables eE below (T5.setTop (mkF mM 54 #[.val (.ref a_SHARED), .val (.ref a_CHANGE)] [(.ref a_EXCLUSIVE), (.ref a_CHANGE)])) _
    refine Jvm.RoadKit.acmp (g := (mkF mM 54 #[.val (.ref a_SHARED), .val (.ref a_CHANGE)] [(.ref a_EXCLUSIVE), (.ref a_CHANGE)])) X5 hx rfl rfl rfl (pc0 := 54) (pc' := 57) (same := false) rfl (hb hby d203_54) rfl (decide_eq_false fun q => (Fld.ne F_CHANGE_ordinal F_EXCLUSIVE_ordinal (by decide)) (Value.ref.inj q)) (by decide) (by decide) ?_
    show Steps pP.tables eE below (T5.setTop (mkF mM 57 #[.val (.ref a_SHARED), .val (.ref a_CHANGE)] [])) _
    refine XS.aloadN X5.here hx rfl (hb hby d203_57) rfl rfl ?_
    exact kg)
  obtain ⟨T8, X8, e8, st8⟩ := getS2 X5 hx hZ hown (host := "") (Or.inl (hw _ (List.mem_of_getElem? (i := 31) rfl))) Via.refl e5 (Sta.ext (O).2 S_CHANGE) (g := (mkF mM 58 #[.val (.ref a_SHARED), .val (.ref a_CHANGE)] [(.ref a_CHANGE)])) rfl (hb hby d203_58)
  have pr9 : ∀ tg, Steps pP.tables eE below (T8.setTop (mkF mM 61 #[.val (.ref a_SHARED), .val (.ref a_CHANGE)] [(.ref a_CHANGE), (.ref a_CHANGE)])) tg → Steps pP.tables eE below (s₁.setTop (entryFrame mM #[(.ref a_SHARED), (.ref a_CHANGE)] 2)) tg := fun tg kg => pr7 _ (st8 _ kg)
  have pr10 : ∀ tg, Steps pP.tables eE below (T8.setTop (mkF mM 110 #[.val (.ref a_SHARED), .val (.ref a_CHANGE)] [(.int (1 : Int32))])) tg → Steps pP.tables eE below (s₁.setTop (entryFrame mM #[(.ref a_SHARED), (.ref a_CHANGE)] 2)) tg := fun tg kg => pr9 _ (by
    show Steps pP.tables eE below (T8.setTop (mkF mM 61 #[.val (.ref a_SHARED), .val (.ref a_CHANGE)] [(.ref a_CHANGE), (.ref a_CHANGE)])) _
    refine Jvm.RoadKit.acmp (g := (mkF mM 61 #[.val (.ref a_SHARED), .val (.ref a_CHANGE)] [(.ref a_CHANGE), (.ref a_CHANGE)])) X8 hx rfl rfl rfl (pc0 := 61) (pc' := 64) (same := true) rfl (hb hby d203_61) rfl (decide_eq_true rfl) (by decide) (by decide) ?_
    show Steps pP.tables eE below (T8.setTop (mkF mM 64 #[.val (.ref a_SHARED), .val (.ref a_CHANGE)] [])) _
    refine XS.iconst X8.here hx rfl (hb hby d203_64) ?_
    show Steps pP.tables eE below (T8.setTop (mkF mM 65 #[.val (.ref a_SHARED), .val (.ref a_CHANGE)] [(.int (1 : Int32))])) _
    refine XS.goto X8.here hx rfl (pc0 := 65) (pc' := 110) rfl (hb hby d203_65) (by decide) (by decide) ?_
    exact kg)
  obtain ⟨fs, hr, hrun, hended, hW, hsame⟩ := X8.leave (v := some (.int (1 : Int32))) (fun h => by rw [Bd.returns] at h; cases h)
  refine ⟨_, _, pr10 _ (retOut X8 hx (t := .boolean) Bd.returns rfl (Or.inl ⟨rfl, Or.inr (Or.inl rfl), _, rfl⟩) (hb hby d203_110) hr), hrun, hended, _, _, rfl, ?_, ⟨_, rfl⟩, hW, hsame.mono (by decide) (by decide)⟩
  show Q203 Z a_SHARED a_UPDATE a_EXCLUSIVE a_CHANGE a_KEEP h0 n0 _ T8.heap _
  rw [e8]
  exact ⟨rfl, N2, rfl⟩
theorem d204_0 : decode prog_51_method_4_code 0 = .ok (.aload_n 0, 1) := by decide +kernel
theorem d204_1 : decode prog_51_method_4_code 1 = .ok (.invokevirtual 38, 3) := by decide +kernel
theorem d204_4 : decode prog_51_method_4_code 4 = .ok (.tableswitch 36 0 4 #[46, 68, 83, 87, 87], 36) := by decide +kernel
theorem d204_50 : decode prog_51_method_4_code 50 = .ok (.aload_n 1, 1) := by decide +kernel
theorem d204_51 : decode prog_51_method_4_code 51 = .ok (.getstatic 10, 3) := by decide +kernel
theorem d204_54 : decode prog_51_method_4_code 54 = .ok (.if_acmp .eq 10, 3) := by decide +kernel
theorem d204_57 : decode prog_51_method_4_code 57 = .ok (.aload_n 1, 1) := by decide +kernel
theorem d204_58 : decode prog_51_method_4_code 58 = .ok (.getstatic 13, 3) := by decide +kernel
theorem d204_61 : decode prog_51_method_4_code 61 = .ok (.if_acmp .ne 7, 3) := by decide +kernel
theorem d204_68 : decode prog_51_method_4_code 68 = .ok (.iconst 0, 1) := by decide +kernel
theorem d204_69 : decode prog_51_method_4_code 69 = .ok (.goto 41, 3) := by decide +kernel
theorem d204_110 : decode prog_51_method_4_code 110 = .ok (.ireturn, 1) := by decide +kernel
theorem ef_204 (mM : MethodId) (x0 : Addr) (x1 : Addr) : entryFrame mM #[(.ref x0), (.ref x1)] 2 = mkF mM 0 #[.val (.ref x0), .val (.ref x1)] [] := by first | (simp [entryFrame, mkF, argsToLocals, Value.category]; done) | rfl
def Q204 (Z : State) (a_SHARED : Addr) (a_UPDATE : Addr) (a_EXCLUSIVE : Addr) (a_CHANGE : Addr) (a_KEEP : Addr) (h0 : Heap) (n0 : Nat) (v : Option Value) (h : Heap) (L : List Loc) : Prop := v = some (.int (0 : Int32)) ∧ Fr n0 L ∧ h = h0
set_option maxRecDepth 65536 in
set_option maxHeartbeats 40000000 in
theorem rm204 (l : Launch) (Z : State) (a0 : Array Value) (hw : ∀ d ∈ tables_1, d.before a0 Z = true) (ws : List Jvm.Cond) (a_SHARED : Addr) (a_UPDATE : Addr) (a_EXCLUSIVE : Addr) (a_CHANGE : Addr) (a_KEEP : Addr) (h0 : Heap) (n0 : Nat) (Z0 : n0 ≤ h0.size) (O : Old Z n0 h0) (S_SHARED : Sta Z Z.heap "com/example/settle/settle/service/LockTable$Mode" "SHARED" "Lcom/example/settle/settle/service/LockTable$Mode;" (.ref a_SHARED)) (E_SHARED : Exa Z Z.heap a_SHARED "com/example/settle/settle/service/LockTable$Mode") (S_UPDATE : Sta Z Z.heap "com/example/settle/settle/service/LockTable$Mode" "UPDATE" "Lcom/example/settle/settle/service/LockTable$Mode;" (.ref a_UPDATE)) (E_UPDATE : Exa Z Z.heap a_UPDATE "com/example/settle/settle/service/LockTable$Mode") (S_EXCLUSIVE : Sta Z Z.heap "com/example/settle/settle/service/LockTable$Mode" "EXCLUSIVE" "Lcom/example/settle/settle/service/LockTable$Mode;" (.ref a_EXCLUSIVE)) (E_EXCLUSIVE : Exa Z Z.heap a_EXCLUSIVE "com/example/settle/settle/service/LockTable$Mode") (S_CHANGE : Sta Z Z.heap "com/example/settle/settle/service/LockTable$Mode" "CHANGE" "Lcom/example/settle/settle/service/LockTable$Mode;" (.ref a_CHANGE)) (E_CHANGE : Exa Z Z.heap a_CHANGE "com/example/settle/settle/service/LockTable$Mode") (S_KEEP : Sta Z Z.heap "com/example/settle/settle/service/LockTable$Mode" "KEEP" "Lcom/example/settle/settle/service/LockTable$Mode;" (.ref a_KEEP)) (E_KEEP : Exa Z Z.heap a_KEEP "com/example/settle/settle/service/LockTable$Mode") (F_SHARED_ordinal : Fld Z Z.heap a_SHARED "java/lang/Enum" "ordinal" "I" (.int (0 : Int32))) (F_CHANGE_ordinal : Fld Z Z.heap a_CHANGE "java/lang/Enum" "ordinal" "I" (.int (3 : Int32))) (F_EXCLUSIVE_ordinal : Fld Z Z.heap a_EXCLUSIVE "java/lang/Enum" "ordinal" "I" (.int (2 : Int32))) (F_KEEP_ordinal : Fld Z Z.heap a_KEEP "java/lang/Enum" "ordinal" "I" (.int (4 : Int32))) (F_UPDATE_ordinal : Fld Z Z.heap a_UPDATE "java/lang/Enum" "ordinal" "I" (.int (1 : Int32))) :
    MetFree l (⟨"com/example/settle/settle/service/LockTable$Mode", "keepsOut", "(Lcom/example/settle/settle/service/LockTable$Mode;)Z"⟩ : MethodName) (head1 (Jvm.Cond.code (⟨"com/example/settle/settle/service/LockTable$Mode", "keepsOut", "(Lcom/example/settle/settle/service/LockTable$Mode;)Z"⟩ : MethodName) prog_51_method_4_code 2 (some .boolean) :: ws) ({ frames := 1, cells := 0, slots := 0, locals := 12 } : Room)) (fun aA uU => aA = #[(.ref a_SHARED), (.ref a_KEEP)] ∧ Z.Warmed39 uU.vm ∧ uU.heap = h0) (fun _ _ _ _ _ => True) (fun _ uU oO uU' => ∃ vV lL, oO = .returned vV ∧ Q204 Z a_SHARED a_UPDATE a_EXCLUSIVE a_CHANGE a_KEEP h0 n0 vV uU'.heap lL ∧ FrameEnd uU oO uU' lL ({ frames := 1, cells := 0, slots := 0, locals := 12 } : Room).cells ({ frames := 1, cells := 0, slots := 0, locals := 12 } : Room).slots) := by
  refine MetFree.of_bodySF (plainFor_of_name pn_1) hisR ?_
  intro pP eE sS mM args below meth cC s₁ Bd hml0 hP hK
  obtain ⟨rfl, hZ, hh⟩ := hP
  have hx := Bd.exec
  have hby := Bd.bytes
  have hml : cC.maxLocals = 2 := hml0
  have hown : sS.vm.findClass "com/example/settle/settle/service/LockTable$Mode" = some mM.cls := findClass_of_methodNamed Bd.named
  have hnm := (name_of_methodNamed Bd.named Bd.method).1
  have X0 : Stand pP l eE ({ frames := 1, cells := 0, slots := 0, locals := 12 } : Room) sS mM #[(.ref a_SHARED), (.ref a_KEEP)] below meth cC s₁ [] 0 0 := Stand.of_body Bd
  have e0 : s₁.heap = h0 := by rw [← hh, Bd.state]; rfl
  have N0 := Fr.nil n0
  have pre0 : ∀ tg, Steps pP.tables eE below (s₁.setTop (mkF mM 0 #[.val (.ref a_SHARED), .val (.ref a_KEEP)] [])) tg → Steps pP.tables eE below (s₁.setTop (entryFrame mM #[(.ref a_SHARED), (.ref a_KEEP)] 2)) tg := fun tg kg => castTop (ef_204 mM a_SHARED a_KEEP) kg
  have pr1 : ∀ tg, Steps pP.tables eE below (s₁.setTop (mkF mM 1 #[.val (.ref a_SHARED), .val (.ref a_KEEP)] [(.ref a_SHARED)])) tg → Steps pP.tables eE below (s₁.setTop (entryFrame mM #[(.ref a_SHARED), (.ref a_KEEP)] 2)) tg := fun tg kg => pre0 _ (by
    show Steps pP.tables eE below (s₁.setTop (mkF mM 0 #[.val (.ref a_SHARED), .val (.ref a_KEEP)] [])) _
    refine XS.aloadN X0.here hx rfl (hb hby d204_0) rfl rfl ?_
    exact kg)
  obtain ⟨cq2, kq2, qa2, qb2, qc2⟩ := isOf hZ e0 (Exa.ext (O).2 E_SHARED)
  obtain ⟨_, _, ⟨T2, L2, kk2, nn2⟩, -, X2, ⟨Lc2, hQ2, l2, y2, z2⟩, st2⟩ := X0.virtualBackUp hx (owner := "java/lang/Enum") (x := (⟨"com/example/settle/settle/service/LockTable$Mode", "ordinal", "()I"⟩ : MethodName)) (y := (⟨"java/lang/Enum", "ordinal", "()I"⟩ : MethodName)) hown (mvT hZ (hw _ (List.mem_of_getElem? (i := 21) rfl))) (mvT hZ (hw _ (List.mem_of_getElem? (i := 22) rfl))) (mvT hZ (hw _ (List.mem_of_getElem? (i := 23) rfl))) (by decide) (mvT hZ (hw _ (List.mem_of_getElem? (i := 25) rfl))) (mvT hZ (hw _ (List.mem_of_getElem? (i := 24) rfl))) (backOf (W := 0) (rm1 l Z a0 hw [] a_SHARED (0 : Int32) h0 n0 Z0 (Fld.ext (O).2 F_SHARED_ordinal)) hZ (hw _ (List.mem_of_getElem? (i := 27) rfl)) (hw _ (List.mem_of_getElem? (i := 26) rfl)) (by decide) (by decide)) qa2 qc2 (g := (mkF mM 1 #[.val (.ref a_SHARED), .val (.ref a_KEEP)] [(.ref a_SHARED)])) rfl (by rw [hml]; rfl) (Steps.refl _) (argsL := []) (rest := []) (lenOf pd_0 rfl) rfl (by show 2 * 0 + _ ≤ _; exact Nat.le_of_eq rfl) (hb hby d204_1) (fun _ _ => ⟨rfl, e0, (by decide : 0 + 0 ≤ _), (by decide : 0 + 0 ≤ _)⟩)
  dsimp only [Pt.U, Pt.locs, Pt.cells, Pt.slots] at X2 l2 y2 z2 st2 hQ2
  subst l2 y2 z2
  obtain ⟨rfl, Nq2, e2⟩ := hQ2
  have N2 := Fr.app N0 Nq2
  have pr3 : ∀ tg, Steps pP.tables eE below (T2.setTop (mkF mM 4 #[.val (.ref a_SHARED), .val (.ref a_KEEP)] [(.int (0 : Int32))])) tg → Steps pP.tables eE below (s₁.setTop (entryFrame mM #[(.ref a_SHARED), (.ref a_KEEP)] 2)) tg := fun tg kg => pr1 _ (st2.trans kg)
  have pr4 : ∀ tg, Steps pP.tables eE below (T2.setTop (mkF mM 51 #[.val (.ref a_SHARED), .val (.ref a_KEEP)] [(.ref a_KEEP)])) tg → Steps pP.tables eE below (s₁.setTop (entryFrame mM #[(.ref a_SHARED), (.ref a_KEEP)] 2)) tg := fun tg kg => pr3 _ (by
    show Steps pP.tables eE below (T2.setTop (mkF mM 4 #[.val (.ref a_SHARED), .val (.ref a_KEEP)] [(.int (0 : Int32))])) _
    refine XS.tswIn X2.here hx rfl (pc0 := 4) (pc' := 50) rfl (hb hby d204_4) rfl (by decide) (o := 46) (by decide) (by decide) (by decide) ?_
    show Steps pP.tables eE below (T2.setTop (mkF mM 50 #[.val (.ref a_SHARED), .val (.ref a_KEEP)] [])) _
    refine XS.aloadN X2.here hx rfl (hb hby d204_50) rfl rfl ?_
    exact kg)
  obtain ⟨T5, X5, e5, st5⟩ := getS2 X2 hx hZ hown (host := "") (Or.inl (hw _ (List.mem_of_getElem? (i := 30) rfl))) Via.refl e2 (Sta.ext (O).2 S_EXCLUSIVE) (g := (mkF mM 51 #[.val (.ref a_SHARED), .val (.ref a_KEEP)] [(.ref a_KEEP)])) rfl (hb hby d204_51)
  have pr6 : ∀ tg, Steps pP.tables eE below (T5.setTop (mkF mM 54 #[.val (.ref a_SHARED), .val (.ref a_KEEP)] [(.ref a_EXCLUSIVE), (.ref a_KEEP)])) tg → Steps pP.tables eE below (s₁.setTop (entryFrame mM #[(.ref a_SHARED), (.ref a_KEEP)] 2)) tg := fun tg kg => pr4 _ (st5 _ kg)
  have pr7 : ∀ tg, Steps pP.tables eE below (T5.setTop (mkF mM 58 #[.val (.ref a_SHARED), .val (.ref a_KEEP)] [(.ref a_KEEP)])) tg → Steps pP.tables eE below (s₁.setTop (entryFrame mM #[(.ref a_SHARED), (.ref a_KEEP)] 2)) tg := fun tg kg => pr6 _ (by
    show Steps pP.tables eE below (T5.setTop (mkF mM 54 #[.val (.ref a_SHARED), .val (.ref a_KEEP)] [(.ref a_EXCLUSIVE), (.ref a_KEEP)])) _
    refine Jvm.RoadKit.acmp (g := (mkF mM 54 #[.val (.ref a_SHARED), .val (.ref a_KEEP)] [(.ref a_EXCLUSIVE), (.ref a_KEEP)])) X5 hx rfl rfl rfl (pc0 := 54) (pc' := 57) (same := false) rfl (hb hby d204_54) rfl (decide_eq_false fun q => (Fld.ne F_KEEP_ordinal F_EXCLUSIVE_ordinal (by decide)) (Value.ref.inj q)) (by decide) (by decide) ?_
    show Steps pP.tables eE below (T5.setTop (mkF mM 57 #[.val (.ref a_SHARED), .val (.ref a_KEEP)] [])) _
    refine XS.aloadN X5.here hx rfl (hb hby d204_57) rfl rfl ?_
    exact kg)
  obtain ⟨T8, X8, e8, st8⟩ := getS2 X5 hx hZ hown (host := "") (Or.inl (hw _ (List.mem_of_getElem? (i := 31) rfl))) Via.refl e5 (Sta.ext (O).2 S_CHANGE) (g := (mkF mM 58 #[.val (.ref a_SHARED), .val (.ref a_KEEP)] [(.ref a_KEEP)])) rfl (hb hby d204_58)
  have pr9 : ∀ tg, Steps pP.tables eE below (T8.setTop (mkF mM 61 #[.val (.ref a_SHARED), .val (.ref a_KEEP)] [(.ref a_CHANGE), (.ref a_KEEP)])) tg → Steps pP.tables eE below (s₁.setTop (entryFrame mM #[(.ref a_SHARED), (.ref a_KEEP)] 2)) tg := fun tg kg => pr7 _ (st8 _ kg)
  have pr10 : ∀ tg, Steps pP.tables eE below (T8.setTop (mkF mM 110 #[.val (.ref a_SHARED), .val (.ref a_KEEP)] [(.int (0 : Int32))])) tg → Steps pP.tables eE below (s₁.setTop (entryFrame mM #[(.ref a_SHARED), (.ref a_KEEP)] 2)) tg := fun tg kg => pr9 _ (by
    show Steps pP.tables eE below (T8.setTop (mkF mM 61 #[.val (.ref a_SHARED), .val (.ref a_KEEP)] [(.ref a_CHANGE), (.ref a_KEEP)])) _
    refine Jvm.RoadKit.acmp (g := (mkF mM 61 #[.val (.ref a_SHARED), .val (.ref a_KEEP)] [(.ref a_CHANGE), (.ref a_KEEP)])) X8 hx rfl rfl rfl (pc0 := 61) (pc' := 68) (same := false) rfl (hb hby d204_61) rfl (decide_eq_false fun q => (Fld.ne F_KEEP_ordinal F_CHANGE_ordinal (by decide)) (Value.ref.inj q)) (by decide) (by decide) ?_
    show Steps pP.tables eE below (T8.setTop (mkF mM 68 #[.val (.ref a_SHARED), .val (.ref a_KEEP)] [])) _
    refine XS.iconst X8.here hx rfl (hb hby d204_68) ?_
    show Steps pP.tables eE below (T8.setTop (mkF mM 69 #[.val (.ref a_SHARED), .val (.ref a_KEEP)] [(.int (0 : Int32))])) _
    refine XS.goto X8.here hx rfl (pc0 := 69) (pc' := 110) rfl (hb hby d204_69) (by decide) (by decide) ?_
    exact kg)
  obtain ⟨fs, hr, hrun, hended, hW, hsame⟩ := X8.leave (v := some (.int (0 : Int32))) (fun h => by rw [Bd.returns] at h; cases h)
  refine ⟨_, _, pr10 _ (retOut X8 hx (t := .boolean) Bd.returns rfl (Or.inl ⟨rfl, Or.inr (Or.inl rfl), _, rfl⟩) (hb hby d204_110) hr), hrun, hended, _, _, rfl, ?_, ⟨_, rfl⟩, hW, hsame.mono (by decide) (by decide)⟩
  show Q204 Z a_SHARED a_UPDATE a_EXCLUSIVE a_CHANGE a_KEEP h0 n0 _ T8.heap _
  rw [e8]
  exact ⟨rfl, N2, rfl⟩
theorem d210_0 : decode prog_51_method_4_code 0 = .ok (.aload_n 0, 1) := by decide +kernel
theorem d210_1 : decode prog_51_method_4_code 1 = .ok (.invokevirtual 38, 3) := by decide +kernel
theorem d210_4 : decode prog_51_method_4_code 4 = .ok (.tableswitch 36 0 4 #[46, 68, 83, 87, 87], 36) := by decide +kernel
theorem d210_72 : decode prog_51_method_4_code 72 = .ok (.aload_n 1, 1) := by decide +kernel
theorem d210_73 : decode prog_51_method_4_code 73 = .ok (.getstatic 3, 3) := by decide +kernel
theorem d210_76 : decode prog_51_method_4_code 76 = .ok (.if_acmp .eq 7, 3) := by decide +kernel
theorem d210_83 : decode prog_51_method_4_code 83 = .ok (.iconst 0, 1) := by decide +kernel
theorem d210_84 : decode prog_51_method_4_code 84 = .ok (.goto 26, 3) := by decide +kernel
theorem d210_110 : decode prog_51_method_4_code 110 = .ok (.ireturn, 1) := by decide +kernel
theorem ef_210 (mM : MethodId) (x0 : Addr) (x1 : Addr) : entryFrame mM #[(.ref x0), (.ref x1)] 2 = mkF mM 0 #[.val (.ref x0), .val (.ref x1)] [] := by first | (simp [entryFrame, mkF, argsToLocals, Value.category]; done) | rfl
def Q210 (Z : State) (a_SHARED : Addr) (a_UPDATE : Addr) (a_EXCLUSIVE : Addr) (a_CHANGE : Addr) (a_KEEP : Addr) (h0 : Heap) (n0 : Nat) (v : Option Value) (h : Heap) (L : List Loc) : Prop := v = some (.int (0 : Int32)) ∧ Fr n0 L ∧ h = h0
set_option maxRecDepth 65536 in
set_option maxHeartbeats 40000000 in
theorem rm210 (l : Launch) (Z : State) (a0 : Array Value) (hw : ∀ d ∈ tables_1, d.before a0 Z = true) (ws : List Jvm.Cond) (a_SHARED : Addr) (a_UPDATE : Addr) (a_EXCLUSIVE : Addr) (a_CHANGE : Addr) (a_KEEP : Addr) (h0 : Heap) (n0 : Nat) (Z0 : n0 ≤ h0.size) (O : Old Z n0 h0) (S_SHARED : Sta Z Z.heap "com/example/settle/settle/service/LockTable$Mode" "SHARED" "Lcom/example/settle/settle/service/LockTable$Mode;" (.ref a_SHARED)) (E_SHARED : Exa Z Z.heap a_SHARED "com/example/settle/settle/service/LockTable$Mode") (S_UPDATE : Sta Z Z.heap "com/example/settle/settle/service/LockTable$Mode" "UPDATE" "Lcom/example/settle/settle/service/LockTable$Mode;" (.ref a_UPDATE)) (E_UPDATE : Exa Z Z.heap a_UPDATE "com/example/settle/settle/service/LockTable$Mode") (S_EXCLUSIVE : Sta Z Z.heap "com/example/settle/settle/service/LockTable$Mode" "EXCLUSIVE" "Lcom/example/settle/settle/service/LockTable$Mode;" (.ref a_EXCLUSIVE)) (E_EXCLUSIVE : Exa Z Z.heap a_EXCLUSIVE "com/example/settle/settle/service/LockTable$Mode") (S_CHANGE : Sta Z Z.heap "com/example/settle/settle/service/LockTable$Mode" "CHANGE" "Lcom/example/settle/settle/service/LockTable$Mode;" (.ref a_CHANGE)) (E_CHANGE : Exa Z Z.heap a_CHANGE "com/example/settle/settle/service/LockTable$Mode") (S_KEEP : Sta Z Z.heap "com/example/settle/settle/service/LockTable$Mode" "KEEP" "Lcom/example/settle/settle/service/LockTable$Mode;" (.ref a_KEEP)) (E_KEEP : Exa Z Z.heap a_KEEP "com/example/settle/settle/service/LockTable$Mode") (F_SHARED_ordinal : Fld Z Z.heap a_SHARED "java/lang/Enum" "ordinal" "I" (.int (0 : Int32))) (F_CHANGE_ordinal : Fld Z Z.heap a_CHANGE "java/lang/Enum" "ordinal" "I" (.int (3 : Int32))) (F_EXCLUSIVE_ordinal : Fld Z Z.heap a_EXCLUSIVE "java/lang/Enum" "ordinal" "I" (.int (2 : Int32))) (F_KEEP_ordinal : Fld Z Z.heap a_KEEP "java/lang/Enum" "ordinal" "I" (.int (4 : Int32))) (F_UPDATE_ordinal : Fld Z Z.heap a_UPDATE "java/lang/Enum" "ordinal" "I" (.int (1 : Int32))) :
    MetFree l (⟨"com/example/settle/settle/service/LockTable$Mode", "keepsOut", "(Lcom/example/settle/settle/service/LockTable$Mode;)Z"⟩ : MethodName) (head1 (Jvm.Cond.code (⟨"com/example/settle/settle/service/LockTable$Mode", "keepsOut", "(Lcom/example/settle/settle/service/LockTable$Mode;)Z"⟩ : MethodName) prog_51_method_4_code 2 (some .boolean) :: ws) ({ frames := 1, cells := 0, slots := 0, locals := 12 } : Room)) (fun aA uU => aA = #[(.ref a_UPDATE), (.ref a_SHARED)] ∧ Z.Warmed39 uU.vm ∧ uU.heap = h0) (fun _ _ _ _ _ => True) (fun _ uU oO uU' => ∃ vV lL, oO = .returned vV ∧ Q210 Z a_SHARED a_UPDATE a_EXCLUSIVE a_CHANGE a_KEEP h0 n0 vV uU'.heap lL ∧ FrameEnd uU oO uU' lL ({ frames := 1, cells := 0, slots := 0, locals := 12 } : Room).cells ({ frames := 1, cells := 0, slots := 0, locals := 12 } : Room).slots) := by
  refine MetFree.of_bodySF (plainFor_of_name pn_1) hisR ?_
  intro pP eE sS mM args below meth cC s₁ Bd hml0 hP hK
  obtain ⟨rfl, hZ, hh⟩ := hP
  have hx := Bd.exec
  have hby := Bd.bytes
  have hml : cC.maxLocals = 2 := hml0
  have hown : sS.vm.findClass "com/example/settle/settle/service/LockTable$Mode" = some mM.cls := findClass_of_methodNamed Bd.named
  have hnm := (name_of_methodNamed Bd.named Bd.method).1
  have X0 : Stand pP l eE ({ frames := 1, cells := 0, slots := 0, locals := 12 } : Room) sS mM #[(.ref a_UPDATE), (.ref a_SHARED)] below meth cC s₁ [] 0 0 := Stand.of_body Bd
  have e0 : s₁.heap = h0 := by rw [← hh, Bd.state]; rfl
  have N0 := Fr.nil n0
  have pre0 : ∀ tg, Steps pP.tables eE below (s₁.setTop (mkF mM 0 #[.val (.ref a_UPDATE), .val (.ref a_SHARED)] [])) tg → Steps pP.tables eE below (s₁.setTop (entryFrame mM #[(.ref a_UPDATE), (.ref a_SHARED)] 2)) tg := fun tg kg => castTop (ef_210 mM a_UPDATE a_SHARED) kg
  have pr1 : ∀ tg, Steps pP.tables eE below (s₁.setTop (mkF mM 1 #[.val (.ref a_UPDATE), .val (.ref a_SHARED)] [(.ref a_UPDATE)])) tg → Steps pP.tables eE below (s₁.setTop (entryFrame mM #[(.ref a_UPDATE), (.ref a_SHARED)] 2)) tg := fun tg kg => pre0 _ (by
    show Steps pP.tables eE below (s₁.setTop (mkF mM 0 #[.val (.ref a_UPDATE), .val (.ref a_SHARED)] [])) _
    refine XS.aloadN X0.here hx rfl (hb hby d210_0) rfl rfl ?_
    exact kg)
  obtain ⟨cq2, kq2, qa2, qb2, qc2⟩ := isOf hZ e0 (Exa.ext (O).2 E_UPDATE)
  obtain ⟨_, _, ⟨T2, L2, kk2, nn2⟩, -, X2, ⟨Lc2, hQ2, l2, y2, z2⟩, st2⟩ := X0.virtualBackUp hx (owner := "java/lang/Enum") (x := (⟨"com/example/settle/settle/service/LockTable$Mode", "ordinal", "()I"⟩ : MethodName)) (y := (⟨"java/lang/Enum", "ordinal", "()I"⟩ : MethodName)) hown (mvT hZ (hw _ (List.mem_of_getElem? (i := 21) rfl))) (mvT hZ (hw _ (List.mem_of_getElem? (i := 22) rfl))) (mvT hZ (hw _ (List.mem_of_getElem? (i := 23) rfl))) (by decide) (mvT hZ (hw _ (List.mem_of_getElem? (i := 25) rfl))) (mvT hZ (hw _ (List.mem_of_getElem? (i := 24) rfl))) (backOf (W := 0) (rm1 l Z a0 hw [] a_UPDATE (1 : Int32) h0 n0 Z0 (Fld.ext (O).2 F_UPDATE_ordinal)) hZ (hw _ (List.mem_of_getElem? (i := 27) rfl)) (hw _ (List.mem_of_getElem? (i := 26) rfl)) (by decide) (by decide)) qa2 qc2 (g := (mkF mM 1 #[.val (.ref a_UPDATE), .val (.ref a_SHARED)] [(.ref a_UPDATE)])) rfl (by rw [hml]; rfl) (Steps.refl _) (argsL := []) (rest := []) (lenOf pd_0 rfl) rfl (by show 2 * 0 + _ ≤ _; exact Nat.le_of_eq rfl) (hb hby d210_1) (fun _ _ => ⟨rfl, e0, (by decide : 0 + 0 ≤ _), (by decide : 0 + 0 ≤ _)⟩)
  dsimp only [Pt.U, Pt.locs, Pt.cells, Pt.slots] at X2 l2 y2 z2 st2 hQ2
  subst l2 y2 z2
  obtain ⟨rfl, Nq2, e2⟩ := hQ2
  have N2 := Fr.app N0 Nq2
  have pr3 : ∀ tg, Steps pP.tables eE below (T2.setTop (mkF mM 4 #[.val (.ref a_UPDATE), .val (.ref a_SHARED)] [(.int (1 : Int32))])) tg → Steps pP.tables eE below (s₁.setTop (entryFrame mM #[(.ref a_UPDATE), (.ref a_SHARED)] 2)) tg := fun tg kg => pr1 _ (st2.trans kg)
  have pr4 : ∀ tg, Steps pP.tables eE below (T2.setTop (mkF mM 73 #[.val (.ref a_UPDATE), .val (.ref a_SHARED)] [(.ref a_SHARED)])) tg → Steps pP.tables eE below (s₁.setTop (entryFrame mM #[(.ref a_UPDATE), (.ref a_SHARED)] 2)) tg := fun tg kg => pr3 _ (by
    show Steps pP.tables eE below (T2.setTop (mkF mM 4 #[.val (.ref a_UPDATE), .val (.ref a_SHARED)] [(.int (1 : Int32))])) _
    refine XS.tswIn X2.here hx rfl (pc0 := 4) (pc' := 72) rfl (hb hby d210_4) rfl (by decide) (o := 68) (by decide) (by decide) (by decide) ?_
    show Steps pP.tables eE below (T2.setTop (mkF mM 72 #[.val (.ref a_UPDATE), .val (.ref a_SHARED)] [])) _
    refine XS.aloadN X2.here hx rfl (hb hby d210_72) rfl rfl ?_
    exact kg)
  obtain ⟨T5, X5, e5, st5⟩ := getS2 X2 hx hZ hown (host := "") (Or.inl (hw _ (List.mem_of_getElem? (i := 33) rfl))) Via.refl e2 (Sta.ext (O).2 S_SHARED) (g := (mkF mM 73 #[.val (.ref a_UPDATE), .val (.ref a_SHARED)] [(.ref a_SHARED)])) rfl (hb hby d210_73)
  have pr6 : ∀ tg, Steps pP.tables eE below (T5.setTop (mkF mM 76 #[.val (.ref a_UPDATE), .val (.ref a_SHARED)] [(.ref a_SHARED), (.ref a_SHARED)])) tg → Steps pP.tables eE below (s₁.setTop (entryFrame mM #[(.ref a_UPDATE), (.ref a_SHARED)] 2)) tg := fun tg kg => pr4 _ (st5 _ kg)
  have pr7 : ∀ tg, Steps pP.tables eE below (T5.setTop (mkF mM 110 #[.val (.ref a_UPDATE), .val (.ref a_SHARED)] [(.int (0 : Int32))])) tg → Steps pP.tables eE below (s₁.setTop (entryFrame mM #[(.ref a_UPDATE), (.ref a_SHARED)] 2)) tg := fun tg kg => pr6 _ (by
    show Steps pP.tables eE below (T5.setTop (mkF mM 76 #[.val (.ref a_UPDATE), .val (.ref a_SHARED)] [(.ref a_SHARED), (.ref a_SHARED)])) _
    refine Jvm.RoadKit.acmp (g := (mkF mM 76 #[.val (.ref a_UPDATE), .val (.ref a_SHARED)] [(.ref a_SHARED), (.ref a_SHARED)])) X5 hx rfl rfl rfl (pc0 := 76) (pc' := 83) (same := true) rfl (hb hby d210_76) rfl (decide_eq_true rfl) (by decide) (by decide) ?_
    show Steps pP.tables eE below (T5.setTop (mkF mM 83 #[.val (.ref a_UPDATE), .val (.ref a_SHARED)] [])) _
    refine XS.iconst X5.here hx rfl (hb hby d210_83) ?_
    show Steps pP.tables eE below (T5.setTop (mkF mM 84 #[.val (.ref a_UPDATE), .val (.ref a_SHARED)] [(.int (0 : Int32))])) _
    refine XS.goto X5.here hx rfl (pc0 := 84) (pc' := 110) rfl (hb hby d210_84) (by decide) (by decide) ?_
    exact kg)
  obtain ⟨fs, hr, hrun, hended, hW, hsame⟩ := X5.leave (v := some (.int (0 : Int32))) (fun h => by rw [Bd.returns] at h; cases h)
  refine ⟨_, _, pr7 _ (retOut X5 hx (t := .boolean) Bd.returns rfl (Or.inl ⟨rfl, Or.inr (Or.inl rfl), _, rfl⟩) (hb hby d210_110) hr), hrun, hended, _, _, rfl, ?_, ⟨_, rfl⟩, hW, hsame.mono (by decide) (by decide)⟩
  show Q210 Z a_SHARED a_UPDATE a_EXCLUSIVE a_CHANGE a_KEEP h0 n0 _ T5.heap _
  rw [e5]
  exact ⟨rfl, N2, rfl⟩
theorem d211_0 : decode prog_51_method_4_code 0 = .ok (.aload_n 0, 1) := by decide +kernel
theorem d211_1 : decode prog_51_method_4_code 1 = .ok (.invokevirtual 38, 3) := by decide +kernel
theorem d211_4 : decode prog_51_method_4_code 4 = .ok (.tableswitch 36 0 4 #[46, 68, 83, 87, 87], 36) := by decide +kernel
theorem d211_72 : decode prog_51_method_4_code 72 = .ok (.aload_n 1, 1) := by decide +kernel
theorem d211_73 : decode prog_51_method_4_code 73 = .ok (.getstatic 3, 3) := by decide +kernel
theorem d211_76 : decode prog_51_method_4_code 76 = .ok (.if_acmp .eq 7, 3) := by decide +kernel
theorem d211_79 : decode prog_51_method_4_code 79 = .ok (.iconst 1, 1) := by decide +kernel
theorem d211_80 : decode prog_51_method_4_code 80 = .ok (.goto 30, 3) := by decide +kernel
theorem d211_110 : decode prog_51_method_4_code 110 = .ok (.ireturn, 1) := by decide +kernel
theorem ef_211 (mM : MethodId) (x0 : Addr) (x1 : Addr) : entryFrame mM #[(.ref x0), (.ref x1)] 2 = mkF mM 0 #[.val (.ref x0), .val (.ref x1)] [] := by first | (simp [entryFrame, mkF, argsToLocals, Value.category]; done) | rfl
def Q211 (Z : State) (a_SHARED : Addr) (a_UPDATE : Addr) (a_EXCLUSIVE : Addr) (a_CHANGE : Addr) (a_KEEP : Addr) (h0 : Heap) (n0 : Nat) (v : Option Value) (h : Heap) (L : List Loc) : Prop := v = some (.int (1 : Int32)) ∧ Fr n0 L ∧ h = h0
set_option maxRecDepth 65536 in
set_option maxHeartbeats 40000000 in
theorem rm211 (l : Launch) (Z : State) (a0 : Array Value) (hw : ∀ d ∈ tables_1, d.before a0 Z = true) (ws : List Jvm.Cond) (a_SHARED : Addr) (a_UPDATE : Addr) (a_EXCLUSIVE : Addr) (a_CHANGE : Addr) (a_KEEP : Addr) (h0 : Heap) (n0 : Nat) (Z0 : n0 ≤ h0.size) (O : Old Z n0 h0) (S_SHARED : Sta Z Z.heap "com/example/settle/settle/service/LockTable$Mode" "SHARED" "Lcom/example/settle/settle/service/LockTable$Mode;" (.ref a_SHARED)) (E_SHARED : Exa Z Z.heap a_SHARED "com/example/settle/settle/service/LockTable$Mode") (S_UPDATE : Sta Z Z.heap "com/example/settle/settle/service/LockTable$Mode" "UPDATE" "Lcom/example/settle/settle/service/LockTable$Mode;" (.ref a_UPDATE)) (E_UPDATE : Exa Z Z.heap a_UPDATE "com/example/settle/settle/service/LockTable$Mode") (S_EXCLUSIVE : Sta Z Z.heap "com/example/settle/settle/service/LockTable$Mode" "EXCLUSIVE" "Lcom/example/settle/settle/service/LockTable$Mode;" (.ref a_EXCLUSIVE)) (E_EXCLUSIVE : Exa Z Z.heap a_EXCLUSIVE "com/example/settle/settle/service/LockTable$Mode") (S_CHANGE : Sta Z Z.heap "com/example/settle/settle/service/LockTable$Mode" "CHANGE" "Lcom/example/settle/settle/service/LockTable$Mode;" (.ref a_CHANGE)) (E_CHANGE : Exa Z Z.heap a_CHANGE "com/example/settle/settle/service/LockTable$Mode") (S_KEEP : Sta Z Z.heap "com/example/settle/settle/service/LockTable$Mode" "KEEP" "Lcom/example/settle/settle/service/LockTable$Mode;" (.ref a_KEEP)) (E_KEEP : Exa Z Z.heap a_KEEP "com/example/settle/settle/service/LockTable$Mode") (F_SHARED_ordinal : Fld Z Z.heap a_SHARED "java/lang/Enum" "ordinal" "I" (.int (0 : Int32))) (F_CHANGE_ordinal : Fld Z Z.heap a_CHANGE "java/lang/Enum" "ordinal" "I" (.int (3 : Int32))) (F_EXCLUSIVE_ordinal : Fld Z Z.heap a_EXCLUSIVE "java/lang/Enum" "ordinal" "I" (.int (2 : Int32))) (F_KEEP_ordinal : Fld Z Z.heap a_KEEP "java/lang/Enum" "ordinal" "I" (.int (4 : Int32))) (F_UPDATE_ordinal : Fld Z Z.heap a_UPDATE "java/lang/Enum" "ordinal" "I" (.int (1 : Int32))) :
    MetFree l (⟨"com/example/settle/settle/service/LockTable$Mode", "keepsOut", "(Lcom/example/settle/settle/service/LockTable$Mode;)Z"⟩ : MethodName) (head1 (Jvm.Cond.code (⟨"com/example/settle/settle/service/LockTable$Mode", "keepsOut", "(Lcom/example/settle/settle/service/LockTable$Mode;)Z"⟩ : MethodName) prog_51_method_4_code 2 (some .boolean) :: ws) ({ frames := 1, cells := 0, slots := 0, locals := 12 } : Room)) (fun aA uU => aA = #[(.ref a_UPDATE), (.ref a_UPDATE)] ∧ Z.Warmed39 uU.vm ∧ uU.heap = h0) (fun _ _ _ _ _ => True) (fun _ uU oO uU' => ∃ vV lL, oO = .returned vV ∧ Q211 Z a_SHARED a_UPDATE a_EXCLUSIVE a_CHANGE a_KEEP h0 n0 vV uU'.heap lL ∧ FrameEnd uU oO uU' lL ({ frames := 1, cells := 0, slots := 0, locals := 12 } : Room).cells ({ frames := 1, cells := 0, slots := 0, locals := 12 } : Room).slots) := by
  refine MetFree.of_bodySF (plainFor_of_name pn_1) hisR ?_
  intro pP eE sS mM args below meth cC s₁ Bd hml0 hP hK
  obtain ⟨rfl, hZ, hh⟩ := hP
  have hx := Bd.exec
  have hby := Bd.bytes
  have hml : cC.maxLocals = 2 := hml0
  have hown : sS.vm.findClass "com/example/settle/settle/service/LockTable$Mode" = some mM.cls := findClass_of_methodNamed Bd.named
  have hnm := (name_of_methodNamed Bd.named Bd.method).1
  have X0 : Stand pP l eE ({ frames := 1, cells := 0, slots := 0, locals := 12 } : Room) sS mM #[(.ref a_UPDATE), (.ref a_UPDATE)] below meth cC s₁ [] 0 0 := Stand.of_body Bd
  have e0 : s₁.heap = h0 := by rw [← hh, Bd.state]; rfl
  have N0 := Fr.nil n0
  have pre0 : ∀ tg, Steps pP.tables eE below (s₁.setTop (mkF mM 0 #[.val (.ref a_UPDATE), .val (.ref a_UPDATE)] [])) tg → Steps pP.tables eE below (s₁.setTop (entryFrame mM #[(.ref a_UPDATE), (.ref a_UPDATE)] 2)) tg := fun tg kg => castTop (ef_211 mM a_UPDATE a_UPDATE) kg
  have pr1 : ∀ tg, Steps pP.tables eE below (s₁.setTop (mkF mM 1 #[.val (.ref a_UPDATE), .val (.ref a_UPDATE)] [(.ref a_UPDATE)])) tg → Steps pP.tables eE below (s₁.setTop (entryFrame mM #[(.ref a_UPDATE), (.ref a_UPDATE)] 2)) tg := fun tg kg => pre0 _ (by
    show Steps pP.tables eE below (s₁.setTop (mkF mM 0 #[.val (.ref a_UPDATE), .val (.ref a_UPDATE)] [])) _
    refine XS.aloadN X0.here hx rfl (hb hby d211_0) rfl rfl ?_
    exact kg)
  obtain ⟨cq2, kq2, qa2, qb2, qc2⟩ := isOf hZ e0 (Exa.ext (O).2 E_UPDATE)
  obtain ⟨_, _, ⟨T2, L2, kk2, nn2⟩, -, X2, ⟨Lc2, hQ2, l2, y2, z2⟩, st2⟩ := X0.virtualBackUp hx (owner := "java/lang/Enum") (x := (⟨"com/example/settle/settle/service/LockTable$Mode", "ordinal", "()I"⟩ : MethodName)) (y := (⟨"java/lang/Enum", "ordinal", "()I"⟩ : MethodName)) hown (mvT hZ (hw _ (List.mem_of_getElem? (i := 21) rfl))) (mvT hZ (hw _ (List.mem_of_getElem? (i := 22) rfl))) (mvT hZ (hw _ (List.mem_of_getElem? (i := 23) rfl))) (by decide) (mvT hZ (hw _ (List.mem_of_getElem? (i := 25) rfl))) (mvT hZ (hw _ (List.mem_of_getElem? (i := 24) rfl))) (backOf (W := 0) (rm1 l Z a0 hw [] a_UPDATE (1 : Int32) h0 n0 Z0 (Fld.ext (O).2 F_UPDATE_ordinal)) hZ (hw _ (List.mem_of_getElem? (i := 27) rfl)) (hw _ (List.mem_of_getElem? (i := 26) rfl)) (by decide) (by decide)) qa2 qc2 (g := (mkF mM 1 #[.val (.ref a_UPDATE), .val (.ref a_UPDATE)] [(.ref a_UPDATE)])) rfl (by rw [hml]; rfl) (Steps.refl _) (argsL := []) (rest := []) (lenOf pd_0 rfl) rfl (by show 2 * 0 + _ ≤ _; exact Nat.le_of_eq rfl) (hb hby d211_1) (fun _ _ => ⟨rfl, e0, (by decide : 0 + 0 ≤ _), (by decide : 0 + 0 ≤ _)⟩)
  dsimp only [Pt.U, Pt.locs, Pt.cells, Pt.slots] at X2 l2 y2 z2 st2 hQ2
  subst l2 y2 z2
  obtain ⟨rfl, Nq2, e2⟩ := hQ2
  have N2 := Fr.app N0 Nq2
  have pr3 : ∀ tg, Steps pP.tables eE below (T2.setTop (mkF mM 4 #[.val (.ref a_UPDATE), .val (.ref a_UPDATE)] [(.int (1 : Int32))])) tg → Steps pP.tables eE below (s₁.setTop (entryFrame mM #[(.ref a_UPDATE), (.ref a_UPDATE)] 2)) tg := fun tg kg => pr1 _ (st2.trans kg)
  have pr4 : ∀ tg, Steps pP.tables eE below (T2.setTop (mkF mM 73 #[.val (.ref a_UPDATE), .val (.ref a_UPDATE)] [(.ref a_UPDATE)])) tg → Steps pP.tables eE below (s₁.setTop (entryFrame mM #[(.ref a_UPDATE), (.ref a_UPDATE)] 2)) tg := fun tg kg => pr3 _ (by
    show Steps pP.tables eE below (T2.setTop (mkF mM 4 #[.val (.ref a_UPDATE), .val (.ref a_UPDATE)] [(.int (1 : Int32))])) _
    refine XS.tswIn X2.here hx rfl (pc0 := 4) (pc' := 72) rfl (hb hby d211_4) rfl (by decide) (o := 68) (by decide) (by decide) (by decide) ?_
    show Steps pP.tables eE below (T2.setTop (mkF mM 72 #[.val (.ref a_UPDATE), .val (.ref a_UPDATE)] [])) _
    refine XS.aloadN X2.here hx rfl (hb hby d211_72) rfl rfl ?_
    exact kg)
  obtain ⟨T5, X5, e5, st5⟩ := getS2 X2 hx hZ hown (host := "") (Or.inl (hw _ (List.mem_of_getElem? (i := 33) rfl))) Via.refl e2 (Sta.ext (O).2 S_SHARED) (g := (mkF mM 73 #[.val (.ref a_UPDATE), .val (.ref a_UPDATE)] [(.ref a_UPDATE)])) rfl (hb hby d211_73)
  have pr6 : ∀ tg, Steps pP.tables eE below (T5.setTop (mkF mM 76 #[.val (.ref a_UPDATE), .val (.ref a_UPDATE)] [(.ref a_SHARED), (.ref a_UPDATE)])) tg → Steps pP.tables eE below (s₁.setTop (entryFrame mM #[(.ref a_UPDATE), (.ref a_UPDATE)] 2)) tg := fun tg kg => pr4 _ (st5 _ kg)
  have pr7 : ∀ tg, Steps pP.tables eE below (T5.setTop (mkF mM 110 #[.val (.ref a_UPDATE), .val (.ref a_UPDATE)] [(.int (1 : Int32))])) tg → Steps pP.tables eE below (s₁.setTop (entryFrame mM #[(.ref a_UPDATE), (.ref a_UPDATE)] 2)) tg := fun tg kg => pr6 _ (by
    show Steps pP.tables eE below (T5.setTop (mkF mM 76 #[.val (.ref a_UPDATE), .val (.ref a_UPDATE)] [(.ref a_SHARED), (.ref a_UPDATE)])) _
    refine Jvm.RoadKit.acmp (g := (mkF mM 76 #[.val (.ref a_UPDATE), .val (.ref a_UPDATE)] [(.ref a_SHARED), (.ref a_UPDATE)])) X5 hx rfl rfl rfl (pc0 := 76) (pc' := 79) (same := false) rfl (hb hby d211_76) rfl (decide_eq_false fun q => (Fld.ne F_UPDATE_ordinal F_SHARED_ordinal (by decide)) (Value.ref.inj q)) (by decide) (by decide) ?_
    show Steps pP.tables eE below (T5.setTop (mkF mM 79 #[.val (.ref a_UPDATE), .val (.ref a_UPDATE)] [])) _
    refine XS.iconst X5.here hx rfl (hb hby d211_79) ?_
    show Steps pP.tables eE below (T5.setTop (mkF mM 80 #[.val (.ref a_UPDATE), .val (.ref a_UPDATE)] [(.int (1 : Int32))])) _
    refine XS.goto X5.here hx rfl (pc0 := 80) (pc' := 110) rfl (hb hby d211_80) (by decide) (by decide) ?_
    exact kg)
  obtain ⟨fs, hr, hrun, hended, hW, hsame⟩ := X5.leave (v := some (.int (1 : Int32))) (fun h => by rw [Bd.returns] at h; cases h)
  refine ⟨_, _, pr7 _ (retOut X5 hx (t := .boolean) Bd.returns rfl (Or.inl ⟨rfl, Or.inr (Or.inl rfl), _, rfl⟩) (hb hby d211_110) hr), hrun, hended, _, _, rfl, ?_, ⟨_, rfl⟩, hW, hsame.mono (by decide) (by decide)⟩
  show Q211 Z a_SHARED a_UPDATE a_EXCLUSIVE a_CHANGE a_KEEP h0 n0 _ T5.heap _
  rw [e5]
  exact ⟨rfl, N2, rfl⟩
theorem d212_0 : decode prog_51_method_4_code 0 = .ok (.aload_n 0, 1) := by decide +kernel
theorem d212_1 : decode prog_51_method_4_code 1 = .ok (.invokevirtual 38, 3) := by decide +kernel
theorem d212_4 : decode prog_51_method_4_code 4 = .ok (.tableswitch 36 0 4 #[46, 68, 83, 87, 87], 36) := by decide +kernel
theorem d212_72 : decode prog_51_method_4_code 72 = .ok (.aload_n 1, 1) := by decide +kernel
theorem d212_73 : decode prog_51_method_4_code 73 = .ok (.getstatic 3, 3) := by decide +kernel
theorem d212_76 : decode prog_51_method_4_code 76 = .ok (.if_acmp .eq 7, 3) := by decide +kernel
theorem d212_79 : decode prog_51_method_4_code 79 = .ok (.iconst 1, 1) := by decide +kernel
theorem d212_80 : decode prog_51_method_4_code 80 = .ok (.goto 30, 3) := by decide +kernel
theorem d212_110 : decode prog_51_method_4_code 110 = .ok (.ireturn, 1) := by decide +kernel
theorem ef_212 (mM : MethodId) (x0 : Addr) (x1 : Addr) : entryFrame mM #[(.ref x0), (.ref x1)] 2 = mkF mM 0 #[.val (.ref x0), .val (.ref x1)] [] := by first | (simp [entryFrame, mkF, argsToLocals, Value.category]; done) | rfl
def Q212 (Z : State) (a_SHARED : Addr) (a_UPDATE : Addr) (a_EXCLUSIVE : Addr) (a_CHANGE : Addr) (a_KEEP : Addr) (h0 : Heap) (n0 : Nat) (v : Option Value) (h : Heap) (L : List Loc) : Prop := v = some (.int (1 : Int32)) ∧ Fr n0 L ∧ h = h0
set_option maxRecDepth 65536 in
set_option maxHeartbeats 40000000 in
theorem rm212 (l : Launch) (Z : State) (a0 : Array Value) (hw : ∀ d ∈ tables_1, d.before a0 Z = true) (ws : List Jvm.Cond) (a_SHARED : Addr) (a_UPDATE : Addr) (a_EXCLUSIVE : Addr) (a_CHANGE : Addr) (a_KEEP : Addr) (h0 : Heap) (n0 : Nat) (Z0 : n0 ≤ h0.size) (O : Old Z n0 h0) (S_SHARED : Sta Z Z.heap "com/example/settle/settle/service/LockTable$Mode" "SHARED" "Lcom/example/settle/settle/service/LockTable$Mode;" (.ref a_SHARED)) (E_SHARED : Exa Z Z.heap a_SHARED "com/example/settle/settle/service/LockTable$Mode") (S_UPDATE : Sta Z Z.heap "com/example/settle/settle/service/LockTable$Mode" "UPDATE" "Lcom/example/settle/settle/service/LockTable$Mode;" (.ref a_UPDATE)) (E_UPDATE : Exa Z Z.heap a_UPDATE "com/example/settle/settle/service/LockTable$Mode") (S_EXCLUSIVE : Sta Z Z.heap "com/example/settle/settle/service/LockTable$Mode" "EXCLUSIVE" "Lcom/example/settle/settle/service/LockTable$Mode;" (.ref a_EXCLUSIVE)) (E_EXCLUSIVE : Exa Z Z.heap a_EXCLUSIVE "com/example/settle/settle/service/LockTable$Mode") (S_CHANGE : Sta Z Z.heap "com/example/settle/settle/service/LockTable$Mode" "CHANGE" "Lcom/example/settle/settle/service/LockTable$Mode;" (.ref a_CHANGE)) (E_CHANGE : Exa Z Z.heap a_CHANGE "com/example/settle/settle/service/LockTable$Mode") (S_KEEP : Sta Z Z.heap "com/example/settle/settle/service/LockTable$Mode" "KEEP" "Lcom/example/settle/settle/service/LockTable$Mode;" (.ref a_KEEP)) (E_KEEP : Exa Z Z.heap a_KEEP "com/example/settle/settle/service/LockTable$Mode") (F_SHARED_ordinal : Fld Z Z.heap a_SHARED "java/lang/Enum" "ordinal" "I" (.int (0 : Int32))) (F_CHANGE_ordinal : Fld Z Z.heap a_CHANGE "java/lang/Enum" "ordinal" "I" (.int (3 : Int32))) (F_EXCLUSIVE_ordinal : Fld Z Z.heap a_EXCLUSIVE "java/lang/Enum" "ordinal" "I" (.int (2 : Int32))) (F_KEEP_ordinal : Fld Z Z.heap a_KEEP "java/lang/Enum" "ordinal" "I" (.int (4 : Int32))) (F_UPDATE_ordinal : Fld Z Z.heap a_UPDATE "java/lang/Enum" "ordinal" "I" (.int (1 : Int32))) :
    MetFree l (⟨"com/example/settle/settle/service/LockTable$Mode", "keepsOut", "(Lcom/example/settle/settle/service/LockTable$Mode;)Z"⟩ : MethodName) (head1 (Jvm.Cond.code (⟨"com/example/settle/settle/service/LockTable$Mode", "keepsOut", "(Lcom/example/settle/settle/service/LockTable$Mode;)Z"⟩ : MethodName) prog_51_method_4_code 2 (some .boolean) :: ws) ({ frames := 1, cells := 0, slots := 0, locals := 12 } : Room)) (fun aA uU => aA = #[(.ref a_UPDATE), (.ref a_EXCLUSIVE)] ∧ Z.Warmed39 uU.vm ∧ uU.heap = h0) (fun _ _ _ _ _ => True) (fun _ uU oO uU' => ∃ vV lL, oO = .returned vV ∧ Q212 Z a_SHARED a_UPDATE a_EXCLUSIVE a_CHANGE a_KEEP h0 n0 vV uU'.heap lL ∧ FrameEnd uU oO uU' lL ({ frames := 1, cells := 0, slots := 0, locals := 12 } : Room).cells ({ frames := 1, cells := 0, slots := 0, locals := 12 } : Room).slots) := by
  refine MetFree.of_bodySF (plainFor_of_name pn_1) hisR ?_
  intro pP eE sS mM args below meth cC s₁ Bd hml0 hP hK
  obtain ⟨rfl, hZ, hh⟩ := hP
  have hx := Bd.exec
  have hby := Bd.bytes
  have hml : cC.maxLocals = 2 := hml0
  have hown : sS.vm.findClass "com/example/settle/settle/service/LockTable$Mode" = some mM.cls := findClass_of_methodNamed Bd.named
  have hnm := (name_of_methodNamed Bd.named Bd.method).1
  have X0 : Stand pP l eE ({ frames := 1, cells := 0, slots := 0, locals := 12 } : Room) sS mM #[(.ref a_UPDATE), (.ref a_EXCLUSIVE)] below meth cC s₁ [] 0 0 := Stand.of_body Bd
  have e0 : s₁.heap = h0 := by rw [← hh, Bd.state]; rfl
  have N0 := Fr.nil n0
  have pre0 : ∀ tg, Steps pP.tables eE below (s₁.setTop (mkF mM 0 #[.val (.ref a_UPDATE), .val (.ref a_EXCLUSIVE)] [])) tg → Steps pP.tables eE below (s₁.setTop (entryFrame mM #[(.ref a_UPDATE), (.ref a_EXCLUSIVE)] 2)) tg := fun tg kg => castTop (ef_212 mM a_UPDATE a_EXCLUSIVE) kg
  have pr1 : ∀ tg, Steps pP.tables eE below (s₁.setTop (mkF mM 1 #[.val (.ref a_UPDATE), .val (.ref a_EXCLUSIVE)] [(.ref a_UPDATE)])) tg → Steps pP.tables eE below (s₁.setTop (entryFrame mM #[(.ref a_UPDATE), (.ref a_EXCLUSIVE)] 2)) tg := fun tg kg => pre0 _ (by
    show Steps pP.tables eE below (s₁.setTop (mkF mM 0 #[.val (.ref a_UPDATE), .val (.ref a_EXCLUSIVE)] [])) _
    refine XS.aloadN X0.here hx rfl (hb hby d212_0) rfl rfl ?_
    exact kg)
  obtain ⟨cq2, kq2, qa2, qb2, qc2⟩ := isOf hZ e0 (Exa.ext (O).2 E_UPDATE)
  obtain ⟨_, _, ⟨T2, L2, kk2, nn2⟩, -, X2, ⟨Lc2, hQ2, l2, y2, z2⟩, st2⟩ := X0.virtualBackUp hx (owner := "java/lang/Enum") (x := (⟨"com/example/settle/settle/service/LockTable$Mode", "ordinal", "()I"⟩ : MethodName)) (y := (⟨"java/lang/Enum", "ordinal", "()I"⟩ : MethodName)) hown (mvT hZ (hw _ (List.mem_of_getElem? (i := 21) rfl))) (mvT hZ (hw _ (List.mem_of_getElem? (i := 22) rfl))) (mvT hZ (hw _ (List.mem_of_getElem? (i := 23) rfl))) (by decide) (mvT hZ (hw _ (List.mem_of_getElem? (i := 25) rfl))) (mvT hZ (hw _ (List.mem_of_getElem? (i := 24) rfl))) (backOf (W := 0) (rm1 l Z a0 hw [] a_UPDATE (1 : Int32) h0 n0 Z0 (Fld.ext (O).2 F_UPDATE_ordinal)) hZ (hw _ (List.mem_of_getElem? (i := 27) rfl)) (hw _ (List.mem_of_getElem? (i := 26) rfl)) (by decide) (by decide)) qa2 qc2 (g := (mkF mM 1 #[.val (.ref a_UPDATE), .val (.ref a_EXCLUSIVE)] [(.ref a_UPDATE)])) rfl (by rw [hml]; rfl) (Steps.refl _) (argsL := []) (rest := []) (lenOf pd_0 rfl) rfl (by show 2 * 0 + _ ≤ _; exact Nat.le_of_eq rfl) (hb hby d212_1) (fun _ _ => ⟨rfl, e0, (by decide : 0 + 0 ≤ _), (by decide : 0 + 0 ≤ _)⟩)
  dsimp only [Pt.U, Pt.locs, Pt.cells, Pt.slots] at X2 l2 y2 z2 st2 hQ2
  subst l2 y2 z2
  obtain ⟨rfl, Nq2, e2⟩ := hQ2
  have N2 := Fr.app N0 Nq2
  have pr3 : ∀ tg, Steps pP.tables eE below (T2.setTop (mkF mM 4 #[.val (.ref a_UPDATE), .val (.ref a_EXCLUSIVE)] [(.int (1 : Int32))])) tg → Steps pP.tables eE below (s₁.setTop (entryFrame mM #[(.ref a_UPDATE), (.ref a_EXCLUSIVE)] 2)) tg := fun tg kg => pr1 _ (st2.trans kg)
  have pr4 : ∀ tg, Steps pP.tables eE below (T2.setTop (mkF mM 73 #[.val (.ref a_UPDATE), .val (.ref a_EXCLUSIVE)] [(.ref a_EXCLUSIVE)])) tg → Steps pP.tables eE below (s₁.setTop (entryFrame mM #[(.ref a_UPDATE), (.ref a_EXCLUSIVE)] 2)) tg := fun tg kg => pr3 _ (by
    show Steps pP.tables eE below (T2.setTop (mkF mM 4 #[.val (.ref a_UPDATE), .val (.ref a_EXCLUSIVE)] [(.int (1 : Int32))])) _
    refine XS.tswIn X2.here hx rfl (pc0 := 4) (pc' := 72) rfl (hb hby d212_4) rfl (by decide) (o := 68) (by decide) (by decide) (by decide) ?_
    show Steps pP.tables eE below (T2.setTop (mkF mM 72 #[.val (.ref a_UPDATE), .val (.ref a_EXCLUSIVE)] [])) _
    refine XS.aloadN X2.here hx rfl (hb hby d212_72) rfl rfl ?_
    exact kg)
  obtain ⟨T5, X5, e5, st5⟩ := getS2 X2 hx hZ hown (host := "") (Or.inl (hw _ (List.mem_of_getElem? (i := 33) rfl))) Via.refl e2 (Sta.ext (O).2 S_SHARED) (g := (mkF mM 73 #[.val (.ref a_UPDATE), .val (.ref a_EXCLUSIVE)] [(.ref a_EXCLUSIVE)])) rfl (hb hby d212_73)
  have pr6 : ∀ tg, Steps pP.tables eE below (T5.setTop (mkF mM 76 #[.val (.ref a_UPDATE), .val (.ref a_EXCLUSIVE)] [(.ref a_SHARED), (.ref a_EXCLUSIVE)])) tg → Steps pP.tables eE below (s₁.setTop (entryFrame mM #[(.ref a_UPDATE), (.ref a_EXCLUSIVE)] 2)) tg := fun tg kg => pr4 _ (st5 _ kg)
  have pr7 : ∀ tg, Steps pP.tables eE below (T5.setTop (mkF mM 110 #[.val (.ref a_UPDATE), .val (.ref a_EXCLUSIVE)] [(.int (1 : Int32))])) tg → Steps pP.tables eE below (s₁.setTop (entryFrame mM #[(.ref a_UPDATE), (.ref a_EXCLUSIVE)] 2)) tg := fun tg kg => pr6 _ (by
    show Steps pP.tables eE below (T5.setTop (mkF mM 76 #[.val (.ref a_UPDATE), .val (.ref a_EXCLUSIVE)] [(.ref a_SHARED), (.ref a_EXCLUSIVE)])) _
    refine Jvm.RoadKit.acmp (g := (mkF mM 76 #[.val (.ref a_UPDATE), .val (.ref a_EXCLUSIVE)] [(.ref a_SHARED), (.ref a_EXCLUSIVE)])) X5 hx rfl rfl rfl (pc0 := 76) (pc' := 79) (same := false) rfl (hb hby d212_76) rfl (decide_eq_false fun q => (Fld.ne F_EXCLUSIVE_ordinal F_SHARED_ordinal (by decide)) (Value.ref.inj q)) (by decide) (by decide) ?_
    show Steps pP.tables eE below (T5.setTop (mkF mM 79 #[.val (.ref a_UPDATE), .val (.ref a_EXCLUSIVE)] [])) _
    refine XS.iconst X5.here hx rfl (hb hby d212_79) ?_
    show Steps pP.tables eE below (T5.setTop (mkF mM 80 #[.val (.ref a_UPDATE), .val (.ref a_EXCLUSIVE)] [(.int (1 : Int32))])) _
    refine XS.goto X5.here hx rfl (pc0 := 80) (pc' := 110) rfl (hb hby d212_80) (by decide) (by decide) ?_
    exact kg)
  obtain ⟨fs, hr, hrun, hended, hW, hsame⟩ := X5.leave (v := some (.int (1 : Int32))) (fun h => by rw [Bd.returns] at h; cases h)
  refine ⟨_, _, pr7 _ (retOut X5 hx (t := .boolean) Bd.returns rfl (Or.inl ⟨rfl, Or.inr (Or.inl rfl), _, rfl⟩) (hb hby d212_110) hr), hrun, hended, _, _, rfl, ?_, ⟨_, rfl⟩, hW, hsame.mono (by decide) (by decide)⟩
  show Q212 Z a_SHARED a_UPDATE a_EXCLUSIVE a_CHANGE a_KEEP h0 n0 _ T5.heap _
  rw [e5]
  exact ⟨rfl, N2, rfl⟩
theorem d213_0 : decode prog_51_method_4_code 0 = .ok (.aload_n 0, 1) := by decide +kernel
theorem d213_1 : decode prog_51_method_4_code 1 = .ok (.invokevirtual 38, 3) := by decide +kernel
theorem d213_4 : decode prog_51_method_4_code 4 = .ok (.tableswitch 36 0 4 #[46, 68, 83, 87, 87], 36) := by decide +kernel
theorem d213_72 : decode prog_51_method_4_code 72 = .ok (.aload_n 1, 1) := by decide +kernel
theorem d213_73 : decode prog_51_method_4_code 73 = .ok (.getstatic 3, 3) := by decide +kernel
theorem d213_76 : decode prog_51_method_4_code 76 = .ok (.if_acmp .eq 7, 3) := by decide +kernel
theorem d213_79 : decode prog_51_method_4_code 79 = .ok (.iconst 1, 1) := by decide +kernel
theorem d213_80 : decode prog_51_method_4_code 80 = .ok (.goto 30, 3) := by decide +kernel
theorem d213_110 : decode prog_51_method_4_code 110 = .ok (.ireturn, 1) := by decide +kernel
theorem ef_213 (mM : MethodId) (x0 : Addr) (x1 : Addr) : entryFrame mM #[(.ref x0), (.ref x1)] 2 = mkF mM 0 #[.val (.ref x0), .val (.ref x1)] [] := by first | (simp [entryFrame, mkF, argsToLocals, Value.category]; done) | rfl
def Q213 (Z : State) (a_SHARED : Addr) (a_UPDATE : Addr) (a_EXCLUSIVE : Addr) (a_CHANGE : Addr) (a_KEEP : Addr) (h0 : Heap) (n0 : Nat) (v : Option Value) (h : Heap) (L : List Loc) : Prop := v = some (.int (1 : Int32)) ∧ Fr n0 L ∧ h = h0
set_option maxRecDepth 65536 in
set_option maxHeartbeats 40000000 in
theorem rm213 (l : Launch) (Z : State) (a0 : Array Value) (hw : ∀ d ∈ tables_1, d.before a0 Z = true) (ws : List Jvm.Cond) (a_SHARED : Addr) (a_UPDATE : Addr) (a_EXCLUSIVE : Addr) (a_CHANGE : Addr) (a_KEEP : Addr) (h0 : Heap) (n0 : Nat) (Z0 : n0 ≤ h0.size) (O : Old Z n0 h0) (S_SHARED : Sta Z Z.heap "com/example/settle/settle/service/LockTable$Mode" "SHARED" "Lcom/example/settle/settle/service/LockTable$Mode;" (.ref a_SHARED)) (E_SHARED : Exa Z Z.heap a_SHARED "com/example/settle/settle/service/LockTable$Mode") (S_UPDATE : Sta Z Z.heap "com/example/settle/settle/service/LockTable$Mode" "UPDATE" "Lcom/example/settle/settle/service/LockTable$Mode;" (.ref a_UPDATE)) (E_UPDATE : Exa Z Z.heap a_UPDATE "com/example/settle/settle/service/LockTable$Mode") (S_EXCLUSIVE : Sta Z Z.heap "com/example/settle/settle/service/LockTable$Mode" "EXCLUSIVE" "Lcom/example/settle/settle/service/LockTable$Mode;" (.ref a_EXCLUSIVE)) (E_EXCLUSIVE : Exa Z Z.heap a_EXCLUSIVE "com/example/settle/settle/service/LockTable$Mode") (S_CHANGE : Sta Z Z.heap "com/example/settle/settle/service/LockTable$Mode" "CHANGE" "Lcom/example/settle/settle/service/LockTable$Mode;" (.ref a_CHANGE)) (E_CHANGE : Exa Z Z.heap a_CHANGE "com/example/settle/settle/service/LockTable$Mode") (S_KEEP : Sta Z Z.heap "com/example/settle/settle/service/LockTable$Mode" "KEEP" "Lcom/example/settle/settle/service/LockTable$Mode;" (.ref a_KEEP)) (E_KEEP : Exa Z Z.heap a_KEEP "com/example/settle/settle/service/LockTable$Mode") (F_SHARED_ordinal : Fld Z Z.heap a_SHARED "java/lang/Enum" "ordinal" "I" (.int (0 : Int32))) (F_CHANGE_ordinal : Fld Z Z.heap a_CHANGE "java/lang/Enum" "ordinal" "I" (.int (3 : Int32))) (F_EXCLUSIVE_ordinal : Fld Z Z.heap a_EXCLUSIVE "java/lang/Enum" "ordinal" "I" (.int (2 : Int32))) (F_KEEP_ordinal : Fld Z Z.heap a_KEEP "java/lang/Enum" "ordinal" "I" (.int (4 : Int32))) (F_UPDATE_ordinal : Fld Z Z.heap a_UPDATE "java/lang/Enum" "ordinal" "I" (.int (1 : Int32))) :
    MetFree l (⟨"com/example/settle/settle/service/LockTable$Mode", "keepsOut", "(Lcom/example/settle/settle/service/LockTable$Mode;)Z"⟩ : MethodName) (head1 (Jvm.Cond.code (⟨"com/example/settle/settle/service/LockTable$Mode", "keepsOut", "(Lcom/example/settle/settle/service/LockTable$Mode;)Z"⟩ : MethodName) prog_51_method_4_code 2 (some .boolean) :: ws) ({ frames := 1, cells := 0, slots := 0, locals := 12 } : Room)) (fun aA uU => aA = #[(.ref a_UPDATE), (.ref a_CHANGE)] ∧ Z.Warmed39 uU.vm ∧ uU.heap = h0) (fun _ _ _ _ _ => True) (fun _ uU oO uU' => ∃ vV lL, oO = .returned vV ∧ Q213 Z a_SHARED a_UPDATE a_EXCLUSIVE a_CHANGE a_KEEP h0 n0 vV uU'.heap lL ∧ FrameEnd uU oO uU' lL ({ frames := 1, cells := 0, slots := 0, locals := 12 } : Room).cells ({ frames := 1, cells := 0, slots := 0, locals := 12 } : Room).slots) := by
  refine MetFree.of_bodySF (plainFor_of_name pn_1) hisR ?_
  intro pP eE sS mM args below meth cC s₁ Bd hml0 hP hK
  obtain ⟨rfl, hZ, hh⟩ := hP
  have hx := Bd.exec
  have hby := Bd.bytes
  have hml : cC.maxLocals = 2 := hml0
  have hown : sS.vm.findClass "com/example/settle/settle/service/LockTable$Mode" = some mM.cls := findClass_of_methodNamed Bd.named
  have hnm := (name_of_methodNamed Bd.named Bd.method).1
  have X0 : Stand pP l eE ({ frames := 1, cells := 0, slots := 0, locals := 12 } : Room) sS mM #[(.ref a_UPDATE), (.ref a_CHANGE)] below meth cC s₁ [] 0 0 := Stand.of_body Bd
  have e0 : s₁.heap = h0 := by rw [← hh, Bd.state]; rfl
  have N0 := Fr.nil n0
  have pre0 : ∀ tg, Steps pP.tables eE below (s₁.setTop (mkF mM 0 #[.val (.ref a_UPDATE), .val (.ref a_CHANGE)] [])) tg → Steps pP.tables eE below (s₁.setTop (entryFrame mM #[(.ref a_UPDATE), (.ref a_CHANGE)] 2)) tg := fun tg kg => castTop (ef_213 mM a_UPDATE a_CHANGE) kg
  have pr1 : ∀ tg, Steps pP.tables eE below (s₁.setTop (mkF mM 1 #[.val (.ref a_UPDATE), .val (.ref a_CHANGE)] [(.ref a_UPDATE)])) tg → Steps pP.tables eE below (s₁.setTop (entryFrame mM #[(.ref a_UPDATE), (.ref a_CHANGE)] 2)) tg := fun tg kg => pre0 _ (by
    show Steps pP.tables eE below (s₁.setTop (mkF mM 0 #[.val (.ref a_UPDATE), .val (.ref a_CHANGE)] [])) _
    refine XS.aloadN X0.here hx rfl (hb hby d213_0) rfl rfl ?_
    exact kg)
  obtain ⟨cq2, kq2, qa2, qb2, qc2⟩ := isOf hZ e0 (Exa.ext (O).2 E_UPDATE)
  obtain ⟨_, _, ⟨T2, L2, kk2, nn2⟩, -, X2, ⟨Lc2, hQ2, l2, y2, z2⟩, st2⟩ := X0.virtualBackUp hx (owner := "java/lang/Enum") (x := (⟨"com/example/settle/settle/service/LockTable$Mode", "ordinal", "()I"⟩ : MethodName)) (y := (⟨"java/lang/Enum", "ordinal", "()I"⟩ : MethodName)) hown (mvT hZ (hw _ (List.mem_of_getElem? (i := 21) rfl))) (mvT hZ (hw _ (List.mem_of_getElem? (i := 22) rfl))) (mvT hZ (hw _ (List.mem_of_getElem? (i := 23) rfl))) (by decide) (mvT hZ (hw _ (List.mem_of_getElem? (i := 25) rfl))) (mvT hZ (hw _ (List.mem_of_getElem? (i := 24) rfl))) (backOf (W := 0) (rm1 l Z a0 hw [] a_UPDATE (1 : Int32) h0 n0 Z0 (Fld.ext (O).2 F_UPDATE_ordinal)) hZ (hw _ (List.mem_of_getElem? (i := 27) rfl)) (hw _ (List.mem_of_getElem? (i := 26) rfl)) (by decide) (by decide)) qa2 qc2 (g := (mkF mM 1 #[.val (.ref a_UPDATE), .val (.ref a_CHANGE)] [(.ref a_UPDATE)])) rfl (by rw [hml]; rfl) (Steps.refl _) (argsL := []) (rest := []) (lenOf pd_0 rfl) rfl (by show 2 * 0 + _ ≤ _; exact Nat.le_of_eq rfl) (hb hby d213_1) (fun _ _ => ⟨rfl, e0, (by decide : 0 + 0 ≤ _), (by decide : 0 + 0 ≤ _)⟩)
  dsimp only [Pt.U, Pt.locs, Pt.cells, Pt.slots] at X2 l2 y2 z2 st2 hQ2
  subst l2 y2 z2
  obtain ⟨rfl, Nq2, e2⟩ := hQ2
  have N2 := Fr.app N0 Nq2
  have pr3 : ∀ tg, Steps pP.tables eE below (T2.setTop (mkF mM 4 #[.val (.ref a_UPDATE), .val (.ref a_CHANGE)] [(.int (1 : Int32))])) tg → Steps pP.tables eE below (s₁.setTop (entryFrame mM #[(.ref a_UPDATE), (.ref a_CHANGE)] 2)) tg := fun tg kg => pr1 _ (st2.trans kg)
  have pr4 : ∀ tg, Steps pP.tables eE below (T2.setTop (mkF mM 73 #[.val (.ref a_UPDATE), .val (.ref a_CHANGE)] [(.ref a_CHANGE)])) tg → Steps pP.tables eE below (s₁.setTop (entryFrame mM #[(.ref a_UPDATE), (.ref a_CHANGE)] 2)) tg := fun tg kg => pr3 _ (by
    show Steps pP.tables eE below (T2.setTop (mkF mM 4 #[.val (.ref a_UPDATE), .val (.ref a_CHANGE)] [(.int (1 : Int32))])) _
    refine XS.tswIn X2.here hx rfl (pc0 := 4) (pc' := 72) rfl (hb hby d213_4) rfl (by decide) (o := 68) (by decide) (by decide) (by decide) ?_
    show Steps pP.tables eE below (T2.setTop (mkF mM 72 #[.val (.ref a_UPDATE), .val (.ref a_CHANGE)] [])) _
    refine XS.aloadN X2.here hx rfl (hb hby d213_72) rfl rfl ?_
    exact kg)
  obtain ⟨T5, X5, e5, st5⟩ := getS2 X2 hx hZ hown (host := "") (Or.inl (hw _ (List.mem_of_getElem? (i := 33) rfl))) Via.refl e2 (Sta.ext (O).2 S_SHARED) (g := (mkF mM 73 #[.val (.ref a_UPDATE), .val (.ref a_CHANGE)] [(.ref a_CHANGE)])) rfl (hb hby d213_73)
  have pr6 : ∀ tg, Steps pP.tables eE below (T5.setTop (mkF mM 76 #[.val (.ref a_UPDATE), .val (.ref a_CHANGE)] [(.ref a_SHARED), (.ref a_CHANGE)])) tg → Steps pP.tables eE below (s₁.setTop (entryFrame mM #[(.ref a_UPDATE), (.ref a_CHANGE)] 2)) tg := fun tg kg => pr4 _ (st5 _ kg)
  have pr7 : ∀ tg, Steps pP.tables eE below (T5.setTop (mkF mM 110 #[.val (.ref a_UPDATE), .val (.ref a_CHANGE)] [(.int (1 : Int32))])) tg → Steps pP.tables eE below (s₁.setTop (entryFrame mM #[(.ref a_UPDATE), (.ref a_CHANGE)] 2)) tg := fun tg kg => pr6 _ (by
    show Steps pP.tables eE below (T5.setTop (mkF mM 76 #[.val (.ref a_UPDATE), .val (.ref a_CHANGE)] [(.ref a_SHARED), (.ref a_CHANGE)])) _
    refine Jvm.RoadKit.acmp (g := (mkF mM 76 #[.val (.ref a_UPDATE), .val (.ref a_CHANGE)] [(.ref a_SHARED), (.ref a_CHANGE)])) X5 hx rfl rfl rfl (pc0 := 76) (pc' := 79) (same := false) rfl (hb hby d213_76) rfl (decide_eq_false fun q => (Fld.ne F_CHANGE_ordinal F_SHARED_ordinal (by decide)) (Value.ref.inj q)) (by decide) (by decide) ?_
    show Steps pP.tables eE below (T5.setTop (mkF mM 79 #[.val (.ref a_UPDATE), .val (.ref a_CHANGE)] [])) _
    refine XS.iconst X5.here hx rfl (hb hby d213_79) ?_
    show Steps pP.tables eE below (T5.setTop (mkF mM 80 #[.val (.ref a_UPDATE), .val (.ref a_CHANGE)] [(.int (1 : Int32))])) _
    refine XS.goto X5.here hx rfl (pc0 := 80) (pc' := 110) rfl (hb hby d213_80) (by decide) (by decide) ?_
    exact kg)
  obtain ⟨fs, hr, hrun, hended, hW, hsame⟩ := X5.leave (v := some (.int (1 : Int32))) (fun h => by rw [Bd.returns] at h; cases h)
  refine ⟨_, _, pr7 _ (retOut X5 hx (t := .boolean) Bd.returns rfl (Or.inl ⟨rfl, Or.inr (Or.inl rfl), _, rfl⟩) (hb hby d213_110) hr), hrun, hended, _, _, rfl, ?_, ⟨_, rfl⟩, hW, hsame.mono (by decide) (by decide)⟩
  show Q213 Z a_SHARED a_UPDATE a_EXCLUSIVE a_CHANGE a_KEEP h0 n0 _ T5.heap _
  rw [e5]
  exact ⟨rfl, N2, rfl⟩
theorem d214_0 : decode prog_51_method_4_code 0 = .ok (.aload_n 0, 1) := by decide +kernel
theorem d214_1 : decode prog_51_method_4_code 1 = .ok (.invokevirtual 38, 3) := by decide +kernel
theorem d214_4 : decode prog_51_method_4_code 4 = .ok (.tableswitch 36 0 4 #[46, 68, 83, 87, 87], 36) := by decide +kernel
theorem d214_72 : decode prog_51_method_4_code 72 = .ok (.aload_n 1, 1) := by decide +kernel
theorem d214_73 : decode prog_51_method_4_code 73 = .ok (.getstatic 3, 3) := by decide +kernel
theorem d214_76 : decode prog_51_method_4_code 76 = .ok (.if_acmp .eq 7, 3) := by decide +kernel
theorem d214_79 : decode prog_51_method_4_code 79 = .ok (.iconst 1, 1) := by decide +kernel
theorem d214_80 : decode prog_51_method_4_code 80 = .ok (.goto 30, 3) := by decide +kernel
theorem d214_110 : decode prog_51_method_4_code 110 = .ok (.ireturn, 1) := by decide +kernel
theorem ef_214 (mM : MethodId) (x0 : Addr) (x1 : Addr) : entryFrame mM #[(.ref x0), (.ref x1)] 2 = mkF mM 0 #[.val (.ref x0), .val (.ref x1)] [] := by first | (simp [entryFrame, mkF, argsToLocals, Value.category]; done) | rfl
def Q214 (Z : State) (a_SHARED : Addr) (a_UPDATE : Addr) (a_EXCLUSIVE : Addr) (a_CHANGE : Addr) (a_KEEP : Addr) (h0 : Heap) (n0 : Nat) (v : Option Value) (h : Heap) (L : List Loc) : Prop := v = some (.int (1 : Int32)) ∧ Fr n0 L ∧ h = h0
set_option maxRecDepth 65536 in
set_option maxHeartbeats 40000000 in
theorem rm214 (l : Launch) (Z : State) (a0 : Array Value) (hw : ∀ d ∈ tables_1, d.before a0 Z = true) (ws : List Jvm.Cond) (a_SHARED : Addr) (a_UPDATE : Addr) (a_EXCLUSIVE : Addr) (a_CHANGE : Addr) (a_KEEP : Addr) (h0 : Heap) (n0 : Nat) (Z0 : n0 ≤ h0.size) (O : Old Z n0 h0) (S_SHARED : Sta Z Z.heap "com/example/settle/settle/service/LockTable$Mode" "SHARED" "Lcom/example/settle/settle/service/LockTable$Mode;" (.ref a_SHARED)) (E_SHARED : Exa Z Z.heap a_SHARED "com/example/settle/settle/service/LockTable$Mode") (S_UPDATE : Sta Z Z.heap "com/example/settle/settle/service/LockTable$Mode" "UPDATE" "Lcom/example/settle/settle/service/LockTable$Mode;" (.ref a_UPDATE)) (E_UPDATE : Exa Z Z.heap a_UPDATE "com/example/settle/settle/service/LockTable$Mode") (S_EXCLUSIVE : Sta Z Z.heap "com/example/settle/settle/service/LockTable$Mode" "EXCLUSIVE" "Lcom/example/settle/settle/service/LockTable$Mode;" (.ref a_EXCLUSIVE)) (E_EXCLUSIVE : Exa Z Z.heap a_EXCLUSIVE "com/example/settle/settle/service/LockTable$Mode") (S_CHANGE : Sta Z Z.heap "com/example/settle/settle/service/LockTable$Mode" "CHANGE" "Lcom/example/settle/settle/service/LockTable$Mode;" (.ref a_CHANGE)) (E_CHANGE : Exa Z Z.heap a_CHANGE "com/example/settle/settle/service/LockTable$Mode") (S_KEEP : Sta Z Z.heap "com/example/settle/settle/service/LockTable$Mode" "KEEP" "Lcom/example/settle/settle/service/LockTable$Mode;" (.ref a_KEEP)) (E_KEEP : Exa Z Z.heap a_KEEP "com/example/settle/settle/service/LockTable$Mode") (F_SHARED_ordinal : Fld Z Z.heap a_SHARED "java/lang/Enum" "ordinal" "I" (.int (0 : Int32))) (F_CHANGE_ordinal : Fld Z Z.heap a_CHANGE "java/lang/Enum" "ordinal" "I" (.int (3 : Int32))) (F_EXCLUSIVE_ordinal : Fld Z Z.heap a_EXCLUSIVE "java/lang/Enum" "ordinal" "I" (.int (2 : Int32))) (F_KEEP_ordinal : Fld Z Z.heap a_KEEP "java/lang/Enum" "ordinal" "I" (.int (4 : Int32))) (F_UPDATE_ordinal : Fld Z Z.heap a_UPDATE "java/lang/Enum" "ordinal" "I" (.int (1 : Int32))) :
    MetFree l (⟨"com/example/settle/settle/service/LockTable$Mode", "keepsOut", "(Lcom/example/settle/settle/service/LockTable$Mode;)Z"⟩ : MethodName) (head1 (Jvm.Cond.code (⟨"com/example/settle/settle/service/LockTable$Mode", "keepsOut", "(Lcom/example/settle/settle/service/LockTable$Mode;)Z"⟩ : MethodName) prog_51_method_4_code 2 (some .boolean) :: ws) ({ frames := 1, cells := 0, slots := 0, locals := 12 } : Room)) (fun aA uU => aA = #[(.ref a_UPDATE), (.ref a_KEEP)] ∧ Z.Warmed39 uU.vm ∧ uU.heap = h0) (fun _ _ _ _ _ => True) (fun _ uU oO uU' => ∃ vV lL, oO = .returned vV ∧ Q214 Z a_SHARED a_UPDATE a_EXCLUSIVE a_CHANGE a_KEEP h0 n0 vV uU'.heap lL ∧ FrameEnd uU oO uU' lL ({ frames := 1, cells := 0, slots := 0, locals := 12 } : Room).cells ({ frames := 1, cells := 0, slots := 0, locals := 12 } : Room).slots) := by
  refine MetFree.of_bodySF (plainFor_of_name pn_1) hisR ?_
  intro pP eE sS mM args below meth cC s₁ Bd hml0 hP hK
  obtain ⟨rfl, hZ, hh⟩ := hP
  have hx := Bd.exec
  have hby := Bd.bytes
  have hml : cC.maxLocals = 2 := hml0
  have hown : sS.vm.findClass "com/example/settle/settle/service/LockTable$Mode" = some mM.cls := findClass_of_methodNamed Bd.named
  have hnm := (name_of_methodNamed Bd.named Bd.method).1
  have X0 : Stand pP l eE ({ frames := 1, cells := 0, slots := 0, locals := 12 } : Room) sS mM #[(.ref a_UPDATE), (.ref a_KEEP)] below meth cC s₁ [] 0 0 := Stand.of_body Bd
  have e0 : s₁.heap = h0 := by rw [← hh, Bd.state]; rfl
  have N0 := Fr.nil n0
  have pre0 : ∀ tg, Steps pP.tables eE below (s₁.setTop (mkF mM 0 #[.val (.ref a_UPDATE), .val (.ref a_KEEP)] [])) tg → Steps pP.tables eE below (s₁.setTop (entryFrame mM #[(.ref a_UPDATE), (.ref a_KEEP)] 2)) tg := fun tg kg => castTop (ef_214 mM a_UPDATE a_KEEP) kg
  have pr1 : ∀ tg, Steps pP.tables eE below (s₁.setTop (mkF mM 1 #[.val (.ref a_UPDATE), .val (.ref a_KEEP)] [(.ref a_UPDATE)])) tg → Steps pP.tables eE below (s₁.setTop (entryFrame mM #[(.ref a_UPDATE), (.ref a_KEEP)] 2)) tg := fun tg kg => pre0 _ (by
    show Steps pP.tables eE below (s₁.setTop (mkF mM 0 #[.val (.ref a_UPDATE), .val (.ref a_KEEP)] [])) _
    refine XS.aloadN X0.here hx rfl (hb hby d214_0) rfl rfl ?_
    exact kg)
  obtain ⟨cq2, kq2, qa2, qb2, qc2⟩ := isOf hZ e0 (Exa.ext (O).2 E_UPDATE)
  obtain ⟨_, _, ⟨T2, L2, kk2, nn2⟩, -, X2, ⟨Lc2, hQ2, l2, y2, z2⟩, st2⟩ := X0.virtualBackUp hx (owner := "java/lang/Enum") (x := (⟨"com/example/settle/settle/service/LockTable$Mode", "ordinal", "()I"⟩ : MethodName)) (y := (⟨"java/lang/Enum", "ordinal", "()I"⟩ : MethodName)) hown (mvT hZ (hw _ (List.mem_of_getElem? (i := 21) rfl))) (mvT hZ (hw _ (List.mem_of_getElem? (i := 22) rfl))) (mvT hZ (hw _ (List.mem_of_getElem? (i := 23) rfl))) (by decide) (mvT hZ (hw _ (List.mem_of_getElem? (i := 25) rfl))) (mvT hZ (hw _ (List.mem_of_getElem? (i := 24) rfl))) (backOf (W := 0) (rm1 l Z a0 hw [] a_UPDATE (1 : Int32) h0 n0 Z0 (Fld.ext (O).2 F_UPDATE_ordinal)) hZ (hw _ (List.mem_of_getElem? (i := 27) rfl)) (hw _ (List.mem_of_getElem? (i := 26) rfl)) (by decide) (by decide)) qa2 qc2 (g := (mkF mM 1 #[.val (.ref a_UPDATE), .val (.ref a_KEEP)] [(.ref a_UPDATE)])) rfl (by rw [hml]; rfl) (Steps.refl _) (argsL := []) (rest := []) (lenOf pd_0 rfl) rfl (by show 2 * 0 + _ ≤ _; exact Nat.le_of_eq rfl) (hb hby d214_1) (fun _ _ => ⟨rfl, e0, (by decide : 0 + 0 ≤ _), (by decide : 0 + 0 ≤ _)⟩)
  dsimp only [Pt.U, Pt.locs, Pt.cells, Pt.slots] at X2 l2 y2 z2 st2 hQ2
  subst l2 y2 z2
  obtain ⟨rfl, Nq2, e2⟩ := hQ2
  have N2 := Fr.app N0 Nq2
  have pr3 : ∀ tg, Steps pP.tables eE below (T2.setTop (mkF mM 4 #[.val (.ref a_UPDATE), .val (.ref a_KEEP)] [(.int (1 : Int32))])) tg → Steps pP.tables eE below (s₁.setTop (entryFrame mM #[(.ref a_UPDATE), (.ref a_KEEP)] 2)) tg := fun tg kg => pr1 _ (st2.trans kg)
  have pr4 : ∀ tg, Steps pP.tables eE below (T2.setTop (mkF mM 73 #[.val (.ref a_UPDATE), .val (.ref a_KEEP)] [(.ref a_KEEP)])) tg → Steps pP.tables eE below (s₁.setTop (entryFrame mM #[(.ref a_UPDATE), (.ref a_KEEP)] 2)) tg := fun tg kg => pr3 _ (by
    show Steps pP.tables eE below (T2.setTop (mkF mM 4 #[.val (.ref a_UPDATE), .val (.ref a_KEEP)] [(.int (1 : Int32))])) _
    refine XS.tswIn X2.here hx rfl (pc0 := 4) (pc' := 72) rfl (hb hby d214_4) rfl (by decide) (o := 68) (by decide) (by decide) (by decide) ?_
    show Steps pP.tables eE below (T2.setTop (mkF mM 72 #[.val (.ref a_UPDATE), .val (.ref a_KEEP)] [])) _
    refine XS.aloadN X2.here hx rfl (hb hby d214_72) rfl rfl ?_
    exact kg)
  obtain ⟨T5, X5, e5, st5⟩ := getS2 X2 hx hZ hown (host := "") (Or.inl (hw _ (List.mem_of_getElem? (i := 33) rfl))) Via.refl e2 (Sta.ext (O).2 S_SHARED) (g := (mkF mM 73 #[.val (.ref a_UPDATE), .val (.ref a_KEEP)] [(.ref a_KEEP)])) rfl (hb hby d214_73)
  have pr6 : ∀ tg, Steps pP.tables eE below (T5.setTop (mkF mM 76 #[.val (.ref a_UPDATE), .val (.ref a_KEEP)] [(.ref a_SHARED), (.ref a_KEEP)])) tg → Steps pP.tables eE below (s₁.setTop (entryFrame mM #[(.ref a_UPDATE), (.ref a_KEEP)] 2)) tg := fun tg kg => pr4 _ (st5 _ kg)
  have pr7 : ∀ tg, Steps pP.tables eE below (T5.setTop (mkF mM 110 #[.val (.ref a_UPDATE), .val (.ref a_KEEP)] [(.int (1 : Int32))])) tg → Steps pP.tables eE below (s₁.setTop (entryFrame mM #[(.ref a_UPDATE), (.ref a_KEEP)] 2)) tg := fun tg kg => pr6 _ (by
    show Steps pP.tables eE below (T5.setTop (mkF mM 76 #[.val (.ref a_UPDATE), .val (.ref a_KEEP)] [(.ref a_SHARED), (.ref a_KEEP)])) _
    refine Jvm.RoadKit.acmp (g := (mkF mM 76 #[.val (.ref a_UPDATE), .val (.ref a_KEEP)] [(.ref a_SHARED), (.ref a_KEEP)])) X5 hx rfl rfl rfl (pc0 := 76) (pc' := 79) (same := false) rfl (hb hby d214_76) rfl (decide_eq_false fun q => (Fld.ne F_KEEP_ordinal F_SHARED_ordinal (by decide)) (Value.ref.inj q)) (by decide) (by decide) ?_
    show Steps pP.tables eE below (T5.setTop (mkF mM 79 #[.val (.ref a_UPDATE), .val (.ref a_KEEP)] [])) _
    refine XS.iconst X5.here hx rfl (hb hby d214_79) ?_
    show Steps pP.tables eE below (T5.setTop (mkF mM 80 #[.val (.ref a_UPDATE), .val (.ref a_KEEP)] [(.int (1 : Int32))])) _
    refine XS.goto X5.here hx rfl (pc0 := 80) (pc' := 110) rfl (hb hby d214_80) (by decide) (by decide) ?_
    exact kg)
  obtain ⟨fs, hr, hrun, hended, hW, hsame⟩ := X5.leave (v := some (.int (1 : Int32))) (fun h => by rw [Bd.returns] at h; cases h)
  refine ⟨_, _, pr7 _ (retOut X5 hx (t := .boolean) Bd.returns rfl (Or.inl ⟨rfl, Or.inr (Or.inl rfl), _, rfl⟩) (hb hby d214_110) hr), hrun, hended, _, _, rfl, ?_, ⟨_, rfl⟩, hW, hsame.mono (by decide) (by decide)⟩
  show Q214 Z a_SHARED a_UPDATE a_EXCLUSIVE a_CHANGE a_KEEP h0 n0 _ T5.heap _
  rw [e5]
  exact ⟨rfl, N2, rfl⟩
theorem d220_0 : decode prog_51_method_4_code 0 = .ok (.aload_n 0, 1) := by decide +kernel
theorem d220_1 : decode prog_51_method_4_code 1 = .ok (.invokevirtual 38, 3) := by decide +kernel
theorem d220_4 : decode prog_51_method_4_code 4 = .ok (.tableswitch 36 0 4 #[46, 68, 83, 87, 87], 36) := by decide +kernel
theorem d220_87 : decode prog_51_method_4_code 87 = .ok (.iconst 1, 1) := by decide +kernel
theorem d220_88 : decode prog_51_method_4_code 88 = .ok (.goto 22, 3) := by decide +kernel
theorem d220_110 : decode prog_51_method_4_code 110 = .ok (.ireturn, 1) := by decide +kernel
theorem ef_220 (mM : MethodId) (x0 : Addr) (x1 : Addr) : entryFrame mM #[(.ref x0), (.ref x1)] 2 = mkF mM 0 #[.val (.ref x0), .val (.ref x1)] [] := by first | (simp [entryFrame, mkF, argsToLocals, Value.category]; done) | rfl
def Q220 (Z : State) (a_SHARED : Addr) (a_UPDATE : Addr) (a_EXCLUSIVE : Addr) (a_CHANGE : Addr) (a_KEEP : Addr) (h0 : Heap) (n0 : Nat) (v : Option Value) (h : Heap) (L : List Loc) : Prop := v = some (.int (1 : Int32)) ∧ Fr n0 L ∧ h = h0
set_option maxRecDepth 65536 in
set_option maxHeartbeats 40000000 in
theorem rm220 (l : Launch) (Z : State) (a0 : Array Value) (hw : ∀ d ∈ tables_1, d.before a0 Z = true) (ws : List Jvm.Cond) (a_SHARED : Addr) (a_UPDATE : Addr) (a_EXCLUSIVE : Addr) (a_CHANGE : Addr) (a_KEEP : Addr) (h0 : Heap) (n0 : Nat) (Z0 : n0 ≤ h0.size) (O : Old Z n0 h0) (S_SHARED : Sta Z Z.heap "com/example/settle/settle/service/LockTable$Mode" "SHARED" "Lcom/example/settle/settle/service/LockTable$Mode;" (.ref a_SHARED)) (E_SHARED : Exa Z Z.heap a_SHARED "com/example/settle/settle/service/LockTable$Mode") (S_UPDATE : Sta Z Z.heap "com/example/settle/settle/service/LockTable$Mode" "UPDATE" "Lcom/example/settle/settle/service/LockTable$Mode;" (.ref a_UPDATE)) (E_UPDATE : Exa Z Z.heap a_UPDATE "com/example/settle/settle/service/LockTable$Mode") (S_EXCLUSIVE : Sta Z Z.heap "com/example/settle/settle/service/LockTable$Mode" "EXCLUSIVE" "Lcom/example/settle/settle/service/LockTable$Mode;" (.ref a_EXCLUSIVE)) (E_EXCLUSIVE : Exa Z Z.heap a_EXCLUSIVE "com/example/settle/settle/service/LockTable$Mode") (S_CHANGE : Sta Z Z.heap "com/example/settle/settle/service/LockTable$Mode" "CHANGE" "Lcom/example/settle/settle/service/LockTable$Mode;" (.ref a_CHANGE)) (E_CHANGE : Exa Z Z.heap a_CHANGE "com/example/settle/settle/service/LockTable$Mode") (S_KEEP : Sta Z Z.heap "com/example/settle/settle/service/LockTable$Mode" "KEEP" "Lcom/example/settle/settle/service/LockTable$Mode;" (.ref a_KEEP)) (E_KEEP : Exa Z Z.heap a_KEEP "com/example/settle/settle/service/LockTable$Mode") (F_SHARED_ordinal : Fld Z Z.heap a_SHARED "java/lang/Enum" "ordinal" "I" (.int (0 : Int32))) (F_CHANGE_ordinal : Fld Z Z.heap a_CHANGE "java/lang/Enum" "ordinal" "I" (.int (3 : Int32))) (F_EXCLUSIVE_ordinal : Fld Z Z.heap a_EXCLUSIVE "java/lang/Enum" "ordinal" "I" (.int (2 : Int32))) (F_KEEP_ordinal : Fld Z Z.heap a_KEEP "java/lang/Enum" "ordinal" "I" (.int (4 : Int32))) (F_UPDATE_ordinal : Fld Z Z.heap a_UPDATE "java/lang/Enum" "ordinal" "I" (.int (1 : Int32))) :
    MetFree l (⟨"com/example/settle/settle/service/LockTable$Mode", "keepsOut", "(Lcom/example/settle/settle/service/LockTable$Mode;)Z"⟩ : MethodName) (head1 (Jvm.Cond.code (⟨"com/example/settle/settle/service/LockTable$Mode", "keepsOut", "(Lcom/example/settle/settle/service/LockTable$Mode;)Z"⟩ : MethodName) prog_51_method_4_code 2 (some .boolean) :: ws) ({ frames := 1, cells := 0, slots := 0, locals := 12 } : Room)) (fun aA uU => aA = #[(.ref a_EXCLUSIVE), (.ref a_SHARED)] ∧ Z.Warmed39 uU.vm ∧ uU.heap = h0) (fun _ _ _ _ _ => True) (fun _ uU oO uU' => ∃ vV lL, oO = .returned vV ∧ Q220 Z a_SHARED a_UPDATE a_EXCLUSIVE a_CHANGE a_KEEP h0 n0 vV uU'.heap lL ∧ FrameEnd uU oO uU' lL ({ frames := 1, cells := 0, slots := 0, locals := 12 } : Room).cells ({ frames := 1, cells := 0, slots := 0, locals := 12 } : Room).slots) := by
  refine MetFree.of_bodySF (plainFor_of_name pn_1) hisR ?_
  intro pP eE sS mM args below meth cC s₁ Bd hml0 hP hK
  obtain ⟨rfl, hZ, hh⟩ := hP
  have hx := Bd.exec
  have hby := Bd.bytes
  have hml : cC.maxLocals = 2 := hml0
  have hown : sS.vm.findClass "com/example/settle/settle/service/LockTable$Mode" = some mM.cls := findClass_of_methodNamed Bd.named
  have hnm := (name_of_methodNamed Bd.named Bd.method).1
  have X0 : Stand pP l eE ({ frames := 1, cells := 0, slots := 0, locals := 12 } : Room) sS mM #[(.ref a_EXCLUSIVE), (.ref a_SHARED)] below meth cC s₁ [] 0 0 := Stand.of_body Bd
  have e0 : s₁.heap = h0 := by rw [← hh, Bd.state]; rfl
  have N0 := Fr.nil n0
  have pre0 : ∀ tg, Steps pP.tables eE below (s₁.setTop (mkF mM 0 #[.val (.ref a_EXCLUSIVE), .val (.ref a_SHARED)] [])) tg → Steps pP.tables eE below (s₁.setTop (entryFrame mM #[(.ref a_EXCLUSIVE), (.ref a_SHARED)] 2)) tg := fun tg kg => castTop (ef_220 mM a_EXCLUSIVE a_SHARED) kg
  have pr1 : ∀ tg, Steps pP.tables eE below (s₁.setTop (mkF mM 1 #[.val (.ref a_EXCLUSIVE), .val (.ref a_SHARED)] [(.ref a_EXCLUSIVE)])) tg → Steps pP.tables eE below (s₁.setTop (entryFrame mM #[(.ref a_EXCLUSIVE), (.ref a_SHARED)] 2)) tg := fun tg kg => pre0 _ (by
    show Steps pP.tables eE below (s₁.setTop (mkF mM 0 #[.val (.ref a_EXCLUSIVE), .val (.ref a_SHARED)] [])) _
    refine XS.aloadN X0.here hx rfl (hb hby d220_0) rfl rfl ?_
    exact kg)
  obtain ⟨cq2, kq2, qa2, qb2, qc2⟩ := isOf hZ e0 (Exa.ext (O).2 E_EXCLUSIVE)
  obtain ⟨_, _, ⟨T2, L2, kk2, nn2⟩, -, X2, ⟨Lc2, hQ2, l2, y2, z2⟩, st2⟩ := X0.virtualBackUp hx (owner := "java/lang/Enum") (x := (⟨"com/example/settle/settle/service/LockTable$Mode", "ordinal", "()I"⟩ : MethodName)) (y := (⟨"java/lang/Enum", "ordinal", "()I"⟩ : MethodName)) hown (mvT hZ (hw _ (List.mem_of_getElem? (i := 21) rfl))) (mvT hZ (hw _ (List.mem_of_getElem? (i := 22) rfl))) (mvT hZ (hw _ (List.mem_of_getElem? (i := 23) rfl))) (by decide) (mvT hZ (hw _ (List.mem_of_getElem? (i := 25) rfl))) (mvT hZ (hw _ (List.mem_of_getElem? (i := 24) rfl))) (backOf (W := 0) (rm1 l Z a0 hw [] a_EXCLUSIVE (2 : Int32) h0 n0 Z0 (Fld.ext (O).2 F_EXCLUSIVE_ordinal)) hZ (hw _ (List.mem_of_getElem? (i := 27) rfl)) (hw _ (List.mem_of_getElem? (i := 26) rfl)) (by decide) (by decide)) qa2 qc2 (g := (mkF mM 1 #[.val (.ref a_EXCLUSIVE), .val (.ref a_SHARED)] [(.ref a_EXCLUSIVE)])) rfl (by rw [hml]; rfl) (Steps.refl _) (argsL := []) (rest := []) (lenOf pd_0 rfl) rfl (by show 2 * 0 + _ ≤ _; exact Nat.le_of_eq rfl) (hb hby d220_1) (fun _ _ => ⟨rfl, e0, (by decide : 0 + 0 ≤ _), (by decide : 0 + 0 ≤ _)⟩)
  dsimp only [Pt.U, Pt.locs, Pt.cells, Pt.slots] at X2 l2 y2 z2 st2 hQ2
  subst l2 y2 z2
  obtain ⟨rfl, Nq2, e2⟩ := hQ2
  have N2 := Fr.app N0 Nq2
  have pr3 : ∀ tg, Steps pP.tables eE below (T2.setTop (mkF mM 4 #[.val (.ref a_EXCLUSIVE), .val (.ref a_SHARED)] [(.int (2 : Int32))])) tg → Steps pP.tables eE below (s₁.setTop (entryFrame mM #[(.ref a_EXCLUSIVE), (.ref a_SHARED)] 2)) tg := fun tg kg => pr1 _ (st2.trans kg)
  have pr4 : ∀ tg, Steps pP.tables eE below (T2.setTop (mkF mM 110 #[.val (.ref a_EXCLUSIVE), .val (.ref a_SHARED)] [(.int (1 : Int32))])) tg → Steps pP.tables eE below (s₁.setTop (entryFrame mM #[(.ref a_EXCLUSIVE), (.ref a_SHARED)] 2)) tg := fun tg kg => pr3 _ (by
    show Steps pP.tables eE below (T2.setTop (mkF mM 4 #[.val (.ref a_EXCLUSIVE), .val (.ref a_SHARED)] [(.int (2 : Int32))])) _
    refine XS.tswIn X2.here hx rfl (pc0 := 4) (pc' := 87) rfl (hb hby d220_4) rfl (by decide) (o := 83) (by decide) (by decide) (by decide) ?_
    show Steps pP.tables eE below (T2.setTop (mkF mM 87 #[.val (.ref a_EXCLUSIVE), .val (.ref a_SHARED)] [])) _
    refine XS.iconst X2.here hx rfl (hb hby d220_87) ?_
    show Steps pP.tables eE below (T2.setTop (mkF mM 88 #[.val (.ref a_EXCLUSIVE), .val (.ref a_SHARED)] [(.int (1 : Int32))])) _
    refine XS.goto X2.here hx rfl (pc0 := 88) (pc' := 110) rfl (hb hby d220_88) (by decide) (by decide) ?_
    exact kg)
  obtain ⟨fs, hr, hrun, hended, hW, hsame⟩ := X2.leave (v := some (.int (1 : Int32))) (fun h => by rw [Bd.returns] at h; cases h)
  refine ⟨_, _, pr4 _ (retOut X2 hx (t := .boolean) Bd.returns rfl (Or.inl ⟨rfl, Or.inr (Or.inl rfl), _, rfl⟩) (hb hby d220_110) hr), hrun, hended, _, _, rfl, ?_, ⟨_, rfl⟩, hW, hsame.mono (by decide) (by decide)⟩
  show Q220 Z a_SHARED a_UPDATE a_EXCLUSIVE a_CHANGE a_KEEP h0 n0 _ T2.heap _
  rw [e2]
  exact ⟨rfl, N2, rfl⟩
theorem d221_0 : decode prog_51_method_4_code 0 = .ok (.aload_n 0, 1) := by decide +kernel
theorem d221_1 : decode prog_51_method_4_code 1 = .ok (.invokevirtual 38, 3) := by decide +kernel
theorem d221_4 : decode prog_51_method_4_code 4 = .ok (.tableswitch 36 0 4 #[46, 68, 83, 87, 87], 36) := by decide +kernel
theorem d221_87 : decode prog_51_method_4_code 87 = .ok (.iconst 1, 1) := by decide +kernel
theorem d221_88 : decode prog_51_method_4_code 88 = .ok (.goto 22, 3) := by decide +kernel
theorem d221_110 : decode prog_51_method_4_code 110 = .ok (.ireturn, 1) := by decide +kernel
theorem ef_221 (mM : MethodId) (x0 : Addr) (x1 : Addr) : entryFrame mM #[(.ref x0), (.ref x1)] 2 = mkF mM 0 #[.val (.ref x0), .val (.ref x1)] [] := by first | (simp [entryFrame, mkF, argsToLocals, Value.category]; done) | rfl
def Q221 (Z : State) (a_SHARED : Addr) (a_UPDATE : Addr) (a_EXCLUSIVE : Addr) (a_CHANGE : Addr) (a_KEEP : Addr) (h0 : Heap) (n0 : Nat) (v : Option Value) (h : Heap) (L : List Loc) : Prop := v = some (.int (1 : Int32)) ∧ Fr n0 L ∧ h = h0
set_option maxRecDepth 65536 in
set_option maxHeartbeats 40000000 in
theorem rm221 (l : Launch) (Z : State) (a0 : Array Value) (hw : ∀ d ∈ tables_1, d.before a0 Z = true) (ws : List Jvm.Cond) (a_SHARED : Addr) (a_UPDATE : Addr) (a_EXCLUSIVE : Addr) (a_CHANGE : Addr) (a_KEEP : Addr) (h0 : Heap) (n0 : Nat) (Z0 : n0 ≤ h0.size) (O : Old Z n0 h0) (S_SHARED : Sta Z Z.heap "com/example/settle/settle/service/LockTable$Mode" "SHARED" "Lcom/example/settle/settle/service/LockTable$Mode;" (.ref a_SHARED)) (E_SHARED : Exa Z Z.heap a_SHARED "com/example/settle/settle/service/LockTable$Mode") (S_UPDATE : Sta Z Z.heap "com/example/settle/settle/service/LockTable$Mode" "UPDATE" "Lcom/example/settle/settle/service/LockTable$Mode;" (.ref a_UPDATE)) (E_UPDATE : Exa Z Z.heap a_UPDATE "com/example/settle/settle/service/LockTable$Mode") (S_EXCLUSIVE : Sta Z Z.heap "com/example/settle/settle/service/LockTable$Mode" "EXCLUSIVE" "Lcom/example/settle/settle/service/LockTable$Mode;" (.ref a_EXCLUSIVE)) (E_EXCLUSIVE : Exa Z Z.heap a_EXCLUSIVE "com/example/settle/settle/service/LockTable$Mode") (S_CHANGE : Sta Z Z.heap "com/example/settle/settle/service/LockTable$Mode" "CHANGE" "Lcom/example/settle/settle/service/LockTable$Mode;" (.ref a_CHANGE)) (E_CHANGE : Exa Z Z.heap a_CHANGE "com/example/settle/settle/service/LockTable$Mode") (S_KEEP : Sta Z Z.heap "com/example/settle/settle/service/LockTable$Mode" "KEEP" "Lcom/example/settle/settle/service/LockTable$Mode;" (.ref a_KEEP)) (E_KEEP : Exa Z Z.heap a_KEEP "com/example/settle/settle/service/LockTable$Mode") (F_SHARED_ordinal : Fld Z Z.heap a_SHARED "java/lang/Enum" "ordinal" "I" (.int (0 : Int32))) (F_CHANGE_ordinal : Fld Z Z.heap a_CHANGE "java/lang/Enum" "ordinal" "I" (.int (3 : Int32))) (F_EXCLUSIVE_ordinal : Fld Z Z.heap a_EXCLUSIVE "java/lang/Enum" "ordinal" "I" (.int (2 : Int32))) (F_KEEP_ordinal : Fld Z Z.heap a_KEEP "java/lang/Enum" "ordinal" "I" (.int (4 : Int32))) (F_UPDATE_ordinal : Fld Z Z.heap a_UPDATE "java/lang/Enum" "ordinal" "I" (.int (1 : Int32))) :
    MetFree l (⟨"com/example/settle/settle/service/LockTable$Mode", "keepsOut", "(Lcom/example/settle/settle/service/LockTable$Mode;)Z"⟩ : MethodName) (head1 (Jvm.Cond.code (⟨"com/example/settle/settle/service/LockTable$Mode", "keepsOut", "(Lcom/example/settle/settle/service/LockTable$Mode;)Z"⟩ : MethodName) prog_51_method_4_code 2 (some .boolean) :: ws) ({ frames := 1, cells := 0, slots := 0, locals := 12 } : Room)) (fun aA uU => aA = #[(.ref a_EXCLUSIVE), (.ref a_UPDATE)] ∧ Z.Warmed39 uU.vm ∧ uU.heap = h0) (fun _ _ _ _ _ => True) (fun _ uU oO uU' => ∃ vV lL, oO = .returned vV ∧ Q221 Z a_SHARED a_UPDATE a_EXCLUSIVE a_CHANGE a_KEEP h0 n0 vV uU'.heap lL ∧ FrameEnd uU oO uU' lL ({ frames := 1, cells := 0, slots := 0, locals := 12 } : Room).cells ({ frames := 1, cells := 0, slots := 0, locals := 12 } : Room).slots) := by
  refine MetFree.of_bodySF (plainFor_of_name pn_1) hisR ?_
  intro pP eE sS mM args below meth cC s₁ Bd hml0 hP hK
  obtain ⟨rfl, hZ, hh⟩ := hP
  have hx := Bd.exec
  have hby := Bd.bytes
  have hml : cC.maxLocals = 2 := hml0
  have hown : sS.vm.findClass "com/example/settle/settle/service/LockTable$Mode" = some mM.cls := findClass_of_methodNamed Bd.named
  have hnm := (name_of_methodNamed Bd.named Bd.method).1
  have X0 : Stand pP l eE ({ frames := 1, cells := 0, slots := 0, locals := 12 } : Room) sS mM #[(.ref a_EXCLUSIVE), (.ref a_UPDATE)] below meth cC s₁ [] 0 0 := Stand.of_body Bd
  have e0 : s₁.heap = h0 := by rw [← hh, Bd.state]; rfl
  have N0 := Fr.nil n0
  have pre0 : ∀ tg, Steps pP.tables eE below (s₁.setTop (mkF mM 0 #[.val (.ref a_EXCLUSIVE), .val (.ref a_UPDATE)] [])) tg → Steps pP.tables eE below (s₁.setTop (entryFrame mM #[(.ref a_EXCLUSIVE), (.ref a_UPDATE)] 2)) tg := fun tg kg => castTop (ef_221 mM a_EXCLUSIVE a_UPDATE) kg
  have pr1 : ∀ tg, Steps pP.tables eE below (s₁.setTop (mkF mM 1 #[.val (.ref a_EXCLUSIVE), .val (.ref a_UPDATE)] [(.ref a_EXCLUSIVE)])) tg → Steps pP.tables eE below (s₁.setTop (entryFrame mM #[(.ref a_EXCLUSIVE), (.ref a_UPDATE)] 2)) tg := fun tg kg => pre0 _ (by
    show Steps pP.tables eE below (s₁.setTop (mkF mM 0 #[.val (.ref a_EXCLUSIVE), .val (.ref a_UPDATE)] [])) _
    refine XS.aloadN X0.here hx rfl (hb hby d221_0) rfl rfl ?_
    exact kg)
  obtain ⟨cq2, kq2, qa2, qb2, qc2⟩ := isOf hZ e0 (Exa.ext (O).2 E_EXCLUSIVE)
  obtain ⟨_, _, ⟨T2, L2, kk2, nn2⟩, -, X2, ⟨Lc2, hQ2, l2, y2, z2⟩, st2⟩ := X0.virtualBackUp hx (owner := "java/lang/Enum") (x := (⟨"com/example/settle/settle/service/LockTable$Mode", "ordinal", "()I"⟩ : MethodName)) (y := (⟨"java/lang/Enum", "ordinal", "()I"⟩ : MethodName)) hown (mvT hZ (hw _ (List.mem_of_getElem? (i := 21) rfl))) (mvT hZ (hw _ (List.mem_of_getElem? (i := 22) rfl))) (mvT hZ (hw _ (List.mem_of_getElem? (i := 23) rfl))) (by decide) (mvT hZ (hw _ (List.mem_of_getElem? (i := 25) rfl))) (mvT hZ (hw _ (List.mem_of_getElem? (i := 24) rfl))) (backOf (W := 0) (rm1 l Z a0 hw [] a_EXCLUSIVE (2 : Int32) h0 n0 Z0 (Fld.ext (O).2 F_EXCLUSIVE_ordinal)) hZ (hw _ (List.mem_of_getElem? (i := 27) rfl)) (hw _ (List.mem_of_getElem? (i := 26) rfl)) (by decide) (by decide)) qa2 qc2 (g := (mkF mM 1 #[.val (.ref a_EXCLUSIVE), .val (.ref a_UPDATE)] [(.ref a_EXCLUSIVE)])) rfl (by rw [hml]; rfl) (Steps.refl _) (argsL := []) (rest := []) (lenOf pd_0 rfl) rfl (by show 2 * 0 + _ ≤ _; exact Nat.le_of_eq rfl) (hb hby d221_1) (fun _ _ => ⟨rfl, e0, (by decide : 0 + 0 ≤ _), (by decide : 0 + 0 ≤ _)⟩)
  dsimp only [Pt.U, Pt.locs, Pt.cells, Pt.slots] at X2 l2 y2 z2 st2 hQ2
  subst l2 y2 z2
  obtain ⟨rfl, Nq2, e2⟩ := hQ2
  have N2 := Fr.app N0 Nq2
  have pr3 : ∀ tg, Steps pP.tables eE below (T2.setTop (mkF mM 4 #[.val (.ref a_EXCLUSIVE), .val (.ref a_UPDATE)] [(.int (2 : Int32))])) tg → Steps pP.tables eE below (s₁.setTop (entryFrame mM #[(.ref a_EXCLUSIVE), (.ref a_UPDATE)] 2)) tg := fun tg kg => pr1 _ (st2.trans kg)
  have pr4 : ∀ tg, Steps pP.tables eE below (T2.setTop (mkF mM 110 #[.val (.ref a_EXCLUSIVE), .val (.ref a_UPDATE)] [(.int (1 : Int32))])) tg → Steps pP.tables eE below (s₁.setTop (entryFrame mM #[(.ref a_EXCLUSIVE), (.ref a_UPDATE)] 2)) tg := fun tg kg => pr3 _ (by
    show Steps pP.tables eE below (T2.setTop (mkF mM 4 #[.val (.ref a_EXCLUSIVE), .val (.ref a_UPDATE)] [(.int (2 : Int32))])) _
    refine XS.tswIn X2.here hx rfl (pc0 := 4) (pc' := 87) rfl (hb hby d221_4) rfl (by decide) (o := 83) (by decide) (by decide) (by decide) ?_
    show Steps pP.tables eE below (T2.setTop (mkF mM 87 #[.val (.ref a_EXCLUSIVE), .val (.ref a_UPDATE)] [])) _
    refine XS.iconst X2.here hx rfl (hb hby d221_87) ?_
    show Steps pP.tables eE below (T2.setTop (mkF mM 88 #[.val (.ref a_EXCLUSIVE), .val (.ref a_UPDATE)] [(.int (1 : Int32))])) _
    refine XS.goto X2.here hx rfl (pc0 := 88) (pc' := 110) rfl (hb hby d221_88) (by decide) (by decide) ?_
    exact kg)
  obtain ⟨fs, hr, hrun, hended, hW, hsame⟩ := X2.leave (v := some (.int (1 : Int32))) (fun h => by rw [Bd.returns] at h; cases h)
  refine ⟨_, _, pr4 _ (retOut X2 hx (t := .boolean) Bd.returns rfl (Or.inl ⟨rfl, Or.inr (Or.inl rfl), _, rfl⟩) (hb hby d221_110) hr), hrun, hended, _, _, rfl, ?_, ⟨_, rfl⟩, hW, hsame.mono (by decide) (by decide)⟩
  show Q221 Z a_SHARED a_UPDATE a_EXCLUSIVE a_CHANGE a_KEEP h0 n0 _ T2.heap _
  rw [e2]
  exact ⟨rfl, N2, rfl⟩
theorem d222_0 : decode prog_51_method_4_code 0 = .ok (.aload_n 0, 1) := by decide +kernel
theorem d222_1 : decode prog_51_method_4_code 1 = .ok (.invokevirtual 38, 3) := by decide +kernel
theorem d222_4 : decode prog_51_method_4_code 4 = .ok (.tableswitch 36 0 4 #[46, 68, 83, 87, 87], 36) := by decide +kernel
theorem d222_87 : decode prog_51_method_4_code 87 = .ok (.iconst 1, 1) := by decide +kernel
theorem d222_88 : decode prog_51_method_4_code 88 = .ok (.goto 22, 3) := by decide +kernel
theorem d222_110 : decode prog_51_method_4_code 110 = .ok (.ireturn, 1) := by decide +kernel
theorem ef_222 (mM : MethodId) (x0 : Addr) (x1 : Addr) : entryFrame mM #[(.ref x0), (.ref x1)] 2 = mkF mM 0 #[.val (.ref x0), .val (.ref x1)] [] := by first | (simp [entryFrame, mkF, argsToLocals, Value.category]; done) | rfl
def Q222 (Z : State) (a_SHARED : Addr) (a_UPDATE : Addr) (a_EXCLUSIVE : Addr) (a_CHANGE : Addr) (a_KEEP : Addr) (h0 : Heap) (n0 : Nat) (v : Option Value) (h : Heap) (L : List Loc) : Prop := v = some (.int (1 : Int32)) ∧ Fr n0 L ∧ h = h0
set_option maxRecDepth 65536 in
set_option maxHeartbeats 40000000 in
theorem rm222 (l : Launch) (Z : State) (a0 : Array Value) (hw : ∀ d ∈ tables_1, d.before a0 Z = true) (ws : List Jvm.Cond) (a_SHARED : Addr) (a_UPDATE : Addr) (a_EXCLUSIVE : Addr) (a_CHANGE : Addr) (a_KEEP : Addr) (h0 : Heap) (n0 : Nat) (Z0 : n0 ≤ h0.size) (O : Old Z n0 h0) (S_SHARED : Sta Z Z.heap "com/example/settle/settle/service/LockTable$Mode" "SHARED" "Lcom/example/settle/settle/service/LockTable$Mode;" (.ref a_SHARED)) (E_SHARED : Exa Z Z.heap a_SHARED "com/example/settle/settle/service/LockTable$Mode") (S_UPDATE : Sta Z Z.heap "com/example/settle/settle/service/LockTable$Mode" "UPDATE" "Lcom/example/settle/settle/service/LockTable$Mode;" (.ref a_UPDATE)) (E_UPDATE : Exa Z Z.heap a_UPDATE "com/example/settle/settle/service/LockTable$Mode") (S_EXCLUSIVE : Sta Z Z.heap "com/example/settle/settle/service/LockTable$Mode" "EXCLUSIVE" "Lcom/example/settle/settle/service/LockTable$Mode;" (.ref a_EXCLUSIVE)) (E_EXCLUSIVE : Exa Z Z.heap a_EXCLUSIVE "com/example/settle/settle/service/LockTable$Mode") (S_CHANGE : Sta Z Z.heap "com/example/settle/settle/service/LockTable$Mode" "CHANGE" "Lcom/example/settle/settle/service/LockTable$Mode;" (.ref a_CHANGE)) (E_CHANGE : Exa Z Z.heap a_CHANGE "com/example/settle/settle/service/LockTable$Mode") (S_KEEP : Sta Z Z.heap "com/example/settle/settle/service/LockTable$Mode" "KEEP" "Lcom/example/settle/settle/service/LockTable$Mode;" (.ref a_KEEP)) (E_KEEP : Exa Z Z.heap a_KEEP "com/example/settle/settle/service/LockTable$Mode") (F_SHARED_ordinal : Fld Z Z.heap a_SHARED "java/lang/Enum" "ordinal" "I" (.int (0 : Int32))) (F_CHANGE_ordinal : Fld Z Z.heap a_CHANGE "java/lang/Enum" "ordinal" "I" (.int (3 : Int32))) (F_EXCLUSIVE_ordinal : Fld Z Z.heap a_EXCLUSIVE "java/lang/Enum" "ordinal" "I" (.int (2 : Int32))) (F_KEEP_ordinal : Fld Z Z.heap a_KEEP "java/lang/Enum" "ordinal" "I" (.int (4 : Int32))) (F_UPDATE_ordinal : Fld Z Z.heap a_UPDATE "java/lang/Enum" "ordinal" "I" (.int (1 : Int32))) :
    MetFree l (⟨"com/example/settle/settle/service/LockTable$Mode", "keepsOut", "(Lcom/example/settle/settle/service/LockTable$Mode;)Z"⟩ : MethodName) (head1 (Jvm.Cond.code (⟨"com/example/settle/settle/service/LockTable$Mode", "keepsOut", "(Lcom/example/settle/settle/service/LockTable$Mode;)Z"⟩ : MethodName) prog_51_method_4_code 2 (some .boolean) :: ws) ({ frames := 1, cells := 0, slots := 0, locals := 12 } : Room)) (fun aA uU => aA = #[(.ref a_EXCLUSIVE), (.ref a_EXCLUSIVE)] ∧ Z.Warmed39 uU.vm ∧ uU.heap = h0) (fun _ _ _ _ _ => True) (fun _ uU oO uU' => ∃ vV lL, oO = .returned vV ∧ Q222 Z a_SHARED a_UPDATE a_EXCLUSIVE a_CHANGE a_KEEP h0 n0 vV uU'.heap lL ∧ FrameEnd uU oO uU' lL ({ frames := 1, cells := 0, slots := 0, locals := 12 } : Room).cells ({ frames := 1, cells := 0, slots := 0, locals := 12 } : Room).slots) := by
  refine MetFree.of_bodySF (plainFor_of_name pn_1) hisR ?_
  intro pP eE sS mM args below meth cC s₁ Bd hml0 hP hK
  obtain ⟨rfl, hZ, hh⟩ := hP
  have hx := Bd.exec
  have hby := Bd.bytes
  have hml : cC.maxLocals = 2 := hml0
  have hown : sS.vm.findClass "com/example/settle/settle/service/LockTable$Mode" = some mM.cls := findClass_of_methodNamed Bd.named
  have hnm := (name_of_methodNamed Bd.named Bd.method).1
  have X0 : Stand pP l eE ({ frames := 1, cells := 0, slots := 0, locals := 12 } : Room) sS mM #[(.ref a_EXCLUSIVE), (.ref a_EXCLUSIVE)] below meth cC s₁ [] 0 0 := Stand.of_body Bd
  have e0 : s₁.heap = h0 := by rw [← hh, Bd.state]; rfl
  have N0 := Fr.nil n0
  have pre0 : ∀ tg, Steps pP.tables eE below (s₁.setTop (mkF mM 0 #[.val (.ref a_EXCLUSIVE), .val (.ref a_EXCLUSIVE)] [])) tg → Steps pP.tables eE below (s₁.setTop (entryFrame mM #[(.ref a_EXCLUSIVE), (.ref a_EXCLUSIVE)] 2)) tg := fun tg kg => castTop (ef_222 mM a_EXCLUSIVE a_EXCLUSIVE) kg
  have pr1 : ∀ tg, Steps pP.tables eE below (s₁.setTop (mkF mM 1 #[.val (.ref a_EXCLUSIVE), .val (.ref a_EXCLUSIVE)] [(.ref a_EXCLUSIVE)])) tg → Steps pP.tables eE below (s₁.setTop (entryFrame mM #[(.ref a_EXCLUSIVE), (.ref a_EXCLUSIVE)] 2)) tg := fun tg kg => pre0 _ (by
    show Steps pP.tables eE below (s₁.setTop (mkF mM 0 #[.val (.ref a_EXCLUSIVE), .val (.ref a_EXCLUSIVE)] [])) _
    refine XS.aloadN X0.here hx rfl (hb hby d222_0) rfl rfl ?_
    exact kg)
  obtain ⟨cq2, kq2, qa2, qb2, qc2⟩ := isOf hZ e0 (Exa.ext (O).2 E_EXCLUSIVE)
  obtain ⟨_, _, ⟨T2, L2, kk2, nn2⟩, -, X2, ⟨Lc2, hQ2, l2, y2, z2⟩, st2⟩ := X0.virtualBackUp hx (owner := "java/lang/Enum") (x := (⟨"com/example/settle/settle/service/LockTable$Mode", "ordinal", "()I"⟩ : MethodName)) (y := (⟨"java/lang/Enum", "ordinal", "()I"⟩ : MethodName)) hown (mvT hZ (hw _ (List.mem_of_getElem? (i := 21) rfl))) (mvT hZ (hw _ (List.mem_of_getElem? (i := 22) rfl))) (mvT hZ (hw _ (List.mem_of_getElem? (i := 23) rfl))) (by decide) (mvT hZ (hw _ (List.mem_of_getElem? (i := 25) rfl))) (mvT hZ (hw _ (List.mem_of_getElem? (i := 24) rfl))) (backOf (W := 0) (rm1 l Z a0 hw [] a_EXCLUSIVE (2 : Int32) h0 n0 Z0 (Fld.ext (O).2 F_EXCLUSIVE_ordinal)) hZ (hw _ (List.mem_of_getElem? (i := 27) rfl)) (hw _ (List.mem_of_getElem? (i := 26) rfl)) (by decide) (by decide)) qa2 qc2 (g := (mkF mM 1 #[.val (.ref a_EXCLUSIVE), .val (.ref a_EXCLUSIVE)] [(.ref a_EXCLUSIVE)])) rfl (by rw [hml]; rfl) (Steps.refl _) (argsL := []) (rest := []) (lenOf pd_0 rfl) rfl (by show 2 * 0 + _ ≤ _; exact Nat.le_of_eq rfl) (hb hby d222_1) (fun _ _ => ⟨rfl, e0, (by decide : 0 + 0 ≤ _), (by decide : 0 + 0 ≤ _)⟩)
  dsimp only [Pt.U, Pt.locs, Pt.cells, Pt.slots] at X2 l2 y2 z2 st2 hQ2
  subst l2 y2 z2
  obtain ⟨rfl, Nq2, e2⟩ := hQ2
  have N2 := Fr.app N0 Nq2
  have pr3 : ∀ tg, Steps pP.tables eE below (T2.setTop (mkF mM 4 #[.val (.ref a_EXCLUSIVE), .val (.ref a_EXCLUSIVE)] [(.int (2 : Int32))])) tg → Steps pP.tables eE below (s₁.setTop (entryFrame mM #[(.ref a_EXCLUSIVE), (.ref a_EXCLUSIVE)] 2)) tg := fun tg kg => pr1 _ (st2.trans kg)
  have pr4 : ∀ tg, Steps pP.tables eE below (T2.setTop (mkF mM 110 #[.val (.ref a_EXCLUSIVE), .val (.ref a_EXCLUSIVE)] [(.int (1 : Int32))])) tg → Steps pP.tables eE below (s₁.setTop (entryFrame mM #[(.ref a_EXCLUSIVE), (.ref a_EXCLUSIVE)] 2)) tg := fun tg kg => pr3 _ (by
    show Steps pP.tables eE below (T2.setTop (mkF mM 4 #[.val (.ref a_EXCLUSIVE), .val (.ref a_EXCLUSIVE)] [(.int (2 : Int32))])) _
    refine XS.tswIn X2.here hx rfl (pc0 := 4) (pc' := 87) rfl (hb hby d222_4) rfl (by decide) (o := 83) (by decide) (by decide) (by decide) ?_
    show Steps pP.tables eE below (T2.setTop (mkF mM 87 #[.val (.ref a_EXCLUSIVE), .val (.ref a_EXCLUSIVE)] [])) _
    refine XS.iconst X2.here hx rfl (hb hby d222_87) ?_
    show Steps pP.tables eE below (T2.setTop (mkF mM 88 #[.val (.ref a_EXCLUSIVE), .val (.ref a_EXCLUSIVE)] [(.int (1 : Int32))])) _
    refine XS.goto X2.here hx rfl (pc0 := 88) (pc' := 110) rfl (hb hby d222_88) (by decide) (by decide) ?_
    exact kg)
  obtain ⟨fs, hr, hrun, hended, hW, hsame⟩ := X2.leave (v := some (.int (1 : Int32))) (fun h => by rw [Bd.returns] at h; cases h)
  refine ⟨_, _, pr4 _ (retOut X2 hx (t := .boolean) Bd.returns rfl (Or.inl ⟨rfl, Or.inr (Or.inl rfl), _, rfl⟩) (hb hby d222_110) hr), hrun, hended, _, _, rfl, ?_, ⟨_, rfl⟩, hW, hsame.mono (by decide) (by decide)⟩
  show Q222 Z a_SHARED a_UPDATE a_EXCLUSIVE a_CHANGE a_KEEP h0 n0 _ T2.heap _
  rw [e2]
  exact ⟨rfl, N2, rfl⟩
theorem d223_0 : decode prog_51_method_4_code 0 = .ok (.aload_n 0, 1) := by decide +kernel
theorem d223_1 : decode prog_51_method_4_code 1 = .ok (.invokevirtual 38, 3) := by decide +kernel
theorem d223_4 : decode prog_51_method_4_code 4 = .ok (.tableswitch 36 0 4 #[46, 68, 83, 87, 87], 36) := by decide +kernel
theorem d223_87 : decode prog_51_method_4_code 87 = .ok (.iconst 1, 1) := by decide +kernel
theorem d223_88 : decode prog_51_method_4_code 88 = .ok (.goto 22, 3) := by decide +kernel
theorem d223_110 : decode prog_51_method_4_code 110 = .ok (.ireturn, 1) := by decide +kernel
theorem ef_223 (mM : MethodId) (x0 : Addr) (x1 : Addr) : entryFrame mM #[(.ref x0), (.ref x1)] 2 = mkF mM 0 #[.val (.ref x0), .val (.ref x1)] [] := by first | (simp [entryFrame, mkF, argsToLocals, Value.category]; done) | rfl
def Q223 (Z : State) (a_SHARED : Addr) (a_UPDATE : Addr) (a_EXCLUSIVE : Addr) (a_CHANGE : Addr) (a_KEEP : Addr) (h0 : Heap) (n0 : Nat) (v : Option Value) (h : Heap) (L : List Loc) : Prop := v = some (.int (1 : Int32)) ∧ Fr n0 L ∧ h = h0
set_option maxRecDepth 65536 in
set_option maxHeartbeats 40000000 in
theorem rm223 (l : Launch) (Z : State) (a0 : Array Value) (hw : ∀ d ∈ tables_1, d.before a0 Z = true) (ws : List Jvm.Cond) (a_SHARED : Addr) (a_UPDATE : Addr) (a_EXCLUSIVE : Addr) (a_CHANGE : Addr) (a_KEEP : Addr) (h0 : Heap) (n0 : Nat) (Z0 : n0 ≤ h0.size) (O : Old Z n0 h0) (S_SHARED : Sta Z Z.heap "com/example/settle/settle/service/LockTable$Mode" "SHARED" "Lcom/example/settle/settle/service/LockTable$Mode;" (.ref a_SHARED)) (E_SHARED : Exa Z Z.heap a_SHARED "com/example/settle/settle/service/LockTable$Mode") (S_UPDATE : Sta Z Z.heap "com/example/settle/settle/service/LockTable$Mode" "UPDATE" "Lcom/example/settle/settle/service/LockTable$Mode;" (.ref a_UPDATE)) (E_UPDATE : Exa Z Z.heap a_UPDATE "com/example/settle/settle/service/LockTable$Mode") (S_EXCLUSIVE : Sta Z Z.heap "com/example/settle/settle/service/LockTable$Mode" "EXCLUSIVE" "Lcom/example/settle/settle/service/LockTable$Mode;" (.ref a_EXCLUSIVE)) (E_EXCLUSIVE : Exa Z Z.heap a_EXCLUSIVE "com/example/settle/settle/service/LockTable$Mode") (S_CHANGE : Sta Z Z.heap "com/example/settle/settle/service/LockTable$Mode" "CHANGE" "Lcom/example/settle/settle/service/LockTable$Mode;" (.ref a_CHANGE)) (E_CHANGE : Exa Z Z.heap a_CHANGE "com/example/settle/settle/service/LockTable$Mode") (S_KEEP : Sta Z Z.heap "com/example/settle/settle/service/LockTable$Mode" "KEEP" "Lcom/example/settle/settle/service/LockTable$Mode;" (.ref a_KEEP)) (E_KEEP : Exa Z Z.heap a_KEEP "com/example/settle/settle/service/LockTable$Mode") (F_SHARED_ordinal : Fld Z Z.heap a_SHARED "java/lang/Enum" "ordinal" "I" (.int (0 : Int32))) (F_CHANGE_ordinal : Fld Z Z.heap a_CHANGE "java/lang/Enum" "ordinal" "I" (.int (3 : Int32))) (F_EXCLUSIVE_ordinal : Fld Z Z.heap a_EXCLUSIVE "java/lang/Enum" "ordinal" "I" (.int (2 : Int32))) (F_KEEP_ordinal : Fld Z Z.heap a_KEEP "java/lang/Enum" "ordinal" "I" (.int (4 : Int32))) (F_UPDATE_ordinal : Fld Z Z.heap a_UPDATE "java/lang/Enum" "ordinal" "I" (.int (1 : Int32))) :
    MetFree l (⟨"com/example/settle/settle/service/LockTable$Mode", "keepsOut", "(Lcom/example/settle/settle/service/LockTable$Mode;)Z"⟩ : MethodName) (head1 (Jvm.Cond.code (⟨"com/example/settle/settle/service/LockTable$Mode", "keepsOut", "(Lcom/example/settle/settle/service/LockTable$Mode;)Z"⟩ : MethodName) prog_51_method_4_code 2 (some .boolean) :: ws) ({ frames := 1, cells := 0, slots := 0, locals := 12 } : Room)) (fun aA uU => aA = #[(.ref a_EXCLUSIVE), (.ref a_CHANGE)] ∧ Z.Warmed39 uU.vm ∧ uU.heap = h0) (fun _ _ _ _ _ => True) (fun _ uU oO uU' => ∃ vV lL, oO = .returned vV ∧ Q223 Z a_SHARED a_UPDATE a_EXCLUSIVE a_CHANGE a_KEEP h0 n0 vV uU'.heap lL ∧ FrameEnd uU oO uU' lL ({ frames := 1, cells := 0, slots := 0, locals := 12 } : Room).cells ({ frames := 1, cells := 0, slots := 0, locals := 12 } : Room).slots) := by
  refine MetFree.of_bodySF (plainFor_of_name pn_1) hisR ?_
  intro pP eE sS mM args below meth cC s₁ Bd hml0 hP hK
  obtain ⟨rfl, hZ, hh⟩ := hP
  have hx := Bd.exec
  have hby := Bd.bytes
  have hml : cC.maxLocals = 2 := hml0
  have hown : sS.vm.findClass "com/example/settle/settle/service/LockTable$Mode" = some mM.cls := findClass_of_methodNamed Bd.named
  have hnm := (name_of_methodNamed Bd.named Bd.method).1
  have X0 : Stand pP l eE ({ frames := 1, cells := 0, slots := 0, locals := 12 } : Room) sS mM #[(.ref a_EXCLUSIVE), (.ref a_CHANGE)] below meth cC s₁ [] 0 0 := Stand.of_body Bd
  have e0 : s₁.heap = h0 := by rw [← hh, Bd.state]; rfl
  have N0 := Fr.nil n0
  have pre0 : ∀ tg, Steps pP.tables eE below (s₁.setTop (mkF mM 0 #[.val (.ref a_EXCLUSIVE), .val (.ref a_CHANGE)] [])) tg → Steps pP.tables eE below (s₁.setTop (entryFrame mM #[(.ref a_EXCLUSIVE), (.ref a_CHANGE)] 2)) tg := fun tg kg => castTop (ef_223 mM a_EXCLUSIVE a_CHANGE) kg
  have pr1 : ∀ tg, Steps pP.tables eE below (s₁.setTop (mkF mM 1 #[.val (.ref a_EXCLUSIVE), .val (.ref a_CHANGE)] [(.ref a_EXCLUSIVE)])) tg → Steps pP.tables eE below (s₁.setTop (entryFrame mM #[(.ref a_EXCLUSIVE), (.ref a_CHANGE)] 2)) tg := fun tg kg => pre0 _ (by
    show Steps pP.tables eE below (s₁.setTop (mkF mM 0 #[.val (.ref a_EXCLUSIVE), .val (.ref a_CHANGE)] [])) _
    refine XS.aloadN X0.here hx rfl (hb hby d223_0) rfl rfl ?_
    exact kg)
  obtain ⟨cq2, kq2, qa2, qb2, qc2⟩ := isOf hZ e0 (Exa.ext (O).2 E_EXCLUSIVE)
  obtain ⟨_, _, ⟨T2, L2, kk2, nn2⟩, -, X2, ⟨Lc2, hQ2, l2, y2, z2⟩, st2⟩ := X0.virtualBackUp hx (owner := "java/lang/Enum") (x := (⟨"com/example/settle/settle/service/LockTable$Mode", "ordinal", "()I"⟩ : MethodName)) (y := (⟨"java/lang/Enum", "ordinal", "()I"⟩ : MethodName)) hown (mvT hZ (hw _ (List.mem_of_getElem? (i := 21) rfl))) (mvT hZ (hw _ (List.mem_of_getElem? (i := 22) rfl))) (mvT hZ (hw _ (List.mem_of_getElem? (i := 23) rfl))) (by decide) (mvT hZ (hw _ (List.mem_of_getElem? (i := 25) rfl))) (mvT hZ (hw _ (List.mem_of_getElem? (i := 24) rfl))) (backOf (W := 0) (rm1 l Z a0 hw [] a_EXCLUSIVE (2 : Int32) h0 n0 Z0 (Fld.ext (O).2 F_EXCLUSIVE_ordinal)) hZ (hw _ (List.mem_of_getElem? (i := 27) rfl)) (hw _ (List.mem_of_getElem? (i := 26) rfl)) (by decide) (by decide)) qa2 qc2 (g := (mkF mM 1 #[.val (.ref a_EXCLUSIVE), .val (.ref a_CHANGE)] [(.ref a_EXCLUSIVE)])) rfl (by rw [hml]; rfl) (Steps.refl _) (argsL := []) (rest := []) (lenOf pd_0 rfl) rfl (by show 2 * 0 + _ ≤ _; exact Nat.le_of_eq rfl) (hb hby d223_1) (fun _ _ => ⟨rfl, e0, (by decide : 0 + 0 ≤ _), (by decide : 0 + 0 ≤ _)⟩)
  dsimp only [Pt.U, Pt.locs, Pt.cells, Pt.slots] at X2 l2 y2 z2 st2 hQ2
  subst l2 y2 z2
  obtain ⟨rfl, Nq2, e2⟩ := hQ2
  have N2 := Fr.app N0 Nq2
  have pr3 : ∀ tg, Steps pP.tables eE below (T2.setTop (mkF mM 4 #[.val (.ref a_EXCLUSIVE), .val (.ref a_CHANGE)] [(.int (2 : Int32))])) tg → Steps pP.tables eE below (s₁.setTop (entryFrame mM #[(.ref a_EXCLUSIVE), (.ref a_CHANGE)] 2)) tg := fun tg kg => pr1 _ (st2.trans kg)
  have pr4 : ∀ tg, Steps pP.tables eE below (T2.setTop (mkF mM 110 #[.val (.ref a_EXCLUSIVE), .val (.ref a_CHANGE)] [(.int (1 : Int32))])) tg → Steps pP.tables eE below (s₁.setTop (entryFrame mM #[(.ref a_EXCLUSIVE), (.ref a_CHANGE)] 2)) tg := fun tg kg => pr3 _ (by
    show Steps pP.tables eE below (T2.setTop (mkF mM 4 #[.val (.ref a_EXCLUSIVE), .val (.ref a_CHANGE)] [(.int (2 : Int32))])) _
    refine XS.tswIn X2.here hx rfl (pc0 := 4) (pc' := 87) rfl (hb hby d223_4) rfl (by decide) (o := 83) (by decide) (by decide) (by decide) ?_
    show Steps pP.tables eE below (T2.setTop (mkF mM 87 #[.val (.ref a_EXCLUSIVE), .val (.ref a_CHANGE)] [])) _
    refine XS.iconst X2.here hx rfl (hb hby d223_87) ?_
    show Steps pP.tables eE below (T2.setTop (mkF mM 88 #[.val (.ref a_EXCLUSIVE), .val (.ref a_CHANGE)] [(.int (1 : Int32))])) _
    refine XS.goto X2.here hx rfl (pc0 := 88) (pc' := 110) rfl (hb hby d223_88) (by decide) (by decide) ?_
    exact kg)
  obtain ⟨fs, hr, hrun, hended, hW, hsame⟩ := X2.leave (v := some (.int (1 : Int32))) (fun h => by rw [Bd.returns] at h; cases h)
  refine ⟨_, _, pr4 _ (retOut X2 hx (t := .boolean) Bd.returns rfl (Or.inl ⟨rfl, Or.inr (Or.inl rfl), _, rfl⟩) (hb hby d223_110) hr), hrun, hended, _, _, rfl, ?_, ⟨_, rfl⟩, hW, hsame.mono (by decide) (by decide)⟩
  show Q223 Z a_SHARED a_UPDATE a_EXCLUSIVE a_CHANGE a_KEEP h0 n0 _ T2.heap _
  rw [e2]
  exact ⟨rfl, N2, rfl⟩
theorem d224_0 : decode prog_51_method_4_code 0 = .ok (.aload_n 0, 1) := by decide +kernel
theorem d224_1 : decode prog_51_method_4_code 1 = .ok (.invokevirtual 38, 3) := by decide +kernel
theorem d224_4 : decode prog_51_method_4_code 4 = .ok (.tableswitch 36 0 4 #[46, 68, 83, 87, 87], 36) := by decide +kernel
theorem d224_87 : decode prog_51_method_4_code 87 = .ok (.iconst 1, 1) := by decide +kernel
theorem d224_88 : decode prog_51_method_4_code 88 = .ok (.goto 22, 3) := by decide +kernel
theorem d224_110 : decode prog_51_method_4_code 110 = .ok (.ireturn, 1) := by decide +kernel
theorem ef_224 (mM : MethodId) (x0 : Addr) (x1 : Addr) : entryFrame mM #[(.ref x0), (.ref x1)] 2 = mkF mM 0 #[.val (.ref x0), .val (.ref x1)] [] := by first | (simp [entryFrame, mkF, argsToLocals, Value.category]; done) | rfl
def Q224 (Z : State) (a_SHARED : Addr) (a_UPDATE : Addr) (a_EXCLUSIVE : Addr) (a_CHANGE : Addr) (a_KEEP : Addr) (h0 : Heap) (n0 : Nat) (v : Option Value) (h : Heap) (L : List Loc) : Prop := v = some (.int (1 : Int32)) ∧ Fr n0 L ∧ h = h0
set_option maxRecDepth 65536 in
set_option maxHeartbeats 40000000 in
theorem rm224 (l : Launch) (Z : State) (a0 : Array Value) (hw : ∀ d ∈ tables_1, d.before a0 Z = true) (ws : List Jvm.Cond) (a_SHARED : Addr) (a_UPDATE : Addr) (a_EXCLUSIVE : Addr) (a_CHANGE : Addr) (a_KEEP : Addr) (h0 : Heap) (n0 : Nat) (Z0 : n0 ≤ h0.size) (O : Old Z n0 h0) (S_SHARED : Sta Z Z.heap "com/example/settle/settle/service/LockTable$Mode" "SHARED" "Lcom/example/settle/settle/service/LockTable$Mode;" (.ref a_SHARED)) (E_SHARED : Exa Z Z.heap a_SHARED "com/example/settle/settle/service/LockTable$Mode") (S_UPDATE : Sta Z Z.heap "com/example/settle/settle/service/LockTable$Mode" "UPDATE" "Lcom/example/settle/settle/service/LockTable$Mode;" (.ref a_UPDATE)) (E_UPDATE : Exa Z Z.heap a_UPDATE "com/example/settle/settle/service/LockTable$Mode") (S_EXCLUSIVE : Sta Z Z.heap "com/example/settle/settle/service/LockTable$Mode" "EXCLUSIVE" "Lcom/example/settle/settle/service/LockTable$Mode;" (.ref a_EXCLUSIVE)) (E_EXCLUSIVE : Exa Z Z.heap a_EXCLUSIVE "com/example/settle/settle/service/LockTable$Mode") (S_CHANGE : Sta Z Z.heap "com/example/settle/settle/service/LockTable$Mode" "CHANGE" "Lcom/example/settle/settle/service/LockTable$Mode;" (.ref a_CHANGE)) (E_CHANGE : Exa Z Z.heap a_CHANGE "com/example/settle/settle/service/LockTable$Mode") (S_KEEP : Sta Z Z.heap "com/example/settle/settle/service/LockTable$Mode" "KEEP" "Lcom/example/settle/settle/service/LockTable$Mode;" (.ref a_KEEP)) (E_KEEP : Exa Z Z.heap a_KEEP "com/example/settle/settle/service/LockTable$Mode") (F_SHARED_ordinal : Fld Z Z.heap a_SHARED "java/lang/Enum" "ordinal" "I" (.int (0 : Int32))) (F_CHANGE_ordinal : Fld Z Z.heap a_CHANGE "java/lang/Enum" "ordinal" "I" (.int (3 : Int32))) (F_EXCLUSIVE_ordinal : Fld Z Z.heap a_EXCLUSIVE "java/lang/Enum" "ordinal" "I" (.int (2 : Int32))) (F_KEEP_ordinal : Fld Z Z.heap a_KEEP "java/lang/Enum" "ordinal" "I" (.int (4 : Int32))) (F_UPDATE_ordinal : Fld Z Z.heap a_UPDATE "java/lang/Enum" "ordinal" "I" (.int (1 : Int32))) :
    MetFree l (⟨"com/example/settle/settle/service/LockTable$Mode", "keepsOut", "(Lcom/example/settle/settle/service/LockTable$Mode;)Z"⟩ : MethodName) (head1 (Jvm.Cond.code (⟨"com/example/settle/settle/service/LockTable$Mode", "keepsOut", "(Lcom/example/settle/settle/service/LockTable$Mode;)Z"⟩ : MethodName) prog_51_method_4_code 2 (some .boolean) :: ws) ({ frames := 1, cells := 0, slots := 0, locals := 12 } : Room)) (fun aA uU => aA = #[(.ref a_EXCLUSIVE), (.ref a_KEEP)] ∧ Z.Warmed39 uU.vm ∧ uU.heap = h0) (fun _ _ _ _ _ => True) (fun _ uU oO uU' => ∃ vV lL, oO = .returned vV ∧ Q224 Z a_SHARED a_UPDATE a_EXCLUSIVE a_CHANGE a_KEEP h0 n0 vV uU'.heap lL ∧ FrameEnd uU oO uU' lL ({ frames := 1, cells := 0, slots := 0, locals := 12 } : Room).cells ({ frames := 1, cells := 0, slots := 0, locals := 12 } : Room).slots) := by
  refine MetFree.of_bodySF (plainFor_of_name pn_1) hisR ?_
  intro pP eE sS mM args below meth cC s₁ Bd hml0 hP hK
  obtain ⟨rfl, hZ, hh⟩ := hP
  have hx := Bd.exec
  have hby := Bd.bytes
  have hml : cC.maxLocals = 2 := hml0
  have hown : sS.vm.findClass "com/example/settle/settle/service/LockTable$Mode" = some mM.cls := findClass_of_methodNamed Bd.named
  have hnm := (name_of_methodNamed Bd.named Bd.method).1
  have X0 : Stand pP l eE ({ frames := 1, cells := 0, slots := 0, locals := 12 } : Room) sS mM #[(.ref a_EXCLUSIVE), (.ref a_KEEP)] below meth cC s₁ [] 0 0 := Stand.of_body Bd
  have e0 : s₁.heap = h0 := by rw [← hh, Bd.state]; rfl
  have N0 := Fr.nil n0
  have pre0 : ∀ tg, Steps pP.tables eE below (s₁.setTop (mkF mM 0 #[.val (.ref a_EXCLUSIVE), .val (.ref a_KEEP)] [])) tg → Steps pP.tables eE below (s₁.setTop (entryFrame mM #[(.ref a_EXCLUSIVE), (.ref a_KEEP)] 2)) tg := fun tg kg => castTop (ef_224 mM a_EXCLUSIVE a_KEEP) kg
  have pr1 : ∀ tg, Steps pP.tables eE below (s₁.setTop (mkF mM 1 #[.val (.ref a_EXCLUSIVE), .val (.ref a_KEEP)] [(.ref a_EXCLUSIVE)])) tg → Steps pP.tables eE below (s₁.setTop (entryFrame mM #[(.ref a_EXCLUSIVE), (.ref a_KEEP)] 2)) tg := fun tg kg => pre0 _ (by
    show Steps pP.tables eE below (s₁.setTop (mkF mM 0 #[.val (.ref a_EXCLUSIVE), .val (.ref a_KEEP)] [])) _
    refine XS.aloadN X0.here hx rfl (hb hby d224_0) rfl rfl ?_
    exact kg)
  obtain ⟨cq2, kq2, qa2, qb2, qc2⟩ := isOf hZ e0 (Exa.ext (O).2 E_EXCLUSIVE)
  obtain ⟨_, _, ⟨T2, L2, kk2, nn2⟩, -, X2, ⟨Lc2, hQ2, l2, y2, z2⟩, st2⟩ := X0.virtualBackUp hx (owner := "java/lang/Enum") (x := (⟨"com/example/settle/settle/service/LockTable$Mode", "ordinal", "()I"⟩ : MethodName)) (y := (⟨"java/lang/Enum", "ordinal", "()I"⟩ : MethodName)) hown (mvT hZ (hw _ (List.mem_of_getElem? (i := 21) rfl))) (mvT hZ (hw _ (List.mem_of_getElem? (i := 22) rfl))) (mvT hZ (hw _ (List.mem_of_getElem? (i := 23) rfl))) (by decide) (mvT hZ (hw _ (List.mem_of_getElem? (i := 25) rfl))) (mvT hZ (hw _ (List.mem_of_getElem? (i := 24) rfl))) (backOf (W := 0) (rm1 l Z a0 hw [] a_EXCLUSIVE (2 : Int32) h0 n0 Z0 (Fld.ext (O).2 F_EXCLUSIVE_ordinal)) hZ (hw _ (List.mem_of_getElem? (i := 27) rfl)) (hw _ (List.mem_of_getElem? (i := 26) rfl)) (by decide) (by decide)) qa2 qc2 (g := (mkF mM 1 #[.val (.ref a_EXCLUSIVE), .val (.ref a_KEEP)] [(.ref a_EXCLUSIVE)])) rfl (by rw [hml]; rfl) (Steps.refl _) (argsL := []) (rest := []) (lenOf pd_0 rfl) rfl (by show 2 * 0 + _ ≤ _; exact Nat.le_of_eq rfl) (hb hby d224_1) (fun _ _ => ⟨rfl, e0, (by decide : 0 + 0 ≤ _), (by decide : 0 + 0 ≤ _)⟩)
  dsimp only [Pt.U, Pt.locs, Pt.cells, Pt.slots] at X2 l2 y2 z2 st2 hQ2
  subst l2 y2 z2
  obtain ⟨rfl, Nq2, e2⟩ := hQ2
  have N2 := Fr.app N0 Nq2
  have pr3 : ∀ tg, Steps pP.tables eE below (T2.setTop (mkF mM 4 #[.val (.ref a_EXCLUSIVE), .val (.ref a_KEEP)] [(.int (2 : Int32))])) tg → Steps pP.tables eE below (s₁.setTop (entryFrame mM #[(.ref a_EXCLUSIVE), (.ref a_KEEP)] 2)) tg := fun tg kg => pr1 _ (st2.trans kg)
  have pr4 : ∀ tg, Steps pP.tables eE below (T2.setTop (mkF mM 110 #[.val (.ref a_EXCLUSIVE), .val (.ref a_KEEP)] [(.int (1 : Int32))])) tg → Steps pP.tables eE below (s₁.setTop (entryFrame mM #[(.ref a_EXCLUSIVE), (.ref a_KEEP)] 2)) tg := fun tg kg => pr3 _ (by
    show Steps pP.tables eE below (T2.setTop (mkF mM 4 #[.val (.ref a_EXCLUSIVE), .val (.ref a_KEEP)] [(.int (2 : Int32))])) _
    refine XS.tswIn X2.here hx rfl (pc0 := 4) (pc' := 87) rfl (hb hby d224_4) rfl (by decide) (o := 83) (by decide) (by decide) (by decide) ?_
    show Steps pP.tables eE below (T2.setTop (mkF mM 87 #[.val (.ref a_EXCLUSIVE), .val (.ref a_KEEP)] [])) _
    refine XS.iconst X2.here hx rfl (hb hby d224_87) ?_
    show Steps pP.tables eE below (T2.setTop (mkF mM 88 #[.val (.ref a_EXCLUSIVE), .val (.ref a_KEEP)] [(.int (1 : Int32))])) _
    refine XS.goto X2.here hx rfl (pc0 := 88) (pc' := 110) rfl (hb hby d224_88) (by decide) (by decide) ?_
    exact kg)
  obtain ⟨fs, hr, hrun, hended, hW, hsame⟩ := X2.leave (v := some (.int (1 : Int32))) (fun h => by rw [Bd.returns] at h; cases h)
  refine ⟨_, _, pr4 _ (retOut X2 hx (t := .boolean) Bd.returns rfl (Or.inl ⟨rfl, Or.inr (Or.inl rfl), _, rfl⟩) (hb hby d224_110) hr), hrun, hended, _, _, rfl, ?_, ⟨_, rfl⟩, hW, hsame.mono (by decide) (by decide)⟩
  show Q224 Z a_SHARED a_UPDATE a_EXCLUSIVE a_CHANGE a_KEEP h0 n0 _ T2.heap _
  rw [e2]
  exact ⟨rfl, N2, rfl⟩
theorem d230_0 : decode prog_51_method_4_code 0 = .ok (.aload_n 0, 1) := by decide +kernel
theorem d230_1 : decode prog_51_method_4_code 1 = .ok (.invokevirtual 38, 3) := by decide +kernel
theorem d230_4 : decode prog_51_method_4_code 4 = .ok (.tableswitch 36 0 4 #[46, 68, 83, 87, 87], 36) := by decide +kernel
theorem d230_91 : decode prog_51_method_4_code 91 = .ok (.aload_n 1, 1) := by decide +kernel
theorem d230_92 : decode prog_51_method_4_code 92 = .ok (.getstatic 13, 3) := by decide +kernel
theorem d230_95 : decode prog_51_method_4_code 95 = .ok (.if_acmp .eq 14, 3) := by decide +kernel
theorem d230_98 : decode prog_51_method_4_code 98 = .ok (.aload_n 1, 1) := by decide +kernel
theorem d230_99 : decode prog_51_method_4_code 99 = .ok (.getstatic 16, 3) := by decide +kernel
theorem d230_102 : decode prog_51_method_4_code 102 = .ok (.if_acmp .eq 7, 3) := by decide +kernel
theorem d230_105 : decode prog_51_method_4_code 105 = .ok (.iconst 1, 1) := by decide +kernel
theorem d230_106 : decode prog_51_method_4_code 106 = .ok (.goto 4, 3) := by decide +kernel
theorem d230_110 : decode prog_51_method_4_code 110 = .ok (.ireturn, 1) := by decide +kernel
theorem ef_230 (mM : MethodId) (x0 : Addr) (x1 : Addr) : entryFrame mM #[(.ref x0), (.ref x1)] 2 = mkF mM 0 #[.val (.ref x0), .val (.ref x1)] [] := by first | (simp [entryFrame, mkF, argsToLocals, Value.category]; done) | rfl
def Q230 (Z : State) (a_SHARED : Addr) (a_UPDATE : Addr) (a_EXCLUSIVE : Addr) (a_CHANGE : Addr) (a_KEEP : Addr) (h0 : Heap) (n0 : Nat) (v : Option Value) (h : Heap) (L : List Loc) : Prop := v = some (.int (1 : Int32)) ∧ Fr n0 L ∧ h = h0
set_option maxRecDepth 65536 in
set_option maxHeartbeats 40000000 in
theorem rm230 (l : Launch) (Z : State) (a0 : Array Value) (hw : ∀ d ∈ tables_1, d.before a0 Z = true) (ws : List Jvm.Cond) (a_SHARED : Addr) (a_UPDATE : Addr) (a_EXCLUSIVE : Addr) (a_CHANGE : Addr) (a_KEEP : Addr) (h0 : Heap) (n0 : Nat) (Z0 : n0 ≤ h0.size) (O : Old Z n0 h0) (S_SHARED : Sta Z Z.heap "com/example/settle/settle/service/LockTable$Mode" "SHARED" "Lcom/example/settle/settle/service/LockTable$Mode;" (.ref a_SHARED)) (E_SHARED : Exa Z Z.heap a_SHARED "com/example/settle/settle/service/LockTable$Mode") (S_UPDATE : Sta Z Z.heap "com/example/settle/settle/service/LockTable$Mode" "UPDATE" "Lcom/example/settle/settle/service/LockTable$Mode;" (.ref a_UPDATE)) (E_UPDATE : Exa Z Z.heap a_UPDATE "com/example/settle/settle/service/LockTable$Mode") (S_EXCLUSIVE : Sta Z Z.heap "com/example/settle/settle/service/LockTable$Mode" "EXCLUSIVE" "Lcom/example/settle/settle/service/LockTable$Mode;" (.ref a_EXCLUSIVE)) (E_EXCLUSIVE : Exa Z Z.heap a_EXCLUSIVE "com/example/settle/settle/service/LockTable$Mode") (S_CHANGE : Sta Z Z.heap "com/example/settle/settle/service/LockTable$Mode" "CHANGE" "Lcom/example/settle/settle/service/LockTable$Mode;" (.ref a_CHANGE)) (E_CHANGE : Exa Z Z.heap a_CHANGE "com/example/settle/settle/service/LockTable$Mode") (S_KEEP : Sta Z Z.heap "com/example/settle/settle/service/LockTable$Mode" "KEEP" "Lcom/example/settle/settle/service/LockTable$Mode;" (.ref a_KEEP)) (E_KEEP : Exa Z Z.heap a_KEEP "com/example/settle/settle/service/LockTable$Mode") (F_SHARED_ordinal : Fld Z Z.heap a_SHARED "java/lang/Enum" "ordinal" "I" (.int (0 : Int32))) (F_CHANGE_ordinal : Fld Z Z.heap a_CHANGE "java/lang/Enum" "ordinal" "I" (.int (3 : Int32))) (F_EXCLUSIVE_ordinal : Fld Z Z.heap a_EXCLUSIVE "java/lang/Enum" "ordinal" "I" (.int (2 : Int32))) (F_KEEP_ordinal : Fld Z Z.heap a_KEEP "java/lang/Enum" "ordinal" "I" (.int (4 : Int32))) (F_UPDATE_ordinal : Fld Z Z.heap a_UPDATE "java/lang/Enum" "ordinal" "I" (.int (1 : Int32))) :
    MetFree l (⟨"com/example/settle/settle/service/LockTable$Mode", "keepsOut", "(Lcom/example/settle/settle/service/LockTable$Mode;)Z"⟩ : MethodName) (head1 (Jvm.Cond.code (⟨"com/example/settle/settle/service/LockTable$Mode", "keepsOut", "(Lcom/example/settle/settle/service/LockTable$Mode;)Z"⟩ : MethodName) prog_51_method_4_code 2 (some .boolean) :: ws) ({ frames := 1, cells := 0, slots := 0, locals := 12 } : Room)) (fun aA uU => aA = #[(.ref a_CHANGE), (.ref a_SHARED)] ∧ Z.Warmed39 uU.vm ∧ uU.heap = h0) (fun _ _ _ _ _ => True) (fun _ uU oO uU' => ∃ vV lL, oO = .returned vV ∧ Q230 Z a_SHARED a_UPDATE a_EXCLUSIVE a_CHANGE a_KEEP h0 n0 vV uU'.heap lL ∧ FrameEnd uU oO uU' lL ({ frames := 1, cells := 0, slots := 0, locals := 12 } : Room).cells ({ frames := 1, cells := 0, slots := 0, locals := 12 } : Room).slots) := by
  refine MetFree.of_bodySF (plainFor_of_name pn_1) hisR ?_
  intro pP eE sS mM args below meth cC s₁ Bd hml0 hP hK
  obtain ⟨rfl, hZ, hh⟩ := hP
  have hx := Bd.exec
  have hby := Bd.bytes
  have hml : cC.maxLocals = 2 := hml0
  have hown : sS.vm.findClass "com/example/settle/settle/service/LockTable$Mode" = some mM.cls := findClass_of_methodNamed Bd.named
  have hnm := (name_of_methodNamed Bd.named Bd.method).1
  have X0 : Stand pP l eE ({ frames := 1, cells := 0, slots := 0, locals := 12 } : Room) sS mM #[(.ref a_CHANGE), (.ref a_SHARED)] below meth cC s₁ [] 0 0 := Stand.of_body Bd
  have e0 : s₁.heap = h0 := by rw [← hh, Bd.state]; rfl
  have N0 := Fr.nil n0
  have pre0 : ∀ tg, Steps pP.tables eE below (s₁.setTop (mkF mM 0 #[.val (.ref a_CHANGE), .val (.ref a_SHARED)] [])) tg → Steps pP.tables eE below (s₁.setTop (entryFrame mM #[(.ref a_CHANGE), (.ref a_SHARED)] 2)) tg := fun tg kg => castTop (ef_230 mM a_CHANGE a_SHARED) kg
  have pr1 : ∀ tg, Steps pP.tables eE below (s₁.setTop (mkF mM 1 #[.val (.ref a_CHANGE), .val (.ref a_SHARED)] [(.ref a_CHANGE)])) tg → Steps pP.tables eE below (s₁.setTop (entryFrame mM #[(.ref a_CHANGE), (.ref a_SHARED)] 2)) tg := fun tg kg => pre0 _ (by
    show Steps pP.tables eE below (s₁.setTop (mkF mM 0 #[.val (.ref a_CHANGE), .val (.ref a_SHARED)] [])) _
    refine XS.aloadN X0.here hx rfl (hb hby d230_0) rfl rfl ?_
    exact kg)
  obtain ⟨cq2, kq2, qa2, qb2, qc2⟩ := isOf hZ e0 (Exa.ext (O).2 E_CHANGE)
  obtain ⟨_, _, ⟨T2, L2, kk2, nn2⟩, -, X2, ⟨Lc2, hQ2, l2, y2, z2⟩, st2⟩ := X0.virtualBackUp hx (owner := "java/lang/Enum") (x := (⟨"com/example/settle/settle/service/LockTable$Mode", "ordinal", "()I"⟩ : MethodName)) (y := (⟨"java/lang/Enum", "ordinal", "()I"⟩ : MethodName)) hown (mvT hZ (hw _ (List.mem_of_getElem? (i := 21) rfl))) (mvT hZ (hw _ (List.mem_of_getElem? (i := 22) rfl))) (mvT hZ (hw _ (List.mem_of_getElem? (i := 23) rfl))) (by decide) (mvT hZ (hw _ (List.mem_of_getElem? (i := 25) rfl))) (mvT hZ (hw _ (List.mem_of_getElem? (i := 24) rfl))) (backOf (W := 0) (rm1 l Z a0 hw [] a_CHANGE (3 : Int32) h0 n0 Z0 (Fld.ext (O).2 F_CHANGE_ordinal)) hZ (hw _ (List.mem_of_getElem? (i := 27) rfl)) (hw _ (List.mem_of_getElem? (i := 26) rfl)) (by decide) (by decide)) qa2 qc2 (g := (mkF mM 1 #[.val (.ref a_CHANGE), .val (.ref a_SHARED)] [(.ref a_CHANGE)])) rfl (by rw [hml]; rfl) (Steps.refl _) (argsL := []) (rest := []) (lenOf pd_0 rfl) rfl (by show 2 * 0 + _ ≤ _; exact Nat.le_of_eq rfl) (hb hby d230_1) (fun _ _ => ⟨rfl, e0, (by decide : 0 + 0 ≤ _), (by decide : 0 + 0 ≤ _)⟩)
  dsimp only [Pt.U, Pt.locs, Pt.cells, Pt.slots] at X2 l2 y2 z2 st2 hQ2
  subst l2 y2 z2
  obtain ⟨rfl, Nq2, e2⟩ := hQ2
  have N2 := Fr.app N0 Nq2
  have pr3 : ∀ tg, Steps pP.tables eE below (T2.setTop (mkF mM 4 #[.val (.ref a_CHANGE), .val (.ref a_SHARED)] [(.int (3 : Int32))])) tg → Steps pP.tables eE below (s₁.setTop (entryFrame mM #[(.ref a_CHANGE), (.ref a_SHARED)] 2)) tg := fun tg kg => pr1 _ (st2.trans kg)
  have pr4 : ∀ tg, Steps pP.tables eE below (T2.setTop (mkF mM 92 #[.val (.ref a_CHANGE), .val (.ref a_SHARED)] [(.ref a_SHARED)])) tg → Steps pP.tables eE below (s₁.setTop (entryFrame mM #[(.ref a_CHANGE), (.ref a_SHARED)] 2)) tg := fun tg kg => pr3 _ (by
    show Steps pP.tables eE below (T2.setTop (mkF mM 4 #[.val (.ref a_CHANGE), .val (.ref a_SHARED)] [(.int (3 : Int32))])) _
    refine XS.tswIn X2.here hx rfl (pc0 := 4) (pc' := 91) rfl (hb hby d230_4) rfl (by decide) (o := 87) (by decide) (by decide) (by decide) ?_
    show Steps pP.tables eE below (T2.setTop (mkF mM 91 #[.val (.ref a_CHANGE), .val (.ref a_SHARED)] [])) _
    refine XS.aloadN X2.here hx rfl (hb hby d230_91) rfl rfl ?_
    exact kg)
  obtain ⟨T5, X5, e5, st5⟩ := getS2 X2 hx hZ hown (host := "") (Or.inl (hw _ (List.mem_of_getElem? (i := 31) rfl))) Via.refl e2 (Sta.ext (O).2 S_CHANGE) (g := (mkF mM 92 #[.val (.ref a_CHANGE), .val (.ref a_SHARED)] [(.ref a_SHARED)])) rfl (hb hby d230_92)
  have pr6 : ∀ tg, Steps pP.tables eE below (T5.setTop (mkF mM 95 #[.val (.ref a_CHANGE), .val (.ref a_SHARED)] [(.ref a_CHANGE), (.ref a_SHARED)])) tg → Steps pP.tables eE below (s₁.setTop (entryFrame mM #[(.ref a_CHANGE), (.ref a_SHARED)] 2)) tg := fun tg kg => pr4 _ (st5 _ kg)
  have pr7 : ∀ tg, Steps pP.tables eE below (T5.setTop (mkF mM 99 #[.val (.ref a_CHANGE), .val (.ref a_SHARED)] [(.ref a_SHARED)])) tg → Steps pP.tables eE below (s₁.setTop (entryFrame mM #[(.ref a_CHANGE), (.ref a_SHARED)] 2)) tg := fun tg kg => pr6 _ (by
    show Steps pP.tables eE below (T5.setTop (mkF mM 95 #[.val (.ref a_CHANGE), .val (.ref a_SHARED)] [(.ref a_CHANGE), (.ref a_SHARED)])) _
    refine Jvm.RoadKit.acmp (g := (mkF mM 95 #[.val (.ref a_CHANGE), .val (.ref a_SHARED)] [(.ref a_CHANGE), (.ref a_SHARED)])) X5 hx rfl rfl rfl (pc0 := 95) (pc' := 98) (same := false) rfl (hb hby d230_95) rfl (decide_eq_false fun q => (Fld.ne F_SHARED_ordinal F_CHANGE_ordinal (by decide)) (Value.ref.inj q)) (by decide) (by decide) ?_
    show Steps pP.tables eE below (T5.setTop (mkF mM 98 #[.val (.ref a_CHANGE), .val (.ref a_SHARED)] [])) _
    refine XS.aloadN X5.here hx rfl (hb hby d230_98) rfl rfl ?_
    exact kg)
  obtain ⟨T8, X8, e8, st8⟩ := getS2 X5 hx hZ hown (host := "") (Or.inl (hw _ (List.mem_of_getElem? (i := 32) rfl))) Via.refl e5 (Sta.ext (O).2 S_KEEP) (g := (mkF mM 99 #[.val (.ref a_CHANGE), .val (.ref a_SHARED)] [(.ref a_SHARED)])) rfl (hb hby d230_99)
  have pr9 : ∀ tg, Steps pP.tables eE below (T8.setTop (mkF mM 102 #[.val (.ref a_CHANGE), .val (.ref a_SHARED)] [(.ref a_KEEP), (.ref a_SHARED)])) tg → Steps pP.tables eE below (s₁.setTop (entryFrame mM #[(.ref a_CHANGE), (.ref a_SHARED)] 2)) tg := fun tg kg => pr7 _ (st8 _ kg)
  have pr10 : ∀ tg, Steps pP.tables eE below (T8.setTop (mkF mM 110 #[.val (.ref a_CHANGE), .val (.ref a_SHARED)] [(.int (1 : Int32))])) tg → Steps pP.tables eE below (s₁.setTop (entryFrame mM #[(.ref a_CHANGE), (.ref a_SHARED)] 2)) tg := fun tg kg => pr9 _ (by
    show Steps pP.tables eE below (T8.setTop (mkF mM 102 #[.val (.ref a_CHANGE), .val (.ref a_SHARED)] [(.ref a_KEEP), (.ref a_SHARED)])) _
    refine Jvm.RoadKit.acmp (g := (mkF mM 102 #[.val (.ref a_CHANGE), .val (.ref a_SHARED)] [(.ref a_KEEP), (.ref a_SHARED)])) X8 hx rfl rfl rfl (pc0 := 102) (pc' := 105) (same := false) rfl (hb hby d230_102) rfl (decide_eq_false fun q => (Fld.ne F_SHARED_ordinal F_KEEP_ordinal (by decide)) (Value.ref.inj q)) (by decide) (by decide) ?_
    show Steps pP.tables eE below (T8.setTop (mkF mM 105 #[.val (.ref a_CHANGE), .val (.ref a_SHARED)] [])) _
    refine XS.iconst X8.here hx rfl (hb hby d230_105) ?_
    show Steps pP.tables eE below (T8.setTop (mkF mM 106 #[.val (.ref a_CHANGE), .val (.ref a_SHARED)] [(.int (1 : Int32))])) _
    refine XS.goto X8.here hx rfl (pc0 := 106) (pc' := 110) rfl (hb hby d230_106) (by decide) (by decide) ?_
    exact kg)
  obtain ⟨fs, hr, hrun, hended, hW, hsame⟩ := X8.leave (v := some (.int (1 : Int32))) (fun h => by rw [Bd.returns] at h; cases h)
  refine ⟨_, _, pr10 _ (retOut X8 hx (t := .boolean) Bd.returns rfl (Or.inl ⟨rfl, Or.inr (Or.inl rfl), _, rfl⟩) (hb hby d230_110) hr), hrun, hended, _, _, rfl, ?_, ⟨_, rfl⟩, hW, hsame.mono (by decide) (by decide)⟩
  show Q230 Z a_SHARED a_UPDATE a_EXCLUSIVE a_CHANGE a_KEEP h0 n0 _ T8.heap _
  rw [e8]
  exact ⟨rfl, N2, rfl⟩
theorem d231_0 : decode prog_51_method_4_code 0 = .ok (.aload_n 0, 1) := by decide +kernel
theorem d231_1 : decode prog_51_method_4_code 1 = .ok (.invokevirtual 38, 3) := by decide +kernel
theorem d231_4 : decode prog_51_method_4_code 4 = .ok (.tableswitch 36 0 4 #[46, 68, 83, 87, 87], 36) := by decide +kernel
theorem d231_91 : decode prog_51_method_4_code 91 = .ok (.aload_n 1, 1) := by decide +kernel
theorem d231_92 : decode prog_51_method_4_code 92 = .ok (.getstatic 13, 3) := by decide +kernel
theorem d231_95 : decode prog_51_method_4_code 95 = .ok (.if_acmp .eq 14, 3) := by decide +kernel
theorem d231_98 : decode prog_51_method_4_code 98 = .ok (.aload_n 1, 1) := by decide +kernel
theorem d231_99 : decode prog_51_method_4_code 99 = .ok (.getstatic 16, 3) := by decide +kernel
theorem d231_102 : decode prog_51_method_4_code 102 = .ok (.if_acmp .eq 7, 3) := by decide +kernel
theorem d231_105 : decode prog_51_method_4_code 105 = .ok (.iconst 1, 1) := by decide +kernel
theorem d231_106 : decode prog_51_method_4_code 106 = .ok (.goto 4, 3) := by decide +kernel
theorem d231_110 : decode prog_51_method_4_code 110 = .ok (.ireturn, 1) := by decide +kernel
theorem ef_231 (mM : MethodId) (x0 : Addr) (x1 : Addr) : entryFrame mM #[(.ref x0), (.ref x1)] 2 = mkF mM 0 #[.val (.ref x0), .val (.ref x1)] [] := by first | (simp [entryFrame, mkF, argsToLocals, Value.category]; done) | rfl
def Q231 (Z : State) (a_SHARED : Addr) (a_UPDATE : Addr) (a_EXCLUSIVE : Addr) (a_CHANGE : Addr) (a_KEEP : Addr) (h0 : Heap) (n0 : Nat) (v : Option Value) (h : Heap) (L : List Loc) : Prop := v = some (.int (1 : Int32)) ∧ Fr n0 L ∧ h = h0
set_option maxRecDepth 65536 in
set_option maxHeartbeats 40000000 in
theorem rm231 (l : Launch) (Z : State) (a0 : Array Value) (hw : ∀ d ∈ tables_1, d.before a0 Z = true) (ws : List Jvm.Cond) (a_SHARED : Addr) (a_UPDATE : Addr) (a_EXCLUSIVE : Addr) (a_CHANGE : Addr) (a_KEEP : Addr) (h0 : Heap) (n0 : Nat) (Z0 : n0 ≤ h0.size) (O : Old Z n0 h0) (S_SHARED : Sta Z Z.heap "com/example/settle/settle/service/LockTable$Mode" "SHARED" "Lcom/example/settle/settle/service/LockTable$Mode;" (.ref a_SHARED)) (E_SHARED : Exa Z Z.heap a_SHARED "com/example/settle/settle/service/LockTable$Mode") (S_UPDATE : Sta Z Z.heap "com/example/settle/settle/service/LockTable$Mode" "UPDATE" "Lcom/example/settle/settle/service/LockTable$Mode;" (.ref a_UPDATE)) (E_UPDATE : Exa Z Z.heap a_UPDATE "com/example/settle/settle/service/LockTable$Mode") (S_EXCLUSIVE : Sta Z Z.heap "com/example/settle/settle/service/LockTable$Mode" "EXCLUSIVE" "Lcom/example/settle/settle/service/LockTable$Mode;" (.ref a_EXCLUSIVE)) (E_EXCLUSIVE : Exa Z Z.heap a_EXCLUSIVE "com/example/settle/settle/service/LockTable$Mode") (S_CHANGE : Sta Z Z.heap "com/example/settle/settle/service/LockTable$Mode" "CHANGE" "Lcom/example/settle/settle/service/LockTable$Mode;" (.ref a_CHANGE)) (E_CHANGE : Exa Z Z.heap a_CHANGE "com/example/settle/settle/service/LockTable$Mode") (S_KEEP : Sta Z Z.heap "com/example/settle/settle/service/LockTable$Mode" "KEEP" "Lcom/example/settle/settle/service/LockTable$Mode;" (.ref a_KEEP)) (E_KEEP : Exa Z Z.heap a_KEEP "com/example/settle/settle/service/LockTable$Mode") (F_SHARED_ordinal : Fld Z Z.heap a_SHARED "java/lang/Enum" "ordinal" "I" (.int (0 : Int32))) (F_CHANGE_ordinal : Fld Z Z.heap a_CHANGE "java/lang/Enum" "ordinal" "I" (.int (3 : Int32))) (F_EXCLUSIVE_ordinal : Fld Z Z.heap a_EXCLUSIVE "java/lang/Enum" "ordinal" "I" (.int (2 : Int32))) (F_KEEP_ordinal : Fld Z Z.heap a_KEEP "java/lang/Enum" "ordinal" "I" (.int (4 : Int32))) (F_UPDATE_ordinal : Fld Z Z.heap a_UPDATE "java/lang/Enum" "ordinal" "I" (.int (1 : Int32))) :
    MetFree l (⟨"com/example/settle/settle/service/LockTable$Mode", "keepsOut", "(Lcom/example/settle/settle/service/LockTable$Mode;)Z"⟩ : MethodName) (head1 (Jvm.Cond.code (⟨"com/example/settle/settle/service/LockTable$Mode", "keepsOut", "(Lcom/example/settle/settle/service/LockTable$Mode;)Z"⟩ : MethodName) prog_51_method_4_code 2 (some .boolean) :: ws) ({ frames := 1, cells := 0, slots := 0, locals := 12 } : Room)) (fun aA uU => aA = #[(.ref a_CHANGE), (.ref a_UPDATE)] ∧ Z.Warmed39 uU.vm ∧ uU.heap = h0) (fun _ _ _ _ _ => True) (fun _ uU oO uU' => ∃ vV lL, oO = .returned vV ∧ Q231 Z a_SHARED a_UPDATE a_EXCLUSIVE a_CHANGE a_KEEP h0 n0 vV uU'.heap lL ∧ FrameEnd uU oO uU' lL ({ frames := 1, cells := 0, slots := 0, locals := 12 } : Room).cells ({ frames := 1, cells := 0, slots := 0, locals := 12 } : Room).slots) := by
  refine MetFree.of_bodySF (plainFor_of_name pn_1) hisR ?_
  intro pP eE sS mM args below meth cC s₁ Bd hml0 hP hK
  obtain ⟨rfl, hZ, hh⟩ := hP
  have hx := Bd.exec
  have hby := Bd.bytes
  have hml : cC.maxLocals = 2 := hml0
  have hown : sS.vm.findClass "com/example/settle/settle/service/LockTable$Mode" = some mM.cls := findClass_of_methodNamed Bd.named
  have hnm := (name_of_methodNamed Bd.named Bd.method).1
  have X0 : Stand pP l eE ({ frames := 1, cells := 0, slots := 0, locals := 12 } : Room) sS mM #[(.ref a_CHANGE), (.ref a_UPDATE)] below meth cC s₁ [] 0 0 := Stand.of_body Bd
  have e0 : s₁.heap = h0 := by rw [← hh, Bd.state]; rfl
  have N0 := Fr.nil n0
  have pre0 : ∀ tg, Steps pP.tables eE below (s₁.setTop (mkF mM 0 #[.val (.ref a_CHANGE), .val (.ref a_UPDATE)] [])) tg → Steps pP.tables eE below (s₁.setTop (entryFrame mM #[(.ref a_CHANGE), (.ref a_UPDATE)] 2)) tg := fun tg kg => castTop (ef_231 mM a_CHANGE a_UPDATE) kg
  have pr1 : ∀ tg, Steps pP.tables eE below (s₁.setTop (mkF mM 1 #[.val (.ref a_CHANGE), .val (.ref a_UPDATE)] [(.ref a_CHANGE)])) tg → Steps pP.tables eE below (s₁.setTop (entryFrame mM #[(.ref a_CHANGE), (.ref a_UPDATE)] 2)) tg := fun tg kg => pre0 _ (by
    show Steps pP.tables eE below (s₁.setTop (mkF mM 0 #[.val (.ref a_CHANGE), .val (.ref a_UPDATE)] [])) _
    refine XS.aloadN X0.here hx rfl (hb hby d231_0) rfl rfl ?_
    exact kg)
  obtain ⟨cq2, kq2, qa2, qb2, qc2⟩ := isOf hZ e0 (Exa.ext (O).2 E_CHANGE)
  obtain ⟨_, _, ⟨T2, L2, kk2, nn2⟩, -, X2, ⟨Lc2, hQ2, l2, y2, z2⟩, st2⟩ := X0.virtualBackUp hx (owner := "java/lang/Enum") (x := (⟨"com/example/settle/settle/service/LockTable$Mode", "ordinal", "()I"⟩ : MethodName)) (y := (⟨"java/lang/Enum", "ordinal", "()I"⟩ : MethodName)) hown (mvT hZ (hw _ (List.mem_of_getElem? (i := 21) rfl))) (mvT hZ (hw _ (List.mem_of_getElem? (i := 22) rfl))) (mvT hZ (hw _ (List.mem_of_getElem? (i := 23) rfl))) (by decide) (mvT hZ (hw _ (List.mem_of_getElem? (i := 25) rfl))) (mvT hZ (hw _ (List.mem_of_getElem? (i := 24) rfl))) (backOf (W := 0) (rm1 l Z a0 hw [] a_CHANGE (3 : Int32) h0 n0 Z0 (Fld.ext (O).2 F_CHANGE_ordinal)) hZ (hw _ (List.mem_of_getElem? (i := 27) rfl)) (hw _ (List.mem_of_getElem? (i := 26) rfl)) (by decide) (by decide)) qa2 qc2 (g := (mkF mM 1 #[.val (.ref a_CHANGE), .val (.ref a_UPDATE)] [(.ref a_CHANGE)])) rfl (by rw [hml]; rfl) (Steps.refl _) (argsL := []) (rest := []) (lenOf pd_0 rfl) rfl (by show 2 * 0 + _ ≤ _; exact Nat.le_of_eq rfl) (hb hby d231_1) (fun _ _ => ⟨rfl, e0, (by decide : 0 + 0 ≤ _), (by decide : 0 + 0 ≤ _)⟩)
  dsimp only [Pt.U, Pt.locs, Pt.cells, Pt.slots] at X2 l2 y2 z2 st2 hQ2
  subst l2 y2 z2
  obtain ⟨rfl, Nq2, e2⟩ := hQ2
  have N2 := Fr.app N0 Nq2
  have pr3 : ∀ tg, Steps pP.tables eE below (T2.setTop (mkF mM 4 #[.val (.ref a_CHANGE), .val (.ref a_UPDATE)] [(.int (3 : Int32))])) tg → Steps pP.tables eE below (s₁.setTop (entryFrame mM #[(.ref a_CHANGE), (.ref a_UPDATE)] 2)) tg := fun tg kg => pr1 _ (st2.trans kg)
  have pr4 : ∀ tg, Steps pP.tables eE below (T2.setTop (mkF mM 92 #[.val (.ref a_CHANGE), .val (.ref a_UPDATE)] [(.ref a_UPDATE)])) tg → Steps pP.tables eE below (s₁.setTop (entryFrame mM #[(.ref a_CHANGE), (.ref a_UPDATE)] 2)) tg := fun tg kg => pr3 _ (by
    show Steps pP.tables eE below (T2.setTop (mkF mM 4 #[.val (.ref a_CHANGE), .val (.ref a_UPDATE)] [(.int (3 : Int32))])) _
    refine XS.tswIn X2.here hx rfl (pc0 := 4) (pc' := 91) rfl (hb hby d231_4) rfl (by decide) (o := 87) (by decide) (by decide) (by decide) ?_
    show Steps pP.tables eE below (T2.setTop (mkF mM 91 #[.val (.ref a_CHANGE), .val (.ref a_UPDATE)] [])) _
    refine XS.aloadN X2.here hx rfl (hb hby d231_91) rfl rfl ?_
    exact kg)
  obtain ⟨T5, X5, e5, st5⟩ := getS2 X2 hx hZ hown (host := "") (Or.inl (hw _ (List.mem_of_getElem? (i := 31) rfl))) Via.refl e2 (Sta.ext (O).2 S_CHANGE) (g := (mkF mM 92 #[.val (.ref a_CHANGE), .val (.ref a_UPDATE)] [(.ref a_UPDATE)])) rfl (hb hby d231_92)
  have pr6 : ∀ tg, Steps pP.tables eE below (T5.setTop (mkF mM 95 #[.val (.ref a_CHANGE), .val (.ref a_UPDATE)] [(.ref a_CHANGE), (.ref a_UPDATE)])) tg → Steps pP.tables eE below (s₁.setTop (entryFrame mM #[(.ref a_CHANGE), (.ref a_UPDATE)] 2)) tg := fun tg kg => pr4 _ (st5 _ kg)
  have pr7 : ∀ tg, Steps pP.tables eE below (T5.setTop (mkF mM 99 #[.val (.ref a_CHANGE), .val (.ref a_UPDATE)] [(.ref a_UPDATE)])) tg → Steps pP.tables eE below (s₁.setTop (entryFrame mM #[(.ref a_CHANGE), (.ref a_UPDATE)] 2)) tg := fun tg kg => pr6 _ (by
    show Steps pP.tables eE below (T5.setTop (mkF mM 95 #[.val (.ref a_CHANGE), .val (.ref a_UPDATE)] [(.ref a_CHANGE), (.ref a_UPDATE)])) _
    refine Jvm.RoadKit.acmp (g := (mkF mM 95 #[.val (.ref a_CHANGE), .val (.ref a_UPDATE)] [(.ref a_CHANGE), (.ref a_UPDATE)])) X5 hx rfl rfl rfl (pc0 := 95) (pc' := 98) (same := false) rfl (hb hby d231_95) rfl (decide_eq_false fun q => (Fld.ne F_UPDATE_ordinal F_CHANGE_ordinal (by decide)) (Value.ref.inj q)) (by decide) (by decide) ?_
    show Steps pP.tables eE below (T5.setTop (mkF mM 98 #[.val (.ref a_CHANGE), .val (.ref a_UPDATE)] [])) _
    refine XS.aloadN X5.here hx rfl (hb hby d231_98) rfl rfl ?_
    exact kg)
  obtain ⟨T8, X8, e8, st8⟩ := getS2 X5 hx hZ hown (host := "") (Or.inl (hw _ (List.mem_of_getElem? (i := 32) rfl))) Via.refl e5 (Sta.ext (O).2 S_KEEP) (g := (mkF mM 99 #[.val (.ref a_CHANGE), .val (.ref a_UPDATE)] [(.ref a_UPDATE)])) rfl (hb hby d231_99)
  have pr9 : ∀ tg, Steps pP.tables eE below (T8.setTop (mkF mM 102 #[.val (.ref a_CHANGE), .val (.ref a_UPDATE)] [(.ref a_KEEP), (.ref a_UPDATE)])) tg → Steps pP.tables eE below (s₁.setTop (entryFrame mM #[(.ref a_CHANGE), (.ref a_UPDATE)] 2)) tg := fun tg kg => pr7 _ (st8 _ kg)
  have pr10 : ∀ tg, Steps pP.tables eE below (T8.setTop (mkF mM 110 #[.val (.ref a_CHANGE), .val (.ref a_UPDATE)] [(.int (1 : Int32))])) tg → Steps pP.tables eE below (s₁.setTop (entryFrame mM #[(.ref a_CHANGE), (.ref a_UPDATE)] 2)) tg := fun tg kg => pr9 _ (by
    show Steps pP.tables eE below (T8.setTop (mkF mM 102 #[.val (.ref a_CHANGE), .val (.ref a_UPDATE)] [(.ref a_KEEP), (.ref a_UPDATE)])) _
    refine Jvm.RoadKit.acmp (g := (mkF mM 102 #[.val (.ref a_CHANGE), .val (.ref a_UPDATE)] [(.ref a_KEEP), (.ref a_UPDATE)])) X8 hx rfl rfl rfl (pc0 := 102) (pc' := 105) (same := false) rfl (hb hby d231_102) rfl (decide_eq_false fun q => (Fld.ne F_UPDATE_ordinal F_KEEP_ordinal (by decide)) (Value.ref.inj q)) (by decide) (by decide) ?_
    show Steps pP.tables eE below (T8.setTop (mkF mM 105 #[.val (.ref a_CHANGE), .val (.ref a_UPDATE)] [])) _
    refine XS.iconst X8.here hx rfl (hb hby d231_105) ?_
    show Steps pP.tables eE below (T8.setTop (mkF mM 106 #[.val (.ref a_CHANGE), .val (.ref a_UPDATE)] [(.int (1 : Int32))])) _
    refine XS.goto X8.here hx rfl (pc0 := 106) (pc' := 110) rfl (hb hby d231_106) (by decide) (by decide) ?_
    exact kg)
  obtain ⟨fs, hr, hrun, hended, hW, hsame⟩ := X8.leave (v := some (.int (1 : Int32))) (fun h => by rw [Bd.returns] at h; cases h)
  refine ⟨_, _, pr10 _ (retOut X8 hx (t := .boolean) Bd.returns rfl (Or.inl ⟨rfl, Or.inr (Or.inl rfl), _, rfl⟩) (hb hby d231_110) hr), hrun, hended, _, _, rfl, ?_, ⟨_, rfl⟩, hW, hsame.mono (by decide) (by decide)⟩
  show Q231 Z a_SHARED a_UPDATE a_EXCLUSIVE a_CHANGE a_KEEP h0 n0 _ T8.heap _
  rw [e8]
  exact ⟨rfl, N2, rfl⟩
theorem d232_0 : decode prog_51_method_4_code 0 = .ok (.aload_n 0, 1) := by decide +kernel
theorem d232_1 : decode prog_51_method_4_code 1 = .ok (.invokevirtual 38, 3) := by decide +kernel
theorem d232_4 : decode prog_51_method_4_code 4 = .ok (.tableswitch 36 0 4 #[46, 68, 83, 87, 87], 36) := by decide +kernel
theorem d232_91 : decode prog_51_method_4_code 91 = .ok (.aload_n 1, 1) := by decide +kernel
theorem d232_92 : decode prog_51_method_4_code 92 = .ok (.getstatic 13, 3) := by decide +kernel
theorem d232_95 : decode prog_51_method_4_code 95 = .ok (.if_acmp .eq 14, 3) := by decide +kernel
theorem d232_98 : decode prog_51_method_4_code 98 = .ok (.aload_n 1, 1) := by decide +kernel
theorem d232_99 : decode prog_51_method_4_code 99 = .ok (.getstatic 16, 3) := by decide +kernel
theorem d232_102 : decode prog_51_method_4_code 102 = .ok (.if_acmp .eq 7, 3) := by decide +kernel
theorem d232_105 : decode prog_51_method_4_code 105 = .ok (.iconst 1, 1) := by decide +kernel
theorem d232_106 : decode prog_51_method_4_code 106 = .ok (.goto 4, 3) := by decide +kernel
theorem d232_110 : decode prog_51_method_4_code 110 = .ok (.ireturn, 1) := by decide +kernel
theorem ef_232 (mM : MethodId) (x0 : Addr) (x1 : Addr) : entryFrame mM #[(.ref x0), (.ref x1)] 2 = mkF mM 0 #[.val (.ref x0), .val (.ref x1)] [] := by first | (simp [entryFrame, mkF, argsToLocals, Value.category]; done) | rfl
def Q232 (Z : State) (a_SHARED : Addr) (a_UPDATE : Addr) (a_EXCLUSIVE : Addr) (a_CHANGE : Addr) (a_KEEP : Addr) (h0 : Heap) (n0 : Nat) (v : Option Value) (h : Heap) (L : List Loc) : Prop := v = some (.int (1 : Int32)) ∧ Fr n0 L ∧ h = h0
set_option maxRecDepth 65536 in
set_option maxHeartbeats 40000000 in
theorem rm232 (l : Launch) (Z : State) (a0 : Array Value) (hw : ∀ d ∈ tables_1, d.before a0 Z = true) (ws : List Jvm.Cond) (a_SHARED : Addr) (a_UPDATE : Addr) (a_EXCLUSIVE : Addr) (a_CHANGE : Addr) (a_KEEP : Addr) (h0 : Heap) (n0 : Nat) (Z0 : n0 ≤ h0.size) (O : Old Z n0 h0) (S_SHARED : Sta Z Z.heap "com/example/settle/settle/service/LockTable$Mode" "SHARED" "Lcom/example/settle/settle/service/LockTable$Mode;" (.ref a_SHARED)) (E_SHARED : Exa Z Z.heap a_SHARED "com/example/settle/settle/service/LockTable$Mode") (S_UPDATE : Sta Z Z.heap "com/example/settle/settle/service/LockTable$Mode" "UPDATE" "Lcom/example/settle/settle/service/LockTable$Mode;" (.ref a_UPDATE)) (E_UPDATE : Exa Z Z.heap a_UPDATE "com/example/settle/settle/service/LockTable$Mode") (S_EXCLUSIVE : Sta Z Z.heap "com/example/settle/settle/service/LockTable$Mode" "EXCLUSIVE" "Lcom/example/settle/settle/service/LockTable$Mode;" (.ref a_EXCLUSIVE)) (E_EXCLUSIVE : Exa Z Z.heap a_EXCLUSIVE "com/example/settle/settle/service/LockTable$Mode") (S_CHANGE : Sta Z Z.heap "com/example/settle/settle/service/LockTable$Mode" "CHANGE" "Lcom/example/settle/settle/service/LockTable$Mode;" (.ref a_CHANGE)) (E_CHANGE : Exa Z Z.heap a_CHANGE "com/example/settle/settle/service/LockTable$Mode") (S_KEEP : Sta Z Z.heap "com/example/settle/settle/service/LockTable$Mode" "KEEP" "Lcom/example/settle/settle/service/LockTable$Mode;" (.ref a_KEEP)) (E_KEEP : Exa Z Z.heap a_KEEP "com/example/settle/settle/service/LockTable$Mode") (F_SHARED_ordinal : Fld Z Z.heap a_SHARED "java/lang/Enum" "ordinal" "I" (.int (0 : Int32))) (F_CHANGE_ordinal : Fld Z Z.heap a_CHANGE "java/lang/Enum" "ordinal" "I" (.int (3 : Int32))) (F_EXCLUSIVE_ordinal : Fld Z Z.heap a_EXCLUSIVE "java/lang/Enum" "ordinal" "I" (.int (2 : Int32))) (F_KEEP_ordinal : Fld Z Z.heap a_KEEP "java/lang/Enum" "ordinal" "I" (.int (4 : Int32))) (F_UPDATE_ordinal : Fld Z Z.heap a_UPDATE "java/lang/Enum" "ordinal" "I" (.int (1 : Int32))) :
    MetFree l (⟨"com/example/settle/settle/service/LockTable$Mode", "keepsOut", "(Lcom/example/settle/settle/service/LockTable$Mode;)Z"⟩ : MethodName) (head1 (Jvm.Cond.code (⟨"com/example/settle/settle/service/LockTable$Mode", "keepsOut", "(Lcom/example/settle/settle/service/LockTable$Mode;)Z"⟩ : MethodName) prog_51_method_4_code 2 (some .boolean) :: ws) ({ frames := 1, cells := 0, slots := 0, locals := 12 } : Room)) (fun aA uU => aA = #[(.ref a_CHANGE), (.ref a_EXCLUSIVE)] ∧ Z.Warmed39 uU.vm ∧ uU.heap = h0) (fun _ _ _ _ _ => True) (fun _ uU oO uU' => ∃ vV lL, oO = .returned vV ∧ Q232 Z a_SHARED a_UPDATE a_EXCLUSIVE a_CHANGE a_KEEP h0 n0 vV uU'.heap lL ∧ FrameEnd uU oO uU' lL ({ frames := 1, cells := 0, slots := 0, locals := 12 } : Room).cells ({ frames := 1, cells := 0, slots := 0, locals := 12 } : Room).slots) := by
  refine MetFree.of_bodySF (plainFor_of_name pn_1) hisR ?_
  intro pP eE sS mM args below meth cC s₁ Bd hml0 hP hK
  obtain ⟨rfl, hZ, hh⟩ := hP
  have hx := Bd.exec
  have hby := Bd.bytes
  have hml : cC.maxLocals = 2 := hml0
  have hown : sS.vm.findClass "com/example/settle/settle/service/LockTable$Mode" = some mM.cls := findClass_of_methodNamed Bd.named
  have hnm := (name_of_methodNamed Bd.named Bd.method).1
  have X0 : Stand pP l eE ({ frames := 1, cells := 0, slots := 0, locals := 12 } : Room) sS mM #[(.ref a_CHANGE), (.ref a_EXCLUSIVE)] below meth cC s₁ [] 0 0 := Stand.of_body Bd
  have e0 : s₁.heap = h0 := by rw [← hh, Bd.state]; rfl
  have N0 := Fr.nil n0
  have pre0 : ∀ tg, Steps pP.tables eE below (s₁.setTop (mkF mM 0 #[.val (.ref a_CHANGE), .val (.ref a_EXCLUSIVE)] [])) tg → Steps pP.tables eE below (s₁.setTop (entryFrame mM #[(.ref a_CHANGE), (.ref a_EXCLUSIVE)] 2)) tg := fun tg kg => castTop (ef_232 mM a_CHANGE a_EXCLUSIVE) kg
  have pr1 : ∀ tg, Steps pP.tables eE below (s₁.setTop (mkF mM 1 #[.val (.ref a_CHANGE), .val (.ref a_EXCLUSIVE)] [(.ref a_CHANGE)])) tg → Steps pP.tables eE below (s₁.setTop (entryFrame mM #[(.ref a_CHANGE), (.ref a_EXCLUSIVE)] 2)) tg := fun tg kg => pre0 _ (by
    show Steps pP.tables eE below (s₁.setTop (mkF mM 0 #[.val (.ref a_CHANGE), .val (.ref a_EXCLUSIVE)] [])) _
    refine XS.aloadN X0.here hx rfl (hb hby d232_0) rfl rfl ?_
    exact kg)
  obtain ⟨cq2, kq2, qa2, qb2, qc2⟩ := isOf hZ e0 (Exa.ext (O).2 E_CHANGE)
  obtain ⟨_, _, ⟨T2, L2, kk2, nn2⟩, -, X2, ⟨Lc2, hQ2, l2, y2, z2⟩, st2⟩ := X0.virtualBackUp hx (owner := "java/lang/Enum") (x := (⟨"com/example/settle/settle/service/LockTable$Mode", "ordinal", "()I"⟩ : MethodName)) (y := (⟨"java/lang/Enum", "ordinal", "()I"⟩ : MethodName)) hown (mvT hZ (hw _ (List.mem_of_getElem? (i := 21) rfl))) (mvT hZ (hw _ (List.mem_of_getElem? (i := 22) rfl))) (mvT hZ (hw _ (List.mem_of_getElem? (i := 23) rfl))) (by decide) (mvT hZ (hw _ (List.mem_of_getElem? (i := 25) rfl))) (mvT hZ (hw _ (List.mem_of_getElem? (i := 24) rfl))) (backOf (W := 0) (rm1 l Z a0 hw [] a_CHANGE (3 : Int32) h0 n0 Z0 (Fld.ext (O).2 F_CHANGE_ordinal)) hZ (hw _ (List.mem_of_getElem? (i := 27) rfl)) (hw _ (List.mem_of_getElem? (i := 26) rfl)) (by decide) (by decide)) qa2 qc2 (g := (mkF mM 1 #[.val (.ref a_CHANGE), .val (.ref a_EXCLUSIVE)] [(.ref a_CHANGE)])) rfl (by rw [hml]; rfl) (Steps.refl _) (argsL := []) (rest := []) (lenOf pd_0 rfl) rfl (by show 2 * 0 + _ ≤ _; exact Nat.le_of_eq rfl) (hb hby d232_1) (fun _ _ => ⟨rfl, e0, (by decide : 0 + 0 ≤ _), (by decide : 0 + 0 ≤ _)⟩)
  dsimp only [Pt.U, Pt.locs, Pt.cells, Pt.slots] at X2 l2 y2 z2 st2 hQ2
  subst l2 y2 z2
  obtain ⟨rfl, Nq2, e2⟩ := hQ2
  have N2 := Fr.app N0 Nq2
  have pr3 : ∀ tg, Steps pP.tables eE below (T2.setTop (mkF mM 4 #[.val (.ref a_CHANGE), .val (.ref a_EXCLUSIVE)] [(.int (3 : Int32))])) tg → Steps pP.tables eE below (s₁.setTop (entryFrame mM #[(.ref a_CHANGE), (.ref a_EXCLUSIVE)] 2)) tg := fun tg kg => pr1 _ (st2.trans kg)
  have pr4 : ∀ tg, Steps pP.tables eE below (T2.setTop (mkF mM 92 #[.val (.ref a_CHANGE), .val (.ref a_EXCLUSIVE)] [(.ref a_EXCLUSIVE)])) tg → Steps pP.tables eE below (s₁.setTop (entryFrame mM #[(.ref a_CHANGE), (.ref a_EXCLUSIVE)] 2)) tg := fun tg kg => pr3 _ (by
    show Steps pP.tables eE below (T2.setTop (mkF mM 4 #[.val (.ref a_CHANGE), .val (.ref a_EXCLUSIVE)] [(.int (3 : Int32))])) _
    refine XS.tswIn X2.here hx rfl (pc0 := 4) (pc' := 91) rfl (hb hby d232_4) rfl (by decide) (o := 87) (by decide) (by decide) (by decide) ?_
    show Steps pP.tables eE below (T2.setTop (mkF mM 91 #[.val (.ref a_CHANGE), .val (.ref a_EXCLUSIVE)] [])) _
    refine XS.aloadN X2.here hx rfl (hb hby d232_91) rfl rfl ?_
    exact kg)
  obtain ⟨T5, X5, e5, st5⟩ := getS2 X2 hx hZ hown (host := "") (Or.inl (hw _ (List.mem_of_getElem? (i := 31) rfl))) Via.refl e2 (Sta.ext (O).2 S_CHANGE) (g := (mkF mM 92 #[.val (.ref a_CHANGE), .val (.ref a_EXCLUSIVE)] [(.ref a_EXCLUSIVE)])) rfl (hb hby d232_92)
  have pr6 : ∀ tg, Steps pP.tables eE below (T5.setTop (mkF mM 95 #[.val (.ref a_CHANGE), .val (.ref a_EXCLUSIVE)] [(.ref a_CHANGE), (.ref a_EXCLUSIVE)])) tg → Steps pP.tables eE below (s₁.setTop (entryFrame mM #[(.ref a_CHANGE), (.ref a_EXCLUSIVE)] 2)) tg := fun tg kg => pr4 _ (st5 _ kg)
  have pr7 : ∀ tg, Steps pP.tables eE below (T5.setTop (mkF mM 99 #[.val (.ref a_CHANGE), .val (.ref a_EXCLUSIVE)] [(.ref a_EXCLUSIVE)])) tg → Steps pP.tables eE below (s₁.setTop (entryFrame mM #[(.ref a_CHANGE), (.ref a_EXCLUSIVE)] 2)) tg := fun tg kg => pr6 _ (by
    show Steps pP.tables eE below (T5.setTop (mkF mM 95 #[.val (.ref a_CHANGE), .val (.ref a_EXCLUSIVE)] [(.ref a_CHANGE), (.ref a_EXCLUSIVE)])) _
    refine Jvm.RoadKit.acmp (g := (mkF mM 95 #[.val (.ref a_CHANGE), .val (.ref a_EXCLUSIVE)] [(.ref a_CHANGE), (.ref a_EXCLUSIVE)])) X5 hx rfl rfl rfl (pc0 := 95) (pc' := 98) (same := false) rfl (hb hby d232_95) rfl (decide_eq_false fun q => (Fld.ne F_EXCLUSIVE_ordinal F_CHANGE_ordinal (by decide)) (Value.ref.inj q)) (by decide) (by decide) ?_
    show Steps pP.tables eE below (T5.setTop (mkF mM 98 #[.val (.ref a_CHANGE), .val (.ref a_EXCLUSIVE)] [])) _
    refine XS.aloadN X5.here hx rfl (hb hby d232_98) rfl rfl ?_
    exact kg)
  obtain ⟨T8, X8, e8, st8⟩ := getS2 X5 hx hZ hown (host := "") (Or.inl (hw _ (List.mem_of_getElem? (i := 32) rfl))) Via.refl e5 (Sta.ext (O).2 S_KEEP) (g := (mkF mM 99 #[.val (.ref a_CHANGE), .val (.ref a_EXCLUSIVE)] [(.ref a_EXCLUSIVE)])) rfl (hb hby d232_99)
  have pr9 : ∀ tg, Steps pP.tables eE below (T8.setTop (mkF mM 102 #[.val (.ref a_CHANGE), .val (.ref a_EXCLUSIVE)] [(.ref a_KEEP), (.ref a_EXCLUSIVE)])) tg → Steps pP.tables eE below (s₁.setTop (entryFrame mM #[(.ref a_CHANGE), (.ref a_EXCLUSIVE)] 2)) tg := fun tg kg => pr7 _ (st8 _ kg)
  have pr10 : ∀ tg, Steps pP.tables eE below (T8.setTop (mkF mM 110 #[.val (.ref a_CHANGE), .val (.ref a_EXCLUSIVE)] [(.int (1 : Int32))])) tg → Steps pP.tables eE below (s₁.setTop (entryFrame mM #[(.ref a_CHANGE), (.ref a_EXCLUSIVE)] 2)) tg := fun tg kg => pr9 _ (by
    show Steps pP.tables eE below (T8.setTop (mkF mM 102 #[.val (.ref a_CHANGE), .val (.ref a_EXCLUSIVE)] [(.ref a_KEEP), (.ref a_EXCLUSIVE)])) _
    refine Jvm.RoadKit.acmp (g := (mkF mM 102 #[.val (.ref a_CHANGE), .val (.ref a_EXCLUSIVE)] [(.ref a_KEEP), (.ref a_EXCLUSIVE)])) X8 hx rfl rfl rfl (pc0 := 102) (pc' := 105) (same := false) rfl (hb hby d232_102) rfl (decide_eq_false fun q => (Fld.ne F_EXCLUSIVE_ordinal F_KEEP_ordinal (by decide)) (Value.ref.inj q)) (by decide) (by decide) ?_
    show Steps pP.tables eE below (T8.setTop (mkF mM 105 #[.val (.ref a_CHANGE), .val (.ref a_EXCLUSIVE)] [])) _
    refine XS.iconst X8.here hx rfl (hb hby d232_105) ?_
    show Steps pP.tables eE below (T8.setTop (mkF mM 106 #[.val (.ref a_CHANGE), .val (.ref a_EXCLUSIVE)] [(.int (1 : Int32))])) _
    refine XS.goto X8.here hx rfl (pc0 := 106) (pc' := 110) rfl (hb hby d232_106) (by decide) (by decide) ?_
    exact kg)
  obtain ⟨fs, hr, hrun, hended, hW, hsame⟩ := X8.leave (v := some (.int (1 : Int32))) (fun h => by rw [Bd.returns] at h; cases h)
  refine ⟨_, _, pr10 _ (retOut X8 hx (t := .boolean) Bd.returns rfl (Or.inl ⟨rfl, Or.inr (Or.inl rfl), _, rfl⟩) (hb hby d232_110) hr), hrun, hended, _, _, rfl, ?_, ⟨_, rfl⟩, hW, hsame.mono (by decide) (by decide)⟩
  show Q232 Z a_SHARED a_UPDATE a_EXCLUSIVE a_CHANGE a_KEEP h0 n0 _ T8.heap _
  rw [e8]
  exact ⟨rfl, N2, rfl⟩
theorem d233_0 : decode prog_51_method_4_code 0 = .ok (.aload_n 0, 1) := by decide +kernel
theorem d233_1 : decode prog_51_method_4_code 1 = .ok (.invokevirtual 38, 3) := by decide +kernel
theorem d233_4 : decode prog_51_method_4_code 4 = .ok (.tableswitch 36 0 4 #[46, 68, 83, 87, 87], 36) := by decide +kernel
theorem d233_91 : decode prog_51_method_4_code 91 = .ok (.aload_n 1, 1) := by decide +kernel
theorem d233_92 : decode prog_51_method_4_code 92 = .ok (.getstatic 13, 3) := by decide +kernel
theorem d233_95 : decode prog_51_method_4_code 95 = .ok (.if_acmp .eq 14, 3) := by decide +kernel
theorem d233_109 : decode prog_51_method_4_code 109 = .ok (.iconst 0, 1) := by decide +kernel
theorem d233_110 : decode prog_51_method_4_code 110 = .ok (.ireturn, 1) := by decide +kernel
theorem ef_233 (mM : MethodId) (x0 : Addr) (x1 : Addr) : entryFrame mM #[(.ref x0), (.ref x1)] 2 = mkF mM 0 #[.val (.ref x0), .val (.ref x1)] [] := by first | (simp [entryFrame, mkF, argsToLocals, Value.category]; done) | rfl
def Q233 (Z : State) (a_SHARED : Addr) (a_UPDATE : Addr) (a_EXCLUSIVE : Addr) (a_CHANGE : Addr) (a_KEEP : Addr) (h0 : Heap) (n0 : Nat) (v : Option Value) (h : Heap) (L : List Loc) : Prop := v = some (.int (0 : Int32)) ∧ Fr n0 L ∧ h = h0
set_option maxRecDepth 65536 in
set_option maxHeartbeats 40000000 in
theorem rm233 (l : Launch) (Z : State) (a0 : Array Value) (hw : ∀ d ∈ tables_1, d.before a0 Z = true) (ws : List Jvm.Cond) (a_SHARED : Addr) (a_UPDATE : Addr) (a_EXCLUSIVE : Addr) (a_CHANGE : Addr) (a_KEEP : Addr) (h0 : Heap) (n0 : Nat) (Z0 : n0 ≤ h0.size) (O : Old Z n0 h0) (S_SHARED : Sta Z Z.heap "com/example/settle/settle/service/LockTable$Mode" "SHARED" "Lcom/example/settle/settle/service/LockTable$Mode;" (.ref a_SHARED)) (E_SHARED : Exa Z Z.heap a_SHARED "com/example/settle/settle/service/LockTable$Mode") (S_UPDATE : Sta Z Z.heap "com/example/settle/settle/service/LockTable$Mode" "UPDATE" "Lcom/example/settle/settle/service/LockTable$Mode;" (.ref a_UPDATE)) (E_UPDATE : Exa Z Z.heap a_UPDATE "com/example/settle/settle/service/LockTable$Mode") (S_EXCLUSIVE : Sta Z Z.heap "com/example/settle/settle/service/LockTable$Mode" "EXCLUSIVE" "Lcom/example/settle/settle/service/LockTable$Mode;" (.ref a_EXCLUSIVE)) (E_EXCLUSIVE : Exa Z Z.heap a_EXCLUSIVE "com/example/settle/settle/service/LockTable$Mode") (S_CHANGE : Sta Z Z.heap "com/example/settle/settle/service/LockTable$Mode" "CHANGE" "Lcom/example/settle/settle/service/LockTable$Mode;" (.ref a_CHANGE)) (E_CHANGE : Exa Z Z.heap a_CHANGE "com/example/settle/settle/service/LockTable$Mode") (S_KEEP : Sta Z Z.heap "com/example/settle/settle/service/LockTable$Mode" "KEEP" "Lcom/example/settle/settle/service/LockTable$Mode;" (.ref a_KEEP)) (E_KEEP : Exa Z Z.heap a_KEEP "com/example/settle/settle/service/LockTable$Mode") (F_SHARED_ordinal : Fld Z Z.heap a_SHARED "java/lang/Enum" "ordinal" "I" (.int (0 : Int32))) (F_CHANGE_ordinal : Fld Z Z.heap a_CHANGE "java/lang/Enum" "ordinal" "I" (.int (3 : Int32))) (F_EXCLUSIVE_ordinal : Fld Z Z.heap a_EXCLUSIVE "java/lang/Enum" "ordinal" "I" (.int (2 : Int32))) (F_KEEP_ordinal : Fld Z Z.heap a_KEEP "java/lang/Enum" "ordinal" "I" (.int (4 : Int32))) (F_UPDATE_ordinal : Fld Z Z.heap a_UPDATE "java/lang/Enum" "ordinal" "I" (.int (1 : Int32))) :
    MetFree l (⟨"com/example/settle/settle/service/LockTable$Mode", "keepsOut", "(Lcom/example/settle/settle/service/LockTable$Mode;)Z"⟩ : MethodName) (head1 (Jvm.Cond.code (⟨"com/example/settle/settle/service/LockTable$Mode", "keepsOut", "(Lcom/example/settle/settle/service/LockTable$Mode;)Z"⟩ : MethodName) prog_51_method_4_code 2 (some .boolean) :: ws) ({ frames := 1, cells := 0, slots := 0, locals := 12 } : Room)) (fun aA uU => aA = #[(.ref a_CHANGE), (.ref a_CHANGE)] ∧ Z.Warmed39 uU.vm ∧ uU.heap = h0) (fun _ _ _ _ _ => True) (fun _ uU oO uU' => ∃ vV lL, oO = .returned vV ∧ Q233 Z a_SHARED a_UPDATE a_EXCLUSIVE a_CHANGE a_KEEP h0 n0 vV uU'.heap lL ∧ FrameEnd uU oO uU' lL ({ frames := 1, cells := 0, slots := 0, locals := 12 } : Room).cells ({ frames := 1, cells := 0, slots := 0, locals := 12 } : Room).slots) := by
  refine MetFree.of_bodySF (plainFor_of_name pn_1) hisR ?_
  intro pP eE sS mM args below meth cC s₁ Bd hml0 hP hK
  obtain ⟨rfl, hZ, hh⟩ := hP
  have hx := Bd.exec
  have hby := Bd.bytes
  have hml : cC.maxLocals = 2 := hml0
  have hown : sS.vm.findClass "com/example/settle/settle/service/LockTable$Mode" = some mM.cls := findClass_of_methodNamed Bd.named
  have hnm := (name_of_methodNamed Bd.named Bd.method).1
  have X0 : Stand pP l eE ({ frames := 1, cells := 0, slots := 0, locals := 12 } : Room) sS mM #[(.ref a_CHANGE), (.ref a_CHANGE)] below meth cC s₁ [] 0 0 := Stand.of_body Bd
  have e0 : s₁.heap = h0 := by rw [← hh, Bd.state]; rfl
  have N0 := Fr.nil n0
  have pre0 : ∀ tg, Steps pP.tables eE below (s₁.setTop (mkF mM 0 #[.val (.ref a_CHANGE), .val (.ref a_CHANGE)] [])) tg → Steps pP.tables eE below (s₁.setTop (entryFrame mM #[(.ref a_CHANGE), (.ref a_CHANGE)] 2)) tg := fun tg kg => castTop (ef_233 mM a_CHANGE a_CHANGE) kg
  have pr1 : ∀ tg, Steps pP.tables eE below (s₁.setTop (mkF mM 1 #[.val (.ref a_CHANGE), .val (.ref a_CHANGE)] [(.ref a_CHANGE)])) tg → Steps pP.tables eE below (s₁.setTop (entryFrame mM #[(.ref a_CHANGE), (.ref a_CHANGE)] 2)) tg := fun tg kg => pre0 _ (by
    show Steps pP.tables eE below (s₁.setTop (mkF mM 0 #[.val (.ref a_CHANGE), .val (.ref a_CHANGE)] [])) _
    refine XS.aloadN X0.here hx rfl (hb hby d233_0) rfl rfl ?_
    exact kg)
  obtain ⟨cq2, kq2, qa2, qb2, qc2⟩ := isOf hZ e0 (Exa.ext (O).2 E_CHANGE)
  obtain ⟨_, _, ⟨T2, L2, kk2, nn2⟩, -, X2, ⟨Lc2, hQ2, l2, y2, z2⟩, st2⟩ := X0.virtualBackUp hx (owner := "java/lang/Enum") (x := (⟨"com/example/settle/settle/service/LockTable$Mode", "ordinal", "()I"⟩ : MethodName)) (y := (⟨"java/lang/Enum", "ordinal", "()I"⟩ : MethodName)) hown (mvT hZ (hw _ (List.mem_of_getElem? (i := 21) rfl))) (mvT hZ (hw _ (List.mem_of_getElem? (i := 22) rfl))) (mvT hZ (hw _ (List.mem_of_getElem? (i := 23) rfl))) (by decide) (mvT hZ (hw _ (List.mem_of_getElem? (i := 25) rfl))) (mvT hZ (hw _ (List.mem_of_getElem? (i := 24) rfl))) (backOf (W := 0) (rm1 l Z a0 hw [] a_CHANGE (3 : Int32) h0 n0 Z0 (Fld.ext (O).2 F_CHANGE_ordinal)) hZ (hw _ (List.mem_of_getElem? (i := 27) rfl)) (hw _ (List.mem_of_getElem? (i := 26) rfl)) (by decide) (by decide)) qa2 qc2 (g := (mkF mM 1 #[.val (.ref a_CHANGE), .val (.ref a_CHANGE)] [(.ref a_CHANGE)])) rfl (by rw [hml]; rfl) (Steps.refl _) (argsL := []) (rest := []) (lenOf pd_0 rfl) rfl (by show 2 * 0 + _ ≤ _; exact Nat.le_of_eq rfl) (hb hby d233_1) (fun _ _ => ⟨rfl, e0, (by decide : 0 + 0 ≤ _), (by decide : 0 + 0 ≤ _)⟩)
  dsimp only [Pt.U, Pt.locs, Pt.cells, Pt.slots] at X2 l2 y2 z2 st2 hQ2
  subst l2 y2 z2
  obtain ⟨rfl, Nq2, e2⟩ := hQ2
  have N2 := Fr.app N0 Nq2
  have pr3 : ∀ tg, Steps pP.tables eE below (T2.setTop (mkF mM 4 #[.val (.ref a_CHANGE), .val (.ref a_CHANGE)] [(.int (3 : Int32))])) tg → Steps pP.tables eE below (s₁.setTop (entryFrame mM #[(.ref a_CHANGE), (.ref a_CHANGE)] 2)) tg := fun tg kg => pr1 _ (st2.trans kg)
  have pr4 : ∀ tg, Steps pP.tables eE below (T2.setTop (mkF mM 92 #[.val (.ref a_CHANGE), .val (.ref a_CHANGE)] [(.ref a_CHANGE)])) tg → Steps pP.tables eE below (s₁.setTop (entryFrame mM #[(.ref a_CHANGE), (.ref a_CHANGE)] 2)) tg := fun tg kg => pr3 _ (by
    show Steps pP.tables eE below (T2.setTop (mkF mM 4 #[.val (.ref a_CHANGE), .val (.ref a_CHANGE)] [(.int (3 : Int32))])) _
    refine XS.tswIn X2.here hx rfl (pc0 := 4) (pc' := 91) rfl (hb hby d233_4) rfl (by decide) (o := 87) (by decide) (by decide) (by decide) ?_
    show Steps pP.tables eE below (T2.setTop (mkF mM 91 #[.val (.ref a_CHANGE), .val (.ref a_CHANGE)] [])) _
    refine XS.aloadN X2.here hx rfl (hb hby d233_91) rfl rfl ?_
    exact kg)
  obtain ⟨T5, X5, e5, st5⟩ := getS2 X2 hx hZ hown (host := "") (Or.inl (hw _ (List.mem_of_getElem? (i := 31) rfl))) Via.refl e2 (Sta.ext (O).2 S_CHANGE) (g := (mkF mM 92 #[.val (.ref a_CHANGE), .val (.ref a_CHANGE)] [(.ref a_CHANGE)])) rfl (hb hby d233_92)
  have pr6 : ∀ tg, Steps pP.tables eE below (T5.setTop (mkF mM 95 #[.val (.ref a_CHANGE), .val (.ref a_CHANGE)] [(.ref a_CHANGE), (.ref a_CHANGE)])) tg → Steps pP.tables eE below (s₁.setTop (entryFrame mM #[(.ref a_CHANGE), (.ref a_CHANGE)] 2)) tg := fun tg kg => pr4 _ (st5 _ kg)
  have pr7 : ∀ tg, Steps pP.tables eE below (T5.setTop (mkF mM 110 #[.val (.ref a_CHANGE), .val (.ref a_CHANGE)] [(.int (0 : Int32))])) tg → Steps pP.tables eE below (s₁.setTop (entryFrame mM #[(.ref a_CHANGE), (.ref a_CHANGE)] 2)) tg := fun tg kg => pr6 _ (by
    show Steps pP.tables eE below (T5.setTop (mkF mM 95 #[.val (.ref a_CHANGE), .val (.ref a_CHANGE)] [(.ref a_CHANGE), (.ref a_CHANGE)])) _
    refine Jvm.RoadKit.acmp (g := (mkF mM 95 #[.val (.ref a_CHANGE), .val (.ref a_CHANGE)] [(.ref a_CHANGE), (.ref a_CHANGE)])) X5 hx rfl rfl rfl (pc0 := 95) (pc' := 109) (same := true) rfl (hb hby d233_95) rfl (decide_eq_true rfl) (by decide) (by decide) ?_
    show Steps pP.tables eE below (T5.setTop (mkF mM 109 #[.val (.ref a_CHANGE), .val (.ref a_CHANGE)] [])) _
    refine XS.iconst X5.here hx rfl (hb hby d233_109) ?_
    exact kg)
  obtain ⟨fs, hr, hrun, hended, hW, hsame⟩ := X5.leave (v := some (.int (0 : Int32))) (fun h => by rw [Bd.returns] at h; cases h)
  refine ⟨_, _, pr7 _ (retOut X5 hx (t := .boolean) Bd.returns rfl (Or.inl ⟨rfl, Or.inr (Or.inl rfl), _, rfl⟩) (hb hby d233_110) hr), hrun, hended, _, _, rfl, ?_, ⟨_, rfl⟩, hW, hsame.mono (by decide) (by decide)⟩
  show Q233 Z a_SHARED a_UPDATE a_EXCLUSIVE a_CHANGE a_KEEP h0 n0 _ T5.heap _
  rw [e5]
  exact ⟨rfl, N2, rfl⟩
theorem d234_0 : decode prog_51_method_4_code 0 = .ok (.aload_n 0, 1) := by decide +kernel
theorem d234_1 : decode prog_51_method_4_code 1 = .ok (.invokevirtual 38, 3) := by decide +kernel
theorem d234_4 : decode prog_51_method_4_code 4 = .ok (.tableswitch 36 0 4 #[46, 68, 83, 87, 87], 36) := by decide +kernel
theorem d234_91 : decode prog_51_method_4_code 91 = .ok (.aload_n 1, 1) := by decide +kernel
theorem d234_92 : decode prog_51_method_4_code 92 = .ok (.getstatic 13, 3) := by decide +kernel
theorem d234_95 : decode prog_51_method_4_code 95 = .ok (.if_acmp .eq 14, 3) := by decide +kernel
theorem d234_98 : decode prog_51_method_4_code 98 = .ok (.aload_n 1, 1) := by decide +kernel
theorem d234_99 : decode prog_51_method_4_code 99 = .ok (.getstatic 16, 3) := by decide +kernel
theorem d234_102 : decode prog_51_method_4_code 102 = .ok (.if_acmp .eq 7, 3) := by decide +kernel
theorem d234_109 : decode prog_51_method_4_code 109 = .ok (.iconst 0, 1) := by decide +kernel
theorem d234_110 : decode prog_51_method_4_code 110 = .ok (.ireturn, 1) := by decide +kernel
theorem ef_234 (mM : MethodId) (x0 : Addr) (x1 : Addr) : entryFrame mM #[(.ref x0), (.ref x1)] 2 = mkF mM 0 #[.val (.ref x0), .val (.ref x1)] [] := by first | (simp [entryFrame, mkF, argsToLocals, Value.category]; done) | rfl
def Q234 (Z : State) (a_SHARED : Addr) (a_UPDATE : Addr) (a_EXCLUSIVE : Addr) (a_CHANGE : Addr) (a_KEEP : Addr) (h0 : Heap) (n0 : Nat) (v : Option Value) (h : Heap) (L : List Loc) : Prop := v = some (.int (0 : Int32)) ∧ Fr n0 L ∧ h = h0
set_option maxRecDepth 65536 in
set_option maxHeartbeats 40000000 in
theorem rm234 (l : Launch) (Z : State) (a0 : Array Value) (hw : ∀ d ∈ tables_1, d.before a0 Z = true) (ws : List Jvm.Cond) (a_SHARED : Addr) (a_UPDATE : Addr) (a_EXCLUSIVE : Addr) (a_CHANGE : Addr) (a_KEEP : Addr) (h0 : Heap) (n0 : Nat) (Z0 : n0 ≤ h0.size) (O : Old Z n0 h0) (S_SHARED : Sta Z Z.heap "com/example/settle/settle/service/LockTable$Mode" "SHARED" "Lcom/example/settle/settle/service/LockTable$Mode;" (.ref a_SHARED)) (E_SHARED : Exa Z Z.heap a_SHARED "com/example/settle/settle/service/LockTable$Mode") (S_UPDATE : Sta Z Z.heap "com/example/settle/settle/service/LockTable$Mode" "UPDATE" "Lcom/example/settle/settle/service/LockTable$Mode;" (.ref a_UPDATE)) (E_UPDATE : Exa Z Z.heap a_UPDATE "com/example/settle/settle/service/LockTable$Mode") (S_EXCLUSIVE : Sta Z Z.heap "com/example/settle/settle/service/LockTable$Mode" "EXCLUSIVE" "Lcom/example/settle/settle/service/LockTable$Mode;" (.ref a_EXCLUSIVE)) (E_EXCLUSIVE : Exa Z Z.heap a_EXCLUSIVE "com/example/settle/settle/service/LockTable$Mode") (S_CHANGE : Sta Z Z.heap "com/example/settle/settle/service/LockTable$Mode" "CHANGE" "Lcom/example/settle/settle/service/LockTable$Mode;" (.ref a_CHANGE)) (E_CHANGE : Exa Z Z.heap a_CHANGE "com/example/settle/settle/service/LockTable$Mode") (S_KEEP : Sta Z Z.heap "com/example/settle/settle/service/LockTable$Mode" "KEEP" "Lcom/example/settle/settle/service/LockTable$Mode;" (.ref a_KEEP)) (E_KEEP : Exa Z Z.heap a_KEEP "com/example/settle/settle/service/LockTable$Mode") (F_SHARED_ordinal : Fld Z Z.heap a_SHARED "java/lang/Enum" "ordinal" "I" (.int (0 : Int32))) (F_CHANGE_ordinal : Fld Z Z.heap a_CHANGE "java/lang/Enum" "ordinal" "I" (.int (3 : Int32))) (F_EXCLUSIVE_ordinal : Fld Z Z.heap a_EXCLUSIVE "java/lang/Enum" "ordinal" "I" (.int (2 : Int32))) (F_KEEP_ordinal : Fld Z Z.heap a_KEEP "java/lang/Enum" "ordinal" "I" (.int (4 : Int32))) (F_UPDATE_ordinal : Fld Z Z.heap a_UPDATE "java/lang/Enum" "ordinal" "I" (.int (1 : Int32))) :
    MetFree l (⟨"com/example/settle/settle/service/LockTable$Mode", "keepsOut", "(Lcom/example/settle/settle/service/LockTable$Mode;)Z"⟩ : MethodName) (head1 (Jvm.Cond.code (⟨"com/example/settle/settle/service/LockTable$Mode", "keepsOut", "(Lcom/example/settle/settle/service/LockTable$Mode;)Z"⟩ : MethodName) prog_51_method_4_code 2 (some .boolean) :: ws) ({ frames := 1, cells := 0, slots := 0, locals := 12 } : Room)) (fun aA uU => aA = #[(.ref a_CHANGE), (.ref a_KEEP)] ∧ Z.Warmed39 uU.vm ∧ uU.heap = h0) (fun _ _ _ _ _ => True) (fun _ uU oO uU' => ∃ vV lL, oO = .returned vV ∧ Q234 Z a_SHARED a_UPDATE a_EXCLUSIVE a_CHANGE a_KEEP h0 n0 vV uU'.heap lL ∧ FrameEnd uU oO uU' lL ({ frames := 1, cells := 0, slots := 0, locals := 12 } : Room).cells ({ frames := 1, cells := 0, slots := 0, locals := 12 } : Room).slots) := by
  refine MetFree.of_bodySF (plainFor_of_name pn_1) hisR ?_
  intro pP eE sS mM args below meth cC s₁ Bd hml0 hP hK
  obtain ⟨rfl, hZ, hh⟩ := hP
  have hx := Bd.exec
  have hby := Bd.bytes
  have hml : cC.maxLocals = 2 := hml0
  have hown : sS.vm.findClass "com/example/settle/settle/service/LockTable$Mode" = some mM.cls := findClass_of_methodNamed Bd.named
  have hnm := (name_of_methodNamed Bd.named Bd.method).1
  have X0 : Stand pP l eE ({ frames := 1, cells := 0, slots := 0, locals := 12 } : Room) sS mM #[(.ref a_CHANGE), (.ref a_KEEP)] below meth cC s₁ [] 0 0 := Stand.of_body Bd
  have e0 : s₁.heap = h0 := by rw [← hh, Bd.state]; rfl
  have N0 := Fr.nil n0
  have pre0 : ∀ tg, Steps pP.tables eE below (s₁.setTop (mkF mM 0 #[.val (.ref a_CHANGE), .val (.ref a_KEEP)] [])) tg → Steps pP.tables eE below (s₁.setTop (entryFrame mM #[(.ref a_CHANGE), (.ref a_KEEP)] 2)) tg := fun tg kg => castTop (ef_234 mM a_CHANGE a_KEEP) kg
  have pr1 : ∀ tg, Steps pP.tables eE below (s₁.setTop (mkF mM 1 #[.val (.ref a_CHANGE), .val (.ref a_KEEP)] [(.ref a_CHANGE)])) tg → Steps pP.tables eE below (s₁.setTop (entryFrame mM #[(.ref a_CHANGE), (.ref a_KEEP)] 2)) tg := fun tg kg => pre0 _ (by
    show Steps pP.tables eE below (s₁.setTop (mkF mM 0 #[.val (.ref a_CHANGE), .val (.ref a_KEEP)] [])) _
    refine XS.aloadN X0.here hx rfl (hb hby d234_0) rfl rfl ?_
    exact kg)
  obtain ⟨cq2, kq2, qa2, qb2, qc2⟩ := isOf hZ e0 (Exa.ext (O).2 E_CHANGE)
  obtain ⟨_, _, ⟨T2, L2, kk2, nn2⟩, -, X2, ⟨Lc2, hQ2, l2, y2, z2⟩, st2⟩ := X0.virtualBackUp hx (owner := "java/lang/Enum") (x := (⟨"com/example/settle/settle/service/LockTable$Mode", "ordinal", "()I"⟩ : MethodName)) (y := (⟨"java/lang/Enum", "ordinal", "()I"⟩ : MethodName)) hown (mvT hZ (hw _ (List.mem_of_getElem? (i := 21) rfl))) (mvT hZ (hw _ (List.mem_of_getElem? (i := 22) rfl))) (mvT hZ (hw _ (List.mem_of_getElem? (i := 23) rfl))) (by decide) (mvT hZ (hw _ (List.mem_of_getElem? (i := 25) rfl))) (mvT hZ (hw _ (List.mem_of_getElem? (i := 24) rfl))) (backOf (W := 0) (rm1 l Z a0 hw [] a_CHANGE (3 : Int32) h0 n0 Z0 (Fld.ext (O).2 F_CHANGE_ordinal)) hZ (hw _ (List.mem_of_getElem? (i := 27) rfl)) (hw _ (List.mem_of_getElem? (i := 26) rfl)) (by decide) (by decide)) qa2 qc2 (g := (mkF mM 1 #[.val (.ref a_CHANGE), .val (.ref a_KEEP)] [(.ref a_CHANGE)])) rfl (by rw [hml]; rfl) (Steps.refl _) (argsL := []) (rest := []) (lenOf pd_0 rfl) rfl (by show 2 * 0 + _ ≤ _; exact Nat.le_of_eq rfl) (hb hby d234_1) (fun _ _ => ⟨rfl, e0, (by decide : 0 + 0 ≤ _), (by decide : 0 + 0 ≤ _)⟩)
  dsimp only [Pt.U, Pt.locs, Pt.cells, Pt.slots] at X2 l2 y2 z2 st2 hQ2
  subst l2 y2 z2
  obtain ⟨rfl, Nq2, e2⟩ := hQ2
  have N2 := Fr.app N0 Nq2
  have pr3 : ∀ tg, Steps pP.tables eE below (T2.setTop (mkF mM 4 #[.val (.ref a_CHANGE), .val (.ref a_KEEP)] [(.int (3 : Int32))])) tg → Steps pP.tables eE below (s₁.setTop (entryFrame mM #[(.ref a_CHANGE), (.ref a_KEEP)] 2)) tg := fun tg kg => pr1 _ (st2.trans kg)
  have pr4 : ∀ tg, Steps pP.tables eE below (T2.setTop (mkF mM 92 #[.val (.ref a_CHANGE), .val (.ref a_KEEP)] [(.ref a_KEEP)])) tg → Steps pP.tables eE below (s₁.setTop (entryFrame mM #[(.ref a_CHANGE), (.ref a_KEEP)] 2)) tg := fun tg kg => pr3 _ (by
    show Steps pP.tables eE below (T2.setTop (mkF mM 4 #[.val (.ref a_CHANGE), .val (.ref a_KEEP)] [(.int (3 : Int32))])) _
    refine XS.tswIn X2.here hx rfl (pc0 := 4) (pc' := 91) rfl (hb hby d234_4) rfl (by decide) (o := 87) (by decide) (by decide) (by decide) ?_
    show Steps pP.tables eE below (T2.setTop (mkF mM 91 #[.val (.ref a_CHANGE), .val (.ref a_KEEP)] [])) _
    refine XS.aloadN X2.here hx rfl (hb hby d234_91) rfl rfl ?_
    exact kg)
  obtain ⟨T5, X5, e5, st5⟩ := getS2 X2 hx hZ hown (host := "") (Or.inl (hw _ (List.mem_of_getElem? (i := 31) rfl))) Via.refl e2 (Sta.ext (O).2 S_CHANGE) (g := (mkF mM 92 #[.val (.ref a_CHANGE), .val (.ref a_KEEP)] [(.ref a_KEEP)])) rfl (hb hby d234_92)
  have pr6 : ∀ tg, Steps pP.tables eE below (T5.setTop (mkF mM 95 #[.val (.ref a_CHANGE), .val (.ref a_KEEP)] [(.ref a_CHANGE), (.ref a_KEEP)])) tg → Steps pP.tables eE below (s₁.setTop (entryFrame mM #[(.ref a_CHANGE), (.ref a_KEEP)] 2)) tg := fun tg kg => pr4 _ (st5 _ kg)
  have pr7 : ∀ tg, Steps pP.tables eE below (T5.setTop (mkF mM 99 #[.val (.ref a_CHANGE), .val (.ref a_KEEP)] [(.ref a_KEEP)])) tg → Steps pP.tables eE below (s₁.setTop (entryFrame mM #[(.ref a_CHANGE), (.ref a_KEEP)] 2)) tg := fun tg kg => pr6 _ (by
    show Steps pP.tables eE below (T5.setTop (mkF mM 95 #[.val (.ref a_CHANGE), .val (.ref a_KEEP)] [(.ref a_CHANGE), (.ref a_KEEP)])) _
    refine Jvm.RoadKit.acmp (g := (mkF mM 95 #[.val (.ref a_CHANGE), .val (.ref a_KEEP)] [(.ref a_CHANGE), (.ref a_KEEP)])) X5 hx rfl rfl rfl (pc0 := 95) (pc' := 98) (same := false) rfl (hb hby d234_95) rfl (decide_eq_false fun q => (Fld.ne F_KEEP_ordinal F_CHANGE_ordinal (by decide)) (Value.ref.inj q)) (by decide) (by decide) ?_
    show Steps pP.tables eE below (T5.setTop (mkF mM 98 #[.val (.ref a_CHANGE), .val (.ref a_KEEP)] [])) _
    refine XS.aloadN X5.here hx rfl (hb hby d234_98) rfl rfl ?_
    exact kg)
  obtain ⟨T8, X8, e8, st8⟩ := getS2 X5 hx hZ hown (host := "") (Or.inl (hw _ (List.mem_of_getElem? (i := 32) rfl))) Via.refl e5 (Sta.ext (O).2 S_KEEP) (g := (mkF mM 99 #[.val (.ref a_CHANGE), .val (.ref a_KEEP)] [(.ref a_KEEP)])) rfl (hb hby d234_99)
  have pr9 : ∀ tg, Steps pP.tables eE below (T8.setTop (mkF mM 102 #[.val (.ref a_CHANGE), .val (.ref a_KEEP)] [(.ref a_KEEP), (.ref a_KEEP)])) tg → Steps pP.tables eE below (s₁.setTop (entryFrame mM #[(.ref a_CHANGE), (.ref a_KEEP)] 2)) tg := fun tg kg => pr7 _ (st8 _ kg)
  have pr10 : ∀ tg, Steps pP.tables eE below (T8.setTop (mkF mM 110 #[.val (.ref a_CHANGE), .val (.ref a_KEEP)] [(.int (0 : Int32))])) tg → Steps pP.tables eE below (s₁.setTop (entryFrame mM #[(.ref a_CHANGE), (.ref a_KEEP)] 2)) tg := fun tg kg => pr9 _ (by
    show Steps pP.tables eE below (T8.setTop (mkF mM 102 #[.val (.ref a_CHANGE), .val (.ref a_KEEP)] [(.ref a_KEEP), (.ref a_KEEP)])) _
    refine Jvm.RoadKit.acmp (g := (mkF mM 102 #[.val (.ref a_CHANGE), .val (.ref a_KEEP)] [(.ref a_KEEP), (.ref a_KEEP)])) X8 hx rfl rfl rfl (pc0 := 102) (pc' := 109) (same := true) rfl (hb hby d234_102) rfl (decide_eq_true rfl) (by decide) (by decide) ?_
    show Steps pP.tables eE below (T8.setTop (mkF mM 109 #[.val (.ref a_CHANGE), .val (.ref a_KEEP)] [])) _
    refine XS.iconst X8.here hx rfl (hb hby d234_109) ?_
    exact kg)
  obtain ⟨fs, hr, hrun, hended, hW, hsame⟩ := X8.leave (v := some (.int (0 : Int32))) (fun h => by rw [Bd.returns] at h; cases h)
  refine ⟨_, _, pr10 _ (retOut X8 hx (t := .boolean) Bd.returns rfl (Or.inl ⟨rfl, Or.inr (Or.inl rfl), _, rfl⟩) (hb hby d234_110) hr), hrun, hended, _, _, rfl, ?_, ⟨_, rfl⟩, hW, hsame.mono (by decide) (by decide)⟩
  show Q234 Z a_SHARED a_UPDATE a_EXCLUSIVE a_CHANGE a_KEEP h0 n0 _ T8.heap _
  rw [e8]
  exact ⟨rfl, N2, rfl⟩
theorem d240_0 : decode prog_51_method_4_code 0 = .ok (.aload_n 0, 1) := by decide +kernel
theorem d240_1 : decode prog_51_method_4_code 1 = .ok (.invokevirtual 38, 3) := by decide +kernel
theorem d240_4 : decode prog_51_method_4_code 4 = .ok (.tableswitch 36 0 4 #[46, 68, 83, 87, 87], 36) := by decide +kernel
theorem d240_91 : decode prog_51_method_4_code 91 = .ok (.aload_n 1, 1) := by decide +kernel
theorem d240_92 : decode prog_51_method_4_code 92 = .ok (.getstatic 13, 3) := by decide +kernel
theorem d240_95 : decode prog_51_method_4_code 95 = .ok (.if_acmp .eq 14, 3) := by decide +kernel
theorem d240_98 : decode prog_51_method_4_code 98 = .ok (.aload_n 1, 1) := by decide +kernel
theorem d240_99 : decode prog_51_method_4_code 99 = .ok (.getstatic 16, 3) := by decide +kernel
theorem d240_102 : decode prog_51_method_4_code 102 = .ok (.if_acmp .eq 7, 3) := by decide +kernel
theorem d240_105 : decode prog_51_method_4_code 105 = .ok (.iconst 1, 1) := by decide +kernel
theorem d240_106 : decode prog_51_method_4_code 106 = .ok (.goto 4, 3) := by decide +kernel
theorem d240_110 : decode prog_51_method_4_code 110 = .ok (.ireturn, 1) := by decide +kernel
theorem ef_240 (mM : MethodId) (x0 : Addr) (x1 : Addr) : entryFrame mM #[(.ref x0), (.ref x1)] 2 = mkF mM 0 #[.val (.ref x0), .val (.ref x1)] [] := by first | (simp [entryFrame, mkF, argsToLocals, Value.category]; done) | rfl
def Q240 (Z : State) (a_SHARED : Addr) (a_UPDATE : Addr) (a_EXCLUSIVE : Addr) (a_CHANGE : Addr) (a_KEEP : Addr) (h0 : Heap) (n0 : Nat) (v : Option Value) (h : Heap) (L : List Loc) : Prop := v = some (.int (1 : Int32)) ∧ Fr n0 L ∧ h = h0
set_option maxRecDepth 65536 in
set_option maxHeartbeats 40000000 in
theorem rm240 (l : Launch) (Z : State) (a0 : Array Value) (hw : ∀ d ∈ tables_1, d.before a0 Z = true) (ws : List Jvm.Cond) (a_SHARED : Addr) (a_UPDATE : Addr) (a_EXCLUSIVE : Addr) (a_CHANGE : Addr) (a_KEEP : Addr) (h0 : Heap) (n0 : Nat) (Z0 : n0 ≤ h0.size) (O : Old Z n0 h0) (S_SHARED : Sta Z Z.heap "com/example/settle/settle/service/LockTable$Mode" "SHARED" "Lcom/example/settle/settle/service/LockTable$Mode;" (.ref a_SHARED)) (E_SHARED : Exa Z Z.heap a_SHARED "com/example/settle/settle/service/LockTable$Mode") (S_UPDATE : Sta Z Z.heap "com/example/settle/settle/service/LockTable$Mode" "UPDATE" "Lcom/example/settle/settle/service/LockTable$Mode;" (.ref a_UPDATE)) (E_UPDATE : Exa Z Z.heap a_UPDATE "com/example/settle/settle/service/LockTable$Mode") (S_EXCLUSIVE : Sta Z Z.heap "com/example/settle/settle/service/LockTable$Mode" "EXCLUSIVE" "Lcom/example/settle/settle/service/LockTable$Mode;" (.ref a_EXCLUSIVE)) (E_EXCLUSIVE : Exa Z Z.heap a_EXCLUSIVE "com/example/settle/settle/service/LockTable$Mode") (S_CHANGE : Sta Z Z.heap "com/example/settle/settle/service/LockTable$Mode" "CHANGE" "Lcom/example/settle/settle/service/LockTable$Mode;" (.ref a_CHANGE)) (E_CHANGE : Exa Z Z.heap a_CHANGE "com/example/settle/settle/service/LockTable$Mode") (S_KEEP : Sta Z Z.heap "com/example/settle/settle/service/LockTable$Mode" "KEEP" "Lcom/example/settle/settle/service/LockTable$Mode;" (.ref a_KEEP)) (E_KEEP : Exa Z Z.heap a_KEEP "com/example/settle/settle/service/LockTable$Mode") (F_SHARED_ordinal : Fld Z Z.heap a_SHARED "java/lang/Enum" "ordinal" "I" (.int (0 : Int32))) (F_CHANGE_ordinal : Fld Z Z.heap a_CHANGE "java/lang/Enum" "ordinal" "I" (.int (3 : Int32))) (F_EXCLUSIVE_ordinal : Fld Z Z.heap a_EXCLUSIVE "java/lang/Enum" "ordinal" "I" (.int (2 : Int32))) (F_KEEP_ordinal : Fld Z Z.heap a_KEEP "java/lang/Enum" "ordinal" "I" (.int (4 : Int32))) (F_UPDATE_ordinal : Fld Z Z.heap a_UPDATE "java/lang/Enum" "ordinal" "I" (.int (1 : Int32))) :
    MetFree l (⟨"com/example/settle/settle/service/LockTable$Mode", "keepsOut", "(Lcom/example/settle/settle/service/LockTable$Mode;)Z"⟩ : MethodName) (head1 (Jvm.Cond.code (⟨"com/example/settle/settle/service/LockTable$Mode", "keepsOut", "(Lcom/example/settle/settle/service/LockTable$Mode;)Z"⟩ : MethodName) prog_51_method_4_code 2 (some .boolean) :: ws) ({ frames := 1, cells := 0, slots := 0, locals := 12 } : Room)) (fun aA uU => aA = #[(.ref a_KEEP), (.ref a_SHARED)] ∧ Z.Warmed39 uU.vm ∧ uU.heap = h0) (fun _ _ _ _ _ => True) (fun _ uU oO uU' => ∃ vV lL, oO = .returned vV ∧ Q240 Z a_SHARED a_UPDATE a_EXCLUSIVE a_CHANGE a_KEEP h0 n0 vV uU'.heap lL ∧ FrameEnd uU oO uU' lL ({ frames := 1, cells := 0, slots := 0, locals := 12 } : Room).cells ({ frames := 1, cells := 0, slots := 0, locals := 12 } : Room).slots) := by
  refine MetFree.of_bodySF (plainFor_of_name pn_1) hisR ?_
  intro pP eE sS mM args below meth cC s₁ Bd hml0 hP hK
  obtain ⟨rfl, hZ, hh⟩ := hP
  have hx := Bd.exec
  have hby := Bd.bytes
  have hml : cC.maxLocals = 2 := hml0
  have hown : sS.vm.findClass "com/example/settle/settle/service/LockTable$Mode" = some mM.cls := findClass_of_methodNamed Bd.named
  have hnm := (name_of_methodNamed Bd.named Bd.method).1
  have X0 : Stand pP l eE ({ frames := 1, cells := 0, slots := 0, locals := 12 } : Room) sS mM #[(.ref a_KEEP), (.ref a_SHARED)] below meth cC s₁ [] 0 0 := Stand.of_body Bd
  have e0 : s₁.heap = h0 := by rw [← hh, Bd.state]; rfl
  have N0 := Fr.nil n0
  have pre0 : ∀ tg, Steps pP.tables eE below (s₁.setTop (mkF mM 0 #[.val (.ref a_KEEP), .val (.ref a_SHARED)] [])) tg → Steps pP.tables eE below (s₁.setTop (entryFrame mM #[(.ref a_KEEP), (.ref a_SHARED)] 2)) tg := fun tg kg => castTop (ef_240 mM a_KEEP a_SHARED) kg
  have pr1 : ∀ tg, Steps pP.tables eE below (s₁.setTop (mkF mM 1 #[.val (.ref a_KEEP), .val (.ref a_SHARED)] [(.ref a_KEEP)])) tg → Steps pP.tables eE below (s₁.setTop (entryFrame mM #[(.ref a_KEEP), (.ref a_SHARED)] 2)) tg := fun tg kg => pre0 _ (by
    show Steps pP.tables eE below (s₁.setTop (mkF mM 0 #[.val (.ref a_KEEP), .val (.ref a_SHARED)] [])) _
    refine XS.aloadN X0.here hx rfl (hb hby d240_0) rfl rfl ?_
    exact kg)
  obtain ⟨cq2, kq2, qa2, qb2, qc2⟩ := isOf hZ e0 (Exa.ext (O).2 E_KEEP)
  obtain ⟨_, _, ⟨T2, L2, kk2, nn2⟩, -, X2, ⟨Lc2, hQ2, l2, y2, z2⟩, st2⟩ := X0.virtualBackUp hx (owner := "java/lang/Enum") (x := (⟨"com/example/settle/settle/service/LockTable$Mode", "ordinal", "()I"⟩ : MethodName)) (y := (⟨"java/lang/Enum", "ordinal", "()I"⟩ : MethodName)) hown (mvT hZ (hw _ (List.mem_of_getElem? (i := 21) rfl))) (mvT hZ (hw _ (List.mem_of_getElem? (i := 22) rfl))) (mvT hZ (hw _ (List.mem_of_getElem? (i := 23) rfl))) (by decide) (mvT hZ (hw _ (List.mem_of_getElem? (i := 25) rfl))) (mvT hZ (hw _ (List.mem_of_getElem? (i := 24) rfl))) (backOf (W := 0) (rm1 l Z a0 hw [] a_KEEP (4 : Int32) h0 n0 Z0 (Fld.ext (O).2 F_KEEP_ordinal)) hZ (hw _ (List.mem_of_getElem? (i := 27) rfl)) (hw _ (List.mem_of_getElem? (i := 26) rfl)) (by decide) (by decide)) qa2 qc2 (g := (mkF mM 1 #[.val (.ref a_KEEP), .val (.ref a_SHARED)] [(.ref a_KEEP)])) rfl (by rw [hml]; rfl) (Steps.refl _) (argsL := []) (rest := []) (lenOf pd_0 rfl) rfl (by show 2 * 0 + _ ≤ _; exact Nat.le_of_eq rfl) (hb hby d240_1) (fun _ _ => ⟨rfl, e0, (by decide : 0 + 0 ≤ _), (by decide : 0 + 0 ≤ _)⟩)
  dsimp only [Pt.U, Pt.locs, Pt.cells, Pt.slots] at X2 l2 y2 z2 st2 hQ2
  subst l2 y2 z2
  obtain ⟨rfl, Nq2, e2⟩ := hQ2
  have N2 := Fr.app N0 Nq2
  have pr3 : ∀ tg, Steps pP.tables eE below (T2.setTop (mkF mM 4 #[.val (.ref a_KEEP), .val (.ref a_SHARED)] [(.int (4 : Int32))])) tg → Steps pP.tables eE below (s₁.setTop (entryFrame mM #[(.ref a_KEEP), (.ref a_SHARED)] 2)) tg := fun tg kg => pr1 _ (st2.trans kg)
  have pr4 : ∀ tg, Steps pP.tables eE below (T2.setTop (mkF mM 92 #[.val (.ref a_KEEP), .val (.ref a_SHARED)] [(.ref a_SHARED)])) tg → Steps pP.tables eE below (s₁.setTop (entryFrame mM #[(.ref a_KEEP), (.ref a_SHARED)] 2)) tg := fun tg kg => pr3 _ (by
    show Steps pP.tables eE below (T2.setTop (mkF mM 4 #[.val (.ref a_KEEP), .val (.ref a_SHARED)] [(.int (4 : Int32))])) _
    refine XS.tswIn X2.here hx rfl (pc0 := 4) (pc' := 91) rfl (hb hby d240_4) rfl (by decide) (o := 87) (by decide) (by decide) (by decide) ?_
    show Steps pP.tables eE below (T2.setTop (mkF mM 91 #[.val (.ref a_KEEP), .val (.ref a_SHARED)] [])) _
    refine XS.aloadN X2.here hx rfl (hb hby d240_91) rfl rfl ?_
    exact kg)
  obtain ⟨T5, X5, e5, st5⟩ := getS2 X2 hx hZ hown (host := "") (Or.inl (hw _ (List.mem_of_getElem? (i := 31) rfl))) Via.refl e2 (Sta.ext (O).2 S_CHANGE) (g := (mkF mM 92 #[.val (.ref a_KEEP), .val (.ref a_SHARED)] [(.ref a_SHARED)])) rfl (hb hby d240_92)
  have pr6 : ∀ tg, Steps pP.tables eE below (T5.setTop (mkF mM 95 #[.val (.ref a_KEEP), .val (.ref a_SHARED)] [(.ref a_CHANGE), (.ref a_SHARED)])) tg → Steps pP.tables eE below (s₁.setTop (entryFrame mM #[(.ref a_KEEP), (.ref a_SHARED)] 2)) tg := fun tg kg => pr4 _ (st5 _ kg)
  have pr7 : ∀ tg, Steps pP.tables eE below (T5.setTop (mkF mM 99 #[.val (.ref a_KEEP), .val (.ref a_SHARED)] [(.ref a_SHARED)])) tg → Steps pP.tables eE below (s₁.setTop (entryFrame mM #[(.ref a_KEEP), (.ref a_SHARED)] 2)) tg := fun tg kg => pr6 _ (by
    show Steps pP.tables eE below (T5.setTop (mkF mM 95 #[.val (.ref a_KEEP), .val (.ref a_SHARED)] [(.ref a_CHANGE), (.ref a_SHARED)])) _
    refine Jvm.RoadKit.acmp (g := (mkF mM 95 #[.val (.ref a_KEEP), .val (.ref a_SHARED)] [(.ref a_CHANGE), (.ref a_SHARED)])) X5 hx rfl rfl rfl (pc0 := 95) (pc' := 98) (same := false) rfl (hb hby d240_95) rfl (decide_eq_false fun q => (Fld.ne F_SHARED_ordinal F_CHANGE_ordinal (by decide)) (Value.ref.inj q)) (by decide) (by decide) ?_
    show Steps pP.tables eE below (T5.setTop (mkF mM 98 #[.val (.ref a_KEEP), .val (.ref a_SHARED)] [])) _
    refine XS.aloadN X5.here hx rfl (hb hby d240_98) rfl rfl ?_
    exact kg)
  obtain ⟨T8, X8, e8, st8⟩ := getS2 X5 hx hZ hown (host := "") (Or.inl (hw _ (List.mem_of_getElem? (i := 32) rfl))) Via.refl e5 (Sta.ext (O).2 S_KEEP) (g := (mkF mM 99 #[.val (.ref a_KEEP), .val (.ref a_SHARED)] [(.ref a_SHARED)])) rfl (hb hby d240_99)
  have pr9 : ∀ tg, Steps pP.tables eE below (T8.setTop (mkF mM 102 #[.val (.ref a_KEEP), .val (.ref a_SHARED)] [(.ref a_KEEP), (.ref a_SHARED)])) tg → Steps pP.tables eE below (s₁.setTop (entryFrame mM #[(.ref a_KEEP), (.ref a_SHARED)] 2)) tg := fun tg kg => pr7 _ (st8 _ kg)
  have pr10 : ∀ tg, Steps pP.tables eE below (T8.setTop (mkF mM 110 #[.val (.ref a_KEEP), .val (.ref a_SHARED)] [(.int (1 : Int32))])) tg → Steps pP.tables eE below (s₁.setTop (entryFrame mM #[(.ref a_KEEP), (.ref a_SHARED)] 2)) tg := fun tg kg => pr9 _ (by
    show Steps pP.tables eE below (T8.setTop (mkF mM 102 #[.val (.ref a_KEEP), .val (.ref a_SHARED)] [(.ref a_KEEP), (.ref a_SHARED)])) _
    refine Jvm.RoadKit.acmp (g := (mkF mM 102 #[.val (.ref a_KEEP), .val (.ref a_SHARED)] [(.ref a_KEEP), (.ref a_SHARED)])) X8 hx rfl rfl rfl (pc0 := 102) (pc' := 105) (same := false) rfl (hb hby d240_102) rfl (decide_eq_false fun q => (Fld.ne F_SHARED_ordinal F_KEEP_ordinal (by decide)) (Value.ref.inj q)) (by decide) (by decide) ?_
    show Steps pP.tables eE below (T8.setTop (mkF mM 105 #[.val (.ref a_KEEP), .val (.ref a_SHARED)] [])) _
    refine XS.iconst X8.here hx rfl (hb hby d240_105) ?_
    show Steps pP.tables eE below (T8.setTop (mkF mM 106 #[.val (.ref a_KEEP), .val (.ref a_SHARED)] [(.int (1 : Int32))])) _
    refine XS.goto X8.here hx rfl (pc0 := 106) (pc' := 110) rfl (hb hby d240_106) (by decide) (by decide) ?_
    exact kg)
  obtain ⟨fs, hr, hrun, hended, hW, hsame⟩ := X8.leave (v := some (.int (1 : Int32))) (fun h => by rw [Bd.returns] at h; cases h)
  refine ⟨_, _, pr10 _ (retOut X8 hx (t := .boolean) Bd.returns rfl (Or.inl ⟨rfl, Or.inr (Or.inl rfl), _, rfl⟩) (hb hby d240_110) hr), hrun, hended, _, _, rfl, ?_, ⟨_, rfl⟩, hW, hsame.mono (by decide) (by decide)⟩
  show Q240 Z a_SHARED a_UPDATE a_EXCLUSIVE a_CHANGE a_KEEP h0 n0 _ T8.heap _
  rw [e8]
  exact ⟨rfl, N2, rfl⟩
theorem d241_0 : decode prog_51_method_4_code 0 = .ok (.aload_n 0, 1) := by decide +kernel
theorem d241_1 : decode prog_51_method_4_code 1 = .ok (.invokevirtual 38, 3) := by decide +kernel
theorem d241_4 : decode prog_51_method_4_code 4 = .ok (.tableswitch 36 0 4 #[46, 68, 83, 87, 87], 36) := by decide +kernel
theorem d241_91 : decode prog_51_method_4_code 91 = .ok (.aload_n 1, 1) := by decide +kernel
theorem d241_92 : decode prog_51_method_4_code 92 = .ok (.getstatic 13, 3) := by decide +kernel
theorem d241_95 : decode prog_51_method_4_code 95 = .ok (.if_acmp .eq 14, 3) := by decide +kernel
theorem d241_98 : decode prog_51_method_4_code 98 = .ok (.aload_n 1, 1) := by decide +kernel
theorem d241_99 : decode prog_51_method_4_code 99 = .ok (.getstatic 16, 3) := by decide +kernel
theorem d241_102 : decode prog_51_method_4_code 102 = .ok (.if_acmp .eq 7, 3) := by decide +kernel
theorem d241_105 : decode prog_51_method_4_code 105 = .ok (.iconst 1, 1) := by decide +kernel
theorem d241_106 : decode prog_51_method_4_code 106 = .ok (.goto 4, 3) := by decide +kernel
theorem d241_110 : decode prog_51_method_4_code 110 = .ok (.ireturn, 1) := by decide +kernel
theorem ef_241 (mM : MethodId) (x0 : Addr) (x1 : Addr) : entryFrame mM #[(.ref x0), (.ref x1)] 2 = mkF mM 0 #[.val (.ref x0), .val (.ref x1)] [] := by first | (simp [entryFrame, mkF, argsToLocals, Value.category]; done) | rfl
def Q241 (Z : State) (a_SHARED : Addr) (a_UPDATE : Addr) (a_EXCLUSIVE : Addr) (a_CHANGE : Addr) (a_KEEP : Addr) (h0 : Heap) (n0 : Nat) (v : Option Value) (h : Heap) (L : List Loc) : Prop := v = some (.int (1 : Int32)) ∧ Fr n0 L ∧ h = h0
set_option maxRecDepth 65536 in
set_option maxHeartbeats 40000000 in
theorem rm241 (l : Launch) (Z : State) (a0 : Array Value) (hw : ∀ d ∈ tables_1, d.before a0 Z = true) (ws : List Jvm.Cond) (a_SHARED : Addr) (a_UPDATE : Addr) (a_EXCLUSIVE : Addr) (a_CHANGE : Addr) (a_KEEP : Addr) (h0 : Heap) (n0 : Nat) (Z0 : n0 ≤ h0.size) (O : Old Z n0 h0) (S_SHARED : Sta Z Z.heap "com/example/settle/settle/service/LockTable$Mode" "SHARED" "Lcom/example/settle/settle/service/LockTable$Mode;" (.ref a_SHARED)) (E_SHARED : Exa Z Z.heap a_SHARED "com/example/settle/settle/service/LockTable$Mode") (S_UPDATE : Sta Z Z.heap "com/example/settle/settle/service/LockTable$Mode" "UPDATE" "Lcom/example/settle/settle/service/LockTable$Mode;" (.ref a_UPDATE)) (E_UPDATE : Exa Z Z.heap a_UPDATE "com/example/settle/settle/service/LockTable$Mode") (S_EXCLUSIVE : Sta Z Z.heap "com/example/settle/settle/service/LockTable$Mode" "EXCLUSIVE" "Lcom/example/settle/settle/service/LockTable$Mode;" (.ref a_EXCLUSIVE)) (E_EXCLUSIVE : Exa Z Z.heap a_EXCLUSIVE "com/example/settle/settle/service/LockTable$Mode") (S_CHANGE : Sta Z Z.heap "com/example/settle/settle/service/LockTable$Mode" "CHANGE" "Lcom/example/settle/settle/service/LockTable$Mode;" (.ref a_CHANGE)) (E_CHANGE : Exa Z Z.heap a_CHANGE "com/example/settle/settle/service/LockTable$Mode") (S_KEEP : Sta Z Z.heap "com/example/settle/settle/service/LockTable$Mode" "KEEP" "Lcom/example/settle/settle/service/LockTable$Mode;" (.ref a_KEEP)) (E_KEEP : Exa Z Z.heap a_KEEP "com/example/settle/settle/service/LockTable$Mode") (F_SHARED_ordinal : Fld Z Z.heap a_SHARED "java/lang/Enum" "ordinal" "I" (.int (0 : Int32))) (F_CHANGE_ordinal : Fld Z Z.heap a_CHANGE "java/lang/Enum" "ordinal" "I" (.int (3 : Int32))) (F_EXCLUSIVE_ordinal : Fld Z Z.heap a_EXCLUSIVE "java/lang/Enum" "ordinal" "I" (.int (2 : Int32))) (F_KEEP_ordinal : Fld Z Z.heap a_KEEP "java/lang/Enum" "ordinal" "I" (.int (4 : Int32))) (F_UPDATE_ordinal : Fld Z Z.heap a_UPDATE "java/lang/Enum" "ordinal" "I" (.int (1 : Int32))) :
    MetFree l (⟨"com/example/settle/settle/service/LockTable$Mode", "keepsOut", "(Lcom/example/settle/settle/service/LockTable$Mode;)Z"⟩ : MethodName) (head1 (Jvm.Cond.code (⟨"com/example/settle/settle/service/LockTable$Mode", "keepsOut", "(Lcom/example/settle/settle/service/LockTable$Mode;)Z"⟩ : MethodName) prog_51_method_4_code 2 (some .boolean) :: ws) ({ frames := 1, cells := 0, slots := 0, locals := 12 } : Room)) (fun aA uU => aA = #[(.ref a_KEEP), (.ref a_UPDATE)] ∧ Z.Warmed39 uU.vm ∧ uU.heap = h0) (fun _ _ _ _ _ => True) (fun _ uU oO uU' => ∃ vV lL, oO = .returned vV ∧ Q241 Z a_SHARED a_UPDATE a_EXCLUSIVE a_CHANGE a_KEEP h0 n0 vV uU'.heap lL ∧ FrameEnd uU oO uU' lL ({ frames := 1, cells := 0, slots := 0, locals := 12 } : Room).cells ({ frames := 1, cells := 0, slots := 0, locals := 12 } : Room).slots) := by
  refine MetFree.of_bodySF (plainFor_of_name pn_1) hisR ?_
  intro pP eE sS mM args below meth cC s₁ Bd hml0 hP hK
  obtain ⟨rfl, hZ, hh⟩ := hP
  have hx := Bd.exec
  have hby := Bd.bytes
  have hml : cC.maxLocals = 2 := hml0
  have hown : sS.vm.findClass "com/example/settle/settle/service/LockTable$Mode" = some mM.cls := findClass_of_methodNamed Bd.named
  have hnm := (name_of_methodNamed Bd.named Bd.method).1
  have X0 : Stand pP l eE ({ frames := 1, cells := 0, slots := 0, locals := 12 } : Room) sS mM #[(.ref a_KEEP), (.ref a_UPDATE)] below meth cC s₁ [] 0 0 := Stand.of_body Bd
  have e0 : s₁.heap = h0 := by rw [← hh, Bd.state]; rfl
  have N0 := Fr.nil n0
  have pre0 : ∀ tg, Steps pP.tables eE below (s₁.setTop (mkF mM 0 #[.val (.ref a_KEEP), .val (.ref a_UPDATE)] [])) tg → Steps pP.tables eE below (s₁.setTop (entryFrame mM #[(.ref a_KEEP), (.ref a_UPDATE)] 2)) tg := fun tg kg => castTop (ef_241 mM a_KEEP a_UPDATE) kg
  have pr1 : ∀ tg, Steps pP.tables eE below (s₁.setTop (mkF mM 1 #[.val (.ref a_KEEP), .val (.ref a_UPDATE)] [(.ref a_KEEP)])) tg → Steps pP.tables eE below (s₁.setTop (entryFrame mM #[(.ref a_KEEP), (.ref a_UPDATE)] 2)) tg := fun tg kg => pre0 _ (by
    show Steps pP.tables eE below (s₁.setTop (mkF mM 0 #[.val (.ref a_KEEP), .val (.ref a_UPDATE)] [])) _
    refine XS.aloadN X0.here hx rfl (hb hby d241_0) rfl rfl ?_
    exact kg)
  obtain ⟨cq2, kq2, qa2, qb2, qc2⟩ := isOf hZ e0 (Exa.ext (O).2 E_KEEP)
  obtain ⟨_, _, ⟨T2, L2, kk2, nn2⟩, -, X2, ⟨Lc2, hQ2, l2, y2, z2⟩, st2⟩ := X0.virtualBackUp hx (owner := "java/lang/Enum") (x := (⟨"com/example/settle/settle/service/LockTable$Mode", "ordinal", "()I"⟩ : MethodName)) (y := (⟨"java/lang/Enum", "ordinal", "()I"⟩ : MethodName)) hown (mvT hZ (hw _ (List.mem_of_getElem? (i := 21) rfl))) (mvT hZ (hw _ (List.mem_of_getElem? (i := 22) rfl))) (mvT hZ (hw _ (List.mem_of_getElem? (i := 23) rfl))) (by decide) (mvT hZ (hw _ (List.mem_of_getElem? (i := 25) rfl))) (mvT hZ (hw _ (List.mem_of_getElem? (i := 24) rfl))) (backOf (W := 0) (rm1 l Z a0 hw [] a_KEEP (4 : Int32) h0 n0 Z0 (Fld.ext (O).2 F_KEEP_ordinal)) hZ (hw _ (List.mem_of_getElem? (i := 27) rfl)) (hw _ (List.mem_of_getElem? (i := 26) rfl)) (by decide) (by decide)) qa2 qc2 (g := (mkF mM 1 #[.val (.ref a_KEEP), .val (.ref a_UPDATE)] [(.ref a_KEEP)])) rfl (by rw [hml]; rfl) (Steps.refl _) (argsL := []) (rest := []) (lenOf pd_0 rfl) rfl (by show 2 * 0 + _ ≤ _; exact Nat.le_of_eq rfl) (hb hby d241_1) (fun _ _ => ⟨rfl, e0, (by decide : 0 + 0 ≤ _), (by decide : 0 + 0 ≤ _)⟩)
  dsimp only [Pt.U, Pt.locs, Pt.cells, Pt.slots] at X2 l2 y2 z2 st2 hQ2
  subst l2 y2 z2
  obtain ⟨rfl, Nq2, e2⟩ := hQ2
  have N2 := Fr.app N0 Nq2
  have pr3 : ∀ tg, Steps pP.tables eE below (T2.setTop (mkF mM 4 #[.val (.ref a_KEEP), .val (.ref a_UPDATE)] [(.int (4 : Int32))])) tg → Steps pP.tables eE below (s₁.setTop (entryFrame mM #[(.ref a_KEEP), (.ref a_UPDATE)] 2)) tg := fun tg kg => pr1 _ (st2.trans kg)
  have pr4 : ∀ tg, Steps pP.tables eE below (T2.setTop (mkF mM 92 #[.val (.ref a_KEEP), .val (.ref a_UPDATE)] [(.ref a_UPDATE)])) tg → Steps pP.tables eE below (s₁.setTop (entryFrame mM #[(.ref a_KEEP), (.ref a_UPDATE)] 2)) tg := fun tg kg => pr3 _ (by
    show Steps pP.tables eE below (T2.setTop (mkF mM 4 #[.val (.ref a_KEEP), .val (.ref a_UPDATE)] [(.int (4 : Int32))])) _
    refine XS.tswIn X2.here hx rfl (pc0 := 4) (pc' := 91) rfl (hb hby d241_4) rfl (by decide) (o := 87) (by decide) (by decide) (by decide) ?_
    show Steps pP.tables eE below (T2.setTop (mkF mM 91 #[.val (.ref a_KEEP), .val (.ref a_UPDATE)] [])) _
    refine XS.aloadN X2.here hx rfl (hb hby d241_91) rfl rfl ?_
    exact kg)
  obtain ⟨T5, X5, e5, st5⟩ := getS2 X2 hx hZ hown (host := "") (Or.inl (hw _ (List.mem_of_getElem? (i := 31) rfl))) Via.refl e2 (Sta.ext (O).2 S_CHANGE) (g := (mkF mM 92 #[.val (.ref a_KEEP), .val (.ref a_UPDATE)] [(.ref a_UPDATE)])) rfl (hb hby d241_92)
  have pr6 : ∀ tg, Steps pP.tables eE below (T5.setTop (mkF mM 95 #[.val (.ref a_KEEP), .val (.ref a_UPDATE)] [(.ref a_CHANGE), (.ref a_UPDATE)])) tg → Steps pP.tables eE below (s₁.setTop (entryFrame mM #[(.ref a_KEEP), (.ref a_UPDATE)] 2)) tg := fun tg kg => pr4 _ (st5 _ kg)
  have pr7 : ∀ tg, Steps pP.tables eE below (T5.setTop (mkF mM 99 #[.val (.ref a_KEEP), .val (.ref a_UPDATE)] [(.ref a_UPDATE)])) tg → Steps pP.tables eE below (s₁.setTop (entryFrame mM #[(.ref a_KEEP), (.ref a_UPDATE)] 2)) tg := fun tg kg => pr6 _ (by
    show Steps pP.tables eE below (T5.setTop (mkF mM 95 #[.val (.ref a_KEEP), .val (.ref a_UPDATE)] [(.ref a_CHANGE), (.ref a_UPDATE)])) _
    refine Jvm.RoadKit.acmp (g := (mkF mM 95 #[.val (.ref a_KEEP), .val (.ref a_UPDATE)] [(.ref a_CHANGE), (.ref a_UPDATE)])) X5 hx rfl rfl rfl (pc0 := 95) (pc' := 98) (same := false) rfl (hb hby d241_95) rfl (decide_eq_false fun q => (Fld.ne F_UPDATE_ordinal F_CHANGE_ordinal (by decide)) (Value.ref.inj q)) (by decide) (by decide) ?_
    show Steps pP.tables eE below (T5.setTop (mkF mM 98 #[.val (.ref a_KEEP), .val (.ref a_UPDATE)] [])) _
    refine XS.aloadN X5.here hx rfl (hb hby d241_98) rfl rfl ?_
    exact kg)
  obtain ⟨T8, X8, e8, st8⟩ := getS2 X5 hx hZ hown (host := "") (Or.inl (hw _ (List.mem_of_getElem? (i := 32) rfl))) Via.refl e5 (Sta.ext (O).2 S_KEEP) (g := (mkF mM 99 #[.val (.ref a_KEEP), .val (.ref a_UPDATE)] [(.ref a_UPDATE)])) rfl (hb hby d241_99)
  have pr9 : ∀ tg, Steps pP.tables eE below (T8.setTop (mkF mM 102 #[.val (.ref a_KEEP), .val (.ref a_UPDATE)] [(.ref a_KEEP), (.ref a_UPDATE)])) tg → Steps pP.tables eE below (s₁.setTop (entryFrame mM #[(.ref a_KEEP), (.ref a_UPDATE)] 2)) tg := fun tg kg => pr7 _ (st8 _ kg)
  have pr10 : ∀ tg, Steps pP.tables eE below (T8.setTop (mkF mM 110 #[.val (.ref a_KEEP), .val (.ref a_UPDATE)] [(.int (1 : Int32))])) tg → Steps pP.tables eE below (s₁.setTop (entryFrame mM #[(.ref a_KEEP), (.ref a_UPDATE)] 2)) tg := fun tg kg => pr9 _ (by
    show Steps pP.tables eE below (T8.setTop (mkF mM 102 #[.val (.ref a_KEEP), .val (.ref a_UPDATE)] [(.ref a_KEEP), (.ref a_UPDATE)])) _
    refine Jvm.RoadKit.acmp (g := (mkF mM 102 #[.val (.ref a_KEEP), .val (.ref a_UPDATE)] [(.ref a_KEEP), (.ref a_UPDATE)])) X8 hx rfl rfl rfl (pc0 := 102) (pc' := 105) (same := false) rfl (hb hby d241_102) rfl (decide_eq_false fun q => (Fld.ne F_UPDATE_ordinal F_KEEP_ordinal (by decide)) (Value.ref.inj q)) (by decide) (by decide) ?_
    show Steps pP.tables eE below (T8.setTop (mkF mM 105 #[.val (.ref a_KEEP), .val (.ref a_UPDATE)] [])) _
    refine XS.iconst X8.here hx rfl (hb hby d241_105) ?_
    show Steps pP.tables eE below (T8.setTop (mkF mM 106 #[.val (.ref a_KEEP), .val (.ref a_UPDATE)] [(.int (1 : Int32))])) _
    refine XS.goto X8.here hx rfl (pc0 := 106) (pc' := 110) rfl (hb hby d241_106) (by decide) (by decide) ?_
    exact kg)
  obtain ⟨fs, hr, hrun, hended, hW, hsame⟩ := X8.leave (v := some (.int (1 : Int32))) (fun h => by rw [Bd.returns] at h; cases h)
  refine ⟨_, _, pr10 _ (retOut X8 hx (t := .boolean) Bd.returns rfl (Or.inl ⟨rfl, Or.inr (Or.inl rfl), _, rfl⟩) (hb hby d241_110) hr), hrun, hended, _, _, rfl, ?_, ⟨_, rfl⟩, hW, hsame.mono (by decide) (by decide)⟩
  show Q241 Z a_SHARED a_UPDATE a_EXCLUSIVE a_CHANGE a_KEEP h0 n0 _ T8.heap _
  rw [e8]
  exact ⟨rfl, N2, rfl⟩
theorem d242_0 : decode prog_51_method_4_code 0 = .ok (.aload_n 0, 1) := by decide +kernel
theorem d242_1 : decode prog_51_method_4_code 1 = .ok (.invokevirtual 38, 3) := by decide +kernel
theorem d242_4 : decode prog_51_method_4_code 4 = .ok (.tableswitch 36 0 4 #[46, 68, 83, 87, 87], 36) := by decide +kernel
theorem d242_91 : decode prog_51_method_4_code 91 = .ok (.aload_n 1, 1) := by decide +kernel
theorem d242_92 : decode prog_51_method_4_code 92 = .ok (.getstatic 13, 3) := by decide +kernel
theorem d242_95 : decode prog_51_method_4_code 95 = .ok (.if_acmp .eq 14, 3) := by decide +kernel
theorem d242_98 : decode prog_51_method_4_code 98 = .ok (.aload_n 1, 1) := by decide +kernel
theorem d242_99 : decode prog_51_method_4_code 99 = .ok (.getstatic 16, 3) := by decide +kernel
theorem d242_102 : decode prog_51_method_4_code 102 = .ok (.if_acmp .eq 7, 3) := by decide +kernel
theorem d242_105 : decode prog_51_method_4_code 105 = .ok (.iconst 1, 1) := by decide +kernel
theorem d242_106 : decode prog_51_method_4_code 106 = .ok (.goto 4, 3) := by decide +kernel
theorem d242_110 : decode prog_51_method_4_code 110 = .ok (.ireturn, 1) := by decide +kernel
theorem ef_242 (mM : MethodId) (x0 : Addr) (x1 : Addr) : entryFrame mM #[(.ref x0), (.ref x1)] 2 = mkF mM 0 #[.val (.ref x0), .val (.ref x1)] [] := by first | (simp [entryFrame, mkF, argsToLocals, Value.category]; done) | rfl
def Q242 (Z : State) (a_SHARED : Addr) (a_UPDATE : Addr) (a_EXCLUSIVE : Addr) (a_CHANGE : Addr) (a_KEEP : Addr) (h0 : Heap) (n0 : Nat) (v : Option Value) (h : Heap) (L : List Loc) : Prop := v = some (.int (1 : Int32)) ∧ Fr n0 L ∧ h = h0
set_option maxRecDepth 65536 in
set_option maxHeartbeats 40000000 in
theorem rm242 (l : Launch) (Z : State) (a0 : Array Value) (hw : ∀ d ∈ tables_1, d.before a0 Z = true) (ws : List Jvm.Cond) (a_SHARED : Addr) (a_UPDATE : Addr) (a_EXCLUSIVE : Addr) (a_CHANGE : Addr) (a_KEEP : Addr) (h0 : Heap) (n0 : Nat) (Z0 : n0 ≤ h0.size) (O : Old Z n0 h0) (S_SHARED : Sta Z Z.heap "com/example/settle/settle/service/LockTable$Mode" "SHARED" "Lcom/example/settle/settle/service/LockTable$Mode;" (.ref a_SHARED)) (E_SHARED : Exa Z Z.heap a_SHARED "com/example/settle/settle/service/LockTable$Mode") (S_UPDATE : Sta Z Z.heap "com/example/settle/settle/service/LockTable$Mode" "UPDATE" "Lcom/example/settle/settle/service/LockTable$Mode;" (.ref a_UPDATE)) (E_UPDATE : Exa Z Z.heap a_UPDATE "com/example/settle/settle/service/LockTable$Mode") (S_EXCLUSIVE : Sta Z Z.heap "com/example/settle/settle/service/LockTable$Mode" "EXCLUSIVE" "Lcom/example/settle/settle/service/LockTable$Mode;" (.ref a_EXCLUSIVE)) (E_EXCLUSIVE : Exa Z Z.heap a_EXCLUSIVE "com/example/settle/settle/service/LockTable$Mode") (S_CHANGE : Sta Z Z.heap "com/example/settle/settle/service/LockTable$Mode" "CHANGE" "Lcom/example/settle/settle/service/LockTable$Mode;" (.ref a_CHANGE)) (E_CHANGE : Exa Z Z.heap a_CHANGE "com/example/settle/settle/service/LockTable$Mode") (S_KEEP : Sta Z Z.heap "com/example/settle/settle/service/LockTable$Mode" "KEEP" "Lcom/example/settle/settle/service/LockTable$Mode;" (.ref a_KEEP)) (E_KEEP : Exa Z Z.heap a_KEEP "com/example/settle/settle/service/LockTable$Mode") (F_SHARED_ordinal : Fld Z Z.heap a_SHARED "java/lang/Enum" "ordinal" "I" (.int (0 : Int32))) (F_CHANGE_ordinal : Fld Z Z.heap a_CHANGE "java/lang/Enum" "ordinal" "I" (.int (3 : Int32))) (F_EXCLUSIVE_ordinal : Fld Z Z.heap a_EXCLUSIVE "java/lang/Enum" "ordinal" "I" (.int (2 : Int32))) (F_KEEP_ordinal : Fld Z Z.heap a_KEEP "java/lang/Enum" "ordinal" "I" (.int (4 : Int32))) (F_UPDATE_ordinal : Fld Z Z.heap a_UPDATE "java/lang/Enum" "ordinal" "I" (.int (1 : Int32))) :
    MetFree l (⟨"com/example/settle/settle/service/LockTable$Mode", "keepsOut", "(Lcom/example/settle/settle/service/LockTable$Mode;)Z"⟩ : MethodName) (head1 (Jvm.Cond.code (⟨"com/example/settle/settle/service/LockTable$Mode", "keepsOut", "(Lcom/example/settle/settle/service/LockTable$Mode;)Z"⟩ : MethodName) prog_51_method_4_code 2 (some .boolean) :: ws) ({ frames := 1, cells := 0, slots := 0, locals := 12 } : Room)) (fun aA uU => aA = #[(.ref a_KEEP), (.ref a_EXCLUSIVE)] ∧ Z.Warmed39 uU.vm ∧ uU.heap = h0) (fun _ _ _ _ _ => True) (fun _ uU oO uU' => ∃ vV lL, oO = .returned vV ∧ Q242 Z a_SHARED a_UPDATE a_EXCLUSIVE a_CHANGE a_KEEP h0 n0 vV uU'.heap lL ∧ FrameEnd uU oO uU' lL ({ frames := 1, cells := 0, slots := 0, locals := 12 } : Room).cells ({ frames := 1, cells := 0, slots := 0, locals := 12 } : Room).slots) := by
  refine MetFree.of_bodySF (plainFor_of_name pn_1) hisR ?_
  intro pP eE sS mM args below meth cC s₁ Bd hml0 hP hK
  obtain ⟨rfl, hZ, hh⟩ := hP
  have hx := Bd.exec
  have hby := Bd.bytes
  have hml : cC.maxLocals = 2 := hml0
  have hown : sS.vm.findClass "com/example/settle/settle/service/LockTable$Mode" = some mM.cls := findClass_of_methodNamed Bd.named
  have hnm := (name_of_methodNamed Bd.named Bd.method).1
  have X0 : Stand pP l eE ({ frames := 1, cells := 0, slots := 0, locals := 12 } : Room) sS mM #[(.ref a_KEEP), (.ref a_EXCLUSIVE)] below meth cC s₁ [] 0 0 := Stand.of_body Bd
  have e0 : s₁.heap = h0 := by rw [← hh, Bd.state]; rfl
  have N0 := Fr.nil n0
  have pre0 : ∀ tg, Steps pP.tables eE below (s₁.setTop (mkF mM 0 #[.val (.ref a_KEEP), .val (.ref a_EXCLUSIVE)] [])) tg → Steps pP.tables eE below (s₁.setTop (entryFrame mM #[(.ref a_KEEP), (.ref a_EXCLUSIVE)] 2)) tg := fun tg kg => castTop (ef_242 mM a_KEEP a_EXCLUSIVE) kg
  have pr1 : ∀ tg, Steps pP.tables eE below (s₁.setTop (mkF mM 1 #[.val (.ref a_KEEP), .val (.ref a_EXCLUSIVE)] [(.ref a_KEEP)])) tg → Steps pP.tables eE below (s₁.setTop (entryFrame mM #[(.ref a_KEEP), (.ref a_EXCLUSIVE)] 2)) tg := fun tg kg => pre0 _ (by
    show Steps pP.tables eE below (s₁.setTop (mkF mM 0 #[.val (.ref a_KEEP), .val (.ref a_EXCLUSIVE)] [])) _
    refine XS.aloadN X0.here hx rfl (hb hby d242_0) rfl rfl ?_
    exact kg)
  obtain ⟨cq2, kq2, qa2, qb2, qc2⟩ := isOf hZ e0 (Exa.ext (O).2 E_KEEP)
  obtain ⟨_, _, ⟨T2, L2, kk2, nn2⟩, -, X2, ⟨Lc2, hQ2, l2, y2, z2⟩, st2⟩ := X0.virtualBackUp hx (owner := "java/lang/Enum") (x := (⟨"com/example/settle/settle/service/LockTable$Mode", "ordinal", "()I"⟩ : MethodName)) (y := (⟨"java/lang/Enum", "ordinal", "()I"⟩ : MethodName)) hown (mvT hZ (hw _ (List.mem_of_getElem? (i := 21) rfl))) (mvT hZ (hw _ (List.mem_of_getElem? (i := 22) rfl))) (mvT hZ (hw _ (List.mem_of_getElem? (i := 23) rfl))) (by decide) (mvT hZ (hw _ (List.mem_of_getElem? (i := 25) rfl))) (mvT hZ (hw _ (List.mem_of_getElem? (i := 24) rfl))) (backOf (W := 0) (rm1 l Z a0 hw [] a_KEEP (4 : Int32) h0 n0 Z0 (Fld.ext (O).2 F_KEEP_ordinal)) hZ (hw _ (List.mem_of_getElem? (i := 27) rfl)) (hw _ (List.mem_of_getElem? (i := 26) rfl)) (by decide) (by decide)) qa2 qc2 (g := (mkF mM 1 #[.val (.ref a_KEEP), .val (.ref a_EXCLUSIVE)] [(.ref a_KEEP)])) rfl (by rw [hml]; rfl) (Steps.refl _) (argsL := []) (rest := []) (lenOf pd_0 rfl) rfl (by show 2 * 0 + _ ≤ _; exact Nat.le_of_eq rfl) (hb hby d242_1) (fun _ _ => ⟨rfl, e0, (by decide : 0 + 0 ≤ _), (by decide : 0 + 0 ≤ _)⟩)
  dsimp only [Pt.U, Pt.locs, Pt.cells, Pt.slots] at X2 l2 y2 z2 st2 hQ2
  subst l2 y2 z2
  obtain ⟨rfl, Nq2, e2⟩ := hQ2
  have N2 := Fr.app N0 Nq2
  have pr3 : ∀ tg, Steps pP.tables eE below (T2.setTop (mkF mM 4 #[.val (.ref a_KEEP), .val (.ref a_EXCLUSIVE)] [(.int (4 : Int32))])) tg → Steps pP.tables eE below (s₁.setTop (entryFrame mM #[(.ref a_KEEP), (.ref a_EXCLUSIVE)] 2)) tg := fun tg kg => pr1 _ (st2.trans kg)
  have pr4 : ∀ tg, Steps pP.tables eE below (T2.setTop (mkF mM 92 #[.val (.ref a_KEEP), .val (.ref a_EXCLUSIVE)] [(.ref a_EXCLUSIVE)])) tg → Steps pP.tables eE below (s₁.setTop (entryFrame mM #[(.ref a_KEEP), (.ref a_EXCLUSIVE)] 2)) tg := fun tg kg => pr3 _ (by
    show Steps pP.tables eE below (T2.setTop (mkF mM 4 #[.val (.ref a_KEEP), .val (.ref a_EXCLUSIVE)] [(.int (4 : Int32))])) _
    refine XS.tswIn X2.here hx rfl (pc0 := 4) (pc' := 91) rfl (hb hby d242_4) rfl (by decide) (o := 87) (by decide) (by decide) (by decide) ?_
    show Steps pP.tables eE below (T2.setTop (mkF mM 91 #[.val (.ref a_KEEP), .val (.ref a_EXCLUSIVE)] [])) _
    refine XS.aloadN X2.here hx rfl (hb hby d242_91) rfl rfl ?_
    exact kg)
  obtain ⟨T5, X5, e5, st5⟩ := getS2 X2 hx hZ hown (host := "") (Or.inl (hw _ (List.mem_of_getElem? (i := 31) rfl))) Via.refl e2 (Sta.ext (O).2 S_CHANGE) (g := (mkF mM 92 #[.val (.ref a_KEEP), .val (.ref a_EXCLUSIVE)] [(.ref a_EXCLUSIVE)])) rfl (hb hby d242_92)
  have pr6 : ∀ tg, Steps pP.tables eE below (T5.setTop (mkF mM 95 #[.val (.ref a_KEEP), .val (.ref a_EXCLUSIVE)] [(.ref a_CHANGE), (.ref a_EXCLUSIVE)])) tg → Steps pP.tables eE below (s₁.setTop (entryFrame mM #[(.ref a_KEEP), (.ref a_EXCLUSIVE)] 2)) tg := fun tg kg => pr4 _ (st5 _ kg)
  have pr7 : ∀ tg, Steps pP.tables eE below (T5.setTop (mkF mM 99 #[.val (.ref a_KEEP), .val (.ref a_EXCLUSIVE)] [(.ref a_EXCLUSIVE)])) tg → Steps pP.tables eE below (s₁.setTop (entryFrame mM #[(.ref a_KEEP), (.ref a_EXCLUSIVE)] 2)) tg := fun tg kg => pr6 _ (by
    show Steps pP.tables eE below (T5.setTop (mkF mM 95 #[.val (.ref a_KEEP), .val (.ref a_EXCLUSIVE)] [(.ref a_CHANGE), (.ref a_EXCLUSIVE)])) _
    refine Jvm.RoadKit.acmp (g := (mkF mM 95 #[.val (.ref a_KEEP), .val (.ref a_EXCLUSIVE)] [(.ref a_CHANGE), (.ref a_EXCLUSIVE)])) X5 hx rfl rfl rfl (pc0 := 95) (pc' := 98) (same := false) rfl (hb hby d242_95) rfl (decide_eq_false fun q => (Fld.ne F_EXCLUSIVE_ordinal F_CHANGE_ordinal (by decide)) (Value.ref.inj q)) (by decide) (by decide) ?_
    show Steps pP.tables eE below (T5.setTop (mkF mM 98 #[.val (.ref a_KEEP), .val (.ref a_EXCLUSIVE)] [])) _
    refine XS.aloadN X5.here hx rfl (hb hby d242_98) rfl rfl ?_
    exact kg)
  obtain ⟨T8, X8, e8, st8⟩ := getS2 X5 hx hZ hown (host := "") (Or.inl (hw _ (List.mem_of_getElem? (i := 32) rfl))) Via.refl e5 (Sta.ext (O).2 S_KEEP) (g := (mkF mM 99 #[.val (.ref a_KEEP), .val (.ref a_EXCLUSIVE)] [(.ref a_EXCLUSIVE)])) rfl (hb hby d242_99)
  have pr9 : ∀ tg, Steps pP.tables eE below (T8.setTop (mkF mM 102 #[.val (.ref a_KEEP), .val (.ref a_EXCLUSIVE)] [(.ref a_KEEP), (.ref a_EXCLUSIVE)])) tg → Steps pP.tables eE below (s₁.setTop (entryFrame mM #[(.ref a_KEEP), (.ref a_EXCLUSIVE)] 2)) tg := fun tg kg => pr7 _ (st8 _ kg)
  have pr10 : ∀ tg, Steps pP.tables eE below (T8.setTop (mkF mM 110 #[.val (.ref a_KEEP), .val (.ref a_EXCLUSIVE)] [(.int (1 : Int32))])) tg → Steps pP.tables eE below (s₁.setTop (entryFrame mM #[(.ref a_KEEP), (.ref a_EXCLUSIVE)] 2)) tg := fun tg kg => pr9 _ (by
    show Steps pP.tables eE below (T8.setTop (mkF mM 102 #[.val (.ref a_KEEP), .val (.ref a_EXCLUSIVE)] [(.ref a_KEEP), (.ref a_EXCLUSIVE)])) _
    refine Jvm.RoadKit.acmp (g := (mkF mM 102 #[.val (.ref a_KEEP), .val (.ref a_EXCLUSIVE)] [(.ref a_KEEP), (.ref a_EXCLUSIVE)])) X8 hx rfl rfl rfl (pc0 := 102) (pc' := 105) (same := false) rfl (hb hby d242_102) rfl (decide_eq_false fun q => (Fld.ne F_EXCLUSIVE_ordinal F_KEEP_ordinal (by decide)) (Value.ref.inj q)) (by decide) (by decide) ?_
    show Steps pP.tables eE below (T8.setTop (mkF mM 105 #[.val (.ref a_KEEP), .val (.ref a_EXCLUSIVE)] [])) _
    refine XS.iconst X8.here hx rfl (hb hby d242_105) ?_
    show Steps pP.tables eE below (T8.setTop (mkF mM 106 #[.val (.ref a_KEEP), .val (.ref a_EXCLUSIVE)] [(.int (1 : Int32))])) _
    refine XS.goto X8.here hx rfl (pc0 := 106) (pc' := 110) rfl (hb hby d242_106) (by decide) (by decide) ?_
    exact kg)
  obtain ⟨fs, hr, hrun, hended, hW, hsame⟩ := X8.leave (v := some (.int (1 : Int32))) (fun h => by rw [Bd.returns] at h; cases h)
  refine ⟨_, _, pr10 _ (retOut X8 hx (t := .boolean) Bd.returns rfl (Or.inl ⟨rfl, Or.inr (Or.inl rfl), _, rfl⟩) (hb hby d242_110) hr), hrun, hended, _, _, rfl, ?_, ⟨_, rfl⟩, hW, hsame.mono (by decide) (by decide)⟩
  show Q242 Z a_SHARED a_UPDATE a_EXCLUSIVE a_CHANGE a_KEEP h0 n0 _ T8.heap _
  rw [e8]
  exact ⟨rfl, N2, rfl⟩
theorem d243_0 : decode prog_51_method_4_code 0 = .ok (.aload_n 0, 1) := by decide +kernel
theorem d243_1 : decode prog_51_method_4_code 1 = .ok (.invokevirtual 38, 3) := by decide +kernel
theorem d243_4 : decode prog_51_method_4_code 4 = .ok (.tableswitch 36 0 4 #[46, 68, 83, 87, 87], 36) := by decide +kernel
theorem d243_91 : decode prog_51_method_4_code 91 = .ok (.aload_n 1, 1) := by decide +kernel
theorem d243_92 : decode prog_51_method_4_code 92 = .ok (.getstatic 13, 3) := by decide +kernel
theorem d243_95 : decode prog_51_method_4_code 95 = .ok (.if_acmp .eq 14, 3) := by decide +kernel
theorem d243_109 : decode prog_51_method_4_code 109 = .ok (.iconst 0, 1) := by decide +kernel
theorem d243_110 : decode prog_51_method_4_code 110 = .ok (.ireturn, 1) := by decide +kernel
theorem ef_243 (mM : MethodId) (x0 : Addr) (x1 : Addr) : entryFrame mM #[(.ref x0), (.ref x1)] 2 = mkF mM 0 #[.val (.ref x0), .val (.ref x1)] [] := by first | (simp [entryFrame, mkF, argsToLocals, Value.category]; done) | rfl
def Q243 (Z : State) (a_SHARED : Addr) (a_UPDATE : Addr) (a_EXCLUSIVE : Addr) (a_CHANGE : Addr) (a_KEEP : Addr) (h0 : Heap) (n0 : Nat) (v : Option Value) (h : Heap) (L : List Loc) : Prop := v = some (.int (0 : Int32)) ∧ Fr n0 L ∧ h = h0
set_option maxRecDepth 65536 in
set_option maxHeartbeats 40000000 in
theorem rm243 (l : Launch) (Z : State) (a0 : Array Value) (hw : ∀ d ∈ tables_1, d.before a0 Z = true) (ws : List Jvm.Cond) (a_SHARED : Addr) (a_UPDATE : Addr) (a_EXCLUSIVE : Addr) (a_CHANGE : Addr) (a_KEEP : Addr) (h0 : Heap) (n0 : Nat) (Z0 : n0 ≤ h0.size) (O : Old Z n0 h0) (S_SHARED : Sta Z Z.heap "com/example/settle/settle/service/LockTable$Mode" "SHARED" "Lcom/example/settle/settle/service/LockTable$Mode;" (.ref a_SHARED)) (E_SHARED : Exa Z Z.heap a_SHARED "com/example/settle/settle/service/LockTable$Mode") (S_UPDATE : Sta Z Z.heap "com/example/settle/settle/service/LockTable$Mode" "UPDATE" "Lcom/example/settle/settle/service/LockTable$Mode;" (.ref a_UPDATE)) (E_UPDATE : Exa Z Z.heap a_UPDATE "com/example/settle/settle/service/LockTable$Mode") (S_EXCLUSIVE : Sta Z Z.heap "com/example/settle/settle/service/LockTable$Mode" "EXCLUSIVE" "Lcom/example/settle/settle/service/LockTable$Mode;" (.ref a_EXCLUSIVE)) (E_EXCLUSIVE : Exa Z Z.heap a_EXCLUSIVE "com/example/settle/settle/service/LockTable$Mode") (S_CHANGE : Sta Z Z.heap "com/example/settle/settle/service/LockTable$Mode" "CHANGE" "Lcom/example/settle/settle/service/LockTable$Mode;" (.ref a_CHANGE)) (E_CHANGE : Exa Z Z.heap a_CHANGE "com/example/settle/settle/service/LockTable$Mode") (S_KEEP : Sta Z Z.heap "com/example/settle/settle/service/LockTable$Mode" "KEEP" "Lcom/example/settle/settle/service/LockTable$Mode;" (.ref a_KEEP)) (E_KEEP : Exa Z Z.heap a_KEEP "com/example/settle/settle/service/LockTable$Mode") (F_SHARED_ordinal : Fld Z Z.heap a_SHARED "java/lang/Enum" "ordinal" "I" (.int (0 : Int32))) (F_CHANGE_ordinal : Fld Z Z.heap a_CHANGE "java/lang/Enum" "ordinal" "I" (.int (3 : Int32))) (F_EXCLUSIVE_ordinal : Fld Z Z.heap a_EXCLUSIVE "java/lang/Enum" "ordinal" "I" (.int (2 : Int32))) (F_KEEP_ordinal : Fld Z Z.heap a_KEEP "java/lang/Enum" "ordinal" "I" (.int (4 : Int32))) (F_UPDATE_ordinal : Fld Z Z.heap a_UPDATE "java/lang/Enum" "ordinal" "I" (.int (1 : Int32))) :
    MetFree l (⟨"com/example/settle/settle/service/LockTable$Mode", "keepsOut", "(Lcom/example/settle/settle/service/LockTable$Mode;)Z"⟩ : MethodName) (head1 (Jvm.Cond.code (⟨"com/example/settle/settle/service/LockTable$Mode", "keepsOut", "(Lcom/example/settle/settle/service/LockTable$Mode;)Z"⟩ : MethodName) prog_51_method_4_code 2 (some .boolean) :: ws) ({ frames := 1, cells := 0, slots := 0, locals := 12 } : Room)) (fun aA uU => aA = #[(.ref a_KEEP), (.ref a_CHANGE)] ∧ Z.Warmed39 uU.vm ∧ uU.heap = h0) (fun _ _ _ _ _ => True) (fun _ uU oO uU' => ∃ vV lL, oO = .returned vV ∧ Q243 Z a_SHARED a_UPDATE a_EXCLUSIVE a_CHANGE a_KEEP h0 n0 vV uU'.heap lL ∧ FrameEnd uU oO uU' lL ({ frames := 1, cells := 0, slots := 0, locals := 12 } : Room).cells ({ frames := 1, cells := 0, slots := 0, locals := 12 } : Room).slots) := by
  refine MetFree.of_bodySF (plainFor_of_name pn_1) hisR ?_
  intro pP eE sS mM args below meth cC s₁ Bd hml0 hP hK
  obtain ⟨rfl, hZ, hh⟩ := hP
  have hx := Bd.exec
  have hby := Bd.bytes
  have hml : cC.maxLocals = 2 := hml0
  have hown : sS.vm.findClass "com/example/settle/settle/service/LockTable$Mode" = some mM.cls := findClass_of_methodNamed Bd.named
  have hnm := (name_of_methodNamed Bd.named Bd.method).1
  have X0 : Stand pP l eE ({ frames := 1, cells := 0, slots := 0, locals := 12 } : Room) sS mM #[(.ref a_KEEP), (.ref a_CHANGE)] below meth cC s₁ [] 0 0 := Stand.of_body Bd
  have e0 : s₁.heap = h0 := by rw [← hh, Bd.state]; rfl
  have N0 := Fr.nil n0
  have pre0 : ∀ tg, Steps pP.tables eE below (s₁.setTop (mkF mM 0 #[.val (.ref a_KEEP), .val (.ref a_CHANGE)] [])) tg → Steps pP.tables eE below (s₁.setTop (entryFrame mM #[(.ref a_KEEP), (.ref a_CHANGE)] 2)) tg := fun tg kg => castTop (ef_243 mM a_KEEP a_CHANGE) kg
  have pr1 : ∀ tg, Steps pP.tables eE below (s₁.setTop (mkF mM 1 #[.val (.ref a_KEEP), .val (.ref a_CHANGE)] [(.ref a_KEEP)])) tg → Steps pP.tables eE below (s₁.setTop (entryFrame mM #[(.ref a_KEEP), (.ref a_CHANGE)] 2)) tg := fun tg kg => pre0 _ (by
    show Steps pP.tables eE below (s₁.setTop (mkF mM 0 #[.val (.ref a_KEEP), .val (.ref a_CHANGE)] [])) _
    refine XS.aloadN X0.here hx rfl (hb hby d243_0) rfl rfl ?_
    exact kg)
  obtain ⟨cq2, kq2, qa2, qb2, qc2⟩ := isOf hZ e0 (Exa.ext (O).2 E_KEEP)
  obtain ⟨_, _, ⟨T2, L2, kk2, nn2⟩, -, X2, ⟨Lc2, hQ2, l2, y2, z2⟩, st2⟩ := X0.virtualBackUp hx (owner := "java/lang/Enum") (x := (⟨"com/example/settle/settle/service/LockTable$Mode", "ordinal", "()I"⟩ : MethodName)) (y := (⟨"java/lang/Enum", "ordinal", "()I"⟩ : MethodName)) hown (mvT hZ (hw _ (List.mem_of_getElem? (i := 21) rfl))) (mvT hZ (hw _ (List.mem_of_getElem? (i := 22) rfl))) (mvT hZ (hw _ (List.mem_of_getElem? (i := 23) rfl))) (by decide) (mvT hZ (hw _ (List.mem_of_getElem? (i := 25) rfl))) (mvT hZ (hw _ (List.mem_of_getElem? (i := 24) rfl))) (backOf (W := 0) (rm1 l Z a0 hw [] a_KEEP (4 : Int32) h0 n0 Z0 (Fld.ext (O).2 F_KEEP_ordinal)) hZ (hw _ (List.mem_of_getElem? (i := 27) rfl)) (hw _ (List.mem_of_getElem? (i := 26) rfl)) (by decide) (by decide)) qa2 qc2 (g := (mkF mM 1 #[.val (.ref a_KEEP), .val (.ref a_CHANGE)] [(.ref a_KEEP)])) rfl (by rw [hml]; rfl) (Steps.refl _) (argsL := []) (rest := []) (lenOf pd_0 rfl) rfl (by show 2 * 0 + _ ≤ _; exact Nat.le_of_eq rfl) (hb hby d243_1) (fun _ _ => ⟨rfl, e0, (by decide : 0 + 0 ≤ _), (by decide : 0 + 0 ≤ _)⟩)
  dsimp only [Pt.U, Pt.locs, Pt.cells, Pt.slots] at X2 l2 y2 z2 st2 hQ2
  subst l2 y2 z2
  obtain ⟨rfl, Nq2, e2⟩ := hQ2
  have N2 := Fr.app N0 Nq2
  have pr3 : ∀ tg, Steps pP.tables eE below (T2.setTop (mkF mM 4 #[.val (.ref a_KEEP), .val (.ref a_CHANGE)] [(.int (4 : Int32))])) tg → Steps pP.tables eE below (s₁.setTop (entryFrame mM #[(.ref a_KEEP), (.ref a_CHANGE)] 2)) tg := fun tg kg => pr1 _ (st2.trans kg)
  have pr4 : ∀ tg, Steps pP.tables eE below (T2.setTop (mkF mM 92 #[.val (.ref a_KEEP), .val (.ref a_CHANGE)] [(.ref a_CHANGE)])) tg → Steps pP.tables eE below (s₁.setTop (entryFrame mM #[(.ref a_KEEP), (.ref a_CHANGE)] 2)) tg := fun tg kg => pr3 _ (by
    show Steps pP.tables eE below (T2.setTop (mkF mM 4 #[.val (.ref a_KEEP), .val (.ref a_CHANGE)] [(.int (4 : Int32))])) _
    refine XS.tswIn X2.here hx rfl (pc0 := 4) (pc' := 91) rfl (hb hby d243_4) rfl (by decide) (o := 87) (by decide) (by decide) (by decide) ?_
    show Steps pP.tables eE below (T2.setTop (mkF mM 91 #[.val (.ref a_KEEP), .val (.ref a_CHANGE)] [])) _
    refine XS.aloadN X2.here hx rfl (hb hby d243_91) rfl rfl ?_
    exact kg)
  obtain ⟨T5, X5, e5, st5⟩ := getS2 X2 hx hZ hown (host := "") (Or.inl (hw _ (List.mem_of_getElem? (i := 31) rfl))) Via.refl e2 (Sta.ext (O).2 S_CHANGE) (g := (mkF mM 92 #[.val (.ref a_KEEP), .val (.ref a_CHANGE)] [(.ref a_CHANGE)])) rfl (hb hby d243_92)
  have pr6 : ∀ tg, Steps pP.tables eE below (T5.setTop (mkF mM 95 #[.val (.ref a_KEEP), .val (.ref a_CHANGE)] [(.ref a_CHANGE), (.ref a_CHANGE)])) tg → Steps pP.tables eE below (s₁.setTop (entryFrame mM #[(.ref a_KEEP), (.ref a_CHANGE)] 2)) tg := fun tg kg => pr4 _ (st5 _ kg)
  have pr7 : ∀ tg, Steps pP.tables eE below (T5.setTop (mkF mM 110 #[.val (.ref a_KEEP), .val (.ref a_CHANGE)] [(.int (0 : Int32))])) tg → Steps pP.tables eE below (s₁.setTop (entryFrame mM #[(.ref a_KEEP), (.ref a_CHANGE)] 2)) tg := fun tg kg => pr6 _ (by
    show Steps pP.tables eE below (T5.setTop (mkF mM 95 #[.val (.ref a_KEEP), .val (.ref a_CHANGE)] [(.ref a_CHANGE), (.ref a_CHANGE)])) _
    refine Jvm.RoadKit.acmp (g := (mkF mM 95 #[.val (.ref a_KEEP), .val (.ref a_CHANGE)] [(.ref a_CHANGE), (.ref a_CHANGE)])) X5 hx rfl rfl rfl (pc0 := 95) (pc' := 109) (same := true) rfl (hb hby d243_95) rfl (decide_eq_true rfl) (by decide) (by decide) ?_
    show Steps pP.tables eE below (T5.setTop (mkF mM 109 #[.val (.ref a_KEEP), .val (.ref a_CHANGE)] [])) _
    refine XS.iconst X5.here hx rfl (hb hby d243_109) ?_
    exact kg)
  obtain ⟨fs, hr, hrun, hended, hW, hsame⟩ := X5.leave (v := some (.int (0 : Int32))) (fun h => by rw [Bd.returns] at h; cases h)
  refine ⟨_, _, pr7 _ (retOut X5 hx (t := .boolean) Bd.returns rfl (Or.inl ⟨rfl, Or.inr (Or.inl rfl), _, rfl⟩) (hb hby d243_110) hr), hrun, hended, _, _, rfl, ?_, ⟨_, rfl⟩, hW, hsame.mono (by decide) (by decide)⟩
  show Q243 Z a_SHARED a_UPDATE a_EXCLUSIVE a_CHANGE a_KEEP h0 n0 _ T5.heap _
  rw [e5]
  exact ⟨rfl, N2, rfl⟩
theorem d244_0 : decode prog_51_method_4_code 0 = .ok (.aload_n 0, 1) := by decide +kernel
theorem d244_1 : decode prog_51_method_4_code 1 = .ok (.invokevirtual 38, 3) := by decide +kernel
theorem d244_4 : decode prog_51_method_4_code 4 = .ok (.tableswitch 36 0 4 #[46, 68, 83, 87, 87], 36) := by decide +kernel
theorem d244_91 : decode prog_51_method_4_code 91 = .ok (.aload_n 1, 1) := by decide +kernel
theorem d244_92 : decode prog_51_method_4_code 92 = .ok (.getstatic 13, 3) := by decide +kernel
theorem d244_95 : decode prog_51_method_4_code 95 = .ok (.if_acmp .eq 14, 3) := by decide +kernel
theorem d244_98 : decode prog_51_method_4_code 98 = .ok (.aload_n 1, 1) := by decide +kernel
theorem d244_99 : decode prog_51_method_4_code 99 = .ok (.getstatic 16, 3) := by decide +kernel
theorem d244_102 : decode prog_51_method_4_code 102 = .ok (.if_acmp .eq 7, 3) := by decide +kernel
theorem d244_109 : decode prog_51_method_4_code 109 = .ok (.iconst 0, 1) := by decide +kernel
theorem d244_110 : decode prog_51_method_4_code 110 = .ok (.ireturn, 1) := by decide +kernel
theorem ef_244 (mM : MethodId) (x0 : Addr) (x1 : Addr) : entryFrame mM #[(.ref x0), (.ref x1)] 2 = mkF mM 0 #[.val (.ref x0), .val (.ref x1)] [] := by first | (simp [entryFrame, mkF, argsToLocals, Value.category]; done) | rfl
def Q244 (Z : State) (a_SHARED : Addr) (a_UPDATE : Addr) (a_EXCLUSIVE : Addr) (a_CHANGE : Addr) (a_KEEP : Addr) (h0 : Heap) (n0 : Nat) (v : Option Value) (h : Heap) (L : List Loc) : Prop := v = some (.int (0 : Int32)) ∧ Fr n0 L ∧ h = h0
set_option maxRecDepth 65536 in
set_option maxHeartbeats 40000000 in
theorem rm244 (l : Launch) (Z : State) (a0 : Array Value) (hw : ∀ d ∈ tables_1, d.before a0 Z = true) (ws : List Jvm.Cond) (a_SHARED : Addr) (a_UPDATE : Addr) (a_EXCLUSIVE : Addr) (a_CHANGE : Addr) (a_KEEP : Addr) (h0 : Heap) (n0 : Nat) (Z0 : n0 ≤ h0.size) (O : Old Z n0 h0) (S_SHARED : Sta Z Z.heap "com/example/settle/settle/service/LockTable$Mode" "SHARED" "Lcom/example/settle/settle/service/LockTable$Mode;" (.ref a_SHARED)) (E_SHARED : Exa Z Z.heap a_SHARED "com/example/settle/settle/service/LockTable$Mode") (S_UPDATE : Sta Z Z.heap "com/example/settle/settle/service/LockTable$Mode" "UPDATE" "Lcom/example/settle/settle/service/LockTable$Mode;" (.ref a_UPDATE)) (E_UPDATE : Exa Z Z.heap a_UPDATE "com/example/settle/settle/service/LockTable$Mode") (S_EXCLUSIVE : Sta Z Z.heap "com/example/settle/settle/service/LockTable$Mode" "EXCLUSIVE" "Lcom/example/settle/settle/service/LockTable$Mode;" (.ref a_EXCLUSIVE)) (E_EXCLUSIVE : Exa Z Z.heap a_EXCLUSIVE "com/example/settle/settle/service/LockTable$Mode") (S_CHANGE : Sta Z Z.heap "com/example/settle/settle/service/LockTable$Mode" "CHANGE" "Lcom/example/settle/settle/service/LockTable$Mode;" (.ref a_CHANGE)) (E_CHANGE : Exa Z Z.heap a_CHANGE "com/example/settle/settle/service/LockTable$Mode") (S_KEEP : Sta Z Z.heap "com/example/settle/settle/service/LockTable$Mode" "KEEP" "Lcom/example/settle/settle/service/LockTable$Mode;" (.ref a_KEEP)) (E_KEEP : Exa Z Z.heap a_KEEP "com/example/settle/settle/service/LockTable$Mode") (F_SHARED_ordinal : Fld Z Z.heap a_SHARED "java/lang/Enum" "ordinal" "I" (.int (0 : Int32))) (F_CHANGE_ordinal : Fld Z Z.heap a_CHANGE "java/lang/Enum" "ordinal" "I" (.int (3 : Int32))) (F_EXCLUSIVE_ordinal : Fld Z Z.heap a_EXCLUSIVE "java/lang/Enum" "ordinal" "I" (.int (2 : Int32))) (F_KEEP_ordinal : Fld Z Z.heap a_KEEP "java/lang/Enum" "ordinal" "I" (.int (4 : Int32))) (F_UPDATE_ordinal : Fld Z Z.heap a_UPDATE "java/lang/Enum" "ordinal" "I" (.int (1 : Int32))) :
    MetFree l (⟨"com/example/settle/settle/service/LockTable$Mode", "keepsOut", "(Lcom/example/settle/settle/service/LockTable$Mode;)Z"⟩ : MethodName) (head1 (Jvm.Cond.code (⟨"com/example/settle/settle/service/LockTable$Mode", "keepsOut", "(Lcom/example/settle/settle/service/LockTable$Mode;)Z"⟩ : MethodName) prog_51_method_4_code 2 (some .boolean) :: ws) ({ frames := 1, cells := 0, slots := 0, locals := 12 } : Room)) (fun aA uU => aA = #[(.ref a_KEEP), (.ref a_KEEP)] ∧ Z.Warmed39 uU.vm ∧ uU.heap = h0) (fun _ _ _ _ _ => True) (fun _ uU oO uU' => ∃ vV lL, oO = .returned vV ∧ Q244 Z a_SHARED a_UPDATE a_EXCLUSIVE a_CHANGE a_KEEP h0 n0 vV uU'.heap lL ∧ FrameEnd uU oO uU' lL ({ frames := 1, cells := 0, slots := 0, locals := 12 } : Room).cells ({ frames := 1, cells := 0, slots := 0, locals := 12 } : Room).slots) := by
  refine MetFree.of_bodySF (plainFor_of_name pn_1) hisR ?_
  intro pP eE sS mM args below meth cC s₁ Bd hml0 hP hK
  obtain ⟨rfl, hZ, hh⟩ := hP
  have hx := Bd.exec
  have hby := Bd.bytes
  have hml : cC.maxLocals = 2 := hml0
  have hown : sS.vm.findClass "com/example/settle/settle/service/LockTable$Mode" = some mM.cls := findClass_of_methodNamed Bd.named
  have hnm := (name_of_methodNamed Bd.named Bd.method).1
  have X0 : Stand pP l eE ({ frames := 1, cells := 0, slots := 0, locals := 12 } : Room) sS mM #[(.ref a_KEEP), (.ref a_KEEP)] below meth cC s₁ [] 0 0 := Stand.of_body Bd
  have e0 : s₁.heap = h0 := by rw [← hh, Bd.state]; rfl
  have N0 := Fr.nil n0
  have pre0 : ∀ tg, Steps pP.tables eE below (s₁.setTop (mkF mM 0 #[.val (.ref a_KEEP), .val (.ref a_KEEP)] [])) tg → Steps pP.tables eE below (s₁.setTop (entryFrame mM #[(.ref a_KEEP), (.ref a_KEEP)] 2)) tg := fun tg kg => castTop (ef_244 mM a_KEEP a_KEEP) kg
  have pr1 : ∀ tg, Steps pP.tables eE below (s₁.setTop (mkF mM 1 #[.val (.ref a_KEEP), .val (.ref a_KEEP)] [(.ref a_KEEP)])) tg → Steps pP.tables eE below (s₁.setTop (entryFrame mM #[(.ref a_KEEP), (.ref a_KEEP)] 2)) tg := fun tg kg => pre0 _ (by
    show Steps pP.tables eE below (s₁.setTop (mkF mM 0 #[.val (.ref a_KEEP), .val (.ref a_KEEP)] [])) _
    refine XS.aloadN X0.here hx rfl (hb hby d244_0) rfl rfl ?_
    exact kg)
  obtain ⟨cq2, kq2, qa2, qb2, qc2⟩ := isOf hZ e0 (Exa.ext (O).2 E_KEEP)
  obtain ⟨_, _, ⟨T2, L2, kk2, nn2⟩, -, X2, ⟨Lc2, hQ2, l2, y2, z2⟩, st2⟩ := X0.virtualBackUp hx (owner := "java/lang/Enum") (x := (⟨"com/example/settle/settle/service/LockTable$Mode", "ordinal", "()I"⟩ : MethodName)) (y := (⟨"java/lang/Enum", "ordinal", "()I"⟩ : MethodName)) hown (mvT hZ (hw _ (List.mem_of_getElem? (i := 21) rfl))) (mvT hZ (hw _ (List.mem_of_getElem? (i := 22) rfl))) (mvT hZ (hw _ (List.mem_of_getElem? (i := 23) rfl))) (by decide) (mvT hZ (hw _ (List.mem_of_getElem? (i := 25) rfl))) (mvT hZ (hw _ (List.mem_of_getElem? (i := 24) rfl))) (backOf (W := 0) (rm1 l Z a0 hw [] a_KEEP (4 : Int32) h0 n0 Z0 (Fld.ext (O).2 F_KEEP_ordinal)) hZ (hw _ (List.mem_of_getElem? (i := 27) rfl)) (hw _ (List.mem_of_getElem? (i := 26) rfl)) (by decide) (by decide)) qa2 qc2 (g := (mkF mM 1 #[.val (.ref a_KEEP), .val (.ref a_KEEP)] [(.ref a_KEEP)])) rfl (by rw [hml]; rfl) (Steps.refl _) (argsL := []) (rest := []) (lenOf pd_0 rfl) rfl (by show 2 * 0 + _ ≤ _; exact Nat.le_of_eq rfl) (hb hby d244_1) (fun _ _ => ⟨rfl, e0, (by decide : 0 + 0 ≤ _), (by decide : 0 + 0 ≤ _)⟩)
  dsimp only [Pt.U, Pt.locs, Pt.cells, Pt.slots] at X2 l2 y2 z2 st2 hQ2
  subst l2 y2 z2
  obtain ⟨rfl, Nq2, e2⟩ := hQ2
  have N2 := Fr.app N0 Nq2
  have pr3 : ∀ tg, Steps pP.tables eE below (T2.setTop (mkF mM 4 #[.val (.ref a_KEEP), .val (.ref a_KEEP)] [(.int (4 : Int32))])) tg → Steps pP.tables eE below (s₁.setTop (entryFrame mM #[(.ref a_KEEP), (.ref a_KEEP)] 2)) tg := fun tg kg => pr1 _ (st2.trans kg)
  have pr4 : ∀ tg, Steps pP.tables eE below (T2.setTop (mkF mM 92 #[.val (.ref a_KEEP), .val (.ref a_KEEP)] [(.ref a_KEEP)])) tg → Steps pP.tables eE below (s₁.setTop (entryFrame mM #[(.ref a_KEEP), (.ref a_KEEP)] 2)) tg := fun tg kg => pr3 _ (by
    show Steps pP.tables eE below (T2.setTop (mkF mM 4 #[.val (.ref a_KEEP), .val (.ref a_KEEP)] [(.int (4 : Int32))])) _
    refine XS.tswIn X2.here hx rfl (pc0 := 4) (pc' := 91) rfl (hb hby d244_4) rfl (by decide) (o := 87) (by decide) (by decide) (by decide) ?_
    show Steps pP.tables eE below (T2.setTop (mkF mM 91 #[.val (.ref a_KEEP), .val (.ref a_KEEP)] [])) _
    refine XS.aloadN X2.here hx rfl (hb hby d244_91) rfl rfl ?_
    exact kg)
  obtain ⟨T5, X5, e5, st5⟩ := getS2 X2 hx hZ hown (host := "") (Or.inl (hw _ (List.mem_of_getElem? (i := 31) rfl))) Via.refl e2 (Sta.ext (O).2 S_CHANGE) (g := (mkF mM 92 #[.val (.ref a_KEEP), .val (.ref a_KEEP)] [(.ref a_KEEP)])) rfl (hb hby d244_92)
  have pr6 : ∀ tg, Steps pP.tables eE below (T5.setTop (mkF mM 95 #[.val (.ref a_KEEP), .val (.ref a_KEEP)] [(.ref a_CHANGE), (.ref a_KEEP)])) tg → Steps pP.tables eE below (s₁.setTop (entryFrame mM #[(.ref a_KEEP), (.ref a_KEEP)] 2)) tg := fun tg kg => pr4 _ (st5 _ kg)
  have pr7 : ∀ tg, Steps pP.tables eE below (T5.setTop (mkF mM 99 #[.val (.ref a_KEEP), .val (.ref a_KEEP)] [(.ref a_KEEP)])) tg → Steps pP.tables eE below (s₁.setTop (entryFrame mM #[(.ref a_KEEP), (.ref a_KEEP)] 2)) tg := fun tg kg => pr6 _ (by
    show Steps pP.tables eE below (T5.setTop (mkF mM 95 #[.val (.ref a_KEEP), .val (.ref a_KEEP)] [(.ref a_CHANGE), (.ref a_KEEP)])) _
    refine Jvm.RoadKit.acmp (g := (mkF mM 95 #[.val (.ref a_KEEP), .val (.ref a_KEEP)] [(.ref a_CHANGE), (.ref a_KEEP)])) X5 hx rfl rfl rfl (pc0 := 95) (pc' := 98) (same := false) rfl (hb hby d244_95) rfl (decide_eq_false fun q => (Fld.ne F_KEEP_ordinal F_CHANGE_ordinal (by decide)) (Value.ref.inj q)) (by decide) (by decide) ?_
    show Steps pP.tables eE below (T5.setTop (mkF mM 98 #[.val (.ref a_KEEP), .val (.ref a_KEEP)] [])) _
    refine XS.aloadN X5.here hx rfl (hb hby d244_98) rfl rfl ?_
    exact kg)
  obtain ⟨T8, X8, e8, st8⟩ := getS2 X5 hx hZ hown (host := "") (Or.inl (hw _ (List.mem_of_getElem? (i := 32) rfl))) Via.refl e5 (Sta.ext (O).2 S_KEEP) (g := (mkF mM 99 #[.val (.ref a_KEEP), .val (.ref a_KEEP)] [(.ref a_KEEP)])) rfl (hb hby d244_99)
  have pr9 : ∀ tg, Steps pP.tables eE below (T8.setTop (mkF mM 102 #[.val (.ref a_KEEP), .val (.ref a_KEEP)] [(.ref a_KEEP), (.ref a_KEEP)])) tg → Steps pP.tables eE below (s₁.setTop (entryFrame mM #[(.ref a_KEEP), (.ref a_KEEP)] 2)) tg := fun tg kg => pr7 _ (st8 _ kg)
  have pr10 : ∀ tg, Steps pP.tables eE below (T8.setTop (mkF mM 110 #[.val (.ref a_KEEP), .val (.ref a_KEEP)] [(.int (0 : Int32))])) tg → Steps pP.tables eE below (s₁.setTop (entryFrame mM #[(.ref a_KEEP), (.ref a_KEEP)] 2)) tg := fun tg kg => pr9 _ (by
    show Steps pP.tables eE below (T8.setTop (mkF mM 102 #[.val (.ref a_KEEP), .val (.ref a_KEEP)] [(.ref a_KEEP), (.ref a_KEEP)])) _
    refine Jvm.RoadKit.acmp (g := (mkF mM 102 #[.val (.ref a_KEEP), .val (.ref a_KEEP)] [(.ref a_KEEP), (.ref a_KEEP)])) X8 hx rfl rfl rfl (pc0 := 102) (pc' := 109) (same := true) rfl (hb hby d244_102) rfl (decide_eq_true rfl) (by decide) (by decide) ?_
    show Steps pP.tables eE below (T8.setTop (mkF mM 109 #[.val (.ref a_KEEP), .val (.ref a_KEEP)] [])) _
    refine XS.iconst X8.here hx rfl (hb hby d244_109) ?_
    exact kg)
  obtain ⟨fs, hr, hrun, hended, hW, hsame⟩ := X8.leave (v := some (.int (0 : Int32))) (fun h => by rw [Bd.returns] at h; cases h)
  refine ⟨_, _, pr10 _ (retOut X8 hx (t := .boolean) Bd.returns rfl (Or.inl ⟨rfl, Or.inr (Or.inl rfl), _, rfl⟩) (hb hby d244_110) hr), hrun, hended, _, _, rfl, ?_, ⟨_, rfl⟩, hW, hsame.mono (by decide) (by decide)⟩
  show Q244 Z a_SHARED a_UPDATE a_EXCLUSIVE a_CHANGE a_KEEP h0 n0 _ T8.heap _
  rw [e8]
  exact ⟨rfl, N2, rfl⟩
theorem own_5 {z : Int32} (h1 : 0 ≤ z.toInt) (h2 : z.toInt < 5) : z = (0 : Int32) ∨ z = (1 : Int32) ∨ z = (2 : Int32) ∨ z = (3 : Int32) ∨ z = (4 : Int32) := by
  have h : z.toInt = 0 ∨ z.toInt = 1 ∨ z.toInt = 2 ∨ z.toInt = 3 ∨ z.toInt = 4 := by omega
  rcases h with h | h | h | h | h
  · exact Or.inl (Int32.toInt_inj.mp h)
  · exact Or.inr (Or.inl (Int32.toInt_inj.mp h))
  · exact Or.inr (Or.inr (Or.inl (Int32.toInt_inj.mp h)))
  · exact Or.inr (Or.inr (Or.inr (Or.inl (Int32.toInt_inj.mp h))))
  · exact Or.inr (Or.inr (Or.inr (Or.inr (Int32.toInt_inj.mp h))))
theorem own_rem5 (k : Int32) : 0 ≤ ((k &&& (2147483647 : Int32)) % (5 : Int32)).toInt ∧ ((k &&& (2147483647 : Int32)) % (5 : Int32)).toInt < 5 := by
  have e1 : (k &&& 2147483647).toInt = k.toInt % 2 ^ 31 := Jvm.Kit.i32_mask k 2147483647 (k := 31) (by decide) (by decide)
  have e5 : (5 : Int32).toInt = 5 := rfl
  have e2 := Jvm.Kit.i32_rem_nonneg (x := k &&& 2147483647) (y := 5) (by omega)
  rw [e5] at e2
  omega
theorem pd_1 : parseMethodDescriptor "(Lcom/example/settle/settle/service/LockTable$Mode;)Z" = some ⟨[(.object "com/example/settle/settle/service/LockTable$Mode")], some .boolean⟩ := by decide +kernel
theorem pn_2 : plainName "com/example/settle/settle/service/LockTableKeepsOutPinLaw" = true := by first | (simp [plainName, overriddenIn]; done) | decide +kernel
theorem ef_0 (mM : MethodId) (x0 : Int32) (x1 : Int32) : entryFrame mM #[(.int x0), (.int x1)] maxLocals = mkF mM 0 #[.val (.int x0), .val (.int x1), .unset, .unset, .unset, .unset, .unset] [] := by first | (simp [entryFrame, mkF, argsToLocals, Value.category, maxLocals]; done) | rfl
def Q0 (Z : State) (p1 : Int32) (p2 : Int32) (a_SHARED : Addr) (a_UPDATE : Addr) (a_EXCLUSIVE : Addr) (a_CHANGE : Addr) (a_KEEP : Addr) (h0 : Heap) (n0 : Nat) (v : Option Value) (h : Heap) (L : List Loc) : Prop := v = some (.int (1 : Int32)) ∧ Fr n0 L
set_option maxRecDepth 65536 in
set_option maxHeartbeats 40000000 in
theorem rm0 (l : Launch) (Z : State) (a0 : Array Value) (hw : ∀ d ∈ tables_1, d.before a0 Z = true) (ws : List Jvm.Cond) (p1 : Int32) (p2 : Int32) (a_SHARED : Addr) (a_UPDATE : Addr) (a_EXCLUSIVE : Addr) (a_CHANGE : Addr) (a_KEEP : Addr) (h0 : Heap) (n0 : Nat) (Z0 : n0 ≤ h0.size) (O : Old Z n0 h0) (S_SHARED : Sta Z Z.heap "com/example/settle/settle/service/LockTable$Mode" "SHARED" "Lcom/example/settle/settle/service/LockTable$Mode;" (.ref a_SHARED)) (E_SHARED : Exa Z Z.heap a_SHARED "com/example/settle/settle/service/LockTable$Mode") (S_UPDATE : Sta Z Z.heap "com/example/settle/settle/service/LockTable$Mode" "UPDATE" "Lcom/example/settle/settle/service/LockTable$Mode;" (.ref a_UPDATE)) (E_UPDATE : Exa Z Z.heap a_UPDATE "com/example/settle/settle/service/LockTable$Mode") (S_EXCLUSIVE : Sta Z Z.heap "com/example/settle/settle/service/LockTable$Mode" "EXCLUSIVE" "Lcom/example/settle/settle/service/LockTable$Mode;" (.ref a_EXCLUSIVE)) (E_EXCLUSIVE : Exa Z Z.heap a_EXCLUSIVE "com/example/settle/settle/service/LockTable$Mode") (S_CHANGE : Sta Z Z.heap "com/example/settle/settle/service/LockTable$Mode" "CHANGE" "Lcom/example/settle/settle/service/LockTable$Mode;" (.ref a_CHANGE)) (E_CHANGE : Exa Z Z.heap a_CHANGE "com/example/settle/settle/service/LockTable$Mode") (S_KEEP : Sta Z Z.heap "com/example/settle/settle/service/LockTable$Mode" "KEEP" "Lcom/example/settle/settle/service/LockTable$Mode;" (.ref a_KEEP)) (E_KEEP : Exa Z Z.heap a_KEEP "com/example/settle/settle/service/LockTable$Mode") (F_SHARED_ordinal : Fld Z Z.heap a_SHARED "java/lang/Enum" "ordinal" "I" (.int (0 : Int32))) (F_CHANGE_ordinal : Fld Z Z.heap a_CHANGE "java/lang/Enum" "ordinal" "I" (.int (3 : Int32))) (F_EXCLUSIVE_ordinal : Fld Z Z.heap a_EXCLUSIVE "java/lang/Enum" "ordinal" "I" (.int (2 : Int32))) (F_KEEP_ordinal : Fld Z Z.heap a_KEEP "java/lang/Enum" "ordinal" "I" (.int (4 : Int32))) (F_UPDATE_ordinal : Fld Z Z.heap a_UPDATE "java/lang/Enum" "ordinal" "I" (.int (1 : Int32))) :
    MetFree l x (head1 (Jvm.Cond.code x code maxLocals ret :: ws) room_1) (fun aA uU => aA = #[(.int p1), (.int p2)] ∧ Z.Warmed39 uU.vm ∧ uU.heap = h0) (fun _ _ _ _ _ => True) (fun _ uU oO uU' => ∃ vV lL, oO = .returned vV ∧ Q0 Z p1 p2 a_SHARED a_UPDATE a_EXCLUSIVE a_CHANGE a_KEEP h0 n0 vV uU'.heap lL ∧ FrameEnd uU oO uU' lL room_1.cells room_1.slots) := by
  refine MetFree.of_bodySF (plainFor_of_name pn_2) hisR ?_
  intro pP eE sS mM args below meth cC s₁ Bd hml0 hP hK
  obtain ⟨rfl, hZ, hh⟩ := hP
  have hx := Bd.exec
  have hby := Bd.bytes
  have hml : cC.maxLocals = 7 := hml0
  have hown : sS.vm.findClass "com/example/settle/settle/service/LockTableKeepsOutPinLaw" = some mM.cls := findClass_of_methodNamed Bd.named
  have hnm := (name_of_methodNamed Bd.named Bd.method).1
  have X0 : Stand pP l eE room_1 sS mM #[(.int p1), (.int p2)] below meth cC s₁ [] 0 0 := Stand.of_body Bd
  have e0 : s₁.heap = h0 := by rw [← hh, Bd.state]; rfl
  have N0 := Fr.nil n0
  have pre0 : ∀ tg, Steps pP.tables eE below (s₁.setTop (mkF mM 0 #[.val (.int p1), .val (.int p2), .unset, .unset, .unset, .unset, .unset] [])) tg → Steps pP.tables eE below (s₁.setTop (entryFrame mM #[(.int p1), (.int p2)] maxLocals)) tg := fun tg kg => castTop (ef_0 mM p1 p2) kg
  have pr1 : ∀ tg, Steps pP.tables eE below (s₁.setTop (mkF mM 1 #[.val (.int p1), .val (.int p2), .unset, .unset, .unset, .unset, .unset] [(.int (5 : Int32))])) tg → Steps pP.tables eE below (s₁.setTop (entryFrame mM #[(.int p1), (.int p2)] maxLocals)) tg := fun tg kg => pre0 _ (by
    show Steps pP.tables eE below (s₁.setTop (mkF mM 0 #[.val (.int p1), .val (.int p2), .unset, .unset, .unset, .unset, .unset] [])) _
    refine XS.iconst X0.here hx rfl (hb hby at_0) ?_
    exact kg)
  obtain ⟨T2, h2, k2, X2, e2, E2, A2, O2, st2⟩ := newR X0 hx hZ hown (hw _ (List.mem_of_getElem? (i := 0) rfl)) (hw _ (List.mem_of_getElem? (i := 1) rfl)) e0 (g := (mkF mM 1 #[.val (.int p1), .val (.int p2), .unset, .unset, .unset, .unset, .unset] [(.int (5 : Int32))])) rfl (hb hby at_1) rfl (by decide) (cap := 5) (by decide) (by decide) (by decide) (by decide)
  obtain ⟨b2, g2⟩ : ∃ z, z = (h0).size := ⟨_, rfl⟩
  rw [← g2] at A2 st2
  have gn3 : n0 ≤ b2 := Nat.le_trans Z0 (Nat.le_of_eq g2.symm)
  have gs4 : h0.size ≤ b2 := Nat.le_trans (Keep.refl h0 []).1 (Nat.le_of_eq g2.symm)
  have V2 : Arv Z h2 b2 k2 (.object "com/example/settle/settle/service/LockTable$Mode") (5 : Int32) [.null, .null, .null, .null, .null] .null := (Arv.new A2 (by decide)).pad (pad_rep [] .null 5)
  have pr5 : ∀ tg, Steps pP.tables eE below (T2.setTop (mkF mM 4 #[.val (.int p1), .val (.int p2), .unset, .unset, .unset, .unset, .unset] [(.ref b2)])) tg → Steps pP.tables eE below (s₁.setTop (entryFrame mM #[(.int p1), (.int p2)] maxLocals)) tg := fun tg kg => pr1 _ (st2 _ kg)
  have pr6 : ∀ tg, Steps pP.tables eE below (T2.setTop (mkF mM 6 #[.val (.int p1), .val (.int p2), .unset, .unset, .unset, .unset, .unset] [(.int (0 : Int32)), (.ref b2), (.ref b2)])) tg → Steps pP.tables eE below (s₁.setTop (entryFrame mM #[(.int p1), (.int p2)] maxLocals)) tg := fun tg kg => pr5 _ (by
    show Steps pP.tables eE below (T2.setTop (mkF mM 4 #[.val (.int p1), .val (.int p2), .unset, .unset, .unset, .unset, .unset] [(.ref b2)])) _
    refine XS.dup X2.here hx rfl (hb hby at_4) rfl rfl ?_
    show Steps pP.tables eE below (T2.setTop (mkF mM 5 #[.val (.int p1), .val (.int p2), .unset, .unset, .unset, .unset, .unset] [(.ref b2), (.ref b2)])) _
    refine XS.iconst X2.here hx rfl (hb hby at_5) ?_
    exact kg)
  have c8 := (Old.ext O E2)
  obtain ⟨T7, X7, e7, st7⟩ := getS2 X2 hx hZ hown (host := "") (Or.inl (hw _ (List.mem_of_getElem? (i := 2) rfl))) Via.refl e2 (Sta.ext (c8).2 S_SHARED) (g := (mkF mM 6 #[.val (.int p1), .val (.int p2), .unset, .unset, .unset, .unset, .unset] [(.int (0 : Int32)), (.ref b2), (.ref b2)])) rfl (hb hby at_6)
  have pr9 : ∀ tg, Steps pP.tables eE below (T7.setTop (mkF mM 9 #[.val (.int p1), .val (.int p2), .unset, .unset, .unset, .unset, .unset] [(.ref a_SHARED), (.int (0 : Int32)), (.ref b2), (.ref b2)])) tg → Steps pP.tables eE below (s₁.setTop (entryFrame mM #[(.int p1), (.int p2)] maxLocals)) tg := fun tg kg => pr6 _ (st7 _ kg)
  obtain ⟨cla10, Ara10, qa10, Sa10, Ma10, Ha10, Ga10⟩ := id V2
  have hin11 : ¬ ((0 : Int32) < 0 ∨ cla10.slots.size ≤ ((0 : Int32)).toNatClampNeg) := inb_of Sa10 ⟨by decide, by decide⟩
  obtain ⟨T11, h11, X11, e11, W11, st11⟩ := stR X7 hx hZ e7 Ara10 (j := (0 : Int32)) hin11 rfl (Sto.ofV Ara10 qa10 O2 (Ins.self (Exa.ext (c8).2 E_SHARED))) (g := (mkF mM 9 #[.val (.int p1), .val (.int p2), .unset, .unset, .unset, .unset, .unset] [(.ref a_SHARED), (.int (0 : Int32)), (.ref b2), (.ref b2)])) rfl rfl (hb hby at_9)
  have V11 : Arv Z h11 b2 k2 (.object "com/example/settle/settle/service/LockTable$Mode") (5 : Int32) [(.ref a_SHARED), .null, .null, .null, .null] .null := Arv.set Ara10 qa10 Sa10 Ma10 Ha10 Ga10 rfl W11 0 rfl (Nat.le_of_ble_eq_true rfl)
  have N11 := Fr.snoc X11 N0 gn3
  have pr12 : ∀ tg, Steps pP.tables eE below (T11.setTop (mkF mM 10 #[.val (.int p1), .val (.int p2), .unset, .unset, .unset, .unset, .unset] [(.ref b2)])) tg → Steps pP.tables eE below (s₁.setTop (entryFrame mM #[(.int p1), (.int p2)] maxLocals)) tg := fun tg kg => pr9 _ (st11 _ kg)
  have pr13 : ∀ tg, Steps pP.tables eE below (T11.setTop (mkF mM 12 #[.val (.int p1), .val (.int p2), .unset, .unset, .unset, .unset, .unset] [(.int (1 : Int32)), (.ref b2), (.ref b2)])) tg → Steps pP.tables eE below (s₁.setTop (entryFrame mM #[(.int p1), (.int p2)] maxLocals)) tg := fun tg kg => pr12 _ (by
    show Steps pP.tables eE below (T11.setTop (mkF mM 10 #[.val (.int p1), .val (.int p2), .unset, .unset, .unset, .unset, .unset] [(.ref b2)])) _
    refine XS.dup X11.here hx rfl (hb hby at_10) rfl rfl ?_
    show Steps pP.tables eE below (T11.setTop (mkF mM 11 #[.val (.int p1), .val (.int p2), .unset, .unset, .unset, .unset, .unset] [(.ref b2), (.ref b2)])) _
    refine XS.iconst X11.here hx rfl (hb hby at_11) ?_
    exact kg)
  have c15 := (Old.wr c8 W11 gn3)
  obtain ⟨T14, X14, e14, st14⟩ := getS2 X11 hx hZ hown (host := "") (Or.inl (hw _ (List.mem_of_getElem? (i := 6) rfl))) Via.refl e11 (Sta.ext (c15).2 S_UPDATE) (g := (mkF mM 12 #[.val (.int p1), .val (.int p2), .unset, .unset, .unset, .unset, .unset] [(.int (1 : Int32)), (.ref b2), (.ref b2)])) rfl (hb hby at_12)
  have pr16 : ∀ tg, Steps pP.tables eE below (T14.setTop (mkF mM 15 #[.val (.int p1), .val (.int p2), .unset, .unset, .unset, .unset, .unset] [(.ref a_UPDATE), (.int (1 : Int32)), (.ref b2), (.ref b2)])) tg → Steps pP.tables eE below (s₁.setTop (entryFrame mM #[(.int p1), (.int p2)] maxLocals)) tg := fun tg kg => pr13 _ (st14 _ kg)
  obtain ⟨cla17, Ara17, qa17, Sa17, Ma17, Ha17, Ga17⟩ := id V11
  have hin18 : ¬ ((1 : Int32) < 0 ∨ cla17.slots.size ≤ ((1 : Int32)).toNatClampNeg) := inb_of Sa17 ⟨by decide, by decide⟩
  obtain ⟨T18, h18, X18, e18, W18, st18⟩ := stR X14 hx hZ e14 Ara17 (j := (1 : Int32)) hin18 rfl (Sto.ofV Ara17 qa17 O2 (Ins.self (Exa.ext (c15).2 E_UPDATE))) (g := (mkF mM 15 #[.val (.int p1), .val (.int p2), .unset, .unset, .unset, .unset, .unset] [(.ref a_UPDATE), (.int (1 : Int32)), (.ref b2), (.ref b2)])) rfl rfl (hb hby at_15)
  have V18 : Arv Z h18 b2 k2 (.object "com/example/settle/settle/service/LockTable$Mode") (5 : Int32) [(.ref a_SHARED), (.ref a_UPDATE), .null, .null, .null] .null := Arv.set Ara17 qa17 Sa17 Ma17 Ha17 Ga17 rfl W18 1 rfl (Nat.le_of_ble_eq_true rfl)
  have N18 := Fr.snoc X18 N11 gn3
  have pr19 : ∀ tg, Steps pP.tables eE below (T18.setTop (mkF mM 16 #[.val (.int p1), .val (.int p2), .unset, .unset, .unset, .unset, .unset] [(.ref b2)])) tg → Steps pP.tables eE below (s₁.setTop (entryFrame mM #[(.int p1), (.int p2)] maxLocals)) tg := fun tg kg => pr16 _ (st18 _ kg)
  have pr20 : ∀ tg, Steps pP.tables eE below (T18.setTop (mkF mM 18 #[.val (.int p1), .val (.int p2), .unset, .unset, .unset, .unset, .unset] [(.int (2 : Int32)), (.ref b2), (.ref b2)])) tg → Steps pP.tables eE below (s₁.setTop (entryFrame mM #[(.int p1), (.int p2)] maxLocals)) tg := fun tg kg => pr19 _ (by
    show Steps pP.tables eE below (T18.setTop (mkF mM 16 #[.val (.int p1), .val (.int p2), .unset, .unset, .unset, .unset, .unset] [(.ref b2)])) _
    refine XS.dup X18.here hx rfl (hb hby at_16) rfl rfl ?_
    show Steps pP.tables eE below (T18.setTop (mkF mM 17 #[.val (.int p1), .val (.int p2), .unset, .unset, .unset, .unset, .unset] [(.ref b2), (.ref b2)])) _
    refine XS.iconst X18.here hx rfl (hb hby at_17) ?_
    exact kg)
  have c22 := (Old.wr c15 W18 gn3)
  obtain ⟨T21, X21, e21, st21⟩ := getS2 X18 hx hZ hown (host := "") (Or.inl (hw _ (List.mem_of_getElem? (i := 8) rfl))) Via.refl e18 (Sta.ext (c22).2 S_EXCLUSIVE) (g := (mkF mM 18 #[.val (.int p1), .val (.int p2), .unset, .unset, .unset, .unset, .unset] [(.int (2 : Int32)), (.ref b2), (.ref b2)])) rfl (hb hby at_18)
  have pr23 : ∀ tg, Steps pP.tables eE below (T21.setTop (mkF mM 21 #[.val (.int p1), .val (.int p2), .unset, .unset, .unset, .unset, .unset] [(.ref a_EXCLUSIVE), (.int (2 : Int32)), (.ref b2), (.ref b2)])) tg → Steps pP.tables eE below (s₁.setTop (entryFrame mM #[(.int p1), (.int p2)] maxLocals)) tg := fun tg kg => pr20 _ (st21 _ kg)
  obtain ⟨cla24, Ara24, qa24, Sa24, Ma24, Ha24, Ga24⟩ := id V18
  have hin25 : ¬ ((2 : Int32) < 0 ∨ cla24.slots.size ≤ ((2 : Int32)).toNatClampNeg) := inb_of Sa24 ⟨by decide, by decide⟩
  obtain ⟨T25, h25, X25, e25, W25, st25⟩ := stR X21 hx hZ e21 Ara24 (j := (2 : Int32)) hin25 rfl (Sto.ofV Ara24 qa24 O2 (Ins.self (Exa.ext (c22).2 E_EXCLUSIVE))) (g := (mkF mM 21 #[.val (.int p1), .val (.int p2), .unset, .unset, .unset, .unset, .unset] [(.ref a_EXCLUSIVE), (.int (2 : Int32)), (.ref b2), (.ref b2)])) rfl rfl (hb hby at_21)
  have V25 : Arv Z h25 b2 k2 (.object "com/example/settle/settle/service/LockTable$Mode") (5 : Int32) [(.ref a_SHARED), (.ref a_UPDATE), (.ref a_EXCLUSIVE), .null, .null] .null := Arv.set Ara24 qa24 Sa24 Ma24 Ha24 Ga24 rfl W25 2 rfl (Nat.le_of_ble_eq_true rfl)
  have N25 := Fr.snoc X25 N18 gn3
  have pr26 : ∀ tg, Steps pP.tables eE below (T25.setTop (mkF mM 22 #[.val (.int p1), .val (.int p2), .unset, .unset, .unset, .unset, .unset] [(.ref b2)])) tg → Steps pP.tables eE below (s₁.setTop (entryFrame mM #[(.int p1), (.int p2)] maxLocals)) tg := fun tg kg => pr23 _ (st25 _ kg)
  have pr27 : ∀ tg, Steps pP.tables eE below (T25.setTop (mkF mM 24 #[.val (.int p1), .val (.int p2), .unset, .unset, .unset, .unset, .unset] [(.int (3 : Int32)), (.ref b2), (.ref b2)])) tg → Steps pP.tables eE below (s₁.setTop (entryFrame mM #[(.int p1), (.int p2)] maxLocals)) tg := fun tg kg => pr26 _ (by
    show Steps pP.tables eE below (T25.setTop (mkF mM 22 #[.val (.int p1), .val (.int p2), .unset, .unset, .unset, .unset, .unset] [(.ref b2)])) _
    refine XS.dup X25.here hx rfl (hb hby at_22) rfl rfl ?_
    show Steps pP.tables eE below (T25.setTop (mkF mM 23 #[.val (.int p1), .val (.int p2), .unset, .unset, .unset, .unset, .unset] [(.ref b2), (.ref b2)])) _
    refine XS.iconst X25.here hx rfl (hb hby at_23) ?_
    exact kg)
  have c29 := (Old.wr c22 W25 gn3)
  obtain ⟨T28, X28, e28, st28⟩ := getS2 X25 hx hZ hown (host := "") (Or.inl (hw _ (List.mem_of_getElem? (i := 10) rfl))) Via.refl e25 (Sta.ext (c29).2 S_CHANGE) (g := (mkF mM 24 #[.val (.int p1), .val (.int p2), .unset, .unset, .unset, .unset, .unset] [(.int (3 : Int32)), (.ref b2), (.ref b2)])) rfl (hb hby at_24)
  have pr30 : ∀ tg, Steps pP.tables eE below (T28.setTop (mkF mM 27 #[.val (.int p1), .val (.int p2), .unset, .unset, .unset, .unset, .unset] [(.ref a_CHANGE), (.int (3 : Int32)), (.ref b2), (.ref b2)])) tg → Steps pP.tables eE below (s₁.setTop (entryFrame mM #[(.int p1), (.int p2)] maxLocals)) tg := fun tg kg => pr27 _ (st28 _ kg)
  obtain ⟨cla31, Ara31, qa31, Sa31, Ma31, Ha31, Ga31⟩ := id V25
  have hin32 : ¬ ((3 : Int32) < 0 ∨ cla31.slots.size ≤ ((3 : Int32)).toNatClampNeg) := inb_of Sa31 ⟨by decide, by decide⟩
  obtain ⟨T32, h32, X32, e32, W32, st32⟩ := stR X28 hx hZ e28 Ara31 (j := (3 : Int32)) hin32 rfl (Sto.ofV Ara31 qa31 O2 (Ins.self (Exa.ext (c29).2 E_CHANGE))) (g := (mkF mM 27 #[.val (.int p1), .val (.int p2), .unset, .unset, .unset, .unset, .unset] [(.ref a_CHANGE), (.int (3 : Int32)), (.ref b2), (.ref b2)])) rfl rfl (hb hby at_27)
  have V32 : Arv Z h32 b2 k2 (.object "com/example/settle/settle/service/LockTable$Mode") (5 : Int32) [(.ref a_SHARED), (.ref a_UPDATE), (.ref a_EXCLUSIVE), (.ref a_CHANGE), .null] .null := Arv.set Ara31 qa31 Sa31 Ma31 Ha31 Ga31 rfl W32 3 rfl (Nat.le_of_ble_eq_true rfl)
  have N32 := Fr.snoc X32 N25 gn3
  have pr33 : ∀ tg, Steps pP.tables eE below (T32.setTop (mkF mM 28 #[.val (.int p1), .val (.int p2), .unset, .unset, .unset, .unset, .unset] [(.ref b2)])) tg → Steps pP.tables eE below (s₁.setTop (entryFrame mM #[(.int p1), (.int p2)] maxLocals)) tg := fun tg kg => pr30 _ (st32 _ kg)
  have pr34 : ∀ tg, Steps pP.tables eE below (T32.setTop (mkF mM 30 #[.val (.int p1), .val (.int p2), .unset, .unset, .unset, .unset, .unset] [(.int (4 : Int32)), (.ref b2), (.ref b2)])) tg → Steps pP.tables eE below (s₁.setTop (entryFrame mM #[(.int p1), (.int p2)] maxLocals)) tg := fun tg kg => pr33 _ (by
    show Steps pP.tables eE below (T32.setTop (mkF mM 28 #[.val (.int p1), .val (.int p2), .unset, .unset, .unset, .unset, .unset] [(.ref b2)])) _
    refine XS.dup X32.here hx rfl (hb hby at_28) rfl rfl ?_
    show Steps pP.tables eE below (T32.setTop (mkF mM 29 #[.val (.int p1), .val (.int p2), .unset, .unset, .unset, .unset, .unset] [(.ref b2), (.ref b2)])) _
    refine XS.iconst X32.here hx rfl (hb hby at_29) ?_
    exact kg)
  have c36 := (Old.wr c29 W32 gn3)
  obtain ⟨T35, X35, e35, st35⟩ := getS2 X32 hx hZ hown (host := "") (Or.inl (hw _ (List.mem_of_getElem? (i := 12) rfl))) Via.refl e32 (Sta.ext (c36).2 S_KEEP) (g := (mkF mM 30 #[.val (.int p1), .val (.int p2), .unset, .unset, .unset, .unset, .unset] [(.int (4 : Int32)), (.ref b2), (.ref b2)])) rfl (hb hby at_30)
  have pr37 : ∀ tg, Steps pP.tables eE below (T35.setTop (mkF mM 33 #[.val (.int p1), .val (.int p2), .unset, .unset, .unset, .unset, .unset] [(.ref a_KEEP), (.int (4 : Int32)), (.ref b2), (.ref b2)])) tg → Steps pP.tables eE below (s₁.setTop (entryFrame mM #[(.int p1), (.int p2)] maxLocals)) tg := fun tg kg => pr34 _ (st35 _ kg)
  obtain ⟨cla38, Ara38, qa38, Sa38, Ma38, Ha38, Ga38⟩ := id V32
  have hin39 : ¬ ((4 : Int32) < 0 ∨ cla38.slots.size ≤ ((4 : Int32)).toNatClampNeg) := inb_of Sa38 ⟨by decide, by decide⟩
  obtain ⟨T39, h39, X39, e39, W39, st39⟩ := stR X35 hx hZ e35 Ara38 (j := (4 : Int32)) hin39 rfl (Sto.ofV Ara38 qa38 O2 (Ins.self (Exa.ext (c36).2 E_KEEP))) (g := (mkF mM 33 #[.val (.int p1), .val (.int p2), .unset, .unset, .unset, .unset, .unset] [(.ref a_KEEP), (.int (4 : Int32)), (.ref b2), (.ref b2)])) rfl rfl (hb hby at_33)
  have V39 : Arv Z h39 b2 k2 (.object "com/example/settle/settle/service/LockTable$Mode") (5 : Int32) [(.ref a_SHARED), (.ref a_UPDATE), (.ref a_EXCLUSIVE), (.ref a_CHANGE), (.ref a_KEEP)] .null := Arv.set Ara38 qa38 Sa38 Ma38 Ha38 Ga38 rfl W39 4 rfl (Nat.le_of_ble_eq_true rfl)
  have N39 := Fr.snoc X39 N32 gn3
  have pr40 : ∀ tg, Steps pP.tables eE below (T39.setTop (mkF mM 34 #[.val (.int p1), .val (.int p2), .unset, .unset, .unset, .unset, .unset] [(.ref b2)])) tg → Steps pP.tables eE below (s₁.setTop (entryFrame mM #[(.int p1), (.int p2)] maxLocals)) tg := fun tg kg => pr37 _ (st39 _ kg)
  have pr41 : ∀ tg, Steps pP.tables eE below (T39.setTop (mkF mM 36 #[.val (.int p1), .val (.int p2), .val (.ref b2), .unset, .unset, .unset, .unset] [(.int (5 : Int32))])) tg → Steps pP.tables eE below (s₁.setTop (entryFrame mM #[(.int p1), (.int p2)] maxLocals)) tg := fun tg kg => pr40 _ (by
    show Steps pP.tables eE below (T39.setTop (mkF mM 34 #[.val (.int p1), .val (.int p2), .unset, .unset, .unset, .unset, .unset] [(.ref b2)])) _
    refine XS.astoreN X39.here hx rfl (hb hby at_34) rfl rfl (l' := #[.val (.int p1), .val (.int p2), .val (.ref b2), .unset, .unset, .unset, .unset]) rfl ?_
    show Steps pP.tables eE below (T39.setTop (mkF mM 35 #[.val (.int p1), .val (.int p2), .val (.ref b2), .unset, .unset, .unset, .unset] [])) _
    refine XS.iconst X39.here hx rfl (hb hby at_35) ?_
    exact kg)
  obtain ⟨T42, h42, k42, X42, e42, E42, A42, Ex42, st42⟩ := newPE X39 hx hZ (hw _ (List.mem_of_getElem? (i := 14) rfl)) e39 (g := (mkF mM 36 #[.val (.int p1), .val (.int p2), .val (.ref b2), .unset, .unset, .unset, .unset] [(.int (5 : Int32))])) rfl (hb hby at_36) rfl (by decide) (cap := 5) (by decide) (by decide) (by decide) (by decide) (ad := "[I") rfl
  obtain ⟨b42, g42⟩ : ∃ z, z = (h39).size := ⟨_, rfl⟩
  rw [← g42] at A42 Ex42 st42
  have ne43 : b2 ≠ b42 := Nat.ne_of_lt (Nat.lt_of_lt_of_le (V39).lt (Nat.le_of_eq g42.symm))
  have c45 := (Nat.le_trans (Nat.le_trans (Nat.le_trans (Nat.le_trans (Nat.le_trans (Nat.le_trans Z0 E2.1) (Keep.of_wr W11).1) (Keep.of_wr W18).1) (Keep.of_wr W25).1) (Keep.of_wr W32).1) (Keep.of_wr W39).1)
  have gn44 : n0 ≤ b42 := Nat.le_trans c45 (Nat.le_of_eq g42.symm)
  have c47 := (Keep.wr (Keep.wr (Keep.wr (Keep.wr (Keep.wr (Keep.ext (Keep.refl h0 []) E2) W11 (Or.inr gs4)) W18 (Or.inr gs4)) W25 (Or.inr gs4)) W32 (Or.inr gs4)) W39 (Or.inr gs4))
  have gs46 : h0.size ≤ b42 := Nat.le_trans c47.1 (Nat.le_of_eq g42.symm)
  have c48 := (Old.wr c36 W39 gn3)
  have V42 : Arv Z h42 b42 k42 .int (5 : Int32) [(.int (0 : Int32)), (.int (0 : Int32)), (.int (0 : Int32)), (.int (0 : Int32)), (.int (0 : Int32))] (.int (0 : Int32)) := (Arv.new A42 (by decide)).pad (pad_rep [] (.int (0 : Int32)) 5)
  have pr49 : ∀ tg, Steps pP.tables eE below (T42.setTop (mkF mM 38 #[.val (.int p1), .val (.int p2), .val (.ref b2), .unset, .unset, .unset, .unset] [(.ref b42)])) tg → Steps pP.tables eE below (s₁.setTop (entryFrame mM #[(.int p1), (.int p2)] maxLocals)) tg := fun tg kg => pr41 _ (st42 _ kg)
  have pr50 : ∀ tg, Steps pP.tables eE below (T42.setTop (mkF mM 42 #[.val (.int p1), .val (.int p2), .val (.ref b2), .unset, .unset, .unset, .unset] [(.int (12 : Int32)), (.int (0 : Int32)), (.ref b42), (.ref b42)])) tg → Steps pP.tables eE below (s₁.setTop (entryFrame mM #[(.int p1), (.int p2)] maxLocals)) tg := fun tg kg => pr49 _ (by
    show Steps pP.tables eE below (T42.setTop (mkF mM 38 #[.val (.int p1), .val (.int p2), .val (.ref b2), .unset, .unset, .unset, .unset] [(.ref b42)])) _
    refine XS.dup X42.here hx rfl (hb hby at_38) rfl rfl ?_
    show Steps pP.tables eE below (T42.setTop (mkF mM 39 #[.val (.int p1), .val (.int p2), .val (.ref b2), .unset, .unset, .unset, .unset] [(.ref b42), (.ref b42)])) _
    refine XS.iconst X42.here hx rfl (hb hby at_39) ?_
    show Steps pP.tables eE below (T42.setTop (mkF mM 40 #[.val (.int p1), .val (.int p2), .val (.ref b2), .unset, .unset, .unset, .unset] [(.int (0 : Int32)), (.ref b42), (.ref b42)])) _
    refine XS.bipush X42.here hx rfl (hb hby at_40) ?_
    exact kg)
  obtain ⟨cla51, Ara51, qa51, Sa51, Ma51, Ha51, Ga51⟩ := id V42
  have hin52 : ¬ ((0 : Int32) < 0 ∨ cla51.slots.size ≤ ((0 : Int32)).toNatClampNeg) := inb_of Sa51 ⟨by decide, by decide⟩
  obtain ⟨T52, h52, X52, e52, W52, st52⟩ := stI X42 hx hZ e42 Ara51 (j := (0 : Int32)) hin52 (g := (mkF mM 42 #[.val (.int p1), .val (.int p2), .val (.ref b2), .unset, .unset, .unset, .unset] [(.int (12 : Int32)), (.int (0 : Int32)), (.ref b42), (.ref b42)])) rfl rfl (hb hby at_42)
  have V52 : Arv Z h52 b42 k42 .int (5 : Int32) [(.int (12 : Int32)), (.int (0 : Int32)), (.int (0 : Int32)), (.int (0 : Int32)), (.int (0 : Int32))] (.int (0 : Int32)) := Arv.set Ara51 qa51 Sa51 Ma51 Ha51 Ga51 rfl W52 0 rfl (Nat.le_of_ble_eq_true rfl)
  have N52 := Fr.snoc X52 N39 gn44
  have pr53 : ∀ tg, Steps pP.tables eE below (T52.setTop (mkF mM 43 #[.val (.int p1), .val (.int p2), .val (.ref b2), .unset, .unset, .unset, .unset] [(.ref b42)])) tg → Steps pP.tables eE below (s₁.setTop (entryFrame mM #[(.int p1), (.int p2)] maxLocals)) tg := fun tg kg => pr50 _ (st52 _ kg)
  have pr54 : ∀ tg, Steps pP.tables eE below (T52.setTop (mkF mM 47 #[.val (.int p1), .val (.int p2), .val (.ref b2), .unset, .unset, .unset, .unset] [(.int (30 : Int32)), (.int (1 : Int32)), (.ref b42), (.ref b42)])) tg → Steps pP.tables eE below (s₁.setTop (entryFrame mM #[(.int p1), (.int p2)] maxLocals)) tg := fun tg kg => pr53 _ (by
    show Steps pP.tables eE below (T52.setTop (mkF mM 43 #[.val (.int p1), .val (.int p2), .val (.ref b2), .unset, .unset, .unset, .unset] [(.ref b42)])) _
    refine XS.dup X52.here hx rfl (hb hby at_43) rfl rfl ?_
    show Steps pP.tables eE below (T52.setTop (mkF mM 44 #[.val (.int p1), .val (.int p2), .val (.ref b2), .unset, .unset, .unset, .unset] [(.ref b42), (.ref b42)])) _
    refine XS.iconst X52.here hx rfl (hb hby at_44) ?_
    show Steps pP.tables eE below (T52.setTop (mkF mM 45 #[.val (.int p1), .val (.int p2), .val (.ref b2), .unset, .unset, .unset, .unset] [(.int (1 : Int32)), (.ref b42), (.ref b42)])) _
    refine XS.bipush X52.here hx rfl (hb hby at_45) ?_
    exact kg)
  obtain ⟨cla55, Ara55, qa55, Sa55, Ma55, Ha55, Ga55⟩ := id V52
  have hin56 : ¬ ((1 : Int32) < 0 ∨ cla55.slots.size ≤ ((1 : Int32)).toNatClampNeg) := inb_of Sa55 ⟨by decide, by decide⟩
  obtain ⟨T56, h56, X56, e56, W56, st56⟩ := stI X52 hx hZ e52 Ara55 (j := (1 : Int32)) hin56 (g := (mkF mM 47 #[.val (.int p1), .val (.int p2), .val (.ref b2), .unset, .unset, .unset, .unset] [(.int (30 : Int32)), (.int (1 : Int32)), (.ref b42), (.ref b42)])) rfl rfl (hb hby at_47)
  have V56 : Arv Z h56 b42 k42 .int (5 : Int32) [(.int (12 : Int32)), (.int (30 : Int32)), (.int (0 : Int32)), (.int (0 : Int32)), (.int (0 : Int32))] (.int (0 : Int32)) := Arv.set Ara55 qa55 Sa55 Ma55 Ha55 Ga55 rfl W56 1 rfl (Nat.le_of_ble_eq_true rfl)
  have N56 := Fr.snoc X56 N52 gn44
  have pr57 : ∀ tg, Steps pP.tables eE below (T56.setTop (mkF mM 48 #[.val (.int p1), .val (.int p2), .val (.ref b2), .unset, .unset, .unset, .unset] [(.ref b42)])) tg → Steps pP.tables eE below (s₁.setTop (entryFrame mM #[(.int p1), (.int p2)] maxLocals)) tg := fun tg kg => pr54 _ (st56 _ kg)
  have pr58 : ∀ tg, Steps pP.tables eE below (T56.setTop (mkF mM 52 #[.val (.int p1), .val (.int p2), .val (.ref b2), .unset, .unset, .unset, .unset] [(.int (31 : Int32)), (.int (2 : Int32)), (.ref b42), (.ref b42)])) tg → Steps pP.tables eE below (s₁.setTop (entryFrame mM #[(.int p1), (.int p2)] maxLocals)) tg := fun tg kg => pr57 _ (by
    show Steps pP.tables eE below (T56.setTop (mkF mM 48 #[.val (.int p1), .val (.int p2), .val (.ref b2), .unset, .unset, .unset, .unset] [(.ref b42)])) _
    refine XS.dup X56.here hx rfl (hb hby at_48) rfl rfl ?_
    show Steps pP.tables eE below (T56.setTop (mkF mM 49 #[.val (.int p1), .val (.int p2), .val (.ref b2), .unset, .unset, .unset, .unset] [(.ref b42), (.ref b42)])) _
    refine XS.iconst X56.here hx rfl (hb hby at_49) ?_
    show Steps pP.tables eE below (T56.setTop (mkF mM 50 #[.val (.int p1), .val (.int p2), .val (.ref b2), .unset, .unset, .unset, .unset] [(.int (2 : Int32)), (.ref b42), (.ref b42)])) _
    refine XS.bipush X56.here hx rfl (hb hby at_50) ?_
    exact kg)
  obtain ⟨cla59, Ara59, qa59, Sa59, Ma59, Ha59, Ga59⟩ := id V56
  have hin60 : ¬ ((2 : Int32) < 0 ∨ cla59.slots.size ≤ ((2 : Int32)).toNatClampNeg) := inb_of Sa59 ⟨by decide, by decide⟩
  obtain ⟨T60, h60, X60, e60, W60, st60⟩ := stI X56 hx hZ e56 Ara59 (j := (2 : Int32)) hin60 (g := (mkF mM 52 #[.val (.int p1), .val (.int p2), .val (.ref b2), .unset, .unset, .unset, .unset] [(.int (31 : Int32)), (.int (2 : Int32)), (.ref b42), (.ref b42)])) rfl rfl (hb hby at_52)
  have V60 : Arv Z h60 b42 k42 .int (5 : Int32) [(.int (12 : Int32)), (.int (30 : Int32)), (.int (31 : Int32)), (.int (0 : Int32)), (.int (0 : Int32))] (.int (0 : Int32)) := Arv.set Ara59 qa59 Sa59 Ma59 Ha59 Ga59 rfl W60 2 rfl (Nat.le_of_ble_eq_true rfl)
  have N60 := Fr.snoc X60 N56 gn44
  have pr61 : ∀ tg, Steps pP.tables eE below (T60.setTop (mkF mM 53 #[.val (.int p1), .val (.int p2), .val (.ref b2), .unset, .unset, .unset, .unset] [(.ref b42)])) tg → Steps pP.tables eE below (s₁.setTop (entryFrame mM #[(.int p1), (.int p2)] maxLocals)) tg := fun tg kg => pr58 _ (st60 _ kg)
  have pr62 : ∀ tg, Steps pP.tables eE below (T60.setTop (mkF mM 57 #[.val (.int p1), .val (.int p2), .val (.ref b2), .unset, .unset, .unset, .unset] [(.int (7 : Int32)), (.int (3 : Int32)), (.ref b42), (.ref b42)])) tg → Steps pP.tables eE below (s₁.setTop (entryFrame mM #[(.int p1), (.int p2)] maxLocals)) tg := fun tg kg => pr61 _ (by
    show Steps pP.tables eE below (T60.setTop (mkF mM 53 #[.val (.int p1), .val (.int p2), .val (.ref b2), .unset, .unset, .unset, .unset] [(.ref b42)])) _
    refine XS.dup X60.here hx rfl (hb hby at_53) rfl rfl ?_
    show Steps pP.tables eE below (T60.setTop (mkF mM 54 #[.val (.int p1), .val (.int p2), .val (.ref b2), .unset, .unset, .unset, .unset] [(.ref b42), (.ref b42)])) _
    refine XS.iconst X60.here hx rfl (hb hby at_54) ?_
    show Steps pP.tables eE below (T60.setTop (mkF mM 55 #[.val (.int p1), .val (.int p2), .val (.ref b2), .unset, .unset, .unset, .unset] [(.int (3 : Int32)), (.ref b42), (.ref b42)])) _
    refine XS.bipush X60.here hx rfl (hb hby at_55) ?_
    exact kg)
  obtain ⟨cla63, Ara63, qa63, Sa63, Ma63, Ha63, Ga63⟩ := id V60
  have hin64 : ¬ ((3 : Int32) < 0 ∨ cla63.slots.size ≤ ((3 : Int32)).toNatClampNeg) := inb_of Sa63 ⟨by decide, by decide⟩
  obtain ⟨T64, h64, X64, e64, W64, st64⟩ := stI X60 hx hZ e60 Ara63 (j := (3 : Int32)) hin64 (g := (mkF mM 57 #[.val (.int p1), .val (.int p2), .val (.ref b2), .unset, .unset, .unset, .unset] [(.int (7 : Int32)), (.int (3 : Int32)), (.ref b42), (.ref b42)])) rfl rfl (hb hby at_57)
  have V64 : Arv Z h64 b42 k42 .int (5 : Int32) [(.int (12 : Int32)), (.int (30 : Int32)), (.int (31 : Int32)), (.int (7 : Int32)), (.int (0 : Int32))] (.int (0 : Int32)) := Arv.set Ara63 qa63 Sa63 Ma63 Ha63 Ga63 rfl W64 3 rfl (Nat.le_of_ble_eq_true rfl)
  have N64 := Fr.snoc X64 N60 gn44
  have pr65 : ∀ tg, Steps pP.tables eE below (T64.setTop (mkF mM 58 #[.val (.int p1), .val (.int p2), .val (.ref b2), .unset, .unset, .unset, .unset] [(.ref b42)])) tg → Steps pP.tables eE below (s₁.setTop (entryFrame mM #[(.int p1), (.int p2)] maxLocals)) tg := fun tg kg => pr62 _ (st64 _ kg)
  have pr66 : ∀ tg, Steps pP.tables eE below (T64.setTop (mkF mM 62 #[.val (.int p1), .val (.int p2), .val (.ref b2), .unset, .unset, .unset, .unset] [(.int (7 : Int32)), (.int (4 : Int32)), (.ref b42), (.ref b42)])) tg → Steps pP.tables eE below (s₁.setTop (entryFrame mM #[(.int p1), (.int p2)] maxLocals)) tg := fun tg kg => pr65 _ (by
    show Steps pP.tables eE below (T64.setTop (mkF mM 58 #[.val (.int p1), .val (.int p2), .val (.ref b2), .unset, .unset, .unset, .unset] [(.ref b42)])) _
    refine XS.dup X64.here hx rfl (hb hby at_58) rfl rfl ?_
    show Steps pP.tables eE below (T64.setTop (mkF mM 59 #[.val (.int p1), .val (.int p2), .val (.ref b2), .unset, .unset, .unset, .unset] [(.ref b42), (.ref b42)])) _
    refine XS.iconst X64.here hx rfl (hb hby at_59) ?_
    show Steps pP.tables eE below (T64.setTop (mkF mM 60 #[.val (.int p1), .val (.int p2), .val (.ref b2), .unset, .unset, .unset, .unset] [(.int (4 : Int32)), (.ref b42), (.ref b42)])) _
    refine XS.bipush X64.here hx rfl (hb hby at_60) ?_
    exact kg)
  obtain ⟨cla67, Ara67, qa67, Sa67, Ma67, Ha67, Ga67⟩ := id V64
  have hin68 : ¬ ((4 : Int32) < 0 ∨ cla67.slots.size ≤ ((4 : Int32)).toNatClampNeg) := inb_of Sa67 ⟨by decide, by decide⟩
  obtain ⟨T68, h68, X68, e68, W68, st68⟩ := stI X64 hx hZ e64 Ara67 (j := (4 : Int32)) hin68 (g := (mkF mM 62 #[.val (.int p1), .val (.int p2), .val (.ref b2), .unset, .unset, .unset, .unset] [(.int (7 : Int32)), (.int (4 : Int32)), (.ref b42), (.ref b42)])) rfl rfl (hb hby at_62)
  have V68 : Arv Z h68 b42 k42 .int (5 : Int32) [(.int (12 : Int32)), (.int (30 : Int32)), (.int (31 : Int32)), (.int (7 : Int32)), (.int (7 : Int32))] (.int (0 : Int32)) := Arv.set Ara67 qa67 Sa67 Ma67 Ha67 Ga67 rfl W68 4 rfl (Nat.le_of_ble_eq_true rfl)
  have N68 := Fr.snoc X68 N64 gn44
  have pr69 : ∀ tg, Steps pP.tables eE below (T68.setTop (mkF mM 63 #[.val (.int p1), .val (.int p2), .val (.ref b2), .unset, .unset, .unset, .unset] [(.ref b42)])) tg → Steps pP.tables eE below (s₁.setTop (entryFrame mM #[(.int p1), (.int p2)] maxLocals)) tg := fun tg kg => pr66 _ (st68 _ kg)
  have pr70 : ∀ tg, Steps pP.tables eE below (T68.setTop (mkF mM 72 #[.val (.int p1), .val (.int p2), .val (.ref b2), .val (.ref b42), .val (.int ((p1 &&& (2147483647 : Int32)) % (5 : Int32))), .unset, .unset] [])) tg → Steps pP.tables eE below (s₁.setTop (entryFrame mM #[(.int p1), (.int p2)] maxLocals)) tg := fun tg kg => pr69 _ (by
    show Steps pP.tables eE below (T68.setTop (mkF mM 63 #[.val (.int p1), .val (.int p2), .val (.ref b2), .unset, .unset, .unset, .unset] [(.ref b42)])) _
    refine XS.astoreN X68.here hx rfl (hb hby at_63) rfl rfl (l' := #[.val (.int p1), .val (.int p2), .val (.ref b2), .val (.ref b42), .unset, .unset, .unset]) rfl ?_
    show Steps pP.tables eE below (T68.setTop (mkF mM 64 #[.val (.int p1), .val (.int p2), .val (.ref b2), .val (.ref b42), .unset, .unset, .unset] [])) _
    refine XS.iloadN X68.here hx rfl (hb hby at_64) rfl ?_
    show Steps pP.tables eE below (T68.setTop (mkF mM 65 #[.val (.int p1), .val (.int p2), .val (.ref b2), .val (.ref b42), .unset, .unset, .unset] [(.int p1)])) _
    refine Jvm.Stand.ldcI X68 hx hown (v := (2147483647 : Int32)) (mvT hZ (hw _ (List.mem_of_getElem? (i := 15) rfl))) rfl (hb hby at_65) ?_
    show Steps pP.tables eE below (T68.setTop (mkF mM 67 #[.val (.int p1), .val (.int p2), .val (.ref b2), .val (.ref b42), .unset, .unset, .unset] [(.int (2147483647 : Int32)), (.int p1)])) _
    refine XS.iand X68.here hx rfl (hb hby at_67) rfl ?_
    show Steps pP.tables eE below (T68.setTop (mkF mM 68 #[.val (.int p1), .val (.int p2), .val (.ref b2), .val (.ref b42), .unset, .unset, .unset] [(.int (p1 &&& (2147483647 : Int32)))])) _
    refine XS.iconst X68.here hx rfl (hb hby at_68) ?_
    show Steps pP.tables eE below (T68.setTop (mkF mM 69 #[.val (.int p1), .val (.int p2), .val (.ref b2), .val (.ref b42), .unset, .unset, .unset] [(.int (5 : Int32)), (.int (p1 &&& (2147483647 : Int32)))])) _
    refine iremM (g := (mkF mM 69 #[.val (.int p1), .val (.int p2), .val (.ref b2), .val (.ref b42), .unset, .unset, .unset] [(.int (5 : Int32)), (.int (p1 &&& (2147483647 : Int32)))])) X68 hx rfl (hb hby at_69) rfl (by decide) ?_
    show Steps pP.tables eE below (T68.setTop (mkF mM 70 #[.val (.int p1), .val (.int p2), .val (.ref b2), .val (.ref b42), .unset, .unset, .unset] [(.int ((p1 &&& (2147483647 : Int32)) % (5 : Int32)))])) _
    refine XS.istore X68.here hx rfl (hb hby at_70) rfl (l' := #[.val (.int p1), .val (.int p2), .val (.ref b2), .val (.ref b42), .val (.int ((p1 &&& (2147483647 : Int32)) % (5 : Int32))), .unset, .unset]) rfl ?_
    exact kg)
  obtain ⟨z71, hz71⟩ : ∃ z, z = ((p1 &&& (2147483647 : Int32)) % (5 : Int32)) := ⟨_, rfl⟩
  have pr72 : ∀ tg, Steps pP.tables eE below (T68.setTop (mkF mM 72 #[.val (.int p1), .val (.int p2), .val (.ref b2), .val (.ref b42), .val (.int z71), .unset, .unset] [])) tg → Steps pP.tables eE below (s₁.setTop (entryFrame mM #[(.int p1), (.int p2)] maxLocals)) tg := by
    rw [hz71]; exact pr70
  have hbz71 : 0 ≤ z71.toInt ∧ z71.toInt < 5 := by rw [hz71]; exact own_rem5 _
  rcases (own_5 hbz71.1 hbz71.2) with rfl | rfl | rfl | rfl | rfl
  ·
    have pr73 : ∀ tg, Steps pP.tables eE below (T68.setTop (mkF mM 80 #[.val (.int p1), .val (.int p2), .val (.ref b2), .val (.ref b42), .val (.int (0 : Int32)), .val (.int ((p2 &&& (2147483647 : Int32)) % (5 : Int32))), .unset] [])) tg → Steps pP.tables eE below (s₁.setTop (entryFrame mM #[(.int p1), (.int p2)] maxLocals)) tg := fun tg kg => pr72 _ (by
      show Steps pP.tables eE below (T68.setTop (mkF mM 72 #[.val (.int p1), .val (.int p2), .val (.ref b2), .val (.ref b42), .val (.int (0 : Int32)), .unset, .unset] [])) _
      refine XS.iloadN X68.here hx rfl (hb hby at_72) rfl ?_
      show Steps pP.tables eE below (T68.setTop (mkF mM 73 #[.val (.int p1), .val (.int p2), .val (.ref b2), .val (.ref b42), .val (.int (0 : Int32)), .unset, .unset] [(.int p2)])) _
      refine Jvm.Stand.ldcI X68 hx hown (v := (2147483647 : Int32)) (mvT hZ (hw _ (List.mem_of_getElem? (i := 15) rfl))) rfl (hb hby at_73) ?_
      show Steps pP.tables eE below (T68.setTop (mkF mM 75 #[.val (.int p1), .val (.int p2), .val (.ref b2), .val (.ref b42), .val (.int (0 : Int32)), .unset, .unset] [(.int (2147483647 : Int32)), (.int p2)])) _
      refine XS.iand X68.here hx rfl (hb hby at_75) rfl ?_
      show Steps pP.tables eE below (T68.setTop (mkF mM 76 #[.val (.int p1), .val (.int p2), .val (.ref b2), .val (.ref b42), .val (.int (0 : Int32)), .unset, .unset] [(.int (p2 &&& (2147483647 : Int32)))])) _
      refine XS.iconst X68.here hx rfl (hb hby at_76) ?_
      show Steps pP.tables eE below (T68.setTop (mkF mM 77 #[.val (.int p1), .val (.int p2), .val (.ref b2), .val (.ref b42), .val (.int (0 : Int32)), .unset, .unset] [(.int (5 : Int32)), (.int (p2 &&& (2147483647 : Int32)))])) _
      refine iremM (g := (mkF mM 77 #[.val (.int p1), .val (.int p2), .val (.ref b2), .val (.ref b42), .val (.int (0 : Int32)), .unset, .unset] [(.int (5 : Int32)), (.int (p2 &&& (2147483647 : Int32)))])) X68 hx rfl (hb hby at_77) rfl (by decide) ?_
      show Steps pP.tables eE below (T68.setTop (mkF mM 78 #[.val (.int p1), .val (.int p2), .val (.ref b2), .val (.ref b42), .val (.int (0 : Int32)), .unset, .unset] [(.int ((p2 &&& (2147483647 : Int32)) % (5 : Int32)))])) _
      refine XS.istore X68.here hx rfl (hb hby at_78) rfl (l' := #[.val (.int p1), .val (.int p2), .val (.ref b2), .val (.ref b42), .val (.int (0 : Int32)), .val (.int ((p2 &&& (2147483647 : Int32)) % (5 : Int32))), .unset]) rfl ?_
      exact kg)
    obtain ⟨z74, hz74⟩ : ∃ z, z = ((p2 &&& (2147483647 : Int32)) % (5 : Int32)) := ⟨_, rfl⟩
    have pr75 : ∀ tg, Steps pP.tables eE below (T68.setTop (mkF mM 80 #[.val (.int p1), .val (.int p2), .val (.ref b2), .val (.ref b42), .val (.int (0 : Int32)), .val (.int z74), .unset] [])) tg → Steps pP.tables eE below (s₁.setTop (entryFrame mM #[(.int p1), (.int p2)] maxLocals)) tg := by
      rw [hz74]; exact pr73
    have hbz74 : 0 ≤ z74.toInt ∧ z74.toInt < 5 := by rw [hz74]; exact own_rem5 _
    rcases (own_5 hbz74.1 hbz74.2) with rfl | rfl | rfl | rfl | rfl
    ·
      obtain ⟨cla76, Ara76, qa76, Sa76, Ma76, Ha76, Ga76⟩ := id V68
      have hin77 : ¬ ((0 : Int32) < 0 ∨ cla76.slots.size ≤ ((0 : Int32)).toNatClampNeg) := inb_of Sa76 ⟨by decide, by decide⟩
      have hat77 : cla76.slots[((0 : Int32)).toNatClampNeg]? = some (.int (12 : Int32)) := Has.at Ha76 hin77 rfl
      have c78 := (Arv.other (Arv.other (Arv.other (Arv.other (Arv.other (Arv.ext V39 E42) W52 ne43) W56 ne43) W60 ne43) W64 ne43) W68 ne43)
      obtain ⟨cla79, Ara79, qa79, Sa79, Ma79, Ha79, Ga79⟩ := id c78
      have hin80 : ¬ ((0 : Int32) < 0 ∨ cla79.slots.size ≤ ((0 : Int32)).toNatClampNeg) := inb_of Sa79 ⟨by decide, by decide⟩
      have hat80 : cla79.slots[((0 : Int32)).toNatClampNeg]? = some (.ref a_SHARED) := Has.at Ha79 hin80 rfl
      have hin81 : ¬ ((0 : Int32) < 0 ∨ cla79.slots.size ≤ ((0 : Int32)).toNatClampNeg) := inb_of Sa79 ⟨by decide, by decide⟩
      have hat81 : cla79.slots[((0 : Int32)).toNatClampNeg]? = some (.ref a_SHARED) := Has.at Ha79 hin81 rfl
      have c82 := (Old.wr (Old.wr (Old.wr (Old.wr (Old.wr (Old.ext c48 E42) W52 gn44) W56 gn44) W60 gn44) W64 gn44) W68 gn44)
      have pr83 : ∀ tg, Steps pP.tables eE below (T68.setTop (mkF mM 107 #[.val (.int p1), .val (.int p2), .val (.ref b2), .val (.ref b42), .val (.int (0 : Int32)), .val (.int (0 : Int32)), .val (.int (0 : Int32))] [(.ref a_SHARED), (.ref a_SHARED)])) tg → Steps pP.tables eE below (s₁.setTop (entryFrame mM #[(.int p1), (.int p2)] maxLocals)) tg := fun tg kg => pr75 _ (by
        show Steps pP.tables eE below (T68.setTop (mkF mM 80 #[.val (.int p1), .val (.int p2), .val (.ref b2), .val (.ref b42), .val (.int (0 : Int32)), .val (.int (0 : Int32)), .unset] [])) _
        refine XS.aloadN X68.here hx rfl (hb hby at_80) rfl rfl ?_
        show Steps pP.tables eE below (T68.setTop (mkF mM 81 #[.val (.int p1), .val (.int p2), .val (.ref b2), .val (.ref b42), .val (.int (0 : Int32)), .val (.int (0 : Int32)), .unset] [(.ref b42)])) _
        refine XS.iload X68.here hx rfl (hb hby at_81) rfl ?_
        show Steps pP.tables eE below (T68.setTop (mkF mM 83 #[.val (.int p1), .val (.int p2), .val (.ref b2), .val (.ref b42), .val (.int (0 : Int32)), .val (.int (0 : Int32)), .unset] [(.int (0 : Int32)), (.ref b42)])) _
        refine X68.iaload hx (j := (0 : Int32)) (v := (.int (12 : Int32))) (by rw [e68]; exact Ara76.1) (State.isArrayOf_alike hZ.alike Ara76.2.1) Ara76.2.2 hin77 hat77 (g := (mkF mM 83 #[.val (.int p1), .val (.int p2), .val (.ref b2), .val (.ref b42), .val (.int (0 : Int32)), .val (.int (0 : Int32)), .unset] [(.int (0 : Int32)), (.ref b42)])) rfl rfl (hb hby at_83) _ ?_
        show Steps pP.tables eE below (T68.setTop (mkF mM 84 #[.val (.int p1), .val (.int p2), .val (.ref b2), .val (.ref b42), .val (.int (0 : Int32)), .val (.int (0 : Int32)), .unset] [(.int (12 : Int32))])) _
        refine XS.iload X68.here hx rfl (hb hby at_84) rfl ?_
        show Steps pP.tables eE below (T68.setTop (mkF mM 86 #[.val (.int p1), .val (.int p2), .val (.ref b2), .val (.ref b42), .val (.int (0 : Int32)), .val (.int (0 : Int32)), .unset] [(.int (0 : Int32)), (.int (12 : Int32))])) _
        refine XS.ishr X68.here hx rfl (hb hby at_86) rfl ?_
        show Steps pP.tables eE below (T68.setTop (mkF mM 87 #[.val (.int p1), .val (.int p2), .val (.ref b2), .val (.ref b42), .val (.int (0 : Int32)), .val (.int (0 : Int32)), .unset] [(.int ((12 : Int32) >>> ((0 : Int32) &&& 31)))])) _
        refine XS.iconst X68.here hx rfl (hb hby at_87) ?_
        show Steps pP.tables eE below (T68.setTop (mkF mM 88 #[.val (.int p1), .val (.int p2), .val (.ref b2), .val (.ref b42), .val (.int (0 : Int32)), .val (.int (0 : Int32)), .unset] [(.int (1 : Int32)), (.int ((12 : Int32) >>> ((0 : Int32) &&& 31)))])) _
        refine XS.iand X68.here hx rfl (hb hby at_88) rfl ?_
        show Steps pP.tables eE below (T68.setTop (mkF mM 89 #[.val (.int p1), .val (.int p2), .val (.ref b2), .val (.ref b42), .val (.int (0 : Int32)), .val (.int (0 : Int32)), .unset] [(.int (0 : Int32))])) _
        refine XS.ifYes X68.here hx rfl (pc0 := 89) (pc' := 96) rfl (hb hby at_89) rfl ((if0 _ _).trans (teq (by decide)).1) (by decide) (by decide) ?_
        show Steps pP.tables eE below (T68.setTop (mkF mM 96 #[.val (.int p1), .val (.int p2), .val (.ref b2), .val (.ref b42), .val (.int (0 : Int32)), .val (.int (0 : Int32)), .unset] [])) _
        refine XS.iconst X68.here hx rfl (hb hby at_96) ?_
        show Steps pP.tables eE below (T68.setTop (mkF mM 97 #[.val (.int p1), .val (.int p2), .val (.ref b2), .val (.ref b42), .val (.int (0 : Int32)), .val (.int (0 : Int32)), .unset] [(.int (0 : Int32))])) _
        refine XS.istore X68.here hx rfl (hb hby at_97) rfl (l' := #[.val (.int p1), .val (.int p2), .val (.ref b2), .val (.ref b42), .val (.int (0 : Int32)), .val (.int (0 : Int32)), .val (.int (0 : Int32))]) rfl ?_
        show Steps pP.tables eE below (T68.setTop (mkF mM 99 #[.val (.int p1), .val (.int p2), .val (.ref b2), .val (.ref b42), .val (.int (0 : Int32)), .val (.int (0 : Int32)), .val (.int (0 : Int32))] [])) _
        refine XS.aloadN X68.here hx rfl (hb hby at_99) rfl rfl ?_
        show Steps pP.tables eE below (T68.setTop (mkF mM 100 #[.val (.int p1), .val (.int p2), .val (.ref b2), .val (.ref b42), .val (.int (0 : Int32)), .val (.int (0 : Int32)), .val (.int (0 : Int32))] [(.ref b2)])) _
        refine XS.iload X68.here hx rfl (hb hby at_100) rfl ?_
        show Steps pP.tables eE below (T68.setTop (mkF mM 102 #[.val (.int p1), .val (.int p2), .val (.ref b2), .val (.ref b42), .val (.int (0 : Int32)), .val (.int (0 : Int32)), .val (.int (0 : Int32))] [(.int (0 : Int32)), (.ref b2)])) _
        refine X68.aaload hx (j := (0 : Int32)) (v := (.ref a_SHARED)) (by rw [e68]; exact Ara79.1) (State.isArrayOf_alike hZ.alike Ara79.2.1) rfl Ara79.2.2 hin80 hat80 (g := (mkF mM 102 #[.val (.int p1), .val (.int p2), .val (.ref b2), .val (.ref b42), .val (.int (0 : Int32)), .val (.int (0 : Int32)), .val (.int (0 : Int32))] [(.int (0 : Int32)), (.ref b2)])) rfl rfl (hb hby at_102) _ ?_
        show Steps pP.tables eE below (T68.setTop (mkF mM 103 #[.val (.int p1), .val (.int p2), .val (.ref b2), .val (.ref b42), .val (.int (0 : Int32)), .val (.int (0 : Int32)), .val (.int (0 : Int32))] [(.ref a_SHARED)])) _
        refine XS.aloadN X68.here hx rfl (hb hby at_103) rfl rfl ?_
        show Steps pP.tables eE below (T68.setTop (mkF mM 104 #[.val (.int p1), .val (.int p2), .val (.ref b2), .val (.ref b42), .val (.int (0 : Int32)), .val (.int (0 : Int32)), .val (.int (0 : Int32))] [(.ref b2), (.ref a_SHARED)])) _
        refine XS.iload X68.here hx rfl (hb hby at_104) rfl ?_
        show Steps pP.tables eE below (T68.setTop (mkF mM 106 #[.val (.int p1), .val (.int p2), .val (.ref b2), .val (.ref b42), .val (.int (0 : Int32)), .val (.int (0 : Int32)), .val (.int (0 : Int32))] [(.int (0 : Int32)), (.ref b2), (.ref a_SHARED)])) _
        refine X68.aaload hx (j := (0 : Int32)) (v := (.ref a_SHARED)) (by rw [e68]; exact Ara79.1) (State.isArrayOf_alike hZ.alike Ara79.2.1) rfl Ara79.2.2 hin81 hat81 (g := (mkF mM 106 #[.val (.int p1), .val (.int p2), .val (.ref b2), .val (.ref b42), .val (.int (0 : Int32)), .val (.int (0 : Int32)), .val (.int (0 : Int32))] [(.int (0 : Int32)), (.ref b2), (.ref a_SHARED)])) rfl rfl (hb hby at_106) _ ?_
        exact kg)
      have c84 := (Nat.le_trans (Nat.le_trans (Nat.le_trans (Nat.le_trans (Nat.le_trans (Nat.le_trans c45 E42.1) (Keep.of_wr W52).1) (Keep.of_wr W56).1) (Keep.of_wr W60).1) (Keep.of_wr W64).1) (Keep.of_wr W68).1)
      obtain ⟨cq85, kq85, qa85, qb85, qc85⟩ := isOf hZ e68 (Exa.ext (c82).2 E_SHARED)
      obtain ⟨_, _, ⟨T85, L85, kk85, nn85⟩, -, X85, ⟨Lc85, hQ85, l85, y85, z85⟩, st85⟩ := X68.virtualBack hx (y := (⟨"com/example/settle/settle/service/LockTable$Mode", "keepsOut", "(Lcom/example/settle/settle/service/LockTable$Mode;)Z"⟩ : MethodName)) (z := (⟨"com/example/settle/settle/service/LockTable$Mode", "keepsOut", "(Lcom/example/settle/settle/service/LockTable$Mode;)Z"⟩ : MethodName)) hown (mvT hZ (hw _ (List.mem_of_getElem? (i := 16) rfl))) (mvT hZ (hw _ (List.mem_of_getElem? (i := 17) rfl))) (notFace_of_selects (args := #[]) (mvT hZ (hw _ (List.mem_of_getElem? (i := 19) rfl)))) (mvT hZ (hw _ (List.mem_of_getElem? (i := 19) rfl))) (mvT hZ (hw _ (List.mem_of_getElem? (i := 18) rfl))) (by decide) (backOf (W := 0) (rm200 l Z a0 hw [] a_SHARED a_UPDATE a_EXCLUSIVE a_CHANGE a_KEEP h68 n0 c84 c82 S_SHARED E_SHARED S_UPDATE E_UPDATE S_EXCLUSIVE E_EXCLUSIVE S_CHANGE E_CHANGE S_KEEP E_KEEP F_SHARED_ordinal F_CHANGE_ordinal F_EXCLUSIVE_ordinal F_KEEP_ordinal F_UPDATE_ordinal) hZ (hw _ (List.mem_of_getElem? (i := 20) rfl)) (hw _ (List.mem_of_getElem? (i := 3) rfl)) (by decide) (by decide)) qa85 qc85 (g := (mkF mM 107 #[.val (.int p1), .val (.int p2), .val (.ref b2), .val (.ref b42), .val (.int (0 : Int32)), .val (.int (0 : Int32)), .val (.int (0 : Int32))] [(.ref a_SHARED), (.ref a_SHARED)])) rfl (by rw [hml]; rfl) (Steps.refl _) (argsL := [(.ref a_SHARED)]) (rest := []) (lenOf pd_1 rfl) rfl (by show 2 * 0 + _ ≤ _; exact Nat.le_of_eq rfl) (hb hby at_107) (fun _ _ => ⟨rfl, e68, (by decide : 2 + 0 ≤ _), (by decide : 10 + 0 ≤ _)⟩)
      dsimp only [Pt.U, Pt.locs, Pt.cells, Pt.slots] at X85 l85 y85 z85 st85 hQ85
      subst l85 y85 z85
      obtain ⟨rfl, Nq85, e85⟩ := hQ85
      have N85 := Fr.app N68 Nq85
      have pr86 : ∀ tg, Steps pP.tables eE below (T85.setTop (mkF mM 110 #[.val (.int p1), .val (.int p2), .val (.ref b2), .val (.ref b42), .val (.int (0 : Int32)), .val (.int (0 : Int32)), .val (.int (0 : Int32))] [(.int (0 : Int32))])) tg → Steps pP.tables eE below (s₁.setTop (entryFrame mM #[(.int p1), (.int p2)] maxLocals)) tg := fun tg kg => pr83 _ (st85.trans kg)
      have pr87 : ∀ tg, Steps pP.tables eE below (T85.setTop (mkF mM 120 #[.val (.int p1), .val (.int p2), .val (.ref b2), .val (.ref b42), .val (.int (0 : Int32)), .val (.int (0 : Int32)), .val (.int (0 : Int32))] [(.int (1 : Int32))])) tg → Steps pP.tables eE below (s₁.setTop (entryFrame mM #[(.int p1), (.int p2)] maxLocals)) tg := fun tg kg => pr86 _ (by
        show Steps pP.tables eE below (T85.setTop (mkF mM 110 #[.val (.int p1), .val (.int p2), .val (.ref b2), .val (.ref b42), .val (.int (0 : Int32)), .val (.int (0 : Int32)), .val (.int (0 : Int32))] [(.int (0 : Int32))])) _
        refine XS.iload X85.here hx rfl (hb hby at_110) rfl ?_
        show Steps pP.tables eE below (T85.setTop (mkF mM 112 #[.val (.int p1), .val (.int p2), .val (.ref b2), .val (.ref b42), .val (.int (0 : Int32)), .val (.int (0 : Int32)), .val (.int (0 : Int32))] [(.int (0 : Int32)), (.int (0 : Int32))])) _
        refine XS.icmpNo X85.here hx rfl (hb hby at_112) rfl (teq (by decide)).2 ?_
        show Steps pP.tables eE below (T85.setTop (mkF mM 115 #[.val (.int p1), .val (.int p2), .val (.ref b2), .val (.ref b42), .val (.int (0 : Int32)), .val (.int (0 : Int32)), .val (.int (0 : Int32))] [])) _
        refine XS.iconst X85.here hx rfl (hb hby at_115) ?_
        show Steps pP.tables eE below (T85.setTop (mkF mM 116 #[.val (.int p1), .val (.int p2), .val (.ref b2), .val (.ref b42), .val (.int (0 : Int32)), .val (.int (0 : Int32)), .val (.int (0 : Int32))] [(.int (1 : Int32))])) _
        refine XS.goto X85.here hx rfl (pc0 := 116) (pc' := 120) rfl (hb hby at_116) (by decide) (by decide) ?_
        exact kg)
      obtain ⟨fs, hr, hrun, hended, hW, hsame⟩ := X85.leave (v := some (.int (1 : Int32))) (fun h => by rw [Bd.returns] at h; cases h)
      refine ⟨_, _, pr87 _ (retOut X85 hx (t := .boolean) Bd.returns rfl (Or.inl ⟨rfl, Or.inr (Or.inl rfl), _, rfl⟩) (hb hby at_120) hr), hrun, hended, _, _, rfl, ?_, ⟨_, rfl⟩, hW, hsame.mono (by decide) (by decide)⟩
      show Q0 Z p1 p2 a_SHARED a_UPDATE a_EXCLUSIVE a_CHANGE a_KEEP h0 n0 _ T85.heap _
      rw [e85]
      exact ⟨rfl, N85⟩
    ·
      obtain ⟨cla88, Ara88, qa88, Sa88, Ma88, Ha88, Ga88⟩ := id V68
      have hin89 : ¬ ((0 : Int32) < 0 ∨ cla88.slots.size ≤ ((0 : Int32)).toNatClampNeg) := inb_of Sa88 ⟨by decide, by decide⟩
      have hat89 : cla88.slots[((0 : Int32)).toNatClampNeg]? = some (.int (12 : Int32)) := Has.at Ha88 hin89 rfl
      have c90 := (Arv.other (Arv.other (Arv.other (Arv.other (Arv.other (Arv.ext V39 E42) W52 ne43) W56 ne43) W60 ne43) W64 ne43) W68 ne43)
      obtain ⟨cla91, Ara91, qa91, Sa91, Ma91, Ha91, Ga91⟩ := id c90
      have hin92 : ¬ ((0 : Int32) < 0 ∨ cla91.slots.size ≤ ((0 : Int32)).toNatClampNeg) := inb_of Sa91 ⟨by decide, by decide⟩
      have hat92 : cla91.slots[((0 : Int32)).toNatClampNeg]? = some (.ref a_SHARED) := Has.at Ha91 hin92 rfl
      have hin93 : ¬ ((1 : Int32) < 0 ∨ cla91.slots.size ≤ ((1 : Int32)).toNatClampNeg) := inb_of Sa91 ⟨by decide, by decide⟩
      have hat93 : cla91.slots[((1 : Int32)).toNatClampNeg]? = some (.ref a_UPDATE) := Has.at Ha91 hin93 rfl
      have c94 := (Old.wr (Old.wr (Old.wr (Old.wr (Old.wr (Old.ext c48 E42) W52 gn44) W56 gn44) W60 gn44) W64 gn44) W68 gn44)
      have pr95 : ∀ tg, Steps pP.tables eE below (T68.setTop (mkF mM 107 #[.val (.int p1), .val (.int p2), .val (.ref b2), .val (.ref b42), .val (.int (0 : Int32)), .val (.int (1 : Int32)), .val (.int (0 : Int32))] [(.ref a_UPDATE), (.ref a_SHARED)])) tg → Steps pP.tables eE below (s₁.setTop (entryFrame mM #[(.int p1), (.int p2)] maxLocals)) tg := fun tg kg => pr75 _ (by
        show Steps pP.tables eE below (T68.setTop (mkF mM 80 #[.val (.int p1), .val (.int p2), .val (.ref b2), .val (.ref b42), .val (.int (0 : Int32)), .val (.int (1 : Int32)), .unset] [])) _
        refine XS.aloadN X68.here hx rfl (hb hby at_80) rfl rfl ?_
        show Steps pP.tables eE below (T68.setTop (mkF mM 81 #[.val (.int p1), .val (.int p2), .val (.ref b2), .val (.ref b42), .val (.int (0 : Int32)), .val (.int (1 : Int32)), .unset] [(.ref b42)])) _
        refine XS.iload X68.here hx rfl (hb hby at_81) rfl ?_
        show Steps pP.tables eE below (T68.setTop (mkF mM 83 #[.val (.int p1), .val (.int p2), .val (.ref b2), .val (.ref b42), .val (.int (0 : Int32)), .val (.int (1 : Int32)), .unset] [(.int (0 : Int32)), (.ref b42)])) _
        refine X68.iaload hx (j := (0 : Int32)) (v := (.int (12 : Int32))) (by rw [e68]; exact Ara88.1) (State.isArrayOf_alike hZ.alike Ara88.2.1) Ara88.2.2 hin89 hat89 (g := (mkF mM 83 #[.val (.int p1), .val (.int p2), .val (.ref b2), .val (.ref b42), .val (.int (0 : Int32)), .val (.int (1 : Int32)), .unset] [(.int (0 : Int32)), (.ref b42)])) rfl rfl (hb hby at_83) _ ?_
        show Steps pP.tables eE below (T68.setTop (mkF mM 84 #[.val (.int p1), .val (.int p2), .val (.ref b2), .val (.ref b42), .val (.int (0 : Int32)), .val (.int (1 : Int32)), .unset] [(.int (12 : Int32))])) _
        refine XS.iload X68.here hx rfl (hb hby at_84) rfl ?_
        show Steps pP.tables eE below (T68.setTop (mkF mM 86 #[.val (.int p1), .val (.int p2), .val (.ref b2), .val (.ref b42), .val (.int (0 : Int32)), .val (.int (1 : Int32)), .unset] [(.int (1 : Int32)), (.int (12 : Int32))])) _
        refine XS.ishr X68.here hx rfl (hb hby at_86) rfl ?_
        show Steps pP.tables eE below (T68.setTop (mkF mM 87 #[.val (.int p1), .val (.int p2), .val (.ref b2), .val (.ref b42), .val (.int (0 : Int32)), .val (.int (1 : Int32)), .unset] [(.int ((12 : Int32) >>> ((1 : Int32) &&& 31)))])) _
        refine XS.iconst X68.here hx rfl (hb hby at_87) ?_
        show Steps pP.tables eE below (T68.setTop (mkF mM 88 #[.val (.int p1), .val (.int p2), .val (.ref b2), .val (.ref b42), .val (.int (0 : Int32)), .val (.int (1 : Int32)), .unset] [(.int (1 : Int32)), (.int ((12 : Int32) >>> ((1 : Int32) &&& 31)))])) _
        refine XS.iand X68.here hx rfl (hb hby at_88) rfl ?_
        show Steps pP.tables eE below (T68.setTop (mkF mM 89 #[.val (.int p1), .val (.int p2), .val (.ref b2), .val (.ref b42), .val (.int (0 : Int32)), .val (.int (1 : Int32)), .unset] [(.int (0 : Int32))])) _
        refine XS.ifYes X68.here hx rfl (pc0 := 89) (pc' := 96) rfl (hb hby at_89) rfl ((if0 _ _).trans (teq (by decide)).1) (by decide) (by decide) ?_
        show Steps pP.tables eE below (T68.setTop (mkF mM 96 #[.val (.int p1), .val (.int p2), .val (.ref b2), .val (.ref b42), .val (.int (0 : Int32)), .val (.int (1 : Int32)), .unset] [])) _
        refine XS.iconst X68.here hx rfl (hb hby at_96) ?_
        show Steps pP.tables eE below (T68.setTop (mkF mM 97 #[.val (.int p1), .val (.int p2), .val (.ref b2), .val (.ref b42), .val (.int (0 : Int32)), .val (.int (1 : Int32)), .unset] [(.int (0 : Int32))])) _
        refine XS.istore X68.here hx rfl (hb hby at_97) rfl (l' := #[.val (.int p1), .val (.int p2), .val (.ref b2), .val (.ref b42), .val (.int (0 : Int32)), .val (.int (1 : Int32)), .val (.int (0 : Int32))]) rfl ?_
        show Steps pP.tables eE below (T68.setTop (mkF mM 99 #[.val (.int p1), .val (.int p2), .val (.ref b2), .val (.ref b42), .val (.int (0 : Int32)), .val (.int (1 : Int32)), .val (.int (0 : Int32))] [])) _
        refine XS.aloadN X68.here hx rfl (hb hby at_99) rfl rfl ?_
        show Steps pP.tables eE below (T68.setTop (mkF mM 100 #[.val (.int p1), .val (.int p2), .val (.ref b2), .val (.ref b42), .val (.int (0 : Int32)), .val (.int (1 : Int32)), .val (.int (0 : Int32))] [(.ref b2)])) _
        refine XS.iload X68.here hx rfl (hb hby at_100) rfl ?_
        show Steps pP.tables eE below (T68.setTop (mkF mM 102 #[.val (.int p1), .val (.int p2), .val (.ref b2), .val (.ref b42), .val (.int (0 : Int32)), .val (.int (1 : Int32)), .val (.int (0 : Int32))] [(.int (0 : Int32)), (.ref b2)])) _
        refine X68.aaload hx (j := (0 : Int32)) (v := (.ref a_SHARED)) (by rw [e68]; exact Ara91.1) (State.isArrayOf_alike hZ.alike Ara91.2.1) rfl Ara91.2.2 hin92 hat92 (g := (mkF mM 102 #[.val (.int p1), .val (.int p2), .val (.ref b2), .val (.ref b42), .val (.int (0 : Int32)), .val (.int (1 : Int32)), .val (.int (0 : Int32))] [(.int (0 : Int32)), (.ref b2)])) rfl rfl (hb hby at_102) _ ?_
        show Steps pP.tables eE below (T68.setTop (mkF mM 103 #[.val (.int p1), .val (.int p2), .val (.ref b2), .val (.ref b42), .val (.int (0 : Int32)), .val (.int (1 : Int32)), .val (.int (0 : Int32))] [(.ref a_SHARED)])) _
        refine XS.aloadN X68.here hx rfl (hb hby at_103) rfl rfl ?_
        show Steps pP.tables eE below (T68.setTop (mkF mM 104 #[.val (.int p1), .val (.int p2), .val (.ref b2), .val (.ref b42), .val (.int (0 : Int32)), .val (.int (1 : Int32)), .val (.int (0 : Int32))] [(.ref b2), (.ref a_SHARED)])) _
        refine XS.iload X68.here hx rfl (hb hby at_104) rfl ?_
        show Steps pP.tables eE below (T68.setTop (mkF mM 106 #[.val (.int p1), .val (.int p2), .val (.ref b2), .val (.ref b42), .val (.int (0 : Int32)), .val (.int (1 : Int32)), .val (.int (0 : Int32))] [(.int (1 : Int32)), (.ref b2), (.ref a_SHARED)])) _
        refine X68.aaload hx (j := (1 : Int32)) (v := (.ref a_UPDATE)) (by rw [e68]; exact Ara91.1) (State.isArrayOf_alike hZ.alike Ara91.2.1) rfl Ara91.2.2 hin93 hat93 (g := (mkF mM 106 #[.val (.int p1), .val (.int p2), .val (.ref b2), .val (.ref b42), .val (.int (0 : Int32)), .val (.int (1 : Int32)), .val (.int (0 : Int32))] [(.int (1 : Int32)), (.ref b2), (.ref a_SHARED)])) rfl rfl (hb hby at_106) _ ?_
        exact kg)
      have c96 := (Nat.le_trans (Nat.le_trans (Nat.le_trans (Nat.le_trans (Nat.le_trans (Nat.le_trans c45 E42.1) (Keep.of_wr W52).1) (Keep.of_wr W56).1) (Keep.of_wr W60).1) (Keep.of_wr W64).1) (Keep.of_wr W68).1)
      obtain ⟨cq97, kq97, qa97, qb97, qc97⟩ := isOf hZ e68 (Exa.ext (c94).2 E_SHARED)
      obtain ⟨_, _, ⟨T97, L97, kk97, nn97⟩, -, X97, ⟨Lc97, hQ97, l97, y97, z97⟩, st97⟩ := X68.virtualBack hx (y := (⟨"com/example/settle/settle/service/LockTable$Mode", "keepsOut", "(Lcom/example/settle/settle/service/LockTable$Mode;)Z"⟩ : MethodName)) (z := (⟨"com/example/settle/settle/service/LockTable$Mode", "keepsOut", "(Lcom/example/settle/settle/service/LockTable$Mode;)Z"⟩ : MethodName)) hown (mvT hZ (hw _ (List.mem_of_getElem? (i := 16) rfl))) (mvT hZ (hw _ (List.mem_of_getElem? (i := 17) rfl))) (notFace_of_selects (args := #[]) (mvT hZ (hw _ (List.mem_of_getElem? (i := 19) rfl)))) (mvT hZ (hw _ (List.mem_of_getElem? (i := 19) rfl))) (mvT hZ (hw _ (List.mem_of_getElem? (i := 18) rfl))) (by decide) (backOf (W := 0) (rm201 l Z a0 hw [] a_SHARED a_UPDATE a_EXCLUSIVE a_CHANGE a_KEEP h68 n0 c96 c94 S_SHARED E_SHARED S_UPDATE E_UPDATE S_EXCLUSIVE E_EXCLUSIVE S_CHANGE E_CHANGE S_KEEP E_KEEP F_SHARED_ordinal F_CHANGE_ordinal F_EXCLUSIVE_ordinal F_KEEP_ordinal F_UPDATE_ordinal) hZ (hw _ (List.mem_of_getElem? (i := 20) rfl)) (hw _ (List.mem_of_getElem? (i := 3) rfl)) (by decide) (by decide)) qa97 qc97 (g := (mkF mM 107 #[.val (.int p1), .val (.int p2), .val (.ref b2), .val (.ref b42), .val (.int (0 : Int32)), .val (.int (1 : Int32)), .val (.int (0 : Int32))] [(.ref a_UPDATE), (.ref a_SHARED)])) rfl (by rw [hml]; rfl) (Steps.refl _) (argsL := [(.ref a_UPDATE)]) (rest := []) (lenOf pd_1 rfl) rfl (by show 2 * 0 + _ ≤ _; exact Nat.le_of_eq rfl) (hb hby at_107) (fun _ _ => ⟨rfl, e68, (by decide : 2 + 0 ≤ _), (by decide : 10 + 0 ≤ _)⟩)
      dsimp only [Pt.U, Pt.locs, Pt.cells, Pt.slots] at X97 l97 y97 z97 st97 hQ97
      subst l97 y97 z97
      obtain ⟨rfl, Nq97, e97⟩ := hQ97
      have N97 := Fr.app N68 Nq97
      have pr98 : ∀ tg, Steps pP.tables eE below (T97.setTop (mkF mM 110 #[.val (.int p1), .val (.int p2), .val (.ref b2), .val (.ref b42), .val (.int (0 : Int32)), .val (.int (1 : Int32)), .val (.int (0 : Int32))] [(.int (0 : Int32))])) tg → Steps pP.tables eE below (s₁.setTop (entryFrame mM #[(.int p1), (.int p2)] maxLocals)) tg := fun tg kg => pr95 _ (st97.trans kg)
      have pr99 : ∀ tg, Steps pP.tables eE below (T97.setTop (mkF mM 120 #[.val (.int p1), .val (.int p2), .val (.ref b2), .val (.ref b42), .val (.int (0 : Int32)), .val (.int (1 : Int32)), .val (.int (0 : Int32))] [(.int (1 : Int32))])) tg → Steps pP.tables eE below (s₁.setTop (entryFrame mM #[(.int p1), (.int p2)] maxLocals)) tg := fun tg kg => pr98 _ (by
        show Steps pP.tables eE below (T97.setTop (mkF mM 110 #[.val (.int p1), .val (.int p2), .val (.ref b2), .val (.ref b42), .val (.int (0 : Int32)), .val (.int (1 : Int32)), .val (.int (0 : Int32))] [(.int (0 : Int32))])) _
        refine XS.iload X97.here hx rfl (hb hby at_110) rfl ?_
        show Steps pP.tables eE below (T97.setTop (mkF mM 112 #[.val (.int p1), .val (.int p2), .val (.ref b2), .val (.ref b42), .val (.int (0 : Int32)), .val (.int (1 : Int32)), .val (.int (0 : Int32))] [(.int (0 : Int32)), (.int (0 : Int32))])) _
        refine XS.icmpNo X97.here hx rfl (hb hby at_112) rfl (teq (by decide)).2 ?_
        show Steps pP.tables eE below (T97.setTop (mkF mM 115 #[.val (.int p1), .val (.int p2), .val (.ref b2), .val (.ref b42), .val (.int (0 : Int32)), .val (.int (1 : Int32)), .val (.int (0 : Int32))] [])) _
        refine XS.iconst X97.here hx rfl (hb hby at_115) ?_
        show Steps pP.tables eE below (T97.setTop (mkF mM 116 #[.val (.int p1), .val (.int p2), .val (.ref b2), .val (.ref b42), .val (.int (0 : Int32)), .val (.int (1 : Int32)), .val (.int (0 : Int32))] [(.int (1 : Int32))])) _
        refine XS.goto X97.here hx rfl (pc0 := 116) (pc' := 120) rfl (hb hby at_116) (by decide) (by decide) ?_
        exact kg)
      obtain ⟨fs, hr, hrun, hended, hW, hsame⟩ := X97.leave (v := some (.int (1 : Int32))) (fun h => by rw [Bd.returns] at h; cases h)
      refine ⟨_, _, pr99 _ (retOut X97 hx (t := .boolean) Bd.returns rfl (Or.inl ⟨rfl, Or.inr (Or.inl rfl), _, rfl⟩) (hb hby at_120) hr), hrun, hended, _, _, rfl, ?_, ⟨_, rfl⟩, hW, hsame.mono (by decide) (by decide)⟩
      show Q0 Z p1 p2 a_SHARED a_UPDATE a_EXCLUSIVE a_CHANGE a_KEEP h0 n0 _ T97.heap _
      rw [e97]
      exact ⟨rfl, N97⟩
    ·
      obtain ⟨cla100, Ara100, qa100, Sa100, Ma100, Ha100, Ga100⟩ := id V68
      have hin101 : ¬ ((0 : Int32) < 0 ∨ cla100.slots.size ≤ ((0 : Int32)).toNatClampNeg) := inb_of Sa100 ⟨by decide, by decide⟩
      have hat101 : cla100.slots[((0 : Int32)).toNatClampNeg]? = some (.int (12 : Int32)) := Has.at Ha100 hin101 rfl
      have c102 := (Arv.other (Arv.other (Arv.other (Arv.other (Arv.other (Arv.ext V39 E42) W52 ne43) W56 ne43) W60 ne43) W64 ne43) W68 ne43)
      obtain ⟨cla103, Ara103, qa103, Sa103, Ma103, Ha103, Ga103⟩ := id c102
      have hin104 : ¬ ((0 : Int32) < 0 ∨ cla103.slots.size ≤ ((0 : Int32)).toNatClampNeg) := inb_of Sa103 ⟨by decide, by decide⟩
      have hat104 : cla103.slots[((0 : Int32)).toNatClampNeg]? = some (.ref a_SHARED) := Has.at Ha103 hin104 rfl
      have hin105 : ¬ ((2 : Int32) < 0 ∨ cla103.slots.size ≤ ((2 : Int32)).toNatClampNeg) := inb_of Sa103 ⟨by decide, by decide⟩
      have hat105 : cla103.slots[((2 : Int32)).toNatClampNeg]? = some (.ref a_EXCLUSIVE) := Has.at Ha103 hin105 rfl
      have c106 := (Old.wr (Old.wr (Old.wr (Old.wr (Old.wr (Old.ext c48 E42) W52 gn44) W56 gn44) W60 gn44) W64 gn44) W68 gn44)
      have pr107 : ∀ tg, Steps pP.tables eE below (T68.setTop (mkF mM 107 #[.val (.int p1), .val (.int p2), .val (.ref b2), .val (.ref b42), .val (.int (0 : Int32)), .val (.int (2 : Int32)), .val (.int (1 : Int32))] [(.ref a_EXCLUSIVE), (.ref a_SHARED)])) tg → Steps pP.tables eE below (s₁.setTop (entryFrame mM #[(.int p1), (.int p2)] maxLocals)) tg := fun tg kg => pr75 _ (by
        show Steps pP.tables eE below (T68.setTop (mkF mM 80 #[.val (.int p1), .val (.int p2), .val (.ref b2), .val (.ref b42), .val (.int (0 : Int32)), .val (.int (2 : Int32)), .unset] [])) _
        refine XS.aloadN X68.here hx rfl (hb hby at_80) rfl rfl ?_
        show Steps pP.tables eE below (T68.setTop (mkF mM 81 #[.val (.int p1), .val (.int p2), .val (.ref b2), .val (.ref b42), .val (.int (0 : Int32)), .val (.int (2 : Int32)), .unset] [(.ref b42)])) _
        refine XS.iload X68.here hx rfl (hb hby at_81) rfl ?_
        show Steps pP.tables eE below (T68.setTop (mkF mM 83 #[.val (.int p1), .val (.int p2), .val (.ref b2), .val (.ref b42), .val (.int (0 : Int32)), .val (.int (2 : Int32)), .unset] [(.int (0 : Int32)), (.ref b42)])) _
        refine X68.iaload hx (j := (0 : Int32)) (v := (.int (12 : Int32))) (by rw [e68]; exact Ara100.1) (State.isArrayOf_alike hZ.alike Ara100.2.1) Ara100.2.2 hin101 hat101 (g := (mkF mM 83 #[.val (.int p1), .val (.int p2), .val (.ref b2), .val (.ref b42), .val (.int (0 : Int32)), .val (.int (2 : Int32)), .unset] [(.int (0 : Int32)), (.ref b42)])) rfl rfl (hb hby at_83) _ ?_
        show Steps pP.tables eE below (T68.setTop (mkF mM 84 #[.val (.int p1), .val (.int p2), .val (.ref b2), .val (.ref b42), .val (.int (0 : Int32)), .val (.int (2 : Int32)), .unset] [(.int (12 : Int32))])) _
        refine XS.iload X68.here hx rfl (hb hby at_84) rfl ?_
        show Steps pP.tables eE below (T68.setTop (mkF mM 86 #[.val (.int p1), .val (.int p2), .val (.ref b2), .val (.ref b42), .val (.int (0 : Int32)), .val (.int (2 : Int32)), .unset] [(.int (2 : Int32)), (.int (12 : Int32))])) _
        refine XS.ishr X68.here hx rfl (hb hby at_86) rfl ?_
        show Steps pP.tables eE below (T68.setTop (mkF mM 87 #[.val (.int p1), .val (.int p2), .val (.ref b2), .val (.ref b42), .val (.int (0 : Int32)), .val (.int (2 : Int32)), .unset] [(.int ((12 : Int32) >>> ((2 : Int32) &&& 31)))])) _
        refine XS.iconst X68.here hx rfl (hb hby at_87) ?_
        show Steps pP.tables eE below (T68.setTop (mkF mM 88 #[.val (.int p1), .val (.int p2), .val (.ref b2), .val (.ref b42), .val (.int (0 : Int32)), .val (.int (2 : Int32)), .unset] [(.int (1 : Int32)), (.int ((12 : Int32) >>> ((2 : Int32) &&& 31)))])) _
        refine XS.iand X68.here hx rfl (hb hby at_88) rfl ?_
        show Steps pP.tables eE below (T68.setTop (mkF mM 89 #[.val (.int p1), .val (.int p2), .val (.ref b2), .val (.ref b42), .val (.int (0 : Int32)), .val (.int (2 : Int32)), .unset] [(.int (1 : Int32))])) _
        refine XS.ifNo X68.here hx rfl (hb hby at_89) rfl ((if0 _ _).trans (feq (by decide)).1) ?_
        show Steps pP.tables eE below (T68.setTop (mkF mM 92 #[.val (.int p1), .val (.int p2), .val (.ref b2), .val (.ref b42), .val (.int (0 : Int32)), .val (.int (2 : Int32)), .unset] [])) _
        refine XS.iconst X68.here hx rfl (hb hby at_92) ?_
        show Steps pP.tables eE below (T68.setTop (mkF mM 93 #[.val (.int p1), .val (.int p2), .val (.ref b2), .val (.ref b42), .val (.int (0 : Int32)), .val (.int (2 : Int32)), .unset] [(.int (1 : Int32))])) _
        refine XS.goto X68.here hx rfl (pc0 := 93) (pc' := 97) rfl (hb hby at_93) (by decide) (by decide) ?_
        show Steps pP.tables eE below (T68.setTop (mkF mM 97 #[.val (.int p1), .val (.int p2), .val (.ref b2), .val (.ref b42), .val (.int (0 : Int32)), .val (.int (2 : Int32)), .unset] [(.int (1 : Int32))])) _
        refine XS.istore X68.here hx rfl (hb hby at_97) rfl (l' := #[.val (.int p1), .val (.int p2), .val (.ref b2), .val (.ref b42), .val (.int (0 : Int32)), .val (.int (2 : Int32)), .val (.int (1 : Int32))]) rfl ?_
        show Steps pP.tables eE below (T68.setTop (mkF mM 99 #[.val (.int p1), .val (.int p2), .val (.ref b2), .val (.ref b42), .val (.int (0 : Int32)), .val (.int (2 : Int32)), .val (.int (1 : Int32))] [])) _
        refine XS.aloadN X68.here hx rfl (hb hby at_99) rfl rfl ?_
        show Steps pP.tables eE below (T68.setTop (mkF mM 100 #[.val (.int p1), .val (.int p2), .val (.ref b2), .val (.ref b42), .val (.int (0 : Int32)), .val (.int (2 : Int32)), .val (.int (1 : Int32))] [(.ref b2)])) _
        refine XS.iload X68.here hx rfl (hb hby at_100) rfl ?_
        show Steps pP.tables eE below (T68.setTop (mkF mM 102 #[.val (.int p1), .val (.int p2), .val (.ref b2), .val (.ref b42), .val (.int (0 : Int32)), .val (.int (2 : Int32)), .val (.int (1 : Int32))] [(.int (0 : Int32)), (.ref b2)])) _
        refine X68.aaload hx (j := (0 : Int32)) (v := (.ref a_SHARED)) (by rw [e68]; exact Ara103.1) (State.isArrayOf_alike hZ.alike Ara103.2.1) rfl Ara103.2.2 hin104 hat104 (g := (mkF mM 102 #[.val (.int p1), .val (.int p2), .val (.ref b2), .val (.ref b42), .val (.int (0 : Int32)), .val (.int (2 : Int32)), .val (.int (1 : Int32))] [(.int (0 : Int32)), (.ref b2)])) rfl rfl (hb hby at_102) _ ?_
        show Steps pP.tables eE below (T68.setTop (mkF mM 103 #[.val (.int p1), .val (.int p2), .val (.ref b2), .val (.ref b42), .val (.int (0 : Int32)), .val (.int (2 : Int32)), .val (.int (1 : Int32))] [(.ref a_SHARED)])) _
        refine XS.aloadN X68.here hx rfl (hb hby at_103) rfl rfl ?_
        show Steps pP.tables eE below (T68.setTop (mkF mM 104 #[.val (.int p1), .val (.int p2), .val (.ref b2), .val (.ref b42), .val (.int (0 : Int32)), .val (.int (2 : Int32)), .val (.int (1 : Int32))] [(.ref b2), (.ref a_SHARED)])) _
        refine XS.iload X68.here hx rfl (hb hby at_104) rfl ?_
        show Steps pP.tables eE below (T68.setTop (mkF mM 106 #[.val (.int p1), .val (.int p2), .val (.ref b2), .val (.ref b42), .val (.int (0 : Int32)), .val (.int (2 : Int32)), .val (.int (1 : Int32))] [(.int (2 : Int32)), (.ref b2), (.ref a_SHARED)])) _
        refine X68.aaload hx (j := (2 : Int32)) (v := (.ref a_EXCLUSIVE)) (by rw [e68]; exact Ara103.1) (State.isArrayOf_alike hZ.alike Ara103.2.1) rfl Ara103.2.2 hin105 hat105 (g := (mkF mM 106 #[.val (.int p1), .val (.int p2), .val (.ref b2), .val (.ref b42), .val (.int (0 : Int32)), .val (.int (2 : Int32)), .val (.int (1 : Int32))] [(.int (2 : Int32)), (.ref b2), (.ref a_SHARED)])) rfl rfl (hb hby at_106) _ ?_
        exact kg)
      have c108 := (Nat.le_trans (Nat.le_trans (Nat.le_trans (Nat.le_trans (Nat.le_trans (Nat.le_trans c45 E42.1) (Keep.of_wr W52).1) (Keep.of_wr W56).1) (Keep.of_wr W60).1) (Keep.of_wr W64).1) (Keep.of_wr W68).1)
      obtain ⟨cq109, kq109, qa109, qb109, qc109⟩ := isOf hZ e68 (Exa.ext (c106).2 E_SHARED)
      obtain ⟨_, _, ⟨T109, L109, kk109, nn109⟩, -, X109, ⟨Lc109, hQ109, l109, y109, z109⟩, st109⟩ := X68.virtualBack hx (y := (⟨"com/example/settle/settle/service/LockTable$Mode", "keepsOut", "(Lcom/example/settle/settle/service/LockTable$Mode;)Z"⟩ : MethodName)) (z := (⟨"com/example/settle/settle/service/LockTable$Mode", "keepsOut", "(Lcom/example/settle/settle/service/LockTable$Mode;)Z"⟩ : MethodName)) hown (mvT hZ (hw _ (List.mem_of_getElem? (i := 16) rfl))) (mvT hZ (hw _ (List.mem_of_getElem? (i := 17) rfl))) (notFace_of_selects (args := #[]) (mvT hZ (hw _ (List.mem_of_getElem? (i := 19) rfl)))) (mvT hZ (hw _ (List.mem_of_getElem? (i := 19) rfl))) (mvT hZ (hw _ (List.mem_of_getElem? (i := 18) rfl))) (by decide) (backOf (W := 0) (rm202 l Z a0 hw [] a_SHARED a_UPDATE a_EXCLUSIVE a_CHANGE a_KEEP h68 n0 c108 c106 S_SHARED E_SHARED S_UPDATE E_UPDATE S_EXCLUSIVE E_EXCLUSIVE S_CHANGE E_CHANGE S_KEEP E_KEEP F_SHARED_ordinal F_CHANGE_ordinal F_EXCLUSIVE_ordinal F_KEEP_ordinal F_UPDATE_ordinal) hZ (hw _ (List.mem_of_getElem? (i := 20) rfl)) (hw _ (List.mem_of_getElem? (i := 3) rfl)) (by decide) (by decide)) qa109 qc109 (g := (mkF mM 107 #[.val (.int p1), .val (.int p2), .val (.ref b2), .val (.ref b42), .val (.int (0 : Int32)), .val (.int (2 : Int32)), .val (.int (1 : Int32))] [(.ref a_EXCLUSIVE), (.ref a_SHARED)])) rfl (by rw [hml]; rfl) (Steps.refl _) (argsL := [(.ref a_EXCLUSIVE)]) (rest := []) (lenOf pd_1 rfl) rfl (by show 2 * 0 + _ ≤ _; exact Nat.le_of_eq rfl) (hb hby at_107) (fun _ _ => ⟨rfl, e68, (by decide : 2 + 0 ≤ _), (by decide : 10 + 0 ≤ _)⟩)
      dsimp only [Pt.U, Pt.locs, Pt.cells, Pt.slots] at X109 l109 y109 z109 st109 hQ109
      subst l109 y109 z109
      obtain ⟨rfl, Nq109, e109⟩ := hQ109
      have N109 := Fr.app N68 Nq109
      have pr110 : ∀ tg, Steps pP.tables eE below (T109.setTop (mkF mM 110 #[.val (.int p1), .val (.int p2), .val (.ref b2), .val (.ref b42), .val (.int (0 : Int32)), .val (.int (2 : Int32)), .val (.int (1 : Int32))] [(.int (1 : Int32))])) tg → Steps pP.tables eE below (s₁.setTop (entryFrame mM #[(.int p1), (.int p2)] maxLocals)) tg := fun tg kg => pr107 _ (st109.trans kg)
      have pr111 : ∀ tg, Steps pP.tables eE below (T109.setTop (mkF mM 120 #[.val (.int p1), .val (.int p2), .val (.ref b2), .val (.ref b42), .val (.int (0 : Int32)), .val (.int (2 : Int32)), .val (.int (1 : Int32))] [(.int (1 : Int32))])) tg → Steps pP.tables eE below (s₁.setTop (entryFrame mM #[(.int p1), (.int p2)] maxLocals)) tg := fun tg kg => pr110 _ (by
        show Steps pP.tables eE below (T109.setTop (mkF mM 110 #[.val (.int p1), .val (.int p2), .val (.ref b2), .val (.ref b42), .val (.int (0 : Int32)), .val (.int (2 : Int32)), .val (.int (1 : Int32))] [(.int (1 : Int32))])) _
        refine XS.iload X109.here hx rfl (hb hby at_110) rfl ?_
        show Steps pP.tables eE below (T109.setTop (mkF mM 112 #[.val (.int p1), .val (.int p2), .val (.ref b2), .val (.ref b42), .val (.int (0 : Int32)), .val (.int (2 : Int32)), .val (.int (1 : Int32))] [(.int (1 : Int32)), (.int (1 : Int32))])) _
        refine XS.icmpNo X109.here hx rfl (hb hby at_112) rfl (teq (by decide)).2 ?_
        show Steps pP.tables eE below (T109.setTop (mkF mM 115 #[.val (.int p1), .val (.int p2), .val (.ref b2), .val (.ref b42), .val (.int (0 : Int32)), .val (.int (2 : Int32)), .val (.int (1 : Int32))] [])) _
        refine XS.iconst X109.here hx rfl (hb hby at_115) ?_
        show Steps pP.tables eE below (T109.setTop (mkF mM 116 #[.val (.int p1), .val (.int p2), .val (.ref b2), .val (.ref b42), .val (.int (0 : Int32)), .val (.int (2 : Int32)), .val (.int (1 : Int32))] [(.int (1 : Int32))])) _
        refine XS.goto X109.here hx rfl (pc0 := 116) (pc' := 120) rfl (hb hby at_116) (by decide) (by decide) ?_
        exact kg)
      obtain ⟨fs, hr, hrun, hended, hW, hsame⟩ := X109.leave (v := some (.int (1 : Int32))) (fun h => by rw [Bd.returns] at h; cases h)
      refine ⟨_, _, pr111 _ (retOut X109 hx (t := .boolean) Bd.returns rfl (Or.inl ⟨rfl, Or.inr (Or.inl rfl), _, rfl⟩) (hb hby at_120) hr), hrun, hended, _, _, rfl, ?_, ⟨_, rfl⟩, hW, hsame.mono (by decide) (by decide)⟩
      show Q0 Z p1 p2 a_SHARED a_UPDATE a_EXCLUSIVE a_CHANGE a_KEEP h0 n0 _ T109.heap _
      rw [e109]
      exact ⟨rfl, N109⟩
    ·
      obtain ⟨cla112, Ara112, qa112, Sa112, Ma112, Ha112, Ga112⟩ := id V68
      have hin113 : ¬ ((0 : Int32) < 0 ∨ cla112.slots.size ≤ ((0 : Int32)).toNatClampNeg) := inb_of Sa112 ⟨by decide, by decide⟩
      have hat113 : cla112.slots[((0 : Int32)).toNatClampNeg]? = some (.int (12 : Int32)) := Has.at Ha112 hin113 rfl
      have c114 := (Arv.other (Arv.other (Arv.other (Arv.other (Arv.other (Arv.ext V39 E42) W52 ne43) W56 ne43) W60 ne43) W64 ne43) W68 ne43)
      obtain ⟨cla115, Ara115, qa115, Sa115, Ma115, Ha115, Ga115⟩ := id c114
      have hin116 : ¬ ((0 : Int32) < 0 ∨ cla115.slots.size ≤ ((0 : Int32)).toNatClampNeg) := inb_of Sa115 ⟨by decide, by decide⟩
      have hat116 : cla115.slots[((0 : Int32)).toNatClampNeg]? = some (.ref a_SHARED) := Has.at Ha115 hin116 rfl
      have hin117 : ¬ ((3 : Int32) < 0 ∨ cla115.slots.size ≤ ((3 : Int32)).toNatClampNeg) := inb_of Sa115 ⟨by decide, by decide⟩
      have hat117 : cla115.slots[((3 : Int32)).toNatClampNeg]? = some (.ref a_CHANGE) := Has.at Ha115 hin117 rfl
      have c118 := (Old.wr (Old.wr (Old.wr (Old.wr (Old.wr (Old.ext c48 E42) W52 gn44) W56 gn44) W60 gn44) W64 gn44) W68 gn44)
      have pr119 : ∀ tg, Steps pP.tables eE below (T68.setTop (mkF mM 107 #[.val (.int p1), .val (.int p2), .val (.ref b2), .val (.ref b42), .val (.int (0 : Int32)), .val (.int (3 : Int32)), .val (.int (1 : Int32))] [(.ref a_CHANGE), (.ref a_SHARED)])) tg → Steps pP.tables eE below (s₁.setTop (entryFrame mM #[(.int p1), (.int p2)] maxLocals)) tg := fun tg kg => pr75 _ (by
        show Steps pP.tables eE below (T68.setTop (mkF mM 80 #[.val (.int p1), .val (.int p2), .val (.ref b2), .val (.ref b42), .val (.int (0 : Int32)), .val (.int (3 : Int32)), .unset] [])) _
        refine XS.aloadN X68.here hx rfl (hb hby at_80) rfl rfl ?_
        show Steps pP.tables eE below (T68.setTop (mkF mM 81 #[.val (.int p1), .val (.int p2), .val (.ref b2), .val (.ref b42), .val (.int (0 : Int32)), .val (.int (3 : Int32)), .unset] [(.ref b42)])) _
        refine XS.iload X68.here hx rfl (hb hby at_81) rfl ?_
        show Steps pP.tables eE below (T68.setTop (mkF mM 83 #[.val (.int p1), .val (.int p2), .val (.ref b2), .val (.ref b42), .val (.int (0 : Int32)), .val (.int (3 : Int32)), .unset] [(.int (0 : Int32)), (.ref b42)])) _
        refine X68.iaload hx (j := (0 : Int32)) (v := (.int (12 : Int32))) (by rw [e68]; exact Ara112.1) (State.isArrayOf_alike hZ.alike Ara112.2.1) Ara112.2.2 hin113 hat113 (g := (mkF mM 83 #[.val (.int p1), .val (.int p2), .val (.ref b2), .val (.ref b42), .val (.int (0 : Int32)), .val (.int (3 : Int32)), .unset] [(.int (0 : Int32)), (.ref b42)])) rfl rfl (hb hby at_83) _ ?_
        show Steps pP.tables eE below (T68.setTop (mkF mM 84 #[.val (.int p1), .val (.int p2), .val (.ref b2), .val (.ref b42), .val (.int (0 : Int32)), .val (.int (3 : Int32)), .unset] [(.int (12 : Int32))])) _
        refine XS.iload X68.here hx rfl (hb hby at_84) rfl ?_
        show Steps pP.tables eE below (T68.setTop (mkF mM 86 #[.val (.int p1), .val (.int p2), .val (.ref b2), .val (.ref b42), .val (.int (0 : Int32)), .val (.int (3 : Int32)), .unset] [(.int (3 : Int32)), (.int (12 : Int32))])) _
        refine XS.ishr X68.here hx rfl (hb hby at_86) rfl ?_
        show Steps pP.tables eE below (T68.setTop (mkF mM 87 #[.val (.int p1), .val (.int p2), .val (.ref b2), .val (.ref b42), .val (.int (0 : Int32)), .val (.int (3 : Int32)), .unset] [(.int ((12 : Int32) >>> ((3 : Int32) &&& 31)))])) _
        refine XS.iconst X68.here hx rfl (hb hby at_87) ?_
        show Steps pP.tables eE below (T68.setTop (mkF mM 88 #[.val (.int p1), .val (.int p2), .val (.ref b2), .val (.ref b42), .val (.int (0 : Int32)), .val (.int (3 : Int32)), .unset] [(.int (1 : Int32)), (.int ((12 : Int32) >>> ((3 : Int32) &&& 31)))])) _
        refine XS.iand X68.here hx rfl (hb hby at_88) rfl ?_
        show Steps pP.tables eE below (T68.setTop (mkF mM 89 #[.val (.int p1), .val (.int p2), .val (.ref b2), .val (.ref b42), .val (.int (0 : Int32)), .val (.int (3 : Int32)), .unset] [(.int (1 : Int32))])) _
        refine XS.ifNo X68.here hx rfl (hb hby at_89) rfl ((if0 _ _).trans (feq (by decide)).1) ?_
        show Steps pP.tables eE below (T68.setTop (mkF mM 92 #[.val (.int p1), .val (.int p2), .val (.ref b2), .val (.ref b42), .val (.int (0 : Int32)), .val (.int (3 : Int32)), .unset] [])) _
        refine XS.iconst X68.here hx rfl (hb hby at_92) ?_
        show Steps pP.tables eE below (T68.setTop (mkF mM 93 #[.val (.int p1), .val (.int p2), .val (.ref b2), .val (.ref b42), .val (.int (0 : Int32)), .val (.int (3 : Int32)), .unset] [(.int (1 : Int32))])) _
        refine XS.goto X68.here hx rfl (pc0 := 93) (pc' := 97) rfl (hb hby at_93) (by decide) (by decide) ?_
        show Steps pP.tables eE below (T68.setTop (mkF mM 97 #[.val (.int p1), .val (.int p2), .val (.ref b2), .val (.ref b42), .val (.int (0 : Int32)), .val (.int (3 : Int32)), .unset] [(.int (1 : Int32))])) _
        refine XS.istore X68.here hx rfl (hb hby at_97) rfl (l' := #[.val (.int p1), .val (.int p2), .val (.ref b2), .val (.ref b42), .val (.int (0 : Int32)), .val (.int (3 : Int32)), .val (.int (1 : Int32))]) rfl ?_
        show Steps pP.tables eE below (T68.setTop (mkF mM 99 #[.val (.int p1), .val (.int p2), .val (.ref b2), .val (.ref b42), .val (.int (0 : Int32)), .val (.int (3 : Int32)), .val (.int (1 : Int32))] [])) _
        refine XS.aloadN X68.here hx rfl (hb hby at_99) rfl rfl ?_
        show Steps pP.tables eE below (T68.setTop (mkF mM 100 #[.val (.int p1), .val (.int p2), .val (.ref b2), .val (.ref b42), .val (.int (0 : Int32)), .val (.int (3 : Int32)), .val (.int (1 : Int32))] [(.ref b2)])) _
        refine XS.iload X68.here hx rfl (hb hby at_100) rfl ?_
        show Steps pP.tables eE below (T68.setTop (mkF mM 102 #[.val (.int p1), .val (.int p2), .val (.ref b2), .val (.ref b42), .val (.int (0 : Int32)), .val (.int (3 : Int32)), .val (.int (1 : Int32))] [(.int (0 : Int32)), (.ref b2)])) _
        refine X68.aaload hx (j := (0 : Int32)) (v := (.ref a_SHARED)) (by rw [e68]; exact Ara115.1) (State.isArrayOf_alike hZ.alike Ara115.2.1) rfl Ara115.2.2 hin116 hat116 (g := (mkF mM 102 #[.val (.int p1), .val (.int p2), .val (.ref b2), .val (.ref b42), .val (.int (0 : Int32)), .val (.int (3 : Int32)), .val (.int (1 : Int32))] [(.int (0 : Int32)), (.ref b2)])) rfl rfl (hb hby at_102) _ ?_
        show Steps pP.tables eE below (T68.setTop (mkF mM 103 #[.val (.int p1), .val (.int p2), .val (.ref b2), .val (.ref b42), .val (.int (0 : Int32)), .val (.int (3 : Int32)), .val (.int (1 : Int32))] [(.ref a_SHARED)])) _
        refine XS.aloadN X68.here hx rfl (hb hby at_103) rfl rfl ?_
        show Steps pP.tables eE below (T68.setTop (mkF mM 104 #[.val (.int p1), .val (.int p2), .val (.ref b2), .val (.ref b42), .val (.int (0 : Int32)), .val (.int (3 : Int32)), .val (.int (1 : Int32))] [(.ref b2), (.ref a_SHARED)])) _
        refine XS.iload X68.here hx rfl (hb hby at_104) rfl ?_
        show Steps pP.tables eE below (T68.setTop (mkF mM 106 #[.val (.int p1), .val (.int p2), .val (.ref b2), .val (.ref b42), .val (.int (0 : Int32)), .val (.int (3 : Int32)), .val (.int (1 : Int32))] [(.int (3 : Int32)), (.ref b2), (.ref a_SHARED)])) _
        refine X68.aaload hx (j := (3 : Int32)) (v := (.ref a_CHANGE)) (by rw [e68]; exact Ara115.1) (State.isArrayOf_alike hZ.alike Ara115.2.1) rfl Ara115.2.2 hin117 hat117 (g := (mkF mM 106 #[.val (.int p1), .val (.int p2), .val (.ref b2), .val (.ref b42), .val (.int (0 : Int32)), .val (.int (3 : Int32)), .val (.int (1 : Int32))] [(.int (3 : Int32)), (.ref b2), (.ref a_SHARED)])) rfl rfl (hb hby at_106) _ ?_
        exact kg)
      have c120 := (Nat.le_trans (Nat.le_trans (Nat.le_trans (Nat.le_trans (Nat.le_trans (Nat.le_trans c45 E42.1) (Keep.of_wr W52).1) (Keep.of_wr W56).1) (Keep.of_wr W60).1) (Keep.of_wr W64).1) (Keep.of_wr W68).1)
      obtain ⟨cq121, kq121, qa121, qb121, qc121⟩ := isOf hZ e68 (Exa.ext (c118).2 E_SHARED)
      obtain ⟨_, _, ⟨T121, L121, kk121, nn121⟩, -, X121, ⟨Lc121, hQ121, l121, y121, z121⟩, st121⟩ := X68.virtualBack hx (y := (⟨"com/example/settle/settle/service/LockTable$Mode", "keepsOut", "(Lcom/example/settle/settle/service/LockTable$Mode;)Z"⟩ : MethodName)) (z := (⟨"com/example/settle/settle/service/LockTable$Mode", "keepsOut", "(Lcom/example/settle/settle/service/LockTable$Mode;)Z"⟩ : MethodName)) hown (mvT hZ (hw _ (List.mem_of_getElem? (i := 16) rfl))) (mvT hZ (hw _ (List.mem_of_getElem? (i := 17) rfl))) (notFace_of_selects (args := #[]) (mvT hZ (hw _ (List.mem_of_getElem? (i := 19) rfl)))) (mvT hZ (hw _ (List.mem_of_getElem? (i := 19) rfl))) (mvT hZ (hw _ (List.mem_of_getElem? (i := 18) rfl))) (by decide) (backOf (W := 0) (rm203 l Z a0 hw [] a_SHARED a_UPDATE a_EXCLUSIVE a_CHANGE a_KEEP h68 n0 c120 c118 S_SHARED E_SHARED S_UPDATE E_UPDATE S_EXCLUSIVE E_EXCLUSIVE S_CHANGE E_CHANGE S_KEEP E_KEEP F_SHARED_ordinal F_CHANGE_ordinal F_EXCLUSIVE_ordinal F_KEEP_ordinal F_UPDATE_ordinal) hZ (hw _ (List.mem_of_getElem? (i := 20) rfl)) (hw _ (List.mem_of_getElem? (i := 3) rfl)) (by decide) (by decide)) qa121 qc121 (g := (mkF mM 107 #[.val (.int p1), .val (.int p2), .val (.ref b2), .val (.ref b42), .val (.int (0 : Int32)), .val (.int (3 : Int32)), .val (.int (1 : Int32))] [(.ref a_CHANGE), (.ref a_SHARED)])) rfl (by rw [hml]; rfl) (Steps.refl _) (argsL := [(.ref a_CHANGE)]) (rest := []) (lenOf pd_1 rfl) rfl (by show 2 * 0 + _ ≤ _; exact Nat.le_of_eq rfl) (hb hby at_107) (fun _ _ => ⟨rfl, e68, (by decide : 2 + 0 ≤ _), (by decide : 10 + 0 ≤ _)⟩)
      dsimp only [Pt.U, Pt.locs, Pt.cells, Pt.slots] at X121 l121 y121 z121 st121 hQ121
      subst l121 y121 z121
      obtain ⟨rfl, Nq121, e121⟩ := hQ121
      have N121 := Fr.app N68 Nq121
      have pr122 : ∀ tg, Steps pP.tables eE below (T121.setTop (mkF mM 110 #[.val (.int p1), .val (.int p2), .val (.ref b2), .val (.ref b42), .val (.int (0 : Int32)), .val (.int (3 : Int32)), .val (.int (1 : Int32))] [(.int (1 : Int32))])) tg → Steps pP.tables eE below (s₁.setTop (entryFrame mM #[(.int p1), (.int p2)] maxLocals)) tg := fun tg kg => pr119 _ (st121.trans kg)
      have pr123 : ∀ tg, Steps pP.tables eE below (T121.setTop (mkF mM 120 #[.val (.int p1), .val (.int p2), .val (.ref b2), .val (.ref b42), .val (.int (0 : Int32)), .val (.int (3 : Int32)), .val (.int (1 : Int32))] [(.int (1 : Int32))])) tg → Steps pP.tables eE below (s₁.setTop (entryFrame mM #[(.int p1), (.int p2)] maxLocals)) tg := fun tg kg => pr122 _ (by
        show Steps pP.tables eE below (T121.setTop (mkF mM 110 #[.val (.int p1), .val (.int p2), .val (.ref b2), .val (.ref b42), .val (.int (0 : Int32)), .val (.int (3 : Int32)), .val (.int (1 : Int32))] [(.int (1 : Int32))])) _
        refine XS.iload X121.here hx rfl (hb hby at_110) rfl ?_
        show Steps pP.tables eE below (T121.setTop (mkF mM 112 #[.val (.int p1), .val (.int p2), .val (.ref b2), .val (.ref b42), .val (.int (0 : Int32)), .val (.int (3 : Int32)), .val (.int (1 : Int32))] [(.int (1 : Int32)), (.int (1 : Int32))])) _
        refine XS.icmpNo X121.here hx rfl (hb hby at_112) rfl (teq (by decide)).2 ?_
        show Steps pP.tables eE below (T121.setTop (mkF mM 115 #[.val (.int p1), .val (.int p2), .val (.ref b2), .val (.ref b42), .val (.int (0 : Int32)), .val (.int (3 : Int32)), .val (.int (1 : Int32))] [])) _
        refine XS.iconst X121.here hx rfl (hb hby at_115) ?_
        show Steps pP.tables eE below (T121.setTop (mkF mM 116 #[.val (.int p1), .val (.int p2), .val (.ref b2), .val (.ref b42), .val (.int (0 : Int32)), .val (.int (3 : Int32)), .val (.int (1 : Int32))] [(.int (1 : Int32))])) _
        refine XS.goto X121.here hx rfl (pc0 := 116) (pc' := 120) rfl (hb hby at_116) (by decide) (by decide) ?_
        exact kg)
      obtain ⟨fs, hr, hrun, hended, hW, hsame⟩ := X121.leave (v := some (.int (1 : Int32))) (fun h => by rw [Bd.returns] at h; cases h)
      refine ⟨_, _, pr123 _ (retOut X121 hx (t := .boolean) Bd.returns rfl (Or.inl ⟨rfl, Or.inr (Or.inl rfl), _, rfl⟩) (hb hby at_120) hr), hrun, hended, _, _, rfl, ?_, ⟨_, rfl⟩, hW, hsame.mono (by decide) (by decide)⟩
      show Q0 Z p1 p2 a_SHARED a_UPDATE a_EXCLUSIVE a_CHANGE a_KEEP h0 n0 _ T121.heap _
      rw [e121]
      exact ⟨rfl, N121⟩
    ·
      obtain ⟨cla124, Ara124, qa124, Sa124, Ma124, Ha124, Ga124⟩ := id V68
      have hin125 : ¬ ((0 : Int32) < 0 ∨ cla124.slots.size ≤ ((0 : Int32)).toNatClampNeg) := inb_of Sa124 ⟨by decide, by decide⟩
      have hat125 : cla124.slots[((0 : Int32)).toNatClampNeg]? = some (.int (12 : Int32)) := Has.at Ha124 hin125 rfl
      have c126 := (Arv.other (Arv.other (Arv.other (Arv.other (Arv.other (Arv.ext V39 E42) W52 ne43) W56 ne43) W60 ne43) W64 ne43) W68 ne43)
      obtain ⟨cla127, Ara127, qa127, Sa127, Ma127, Ha127, Ga127⟩ := id c126
      have hin128 : ¬ ((0 : Int32) < 0 ∨ cla127.slots.size ≤ ((0 : Int32)).toNatClampNeg) := inb_of Sa127 ⟨by decide, by decide⟩
      have hat128 : cla127.slots[((0 : Int32)).toNatClampNeg]? = some (.ref a_SHARED) := Has.at Ha127 hin128 rfl
      have hin129 : ¬ ((4 : Int32) < 0 ∨ cla127.slots.size ≤ ((4 : Int32)).toNatClampNeg) := inb_of Sa127 ⟨by decide, by decide⟩
      have hat129 : cla127.slots[((4 : Int32)).toNatClampNeg]? = some (.ref a_KEEP) := Has.at Ha127 hin129 rfl
      have c130 := (Old.wr (Old.wr (Old.wr (Old.wr (Old.wr (Old.ext c48 E42) W52 gn44) W56 gn44) W60 gn44) W64 gn44) W68 gn44)
      have pr131 : ∀ tg, Steps pP.tables eE below (T68.setTop (mkF mM 107 #[.val (.int p1), .val (.int p2), .val (.ref b2), .val (.ref b42), .val (.int (0 : Int32)), .val (.int (4 : Int32)), .val (.int (0 : Int32))] [(.ref a_KEEP), (.ref a_SHARED)])) tg → Steps pP.tables eE below (s₁.setTop (entryFrame mM #[(.int p1), (.int p2)] maxLocals)) tg := fun tg kg => pr75 _ (by
        show Steps pP.tables eE below (T68.setTop (mkF mM 80 #[.val (.int p1), .val (.int p2), .val (.ref b2), .val (.ref b42), .val (.int (0 : Int32)), .val (.int (4 : Int32)), .unset] [])) _
        refine XS.aloadN X68.here hx rfl (hb hby at_80) rfl rfl ?_
        show Steps pP.tables eE below (T68.setTop (mkF mM 81 #[.val (.int p1), .val (.int p2), .val (.ref b2), .val (.ref b42), .val (.int (0 : Int32)), .val (.int (4 : Int32)), .unset] [(.ref b42)])) _
        refine XS.iload X68.here hx rfl (hb hby at_81) rfl ?_
        show Steps pP.tables eE below (T68.setTop (mkF mM 83 #[.val (.int p1), .val (.int p2), .val (.ref b2), .val (.ref b42), .val (.int (0 : Int32)), .val (.int (4 : Int32)), .unset] [(.int (0 : Int32)), (.ref b42)])) _
        refine X68.iaload hx (j := (0 : Int32)) (v := (.int (12 : Int32))) (by rw [e68]; exact Ara124.1) (State.isArrayOf_alike hZ.alike Ara124.2.1) Ara124.2.2 hin125 hat125 (g := (mkF mM 83 #[.val (.int p1), .val (.int p2), .val (.ref b2), .val (.ref b42), .val (.int (0 : Int32)), .val (.int (4 : Int32)), .unset] [(.int (0 : Int32)), (.ref b42)])) rfl rfl (hb hby at_83) _ ?_
        show Steps pP.tables eE below (T68.setTop (mkF mM 84 #[.val (.int p1), .val (.int p2), .val (.ref b2), .val (.ref b42), .val (.int (0 : Int32)), .val (.int (4 : Int32)), .unset] [(.int (12 : Int32))])) _
        refine XS.iload X68.here hx rfl (hb hby at_84) rfl ?_
        show Steps pP.tables eE below (T68.setTop (mkF mM 86 #[.val (.int p1), .val (.int p2), .val (.ref b2), .val (.ref b42), .val (.int (0 : Int32)), .val (.int (4 : Int32)), .unset] [(.int (4 : Int32)), (.int (12 : Int32))])) _
        refine XS.ishr X68.here hx rfl (hb hby at_86) rfl ?_
        show Steps pP.tables eE below (T68.setTop (mkF mM 87 #[.val (.int p1), .val (.int p2), .val (.ref b2), .val (.ref b42), .val (.int (0 : Int32)), .val (.int (4 : Int32)), .unset] [(.int ((12 : Int32) >>> ((4 : Int32) &&& 31)))])) _
        refine XS.iconst X68.here hx rfl (hb hby at_87) ?_
        show Steps pP.tables eE below (T68.setTop (mkF mM 88 #[.val (.int p1), .val (.int p2), .val (.ref b2), .val (.ref b42), .val (.int (0 : Int32)), .val (.int (4 : Int32)), .unset] [(.int (1 : Int32)), (.int ((12 : Int32) >>> ((4 : Int32) &&& 31)))])) _
        refine XS.iand X68.here hx rfl (hb hby at_88) rfl ?_
        show Steps pP.tables eE below (T68.setTop (mkF mM 89 #[.val (.int p1), .val (.int p2), .val (.ref b2), .val (.ref b42), .val (.int (0 : Int32)), .val (.int (4 : Int32)), .unset] [(.int (0 : Int32))])) _
        refine XS.ifYes X68.here hx rfl (pc0 := 89) (pc' := 96) rfl (hb hby at_89) rfl ((if0 _ _).trans (teq (by decide)).1) (by decide) (by decide) ?_
        show Steps pP.tables eE below (T68.setTop (mkF mM 96 #[.val (.int p1), .val (.int p2), .val (.ref b2), .val (.ref b42), .val (.int (0 : Int32)), .val (.int (4 : Int32)), .unset] [])) _
        refine XS.iconst X68.here hx rfl (hb hby at_96) ?_
        show Steps pP.tables eE below (T68.setTop (mkF mM 97 #[.val (.int p1), .val (.int p2), .val (.ref b2), .val (.ref b42), .val (.int (0 : Int32)), .val (.int (4 : Int32)), .unset] [(.int (0 : Int32))])) _
        refine XS.istore X68.here hx rfl (hb hby at_97) rfl (l' := #[.val (.int p1), .val (.int p2), .val (.ref b2), .val (.ref b42), .val (.int (0 : Int32)), .val (.int (4 : Int32)), .val (.int (0 : Int32))]) rfl ?_
        show Steps pP.tables eE below (T68.setTop (mkF mM 99 #[.val (.int p1), .val (.int p2), .val (.ref b2), .val (.ref b42), .val (.int (0 : Int32)), .val (.int (4 : Int32)), .val (.int (0 : Int32))] [])) _
        refine XS.aloadN X68.here hx rfl (hb hby at_99) rfl rfl ?_
        show Steps pP.tables eE below (T68.setTop (mkF mM 100 #[.val (.int p1), .val (.int p2), .val (.ref b2), .val (.ref b42), .val (.int (0 : Int32)), .val (.int (4 : Int32)), .val (.int (0 : Int32))] [(.ref b2)])) _
        refine XS.iload X68.here hx rfl (hb hby at_100) rfl ?_
        show Steps pP.tables eE below (T68.setTop (mkF mM 102 #[.val (.int p1), .val (.int p2), .val (.ref b2), .val (.ref b42), .val (.int (0 : Int32)), .val (.int (4 : Int32)), .val (.int (0 : Int32))] [(.int (0 : Int32)), (.ref b2)])) _
        refine X68.aaload hx (j := (0 : Int32)) (v := (.ref a_SHARED)) (by rw [e68]; exact Ara127.1) (State.isArrayOf_alike hZ.alike Ara127.2.1) rfl Ara127.2.2 hin128 hat128 (g := (mkF mM 102 #[.val (.int p1), .val (.int p2), .val (.ref b2), .val (.ref b42), .val (.int (0 : Int32)), .val (.int (4 : Int32)), .val (.int (0 : Int32))] [(.int (0 : Int32)), (.ref b2)])) rfl rfl (hb hby at_102) _ ?_
        show Steps pP.tables eE below (T68.setTop (mkF mM 103 #[.val (.int p1), .val (.int p2), .val (.ref b2), .val (.ref b42), .val (.int (0 : Int32)), .val (.int (4 : Int32)), .val (.int (0 : Int32))] [(.ref a_SHARED)])) _
        refine XS.aloadN X68.here hx rfl (hb hby at_103) rfl rfl ?_
        show Steps pP.tables eE below (T68.setTop (mkF mM 104 #[.val (.int p1), .val (.int p2), .val (.ref b2), .val (.ref b42), .val (.int (0 : Int32)), .val (.int (4 : Int32)), .val (.int (0 : Int32))] [(.ref b2), (.ref a_SHARED)])) _
        refine XS.iload X68.here hx rfl (hb hby at_104) rfl ?_
        show Steps pP.tables eE below (T68.setTop (mkF mM 106 #[.val (.int p1), .val (.int p2), .val (.ref b2), .val (.ref b42), .val (.int (0 : Int32)), .val (.int (4 : Int32)), .val (.int (0 : Int32))] [(.int (4 : Int32)), (.ref b2), (.ref a_SHARED)])) _
        refine X68.aaload hx (j := (4 : Int32)) (v := (.ref a_KEEP)) (by rw [e68]; exact Ara127.1) (State.isArrayOf_alike hZ.alike Ara127.2.1) rfl Ara127.2.2 hin129 hat129 (g := (mkF mM 106 #[.val (.int p1), .val (.int p2), .val (.ref b2), .val (.ref b42), .val (.int (0 : Int32)), .val (.int (4 : Int32)), .val (.int (0 : Int32))] [(.int (4 : Int32)), (.ref b2), (.ref a_SHARED)])) rfl rfl (hb hby at_106) _ ?_
        exact kg)
      have c132 := (Nat.le_trans (Nat.le_trans (Nat.le_trans (Nat.le_trans (Nat.le_trans (Nat.le_trans c45 E42.1) (Keep.of_wr W52).1) (Keep.of_wr W56).1) (Keep.of_wr W60).1) (Keep.of_wr W64).1) (Keep.of_wr W68).1)
      obtain ⟨cq133, kq133, qa133, qb133, qc133⟩ := isOf hZ e68 (Exa.ext (c130).2 E_SHARED)
      obtain ⟨_, _, ⟨T133, L133, kk133, nn133⟩, -, X133, ⟨Lc133, hQ133, l133, y133, z133⟩, st133⟩ := X68.virtualBack hx (y := (⟨"com/example/settle/settle/service/LockTable$Mode", "keepsOut", "(Lcom/example/settle/settle/service/LockTable$Mode;)Z"⟩ : MethodName)) (z := (⟨"com/example/settle/settle/service/LockTable$Mode", "keepsOut", "(Lcom/example/settle/settle/service/LockTable$Mode;)Z"⟩ : MethodName)) hown (mvT hZ (hw _ (List.mem_of_getElem? (i := 16) rfl))) (mvT hZ (hw _ (List.mem_of_getElem? (i := 17) rfl))) (notFace_of_selects (args := #[]) (mvT hZ (hw _ (List.mem_of_getElem? (i := 19) rfl)))) (mvT hZ (hw _ (List.mem_of_getElem? (i := 19) rfl))) (mvT hZ (hw _ (List.mem_of_getElem? (i := 18) rfl))) (by decide) (backOf (W := 0) (rm204 l Z a0 hw [] a_SHARED a_UPDATE a_EXCLUSIVE a_CHANGE a_KEEP h68 n0 c132 c130 S_SHARED E_SHARED S_UPDATE E_UPDATE S_EXCLUSIVE E_EXCLUSIVE S_CHANGE E_CHANGE S_KEEP E_KEEP F_SHARED_ordinal F_CHANGE_ordinal F_EXCLUSIVE_ordinal F_KEEP_ordinal F_UPDATE_ordinal) hZ (hw _ (List.mem_of_getElem? (i := 20) rfl)) (hw _ (List.mem_of_getElem? (i := 3) rfl)) (by decide) (by decide)) qa133 qc133 (g := (mkF mM 107 #[.val (.int p1), .val (.int p2), .val (.ref b2), .val (.ref b42), .val (.int (0 : Int32)), .val (.int (4 : Int32)), .val (.int (0 : Int32))] [(.ref a_KEEP), (.ref a_SHARED)])) rfl (by rw [hml]; rfl) (Steps.refl _) (argsL := [(.ref a_KEEP)]) (rest := []) (lenOf pd_1 rfl) rfl (by show 2 * 0 + _ ≤ _; exact Nat.le_of_eq rfl) (hb hby at_107) (fun _ _ => ⟨rfl, e68, (by decide : 2 + 0 ≤ _), (by decide : 10 + 0 ≤ _)⟩)
      dsimp only [Pt.U, Pt.locs, Pt.cells, Pt.slots] at X133 l133 y133 z133 st133 hQ133
      subst l133 y133 z133
      obtain ⟨rfl, Nq133, e133⟩ := hQ133
      have N133 := Fr.app N68 Nq133
      have pr134 : ∀ tg, Steps pP.tables eE below (T133.setTop (mkF mM 110 #[.val (.int p1), .val (.int p2), .val (.ref b2), .val (.ref b42), .val (.int (0 : Int32)), .val (.int (4 : Int32)), .val (.int (0 : Int32))] [(.int (0 : Int32))])) tg → Steps pP.tables eE below (s₁.setTop (entryFrame mM #[(.int p1), (.int p2)] maxLocals)) tg := fun tg kg => pr131 _ (st133.trans kg)
      have pr135 : ∀ tg, Steps pP.tables eE below (T133.setTop (mkF mM 120 #[.val (.int p1), .val (.int p2), .val (.ref b2), .val (.ref b42), .val (.int (0 : Int32)), .val (.int (4 : Int32)), .val (.int (0 : Int32))] [(.int (1 : Int32))])) tg → Steps pP.tables eE below (s₁.setTop (entryFrame mM #[(.int p1), (.int p2)] maxLocals)) tg := fun tg kg => pr134 _ (by
        show Steps pP.tables eE below (T133.setTop (mkF mM 110 #[.val (.int p1), .val (.int p2), .val (.ref b2), .val (.ref b42), .val (.int (0 : Int32)), .val (.int (4 : Int32)), .val (.int (0 : Int32))] [(.int (0 : Int32))])) _
        refine XS.iload X133.here hx rfl (hb hby at_110) rfl ?_
        show Steps pP.tables eE below (T133.setTop (mkF mM 112 #[.val (.int p1), .val (.int p2), .val (.ref b2), .val (.ref b42), .val (.int (0 : Int32)), .val (.int (4 : Int32)), .val (.int (0 : Int32))] [(.int (0 : Int32)), (.int (0 : Int32))])) _
        refine XS.icmpNo X133.here hx rfl (hb hby at_112) rfl (teq (by decide)).2 ?_
        show Steps pP.tables eE below (T133.setTop (mkF mM 115 #[.val (.int p1), .val (.int p2), .val (.ref b2), .val (.ref b42), .val (.int (0 : Int32)), .val (.int (4 : Int32)), .val (.int (0 : Int32))] [])) _
        refine XS.iconst X133.here hx rfl (hb hby at_115) ?_
        show Steps pP.tables eE below (T133.setTop (mkF mM 116 #[.val (.int p1), .val (.int p2), .val (.ref b2), .val (.ref b42), .val (.int (0 : Int32)), .val (.int (4 : Int32)), .val (.int (0 : Int32))] [(.int (1 : Int32))])) _
        refine XS.goto X133.here hx rfl (pc0 := 116) (pc' := 120) rfl (hb hby at_116) (by decide) (by decide) ?_
        exact kg)
      obtain ⟨fs, hr, hrun, hended, hW, hsame⟩ := X133.leave (v := some (.int (1 : Int32))) (fun h => by rw [Bd.returns] at h; cases h)
      refine ⟨_, _, pr135 _ (retOut X133 hx (t := .boolean) Bd.returns rfl (Or.inl ⟨rfl, Or.inr (Or.inl rfl), _, rfl⟩) (hb hby at_120) hr), hrun, hended, _, _, rfl, ?_, ⟨_, rfl⟩, hW, hsame.mono (by decide) (by decide)⟩
      show Q0 Z p1 p2 a_SHARED a_UPDATE a_EXCLUSIVE a_CHANGE a_KEEP h0 n0 _ T133.heap _
      rw [e133]
      exact ⟨rfl, N133⟩
  ·
    have pr136 : ∀ tg, Steps pP.tables eE below (T68.setTop (mkF mM 80 #[.val (.int p1), .val (.int p2), .val (.ref b2), .val (.ref b42), .val (.int (1 : Int32)), .val (.int ((p2 &&& (2147483647 : Int32)) % (5 : Int32))), .unset] [])) tg → Steps pP.tables eE below (s₁.setTop (entryFrame mM #[(.int p1), (.int p2)] maxLocals)) tg := fun tg kg => pr72 _ (by
      show Steps pP.tables eE below (T68.setTop (mkF mM 72 #[.val (.int p1), .val (.int p2), .val (.ref b2), .val (.ref b42), .val (.int (1 : Int32)), .unset, .unset] [])) _
      refine XS.iloadN X68.here hx rfl (hb hby at_72) rfl ?_
      show Steps pP.tables eE below (T68.setTop (mkF mM 73 #[.val (.int p1), .val (.int p2), .val (.ref b2), .val (.ref b42), .val (.int (1 : Int32)), .unset, .unset] [(.int p2)])) _
      refine Jvm.Stand.ldcI X68 hx hown (v := (2147483647 : Int32)) (mvT hZ (hw _ (List.mem_of_getElem? (i := 15) rfl))) rfl (hb hby at_73) ?_
      show Steps pP.tables eE below (T68.setTop (mkF mM 75 #[.val (.int p1), .val (.int p2), .val (.ref b2), .val (.ref b42), .val (.int (1 : Int32)), .unset, .unset] [(.int (2147483647 : Int32)), (.int p2)])) _
      refine XS.iand X68.here hx rfl (hb hby at_75) rfl ?_
      show Steps pP.tables eE below (T68.setTop (mkF mM 76 #[.val (.int p1), .val (.int p2), .val (.ref b2), .val (.ref b42), .val (.int (1 : Int32)), .unset, .unset] [(.int (p2 &&& (2147483647 : Int32)))])) _
      refine XS.iconst X68.here hx rfl (hb hby at_76) ?_
      show Steps pP.tables eE below (T68.setTop (mkF mM 77 #[.val (.int p1), .val (.int p2), .val (.ref b2), .val (.ref b42), .val (.int (1 : Int32)), .unset, .unset] [(.int (5 : Int32)), (.int (p2 &&& (2147483647 : Int32)))])) _
      refine iremM (g := (mkF mM 77 #[.val (.int p1), .val (.int p2), .val (.ref b2), .val (.ref b42), .val (.int (1 : Int32)), .unset, .unset] [(.int (5 : Int32)), (.int (p2 &&& (2147483647 : Int32)))])) X68 hx rfl (hb hby at_77) rfl (by decide) ?_
      show Steps pP.tables eE below (T68.setTop (mkF mM 78 #[.val (.int p1), .val (.int p2), .val (.ref b2), .val (.ref b42), .val (.int (1 : Int32)), .unset, .unset] [(.int ((p2 &&& (2147483647 : Int32)) % (5 : Int32)))])) _
      refine XS.istore X68.here hx rfl (hb hby at_78) rfl (l' := #[.val (.int p1), .val (.int p2), .val (.ref b2), .val (.ref b42), .val (.int (1 : Int32)), .val (.int ((p2 &&& (2147483647 : Int32)) % (5 : Int32))), .unset]) rfl ?_
      exact kg)
    obtain ⟨z137, hz137⟩ : ∃ z, z = ((p2 &&& (2147483647 : Int32)) % (5 : Int32)) := ⟨_, rfl⟩
    have pr138 : ∀ tg, Steps pP.tables eE below (T68.setTop (mkF mM 80 #[.val (.int p1), .val (.int p2), .val (.ref b2), .val (.ref b42), .val (.int (1 : Int32)), .val (.int z137), .unset] [])) tg → Steps pP.tables eE below (s₁.setTop (entryFrame mM #[(.int p1), (.int p2)] maxLocals)) tg := by
      rw [hz137]; exact pr136
    have hbz137 : 0 ≤ z137.toInt ∧ z137.toInt < 5 := by rw [hz137]; exact own_rem5 _
    rcases (own_5 hbz137.1 hbz137.2) with rfl | rfl | rfl | rfl | rfl
    ·
      obtain ⟨cla139, Ara139, qa139, Sa139, Ma139, Ha139, Ga139⟩ := id V68
      have hin140 : ¬ ((1 : Int32) < 0 ∨ cla139.slots.size ≤ ((1 : Int32)).toNatClampNeg) := inb_of Sa139 ⟨by decide, by decide⟩
      have hat140 : cla139.slots[((1 : Int32)).toNatClampNeg]? = some (.int (30 : Int32)) := Has.at Ha139 hin140 rfl
      have c141 := (Arv.other (Arv.other (Arv.other (Arv.other (Arv.other (Arv.ext V39 E42) W52 ne43) W56 ne43) W60 ne43) W64 ne43) W68 ne43)
      obtain ⟨cla142, Ara142, qa142, Sa142, Ma142, Ha142, Ga142⟩ := id c141
      have hin143 : ¬ ((1 : Int32) < 0 ∨ cla142.slots.size ≤ ((1 : Int32)).toNatClampNeg) := inb_of Sa142 ⟨by decide, by decide⟩
      have hat143 : cla142.slots[((1 : Int32)).toNatClampNeg]? = some (.ref a_UPDATE) := Has.at Ha142 hin143 rfl
      have hin144 : ¬ ((0 : Int32) < 0 ∨ cla142.slots.size ≤ ((0 : Int32)).toNatClampNeg) := inb_of Sa142 ⟨by decide, by decide⟩
      have hat144 : cla142.slots[((0 : Int32)).toNatClampNeg]? = some (.ref a_SHARED) := Has.at Ha142 hin144 rfl
      have c145 := (Old.wr (Old.wr (Old.wr (Old.wr (Old.wr (Old.ext c48 E42) W52 gn44) W56 gn44) W60 gn44) W64 gn44) W68 gn44)
      have pr146 : ∀ tg, Steps pP.tables eE below (T68.setTop (mkF mM 107 #[.val (.int p1), .val (.int p2), .val (.ref b2), .val (.ref b42), .val (.int (1 : Int32)), .val (.int (0 : Int32)), .val (.int (0 : Int32))] [(.ref a_SHARED), (.ref a_UPDATE)])) tg → Steps pP.tables eE below (s₁.setTop (entryFrame mM #[(.int p1), (.int p2)] maxLocals)) tg := fun tg kg => pr138 _ (by
        show Steps pP.tables eE below (T68.setTop (mkF mM 80 #[.val (.int p1), .val (.int p2), .val (.ref b2), .val (.ref b42), .val (.int (1 : Int32)), .val (.int (0 : Int32)), .unset] [])) _
        refine XS.aloadN X68.here hx rfl (hb hby at_80) rfl rfl ?_
        show Steps pP.tables eE below (T68.setTop (mkF mM 81 #[.val (.int p1), .val (.int p2), .val (.ref b2), .val (.ref b42), .val (.int (1 : Int32)), .val (.int (0 : Int32)), .unset] [(.ref b42)])) _
        refine XS.iload X68.here hx rfl (hb hby at_81) rfl ?_
        show Steps pP.tables eE below (T68.setTop (mkF mM 83 #[.val (.int p1), .val (.int p2), .val (.ref b2), .val (.ref b42), .val (.int (1 : Int32)), .val (.int (0 : Int32)), .unset] [(.int (1 : Int32)), (.ref b42)])) _
        refine X68.iaload hx (j := (1 : Int32)) (v := (.int (30 : Int32))) (by rw [e68]; exact Ara139.1) (State.isArrayOf_alike hZ.alike Ara139.2.1) Ara139.2.2 hin140 hat140 (g := (mkF mM 83 #[.val (.int p1), .val (.int p2), .val (.ref b2), .val (.ref b42), .val (.int (1 : Int32)), .val (.int (0 : Int32)), .unset] [(.int (1 : Int32)), (.ref b42)])) rfl rfl (hb hby at_83) _ ?_
        show Steps pP.tables eE below (T68.setTop (mkF mM 84 #[.val (.int p1), .val (.int p2), .val (.ref b2), .val (.ref b42), .val (.int (1 : Int32)), .val (.int (0 : Int32)), .unset] [(.int (30 : Int32))])) _
        refine XS.iload X68.here hx rfl (hb hby at_84) rfl ?_
        show Steps pP.tables eE below (T68.setTop (mkF mM 86 #[.val (.int p1), .val (.int p2), .val (.ref b2), .val (.ref b42), .val (.int (1 : Int32)), .val (.int (0 : Int32)), .unset] [(.int (0 : Int32)), (.int (30 : Int32))])) _
        refine XS.ishr X68.here hx rfl (hb hby at_86) rfl ?_
        show Steps pP.tables eE below (T68.setTop (mkF mM 87 #[.val (.int p1), .val (.int p2), .val (.ref b2), .val (.ref b42), .val (.int (1 : Int32)), .val (.int (0 : Int32)), .unset] [(.int ((30 : Int32) >>> ((0 : Int32) &&& 31)))])) _
        refine XS.iconst X68.here hx rfl (hb hby at_87) ?_
        show Steps pP.tables eE below (T68.setTop (mkF mM 88 #[.val (.int p1), .val (.int p2), .val (.ref b2), .val (.ref b42), .val (.int (1 : Int32)), .val (.int (0 : Int32)), .unset] [(.int (1 : Int32)), (.int ((30 : Int32) >>> ((0 : Int32) &&& 31)))])) _
        refine XS.iand X68.here hx rfl (hb hby at_88) rfl ?_
        show Steps pP.tables eE below (T68.setTop (mkF mM 89 #[.val (.int p1), .val (.int p2), .val (.ref b2), .val (.ref b42), .val (.int (1 : Int32)), .val (.int (0 : Int32)), .unset] [(.int (0 : Int32))])) _
        refine XS.ifYes X68.here hx rfl (pc0 := 89) (pc' := 96) rfl (hb hby at_89) rfl ((if0 _ _).trans (teq (by decide)).1) (by decide) (by decide) ?_
        show Steps pP.tables eE below (T68.setTop (mkF mM 96 #[.val (.int p1), .val (.int p2), .val (.ref b2), .val (.ref b42), .val (.int (1 : Int32)), .val (.int (0 : Int32)), .unset] [])) _
        refine XS.iconst X68.here hx rfl (hb hby at_96) ?_
        show Steps pP.tables eE below (T68.setTop (mkF mM 97 #[.val (.int p1), .val (.int p2), .val (.ref b2), .val (.ref b42), .val (.int (1 : Int32)), .val (.int (0 : Int32)), .unset] [(.int (0 : Int32))])) _
        refine XS.istore X68.here hx rfl (hb hby at_97) rfl (l' := #[.val (.int p1), .val (.int p2), .val (.ref b2), .val (.ref b42), .val (.int (1 : Int32)), .val (.int (0 : Int32)), .val (.int (0 : Int32))]) rfl ?_
        show Steps pP.tables eE below (T68.setTop (mkF mM 99 #[.val (.int p1), .val (.int p2), .val (.ref b2), .val (.ref b42), .val (.int (1 : Int32)), .val (.int (0 : Int32)), .val (.int (0 : Int32))] [])) _
        refine XS.aloadN X68.here hx rfl (hb hby at_99) rfl rfl ?_
        show Steps pP.tables eE below (T68.setTop (mkF mM 100 #[.val (.int p1), .val (.int p2), .val (.ref b2), .val (.ref b42), .val (.int (1 : Int32)), .val (.int (0 : Int32)), .val (.int (0 : Int32))] [(.ref b2)])) _
        refine XS.iload X68.here hx rfl (hb hby at_100) rfl ?_
        show Steps pP.tables eE below (T68.setTop (mkF mM 102 #[.val (.int p1), .val (.int p2), .val (.ref b2), .val (.ref b42), .val (.int (1 : Int32)), .val (.int (0 : Int32)), .val (.int (0 : Int32))] [(.int (1 : Int32)), (.ref b2)])) _
        refine X68.aaload hx (j := (1 : Int32)) (v := (.ref a_UPDATE)) (by rw [e68]; exact Ara142.1) (State.isArrayOf_alike hZ.alike Ara142.2.1) rfl Ara142.2.2 hin143 hat143 (g := (mkF mM 102 #[.val (.int p1), .val (.int p2), .val (.ref b2), .val (.ref b42), .val (.int (1 : Int32)), .val (.int (0 : Int32)), .val (.int (0 : Int32))] [(.int (1 : Int32)), (.ref b2)])) rfl rfl (hb hby at_102) _ ?_
        show Steps pP.tables eE below (T68.setTop (mkF mM 103 #[.val (.int p1), .val (.int p2), .val (.ref b2), .val (.ref b42), .val (.int (1 : Int32)), .val (.int (0 : Int32)), .val (.int (0 : Int32))] [(.ref a_UPDATE)])) _
        refine XS.aloadN X68.here hx rfl (hb hby at_103) rfl rfl ?_
        show Steps pP.tables eE below (T68.setTop (mkF mM 104 #[.val (.int p1), .val (.int p2), .val (.ref b2), .val (.ref b42), .val (.int (1 : Int32)), .val (.int (0 : Int32)), .val (.int (0 : Int32))] [(.ref b2), (.ref a_UPDATE)])) _
        refine XS.iload X68.here hx rfl (hb hby at_104) rfl ?_
        show Steps pP.tables eE below (T68.setTop (mkF mM 106 #[.val (.int p1), .val (.int p2), .val (.ref b2), .val (.ref b42), .val (.int (1 : Int32)), .val (.int (0 : Int32)), .val (.int (0 : Int32))] [(.int (0 : Int32)), (.ref b2), (.ref a_UPDATE)])) _
        refine X68.aaload hx (j := (0 : Int32)) (v := (.ref a_SHARED)) (by rw [e68]; exact Ara142.1) (State.isArrayOf_alike hZ.alike Ara142.2.1) rfl Ara142.2.2 hin144 hat144 (g := (mkF mM 106 #[.val (.int p1), .val (.int p2), .val (.ref b2), .val (.ref b42), .val (.int (1 : Int32)), .val (.int (0 : Int32)), .val (.int (0 : Int32))] [(.int (0 : Int32)), (.ref b2), (.ref a_UPDATE)])) rfl rfl (hb hby at_106) _ ?_
        exact kg)
      have c147 := (Nat.le_trans (Nat.le_trans (Nat.le_trans (Nat.le_trans (Nat.le_trans (Nat.le_trans c45 E42.1) (Keep.of_wr W52).1) (Keep.of_wr W56).1) (Keep.of_wr W60).1) (Keep.of_wr W64).1) (Keep.of_wr W68).1)
      obtain ⟨cq148, kq148, qa148, qb148, qc148⟩ := isOf hZ e68 (Exa.ext (c145).2 E_UPDATE)
      obtain ⟨_, _, ⟨T148, L148, kk148, nn148⟩, -, X148, ⟨Lc148, hQ148, l148, y148, z148⟩, st148⟩ := X68.virtualBack hx (y := (⟨"com/example/settle/settle/service/LockTable$Mode", "keepsOut", "(Lcom/example/settle/settle/service/LockTable$Mode;)Z"⟩ : MethodName)) (z := (⟨"com/example/settle/settle/service/LockTable$Mode", "keepsOut", "(Lcom/example/settle/settle/service/LockTable$Mode;)Z"⟩ : MethodName)) hown (mvT hZ (hw _ (List.mem_of_getElem? (i := 16) rfl))) (mvT hZ (hw _ (List.mem_of_getElem? (i := 17) rfl))) (notFace_of_selects (args := #[]) (mvT hZ (hw _ (List.mem_of_getElem? (i := 19) rfl)))) (mvT hZ (hw _ (List.mem_of_getElem? (i := 19) rfl))) (mvT hZ (hw _ (List.mem_of_getElem? (i := 18) rfl))) (by decide) (backOf (W := 0) (rm210 l Z a0 hw [] a_SHARED a_UPDATE a_EXCLUSIVE a_CHANGE a_KEEP h68 n0 c147 c145 S_SHARED E_SHARED S_UPDATE E_UPDATE S_EXCLUSIVE E_EXCLUSIVE S_CHANGE E_CHANGE S_KEEP E_KEEP F_SHARED_ordinal F_CHANGE_ordinal F_EXCLUSIVE_ordinal F_KEEP_ordinal F_UPDATE_ordinal) hZ (hw _ (List.mem_of_getElem? (i := 20) rfl)) (hw _ (List.mem_of_getElem? (i := 3) rfl)) (by decide) (by decide)) qa148 qc148 (g := (mkF mM 107 #[.val (.int p1), .val (.int p2), .val (.ref b2), .val (.ref b42), .val (.int (1 : Int32)), .val (.int (0 : Int32)), .val (.int (0 : Int32))] [(.ref a_SHARED), (.ref a_UPDATE)])) rfl (by rw [hml]; rfl) (Steps.refl _) (argsL := [(.ref a_SHARED)]) (rest := []) (lenOf pd_1 rfl) rfl (by show 2 * 0 + _ ≤ _; exact Nat.le_of_eq rfl) (hb hby at_107) (fun _ _ => ⟨rfl, e68, (by decide : 2 + 0 ≤ _), (by decide : 10 + 0 ≤ _)⟩)
      dsimp only [Pt.U, Pt.locs, Pt.cells, Pt.slots] at X148 l148 y148 z148 st148 hQ148
      subst l148 y148 z148
      obtain ⟨rfl, Nq148, e148⟩ := hQ148
      have N148 := Fr.app N68 Nq148
      have pr149 : ∀ tg, Steps pP.tables eE below (T148.setTop (mkF mM 110 #[.val (.int p1), .val (.int p2), .val (.ref b2), .val (.ref b42), .val (.int (1 : Int32)), .val (.int (0 : Int32)), .val (.int (0 : Int32))] [(.int (0 : Int32))])) tg → Steps pP.tables eE below (s₁.setTop (entryFrame mM #[(.int p1), (.int p2)] maxLocals)) tg := fun tg kg => pr146 _ (st148.trans kg)
      have pr150 : ∀ tg, Steps pP.tables eE below (T148.setTop (mkF mM 120 #[.val (.int p1), .val (.int p2), .val (.ref b2), .val (.ref b42), .val (.int (1 : Int32)), .val (.int (0 : Int32)), .val (.int (0 : Int32))] [(.int (1 : Int32))])) tg → Steps pP.tables eE below (s₁.setTop (entryFrame mM #[(.int p1), (.int p2)] maxLocals)) tg := fun tg kg => pr149 _ (by
        show Steps pP.tables eE below (T148.setTop (mkF mM 110 #[.val (.int p1), .val (.int p2), .val (.ref b2), .val (.ref b42), .val (.int (1 : Int32)), .val (.int (0 : Int32)), .val (.int (0 : Int32))] [(.int (0 : Int32))])) _
        refine XS.iload X148.here hx rfl (hb hby at_110) rfl ?_
        show Steps pP.tables eE below (T148.setTop (mkF mM 112 #[.val (.int p1), .val (.int p2), .val (.ref b2), .val (.ref b42), .val (.int (1 : Int32)), .val (.int (0 : Int32)), .val (.int (0 : Int32))] [(.int (0 : Int32)), (.int (0 : Int32))])) _
        refine XS.icmpNo X148.here hx rfl (hb hby at_112) rfl (teq (by decide)).2 ?_
        show Steps pP.tables eE below (T148.setTop (mkF mM 115 #[.val (.int p1), .val (.int p2), .val (.ref b2), .val (.ref b42), .val (.int (1 : Int32)), .val (.int (0 : Int32)), .val (.int (0 : Int32))] [])) _
        refine XS.iconst X148.here hx rfl (hb hby at_115) ?_
        show Steps pP.tables eE below (T148.setTop (mkF mM 116 #[.val (.int p1), .val (.int p2), .val (.ref b2), .val (.ref b42), .val (.int (1 : Int32)), .val (.int (0 : Int32)), .val (.int (0 : Int32))] [(.int (1 : Int32))])) _
        refine XS.goto X148.here hx rfl (pc0 := 116) (pc' := 120) rfl (hb hby at_116) (by decide) (by decide) ?_
        exact kg)
      obtain ⟨fs, hr, hrun, hended, hW, hsame⟩ := X148.leave (v := some (.int (1 : Int32))) (fun h => by rw [Bd.returns] at h; cases h)
      refine ⟨_, _, pr150 _ (retOut X148 hx (t := .boolean) Bd.returns rfl (Or.inl ⟨rfl, Or.inr (Or.inl rfl), _, rfl⟩) (hb hby at_120) hr), hrun, hended, _, _, rfl, ?_, ⟨_, rfl⟩, hW, hsame.mono (by decide) (by decide)⟩
      show Q0 Z p1 p2 a_SHARED a_UPDATE a_EXCLUSIVE a_CHANGE a_KEEP h0 n0 _ T148.heap _
      rw [e148]
      exact ⟨rfl, N148⟩
    ·
      obtain ⟨cla151, Ara151, qa151, Sa151, Ma151, Ha151, Ga151⟩ := id V68
      have hin152 : ¬ ((1 : Int32) < 0 ∨ cla151.slots.size ≤ ((1 : Int32)).toNatClampNeg) := inb_of Sa151 ⟨by decide, by decide⟩
      have hat152 : cla151.slots[((1 : Int32)).toNatClampNeg]? = some (.int (30 : Int32)) := Has.at Ha151 hin152 rfl
      have c153 := (Arv.other (Arv.other (Arv.other (Arv.other (Arv.other (Arv.ext V39 E42) W52 ne43) W56 ne43) W60 ne43) W64 ne43) W68 ne43)
      obtain ⟨cla154, Ara154, qa154, Sa154, Ma154, Ha154, Ga154⟩ := id c153
      have hin155 : ¬ ((1 : Int32) < 0 ∨ cla154.slots.size ≤ ((1 : Int32)).toNatClampNeg) := inb_of Sa154 ⟨by decide, by decide⟩
      have hat155 : cla154.slots[((1 : Int32)).toNatClampNeg]? = some (.ref a_UPDATE) := Has.at Ha154 hin155 rfl
      have hin156 : ¬ ((1 : Int32) < 0 ∨ cla154.slots.size ≤ ((1 : Int32)).toNatClampNeg) := inb_of Sa154 ⟨by decide, by decide⟩
      have hat156 : cla154.slots[((1 : Int32)).toNatClampNeg]? = some (.ref a_UPDATE) := Has.at Ha154 hin156 rfl
      have c157 := (Old.wr (Old.wr (Old.wr (Old.wr (Old.wr (Old.ext c48 E42) W52 gn44) W56 gn44) W60 gn44) W64 gn44) W68 gn44)
      have pr158 : ∀ tg, Steps pP.tables eE below (T68.setTop (mkF mM 107 #[.val (.int p1), .val (.int p2), .val (.ref b2), .val (.ref b42), .val (.int (1 : Int32)), .val (.int (1 : Int32)), .val (.int (1 : Int32))] [(.ref a_UPDATE), (.ref a_UPDATE)])) tg → Steps pP.tables eE below (s₁.setTop (entryFrame mM #[(.int p1), (.int p2)] maxLocals)) tg := fun tg kg => pr138 _ (by
        show Steps pP.tables eE below (T68.setTop (mkF mM 80 #[.val (.int p1), .val (.int p2), .val (.ref b2), .val (.ref b42), .val (.int (1 : Int32)), .val (.int (1 : Int32)), .unset] [])) _
        refine XS.aloadN X68.here hx rfl (hb hby at_80) rfl rfl ?_
        show Steps pP.tables eE below (T68.setTop (mkF mM 81 #[.val (.int p1), .val (.int p2), .val (.ref b2), .val (.ref b42), .val (.int (1 : Int32)), .val (.int (1 : Int32)), .unset] [(.ref b42)])) _
        refine XS.iload X68.here hx rfl (hb hby at_81) rfl ?_
        show Steps pP.tables eE below (T68.setTop (mkF mM 83 #[.val (.int p1), .val (.int p2), .val (.ref b2), .val (.ref b42), .val (.int (1 : Int32)), .val (.int (1 : Int32)), .unset] [(.int (1 : Int32)), (.ref b42)])) _
        refine X68.iaload hx (j := (1 : Int32)) (v := (.int (30 : Int32))) (by rw [e68]; exact Ara151.1) (State.isArrayOf_alike hZ.alike Ara151.2.1) Ara151.2.2 hin152 hat152 (g := (mkF mM 83 #[.val (.int p1), .val (.int p2), .val (.ref b2), .val (.ref b42), .val (.int (1 : Int32)), .val (.int (1 : Int32)), .unset] [(.int (1 : Int32)), (.ref b42)])) rfl rfl (hb hby at_83) _ ?_
        show Steps pP.tables eE below (T68.setTop (mkF mM 84 #[.val (.int p1), .val (.int p2), .val (.ref b2), .val (.ref b42), .val (.int (1 : Int32)), .val (.int (1 : Int32)), .unset] [(.int (30 : Int32))])) _
        refine XS.iload X68.here hx rfl (hb hby at_84) rfl ?_
        show Steps pP.tables eE below (T68.setTop (mkF mM 86 #[.val (.int p1), .val (.int p2), .val (.ref b2), .val (.ref b42), .val (.int (1 : Int32)), .val (.int (1 : Int32)), .unset] [(.int (1 : Int32)), (.int (30 : Int32))])) _
        refine XS.ishr X68.here hx rfl (hb hby at_86) rfl ?_
        show Steps pP.tables eE below (T68.setTop (mkF mM 87 #[.val (.int p1), .val (.int p2), .val (.ref b2), .val (.ref b42), .val (.int (1 : Int32)), .val (.int (1 : Int32)), .unset] [(.int ((30 : Int32) >>> ((1 : Int32) &&& 31)))])) _
        refine XS.iconst X68.here hx rfl (hb hby at_87) ?_
        show Steps pP.tables eE below (T68.setTop (mkF mM 88 #[.val (.int p1), .val (.int p2), .val (.ref b2), .val (.ref b42), .val (.int (1 : Int32)), .val (.int (1 : Int32)), .unset] [(.int (1 : Int32)), (.int ((30 : Int32) >>> ((1 : Int32) &&& 31)))])) _
        refine XS.iand X68.here hx rfl (hb hby at_88) rfl ?_
        show Steps pP.tables eE below (T68.setTop (mkF mM 89 #[.val (.int p1), .val (.int p2), .val (.ref b2), .val (.ref b42), .val (.int (1 : Int32)), .val (.int (1 : Int32)), .unset] [(.int (1 : Int32))])) _
        refine XS.ifNo X68.here hx rfl (hb hby at_89) rfl ((if0 _ _).trans (feq (by decide)).1) ?_
        show Steps pP.tables eE below (T68.setTop (mkF mM 92 #[.val (.int p1), .val (.int p2), .val (.ref b2), .val (.ref b42), .val (.int (1 : Int32)), .val (.int (1 : Int32)), .unset] [])) _
        refine XS.iconst X68.here hx rfl (hb hby at_92) ?_
        show Steps pP.tables eE below (T68.setTop (mkF mM 93 #[.val (.int p1), .val (.int p2), .val (.ref b2), .val (.ref b42), .val (.int (1 : Int32)), .val (.int (1 : Int32)), .unset] [(.int (1 : Int32))])) _
        refine XS.goto X68.here hx rfl (pc0 := 93) (pc' := 97) rfl (hb hby at_93) (by decide) (by decide) ?_
        show Steps pP.tables eE below (T68.setTop (mkF mM 97 #[.val (.int p1), .val (.int p2), .val (.ref b2), .val (.ref b42), .val (.int (1 : Int32)), .val (.int (1 : Int32)), .unset] [(.int (1 : Int32))])) _
        refine XS.istore X68.here hx rfl (hb hby at_97) rfl (l' := #[.val (.int p1), .val (.int p2), .val (.ref b2), .val (.ref b42), .val (.int (1 : Int32)), .val (.int (1 : Int32)), .val (.int (1 : Int32))]) rfl ?_
        show Steps pP.tables eE below (T68.setTop (mkF mM 99 #[.val (.int p1), .val (.int p2), .val (.ref b2), .val (.ref b42), .val (.int (1 : Int32)), .val (.int (1 : Int32)), .val (.int (1 : Int32))] [])) _
        refine XS.aloadN X68.here hx rfl (hb hby at_99) rfl rfl ?_
        show Steps pP.tables eE below (T68.setTop (mkF mM 100 #[.val (.int p1), .val (.int p2), .val (.ref b2), .val (.ref b42), .val (.int (1 : Int32)), .val (.int (1 : Int32)), .val (.int (1 : Int32))] [(.ref b2)])) _
        refine XS.iload X68.here hx rfl (hb hby at_100) rfl ?_
        show Steps pP.tables eE below (T68.setTop (mkF mM 102 #[.val (.int p1), .val (.int p2), .val (.ref b2), .val (.ref b42), .val (.int (1 : Int32)), .val (.int (1 : Int32)), .val (.int (1 : Int32))] [(.int (1 : Int32)), (.ref b2)])) _
        refine X68.aaload hx (j := (1 : Int32)) (v := (.ref a_UPDATE)) (by rw [e68]; exact Ara154.1) (State.isArrayOf_alike hZ.alike Ara154.2.1) rfl Ara154.2.2 hin155 hat155 (g := (mkF mM 102 #[.val (.int p1), .val (.int p2), .val (.ref b2), .val (.ref b42), .val (.int (1 : Int32)), .val (.int (1 : Int32)), .val (.int (1 : Int32))] [(.int (1 : Int32)), (.ref b2)])) rfl rfl (hb hby at_102) _ ?_
        show Steps pP.tables eE below (T68.setTop (mkF mM 103 #[.val (.int p1), .val (.int p2), .val (.ref b2), .val (.ref b42), .val (.int (1 : Int32)), .val (.int (1 : Int32)), .val (.int (1 : Int32))] [(.ref a_UPDATE)])) _
        refine XS.aloadN X68.here hx rfl (hb hby at_103) rfl rfl ?_
        show Steps pP.tables eE below (T68.setTop (mkF mM 104 #[.val (.int p1), .val (.int p2), .val (.ref b2), .val (.ref b42), .val (.int (1 : Int32)), .val (.int (1 : Int32)), .val (.int (1 : Int32))] [(.ref b2), (.ref a_UPDATE)])) _
        refine XS.iload X68.here hx rfl (hb hby at_104) rfl ?_
        show Steps pP.tables eE below (T68.setTop (mkF mM 106 #[.val (.int p1), .val (.int p2), .val (.ref b2), .val (.ref b42), .val (.int (1 : Int32)), .val (.int (1 : Int32)), .val (.int (1 : Int32))] [(.int (1 : Int32)), (.ref b2), (.ref a_UPDATE)])) _
        refine X68.aaload hx (j := (1 : Int32)) (v := (.ref a_UPDATE)) (by rw [e68]; exact Ara154.1) (State.isArrayOf_alike hZ.alike Ara154.2.1) rfl Ara154.2.2 hin156 hat156 (g := (mkF mM 106 #[.val (.int p1), .val (.int p2), .val (.ref b2), .val (.ref b42), .val (.int (1 : Int32)), .val (.int (1 : Int32)), .val (.int (1 : Int32))] [(.int (1 : Int32)), (.ref b2), (.ref a_UPDATE)])) rfl rfl (hb hby at_106) _ ?_
        exact kg)
      have c159 := (Nat.le_trans (Nat.le_trans (Nat.le_trans (Nat.le_trans (Nat.le_trans (Nat.le_trans c45 E42.1) (Keep.of_wr W52).1) (Keep.of_wr W56).1) (Keep.of_wr W60).1) (Keep.of_wr W64).1) (Keep.of_wr W68).1)
      obtain ⟨cq160, kq160, qa160, qb160, qc160⟩ := isOf hZ e68 (Exa.ext (c157).2 E_UPDATE)
      obtain ⟨_, _, ⟨T160, L160, kk160, nn160⟩, -, X160, ⟨Lc160, hQ160, l160, y160, z160⟩, st160⟩ := X68.virtualBack hx (y := (⟨"com/example/settle/settle/service/LockTable$Mode", "keepsOut", "(Lcom/example/settle/settle/service/LockTable$Mode;)Z"⟩ : MethodName)) (z := (⟨"com/example/settle/settle/service/LockTable$Mode", "keepsOut", "(Lcom/example/settle/settle/service/LockTable$Mode;)Z"⟩ : MethodName)) hown (mvT hZ (hw _ (List.mem_of_getElem? (i := 16) rfl))) (mvT hZ (hw _ (List.mem_of_getElem? (i := 17) rfl))) (notFace_of_selects (args := #[]) (mvT hZ (hw _ (List.mem_of_getElem? (i := 19) rfl)))) (mvT hZ (hw _ (List.mem_of_getElem? (i := 19) rfl))) (mvT hZ (hw _ (List.mem_of_getElem? (i := 18) rfl))) (by decide) (backOf (W := 0) (rm211 l Z a0 hw [] a_SHARED a_UPDATE a_EXCLUSIVE a_CHANGE a_KEEP h68 n0 c159 c157 S_SHARED E_SHARED S_UPDATE E_UPDATE S_EXCLUSIVE E_EXCLUSIVE S_CHANGE E_CHANGE S_KEEP E_KEEP F_SHARED_ordinal F_CHANGE_ordinal F_EXCLUSIVE_ordinal F_KEEP_ordinal F_UPDATE_ordinal) hZ (hw _ (List.mem_of_getElem? (i := 20) rfl)) (hw _ (List.mem_of_getElem? (i := 3) rfl)) (by decide) (by decide)) qa160 qc160 (g := (mkF mM 107 #[.val (.int p1), .val (.int p2), .val (.ref b2), .val (.ref b42), .val (.int (1 : Int32)), .val (.int (1 : Int32)), .val (.int (1 : Int32))] [(.ref a_UPDATE), (.ref a_UPDATE)])) rfl (by rw [hml]; rfl) (Steps.refl _) (argsL := [(.ref a_UPDATE)]) (rest := []) (lenOf pd_1 rfl) rfl (by show 2 * 0 + _ ≤ _; exact Nat.le_of_eq rfl) (hb hby at_107) (fun _ _ => ⟨rfl, e68, (by decide : 2 + 0 ≤ _), (by decide : 10 + 0 ≤ _)⟩)
      dsimp only [Pt.U, Pt.locs, Pt.cells, Pt.slots] at X160 l160 y160 z160 st160 hQ160
      subst l160 y160 z160
      obtain ⟨rfl, Nq160, e160⟩ := hQ160
      have N160 := Fr.app N68 Nq160
      have pr161 : ∀ tg, Steps pP.tables eE below (T160.setTop (mkF mM 110 #[.val (.int p1), .val (.int p2), .val (.ref b2), .val (.ref b42), .val (.int (1 : Int32)), .val (.int (1 : Int32)), .val (.int (1 : Int32))] [(.int (1 : Int32))])) tg → Steps pP.tables eE below (s₁.setTop (entryFrame mM #[(.int p1), (.int p2)] maxLocals)) tg := fun tg kg => pr158 _ (st160.trans kg)
      have pr162 : ∀ tg, Steps pP.tables eE below (T160.setTop (mkF mM 120 #[.val (.int p1), .val (.int p2), .val (.ref b2), .val (.ref b42), .val (.int (1 : Int32)), .val (.int (1 : Int32)), .val (.int (1 : Int32))] [(.int (1 : Int32))])) tg → Steps pP.tables eE below (s₁.setTop (entryFrame mM #[(.int p1), (.int p2)] maxLocals)) tg := fun tg kg => pr161 _ (by
        show Steps pP.tables eE below (T160.setTop (mkF mM 110 #[.val (.int p1), .val (.int p2), .val (.ref b2), .val (.ref b42), .val (.int (1 : Int32)), .val (.int (1 : Int32)), .val (.int (1 : Int32))] [(.int (1 : Int32))])) _
        refine XS.iload X160.here hx rfl (hb hby at_110) rfl ?_
        show Steps pP.tables eE below (T160.setTop (mkF mM 112 #[.val (.int p1), .val (.int p2), .val (.ref b2), .val (.ref b42), .val (.int (1 : Int32)), .val (.int (1 : Int32)), .val (.int (1 : Int32))] [(.int (1 : Int32)), (.int (1 : Int32))])) _
        refine XS.icmpNo X160.here hx rfl (hb hby at_112) rfl (teq (by decide)).2 ?_
        show Steps pP.tables eE below (T160.setTop (mkF mM 115 #[.val (.int p1), .val (.int p2), .val (.ref b2), .val (.ref b42), .val (.int (1 : Int32)), .val (.int (1 : Int32)), .val (.int (1 : Int32))] [])) _
        refine XS.iconst X160.here hx rfl (hb hby at_115) ?_
        show Steps pP.tables eE below (T160.setTop (mkF mM 116 #[.val (.int p1), .val (.int p2), .val (.ref b2), .val (.ref b42), .val (.int (1 : Int32)), .val (.int (1 : Int32)), .val (.int (1 : Int32))] [(.int (1 : Int32))])) _
        refine XS.goto X160.here hx rfl (pc0 := 116) (pc' := 120) rfl (hb hby at_116) (by decide) (by decide) ?_
        exact kg)
      obtain ⟨fs, hr, hrun, hended, hW, hsame⟩ := X160.leave (v := some (.int (1 : Int32))) (fun h => by rw [Bd.returns] at h; cases h)
      refine ⟨_, _, pr162 _ (retOut X160 hx (t := .boolean) Bd.returns rfl (Or.inl ⟨rfl, Or.inr (Or.inl rfl), _, rfl⟩) (hb hby at_120) hr), hrun, hended, _, _, rfl, ?_, ⟨_, rfl⟩, hW, hsame.mono (by decide) (by decide)⟩
      show Q0 Z p1 p2 a_SHARED a_UPDATE a_EXCLUSIVE a_CHANGE a_KEEP h0 n0 _ T160.heap _
      rw [e160]
      exact ⟨rfl, N160⟩
    ·
      obtain ⟨cla163, Ara163, qa163, Sa163, Ma163, Ha163, Ga163⟩ := id V68
      have hin164 : ¬ ((1 : Int32) < 0 ∨ cla163.slots.size ≤ ((1 : Int32)).toNatClampNeg) := inb_of Sa163 ⟨by decide, by decide⟩
      have hat164 : cla163.slots[((1 : Int32)).toNatClampNeg]? = some (.int (30 : Int32)) := Has.at Ha163 hin164 rfl
      have c165 := (Arv.other (Arv.other (Arv.other (Arv.other (Arv.other (Arv.ext V39 E42) W52 ne43) W56 ne43) W60 ne43) W64 ne43) W68 ne43)
      obtain ⟨cla166, Ara166, qa166, Sa166, Ma166, Ha166, Ga166⟩ := id c165
      have hin167 : ¬ ((1 : Int32) < 0 ∨ cla166.slots.size ≤ ((1 : Int32)).toNatClampNeg) := inb_of Sa166 ⟨by decide, by decide⟩
      have hat167 : cla166.slots[((1 : Int32)).toNatClampNeg]? = some (.ref a_UPDATE) := Has.at Ha166 hin167 rfl
      have hin168 : ¬ ((2 : Int32) < 0 ∨ cla166.slots.size ≤ ((2 : Int32)).toNatClampNeg) := inb_of Sa166 ⟨by decide, by decide⟩
      have hat168 : cla166.slots[((2 : Int32)).toNatClampNeg]? = some (.ref a_EXCLUSIVE) := Has.at Ha166 hin168 rfl
      have c169 := (Old.wr (Old.wr (Old.wr (Old.wr (Old.wr (Old.ext c48 E42) W52 gn44) W56 gn44) W60 gn44) W64 gn44) W68 gn44)
      have pr170 : ∀ tg, Steps pP.tables eE below (T68.setTop (mkF mM 107 #[.val (.int p1), .val (.int p2), .val (.ref b2), .val (.ref b42), .val (.int (1 : Int32)), .val (.int (2 : Int32)), .val (.int (1 : Int32))] [(.ref a_EXCLUSIVE), (.ref a_UPDATE)])) tg → Steps pP.tables eE below (s₁.setTop (entryFrame mM #[(.int p1), (.int p2)] maxLocals)) tg := fun tg kg => pr138 _ (by
        show Steps pP.tables eE below (T68.setTop (mkF mM 80 #[.val (.int p1), .val (.int p2), .val (.ref b2), .val (.ref b42), .val (.int (1 : Int32)), .val (.int (2 : Int32)), .unset] [])) _
        refine XS.aloadN X68.here hx rfl (hb hby at_80) rfl rfl ?_
        show Steps pP.tables eE below (T68.setTop (mkF mM 81 #[.val (.int p1), .val (.int p2), .val (.ref b2), .val (.ref b42), .val (.int (1 : Int32)), .val (.int (2 : Int32)), .unset] [(.ref b42)])) _
        refine XS.iload X68.here hx rfl (hb hby at_81) rfl ?_
        show Steps pP.tables eE below (T68.setTop (mkF mM 83 #[.val (.int p1), .val (.int p2), .val (.ref b2), .val (.ref b42), .val (.int (1 : Int32)), .val (.int (2 : Int32)), .unset] [(.int (1 : Int32)), (.ref b42)])) _
        refine X68.iaload hx (j := (1 : Int32)) (v := (.int (30 : Int32))) (by rw [e68]; exact Ara163.1) (State.isArrayOf_alike hZ.alike Ara163.2.1) Ara163.2.2 hin164 hat164 (g := (mkF mM 83 #[.val (.int p1), .val (.int p2), .val (.ref b2), .val (.ref b42), .val (.int (1 : Int32)), .val (.int (2 : Int32)), .unset] [(.int (1 : Int32)), (.ref b42)])) rfl rfl (hb hby at_83) _ ?_
        show Steps pP.tables eE below (T68.setTop (mkF mM 84 #[.val (.int p1), .val (.int p2), .val (.ref b2), .val (.ref b42), .val (.int (1 : Int32)), .val (.int (2 : Int32)), .unset] [(.int (30 : Int32))])) _
        refine XS.iload X68.here hx rfl (hb hby at_84) rfl ?_
        show Steps pP.tables eE below (T68.setTop (mkF mM 86 #[.val (.int p1), .val (.int p2), .val (.ref b2), .val (.ref b42), .val (.int (1 : Int32)), .val (.int (2 : Int32)), .unset] [(.int (2 : Int32)), (.int (30 : Int32))])) _
        refine XS.ishr X68.here hx rfl (hb hby at_86) rfl ?_
        show Steps pP.tables eE below (T68.setTop (mkF mM 87 #[.val (.int p1), .val (.int p2), .val (.ref b2), .val (.ref b42), .val (.int (1 : Int32)), .val (.int (2 : Int32)), .unset] [(.int ((30 : Int32) >>> ((2 : Int32) &&& 31)))])) _
        refine XS.iconst X68.here hx rfl (hb hby at_87) ?_
        show Steps pP.tables eE below (T68.setTop (mkF mM 88 #[.val (.int p1), .val (.int p2), .val (.ref b2), .val (.ref b42), .val (.int (1 : Int32)), .val (.int (2 : Int32)), .unset] [(.int (1 : Int32)), (.int ((30 : Int32) >>> ((2 : Int32) &&& 31)))])) _
        refine XS.iand X68.here hx rfl (hb hby at_88) rfl ?_
        show Steps pP.tables eE below (T68.setTop (mkF mM 89 #[.val (.int p1), .val (.int p2), .val (.ref b2), .val (.ref b42), .val (.int (1 : Int32)), .val (.int (2 : Int32)), .unset] [(.int (1 : Int32))])) _
        refine XS.ifNo X68.here hx rfl (hb hby at_89) rfl ((if0 _ _).trans (feq (by decide)).1) ?_
        show Steps pP.tables eE below (T68.setTop (mkF mM 92 #[.val (.int p1), .val (.int p2), .val (.ref b2), .val (.ref b42), .val (.int (1 : Int32)), .val (.int (2 : Int32)), .unset] [])) _
        refine XS.iconst X68.here hx rfl (hb hby at_92) ?_
        show Steps pP.tables eE below (T68.setTop (mkF mM 93 #[.val (.int p1), .val (.int p2), .val (.ref b2), .val (.ref b42), .val (.int (1 : Int32)), .val (.int (2 : Int32)), .unset] [(.int (1 : Int32))])) _
        refine XS.goto X68.here hx rfl (pc0 := 93) (pc' := 97) rfl (hb hby at_93) (by decide) (by decide) ?_
        show Steps pP.tables eE below (T68.setTop (mkF mM 97 #[.val (.int p1), .val (.int p2), .val (.ref b2), .val (.ref b42), .val (.int (1 : Int32)), .val (.int (2 : Int32)), .unset] [(.int (1 : Int32))])) _
        refine XS.istore X68.here hx rfl (hb hby at_97) rfl (l' := #[.val (.int p1), .val (.int p2), .val (.ref b2), .val (.ref b42), .val (.int (1 : Int32)), .val (.int (2 : Int32)), .val (.int (1 : Int32))]) rfl ?_
        show Steps pP.tables eE below (T68.setTop (mkF mM 99 #[.val (.int p1), .val (.int p2), .val (.ref b2), .val (.ref b42), .val (.int (1 : Int32)), .val (.int (2 : Int32)), .val (.int (1 : Int32))] [])) _
        refine XS.aloadN X68.here hx rfl (hb hby at_99) rfl rfl ?_
        show Steps pP.tables eE below (T68.setTop (mkF mM 100 #[.val (.int p1), .val (.int p2), .val (.ref b2), .val (.ref b42), .val (.int (1 : Int32)), .val (.int (2 : Int32)), .val (.int (1 : Int32))] [(.ref b2)])) _
        refine XS.iload X68.here hx rfl (hb hby at_100) rfl ?_
        show Steps pP.tables eE below (T68.setTop (mkF mM 102 #[.val (.int p1), .val (.int p2), .val (.ref b2), .val (.ref b42), .val (.int (1 : Int32)), .val (.int (2 : Int32)), .val (.int (1 : Int32))] [(.int (1 : Int32)), (.ref b2)])) _
        refine X68.aaload hx (j := (1 : Int32)) (v := (.ref a_UPDATE)) (by rw [e68]; exact Ara166.1) (State.isArrayOf_alike hZ.alike Ara166.2.1) rfl Ara166.2.2 hin167 hat167 (g := (mkF mM 102 #[.val (.int p1), .val (.int p2), .val (.ref b2), .val (.ref b42), .val (.int (1 : Int32)), .val (.int (2 : Int32)), .val (.int (1 : Int32))] [(.int (1 : Int32)), (.ref b2)])) rfl rfl (hb hby at_102) _ ?_
        show Steps pP.tables eE below (T68.setTop (mkF mM 103 #[.val (.int p1), .val (.int p2), .val (.ref b2), .val (.ref b42), .val (.int (1 : Int32)), .val (.int (2 : Int32)), .val (.int (1 : Int32))] [(.ref a_UPDATE)])) _
        refine XS.aloadN X68.here hx rfl (hb hby at_103) rfl rfl ?_
        show Steps pP.tables eE below (T68.setTop (mkF mM 104 #[.val (.int p1), .val (.int p2), .val (.ref b2), .val (.ref b42), .val (.int (1 : Int32)), .val (.int (2 : Int32)), .val (.int (1 : Int32))] [(.ref b2), (.ref a_UPDATE)])) _
        refine XS.iload X68.here hx rfl (hb hby at_104) rfl ?_
        show Steps pP.tables eE below (T68.setTop (mkF mM 106 #[.val (.int p1), .val (.int p2), .val (.ref b2), .val (.ref b42), .val (.int (1 : Int32)), .val (.int (2 : Int32)), .val (.int (1 : Int32))] [(.int (2 : Int32)), (.ref b2), (.ref a_UPDATE)])) _
        refine X68.aaload hx (j := (2 : Int32)) (v := (.ref a_EXCLUSIVE)) (by rw [e68]; exact Ara166.1) (State.isArrayOf_alike hZ.alike Ara166.2.1) rfl Ara166.2.2 hin168 hat168 (g := (mkF mM 106 #[.val (.int p1), .val (.int p2), .val (.ref b2), .val (.ref b42), .val (.int (1 : Int32)), .val (.int (2 : Int32)), .val (.int (1 : Int32))] [(.int (2 : Int32)), (.ref b2), (.ref a_UPDATE)])) rfl rfl (hb hby at_106) _ ?_
        exact kg)
      have c171 := (Nat.le_trans (Nat.le_trans (Nat.le_trans (Nat.le_trans (Nat.le_trans (Nat.le_trans c45 E42.1) (Keep.of_wr W52).1) (Keep.of_wr W56).1) (Keep.of_wr W60).1) (Keep.of_wr W64).1) (Keep.of_wr W68).1)
      obtain ⟨cq172, kq172, qa172, qb172, qc172⟩ := isOf hZ e68 (Exa.ext (c169).2 E_UPDATE)
      obtain ⟨_, _, ⟨T172, L172, kk172, nn172⟩, -, X172, ⟨Lc172, hQ172, l172, y172, z172⟩, st172⟩ := X68.virtualBack hx (y := (⟨"com/example/settle/settle/service/LockTable$Mode", "keepsOut", "(Lcom/example/settle/settle/service/LockTable$Mode;)Z"⟩ : MethodName)) (z := (⟨"com/example/settle/settle/service/LockTable$Mode", "keepsOut", "(Lcom/example/settle/settle/service/LockTable$Mode;)Z"⟩ : MethodName)) hown (mvT hZ (hw _ (List.mem_of_getElem? (i := 16) rfl))) (mvT hZ (hw _ (List.mem_of_getElem? (i := 17) rfl))) (notFace_of_selects (args := #[]) (mvT hZ (hw _ (List.mem_of_getElem? (i := 19) rfl)))) (mvT hZ (hw _ (List.mem_of_getElem? (i := 19) rfl))) (mvT hZ (hw _ (List.mem_of_getElem? (i := 18) rfl))) (by decide) (backOf (W := 0) (rm212 l Z a0 hw [] a_SHARED a_UPDATE a_EXCLUSIVE a_CHANGE a_KEEP h68 n0 c171 c169 S_SHARED E_SHARED S_UPDATE E_UPDATE S_EXCLUSIVE E_EXCLUSIVE S_CHANGE E_CHANGE S_KEEP E_KEEP F_SHARED_ordinal F_CHANGE_ordinal F_EXCLUSIVE_ordinal F_KEEP_ordinal F_UPDATE_ordinal) hZ (hw _ (List.mem_of_getElem? (i := 20) rfl)) (hw _ (List.mem_of_getElem? (i := 3) rfl)) (by decide) (by decide)) qa172 qc172 (g := (mkF mM 107 #[.val (.int p1), .val (.int p2), .val (.ref b2), .val (.ref b42), .val (.int (1 : Int32)), .val (.int (2 : Int32)), .val (.int (1 : Int32))] [(.ref a_EXCLUSIVE), (.ref a_UPDATE)])) rfl (by rw [hml]; rfl) (Steps.refl _) (argsL := [(.ref a_EXCLUSIVE)]) (rest := []) (lenOf pd_1 rfl) rfl (by show 2 * 0 + _ ≤ _; exact Nat.le_of_eq rfl) (hb hby at_107) (fun _ _ => ⟨rfl, e68, (by decide : 2 + 0 ≤ _), (by decide : 10 + 0 ≤ _)⟩)
      dsimp only [Pt.U, Pt.locs, Pt.cells, Pt.slots] at X172 l172 y172 z172 st172 hQ172
      subst l172 y172 z172
      obtain ⟨rfl, Nq172, e172⟩ := hQ172
      have N172 := Fr.app N68 Nq172
      have pr173 : ∀ tg, Steps pP.tables eE below (T172.setTop (mkF mM 110 #[.val (.int p1), .val (.int p2), .val (.ref b2), .val (.ref b42), .val (.int (1 : Int32)), .val (.int (2 : Int32)), .val (.int (1 : Int32))] [(.int (1 : Int32))])) tg → Steps pP.tables eE below (s₁.setTop (entryFrame mM #[(.int p1), (.int p2)] maxLocals)) tg := fun tg kg => pr170 _ (st172.trans kg)
      have pr174 : ∀ tg, Steps pP.tables eE below (T172.setTop (mkF mM 120 #[.val (.int p1), .val (.int p2), .val (.ref b2), .val (.ref b42), .val (.int (1 : Int32)), .val (.int (2 : Int32)), .val (.int (1 : Int32))] [(.int (1 : Int32))])) tg → Steps pP.tables eE below (s₁.setTop (entryFrame mM #[(.int p1), (.int p2)] maxLocals)) tg := fun tg kg => pr173 _ (by
        show Steps pP.tables eE below (T172.setTop (mkF mM 110 #[.val (.int p1), .val (.int p2), .val (.ref b2), .val (.ref b42), .val (.int (1 : Int32)), .val (.int (2 : Int32)), .val (.int (1 : Int32))] [(.int (1 : Int32))])) _
        refine XS.iload X172.here hx rfl (hb hby at_110) rfl ?_
        show Steps pP.tables eE below (T172.setTop (mkF mM 112 #[.val (.int p1), .val (.int p2), .val (.ref b2), .val (.ref b42), .val (.int (1 : Int32)), .val (.int (2 : Int32)), .val (.int (1 : Int32))] [(.int (1 : Int32)), (.int (1 : Int32))])) _
        refine XS.icmpNo X172.here hx rfl (hb hby at_112) rfl (teq (by decide)).2 ?_
        show Steps pP.tables eE below (T172.setTop (mkF mM 115 #[.val (.int p1), .val (.int p2), .val (.ref b2), .val (.ref b42), .val (.int (1 : Int32)), .val (.int (2 : Int32)), .val (.int (1 : Int32))] [])) _
        refine XS.iconst X172.here hx rfl (hb hby at_115) ?_
        show Steps pP.tables eE below (T172.setTop (mkF mM 116 #[.val (.int p1), .val (.int p2), .val (.ref b2), .val (.ref b42), .val (.int (1 : Int32)), .val (.int (2 : Int32)), .val (.int (1 : Int32))] [(.int (1 : Int32))])) _
        refine XS.goto X172.here hx rfl (pc0 := 116) (pc' := 120) rfl (hb hby at_116) (by decide) (by decide) ?_
        exact kg)
      obtain ⟨fs, hr, hrun, hended, hW, hsame⟩ := X172.leave (v := some (.int (1 : Int32))) (fun h => by rw [Bd.returns] at h; cases h)
      refine ⟨_, _, pr174 _ (retOut X172 hx (t := .boolean) Bd.returns rfl (Or.inl ⟨rfl, Or.inr (Or.inl rfl), _, rfl⟩) (hb hby at_120) hr), hrun, hended, _, _, rfl, ?_, ⟨_, rfl⟩, hW, hsame.mono (by decide) (by decide)⟩
      show Q0 Z p1 p2 a_SHARED a_UPDATE a_EXCLUSIVE a_CHANGE a_KEEP h0 n0 _ T172.heap _
      rw [e172]
      exact ⟨rfl, N172⟩
    ·
      obtain ⟨cla175, Ara175, qa175, Sa175, Ma175, Ha175, Ga175⟩ := id V68
      have hin176 : ¬ ((1 : Int32) < 0 ∨ cla175.slots.size ≤ ((1 : Int32)).toNatClampNeg) := inb_of Sa175 ⟨by decide, by decide⟩
      have hat176 : cla175.slots[((1 : Int32)).toNatClampNeg]? = some (.int (30 : Int32)) := Has.at Ha175 hin176 rfl
      have c177 := (Arv.other (Arv.other (Arv.other (Arv.other (Arv.other (Arv.ext V39 E42) W52 ne43) W56 ne43) W60 ne43) W64 ne43) W68 ne43)
      obtain ⟨cla178, Ara178, qa178, Sa178, Ma178, Ha178, Ga178⟩ := id c177
      have hin179 : ¬ ((1 : Int32) < 0 ∨ cla178.slots.size ≤ ((1 : Int32)).toNatClampNeg) := inb_of Sa178 ⟨by decide, by decide⟩
      have hat179 : cla178.slots[((1 : Int32)).toNatClampNeg]? = some (.ref a_UPDATE) := Has.at Ha178 hin179 rfl
      have hin180 : ¬ ((3 : Int32) < 0 ∨ cla178.slots.size ≤ ((3 : Int32)).toNatClampNeg) := inb_of Sa178 ⟨by decide, by decide⟩
      have hat180 : cla178.slots[((3 : Int32)).toNatClampNeg]? = some (.ref a_CHANGE) := Has.at Ha178 hin180 rfl
      have c181 := (Old.wr (Old.wr (Old.wr (Old.wr (Old.wr (Old.ext c48 E42) W52 gn44) W56 gn44) W60 gn44) W64 gn44) W68 gn44)
      have pr182 : ∀ tg, Steps pP.tables eE below (T68.setTop (mkF mM 107 #[.val (.int p1), .val (.int p2), .val (.ref b2), .val (.ref b42), .val (.int (1 : Int32)), .val (.int (3 : Int32)), .val (.int (1 : Int32))] [(.ref a_CHANGE), (.ref a_UPDATE)])) tg → Steps pP.tables eE below (s₁.setTop (entryFrame mM #[(.int p1), (.int p2)] maxLocals)) tg := fun tg kg => pr138 _ (by
        show Steps pP.tables eE below (T68.setTop (mkF mM 80 #[.val (.int p1), .val (.int p2), .val (.ref b2), .val (.ref b42), .val (.int (1 : Int32)), .val (.int (3 : Int32)), .unset] [])) _
        refine XS.aloadN X68.here hx rfl (hb hby at_80) rfl rfl ?_
        show Steps pP.tables eE below (T68.setTop (mkF mM 81 #[.val (.int p1), .val (.int p2), .val (.ref b2), .val (.ref b42), .val (.int (1 : Int32)), .val (.int (3 : Int32)), .unset] [(.ref b42)])) _
        refine XS.iload X68.here hx rfl (hb hby at_81) rfl ?_
        show Steps pP.tables eE below (T68.setTop (mkF mM 83 #[.val (.int p1), .val (.int p2), .val (.ref b2), .val (.ref b42), .val (.int (1 : Int32)), .val (.int (3 : Int32)), .unset] [(.int (1 : Int32)), (.ref b42)])) _
        refine X68.iaload hx (j := (1 : Int32)) (v := (.int (30 : Int32))) (by rw [e68]; exact Ara175.1) (State.isArrayOf_alike hZ.alike Ara175.2.1) Ara175.2.2 hin176 hat176 (g := (mkF mM 83 #[.val (.int p1), .val (.int p2), .val (.ref b2), .val (.ref b42), .val (.int (1 : Int32)), .val (.int (3 : Int32)), .unset] [(.int (1 : Int32)), (.ref b42)])) rfl rfl (hb hby at_83) _ ?_
        show Steps pP.tables eE below (T68.setTop (mkF mM 84 #[.val (.int p1), .val (.int p2), .val (.ref b2), .val (.ref b42), .val (.int (1 : Int32)), .val (.int (3 : Int32)), .unset] [(.int (30 : Int32))])) _
        refine XS.iload X68.here hx rfl (hb hby at_84) rfl ?_
        show Steps pP.tables eE below (T68.setTop (mkF mM 86 #[.val (.int p1), .val (.int p2), .val (.ref b2), .val (.ref b42), .val (.int (1 : Int32)), .val (.int (3 : Int32)), .unset] [(.int (3 : Int32)), (.int (30 : Int32))])) _
        refine XS.ishr X68.here hx rfl (hb hby at_86) rfl ?_
        show Steps pP.tables eE below (T68.setTop (mkF mM 87 #[.val (.int p1), .val (.int p2), .val (.ref b2), .val (.ref b42), .val (.int (1 : Int32)), .val (.int (3 : Int32)), .unset] [(.int ((30 : Int32) >>> ((3 : Int32) &&& 31)))])) _
        refine XS.iconst X68.here hx rfl (hb hby at_87) ?_
        show Steps pP.tables eE below (T68.setTop (mkF mM 88 #[.val (.int p1), .val (.int p2), .val (.ref b2), .val (.ref b42), .val (.int (1 : Int32)), .val (.int (3 : Int32)), .unset] [(.int (1 : Int32)), (.int ((30 : Int32) >>> ((3 : Int32) &&& 31)))])) _
        refine XS.iand X68.here hx rfl (hb hby at_88) rfl ?_
        show Steps pP.tables eE below (T68.setTop (mkF mM 89 #[.val (.int p1), .val (.int p2), .val (.ref b2), .val (.ref b42), .val (.int (1 : Int32)), .val (.int (3 : Int32)), .unset] [(.int (1 : Int32))])) _
        refine XS.ifNo X68.here hx rfl (hb hby at_89) rfl ((if0 _ _).trans (feq (by decide)).1) ?_
        show Steps pP.tables eE below (T68.setTop (mkF mM 92 #[.val (.int p1), .val (.int p2), .val (.ref b2), .val (.ref b42), .val (.int (1 : Int32)), .val (.int (3 : Int32)), .unset] [])) _
        refine XS.iconst X68.here hx rfl (hb hby at_92) ?_
        show Steps pP.tables eE below (T68.setTop (mkF mM 93 #[.val (.int p1), .val (.int p2), .val (.ref b2), .val (.ref b42), .val (.int (1 : Int32)), .val (.int (3 : Int32)), .unset] [(.int (1 : Int32))])) _
        refine XS.goto X68.here hx rfl (pc0 := 93) (pc' := 97) rfl (hb hby at_93) (by decide) (by decide) ?_
        show Steps pP.tables eE below (T68.setTop (mkF mM 97 #[.val (.int p1), .val (.int p2), .val (.ref b2), .val (.ref b42), .val (.int (1 : Int32)), .val (.int (3 : Int32)), .unset] [(.int (1 : Int32))])) _
        refine XS.istore X68.here hx rfl (hb hby at_97) rfl (l' := #[.val (.int p1), .val (.int p2), .val (.ref b2), .val (.ref b42), .val (.int (1 : Int32)), .val (.int (3 : Int32)), .val (.int (1 : Int32))]) rfl ?_
        show Steps pP.tables eE below (T68.setTop (mkF mM 99 #[.val (.int p1), .val (.int p2), .val (.ref b2), .val (.ref b42), .val (.int (1 : Int32)), .val (.int (3 : Int32)), .val (.int (1 : Int32))] [])) _
        refine XS.aloadN X68.here hx rfl (hb hby at_99) rfl rfl ?_
        show Steps pP.tables eE below (T68.setTop (mkF mM 100 #[.val (.int p1), .val (.int p2), .val (.ref b2), .val (.ref b42), .val (.int (1 : Int32)), .val (.int (3 : Int32)), .val (.int (1 : Int32))] [(.ref b2)])) _
        refine XS.iload X68.here hx rfl (hb hby at_100) rfl ?_
        show Steps pP.tables eE below (T68.setTop (mkF mM 102 #[.val (.int p1), .val (.int p2), .val (.ref b2), .val (.ref b42), .val (.int (1 : Int32)), .val (.int (3 : Int32)), .val (.int (1 : Int32))] [(.int (1 : Int32)), (.ref b2)])) _
        refine X68.aaload hx (j := (1 : Int32)) (v := (.ref a_UPDATE)) (by rw [e68]; exact Ara178.1) (State.isArrayOf_alike hZ.alike Ara178.2.1) rfl Ara178.2.2 hin179 hat179 (g := (mkF mM 102 #[.val (.int p1), .val (.int p2), .val (.ref b2), .val (.ref b42), .val (.int (1 : Int32)), .val (.int (3 : Int32)), .val (.int (1 : Int32))] [(.int (1 : Int32)), (.ref b2)])) rfl rfl (hb hby at_102) _ ?_
        show Steps pP.tables eE below (T68.setTop (mkF mM 103 #[.val (.int p1), .val (.int p2), .val (.ref b2), .val (.ref b42), .val (.int (1 : Int32)), .val (.int (3 : Int32)), .val (.int (1 : Int32))] [(.ref a_UPDATE)])) _
        refine XS.aloadN X68.here hx rfl (hb hby at_103) rfl rfl ?_
        show Steps pP.tables eE below (T68.setTop (mkF mM 104 #[.val (.int p1), .val (.int p2), .val (.ref b2), .val (.ref b42), .val (.int (1 : Int32)), .val (.int (3 : Int32)), .val (.int (1 : Int32))] [(.ref b2), (.ref a_UPDATE)])) _
        refine XS.iload X68.here hx rfl (hb hby at_104) rfl ?_
        show Steps pP.tables eE below (T68.setTop (mkF mM 106 #[.val (.int p1), .val (.int p2), .val (.ref b2), .val (.ref b42), .val (.int (1 : Int32)), .val (.int (3 : Int32)), .val (.int (1 : Int32))] [(.int (3 : Int32)), (.ref b2), (.ref a_UPDATE)])) _
        refine X68.aaload hx (j := (3 : Int32)) (v := (.ref a_CHANGE)) (by rw [e68]; exact Ara178.1) (State.isArrayOf_alike hZ.alike Ara178.2.1) rfl Ara178.2.2 hin180 hat180 (g := (mkF mM 106 #[.val (.int p1), .val (.int p2), .val (.ref b2), .val (.ref b42), .val (.int (1 : Int32)), .val (.int (3 : Int32)), .val (.int (1 : Int32))] [(.int (3 : Int32)), (.ref b2), (.ref a_UPDATE)])) rfl rfl (hb hby at_106) _ ?_
        exact kg)
      have c183 := (Nat.le_trans (Nat.le_trans (Nat.le_trans (Nat.le_trans (Nat.le_trans (Nat.le_trans c45 E42.1) (Keep.of_wr W52).1) (Keep.of_wr W56).1) (Keep.of_wr W60).1) (Keep.of_wr W64).1) (Keep.of_wr W68).1)
      obtain ⟨cq184, kq184, qa184, qb184, qc184⟩ := isOf hZ e68 (Exa.ext (c181).2 E_UPDATE)
      obtain ⟨_, _, ⟨T184, L184, kk184, nn184⟩, -, X184, ⟨Lc184, hQ184, l184, y184, z184⟩, st184⟩ := X68.virtualBack hx (y := (⟨"com/example/settle/settle/service/LockTable$Mode", "keepsOut", "(Lcom/example/settle/settle/service/LockTable$Mode;)Z"⟩ : MethodName)) (z := (⟨"com/example/settle/settle/service/LockTable$Mode", "keepsOut", "(Lcom/example/settle/settle/service/LockTable$Mode;)Z"⟩ : MethodName)) hown (mvT hZ (hw _ (List.mem_of_getElem? (i := 16) rfl))) (mvT hZ (hw _ (List.mem_of_getElem? (i := 17) rfl))) (notFace_of_selects (args := #[]) (mvT hZ (hw _ (List.mem_of_getElem? (i := 19) rfl)))) (mvT hZ (hw _ (List.mem_of_getElem? (i := 19) rfl))) (mvT hZ (hw _ (List.mem_of_getElem? (i := 18) rfl))) (by decide) (backOf (W := 0) (rm213 l Z a0 hw [] a_SHARED a_UPDATE a_EXCLUSIVE a_CHANGE a_KEEP h68 n0 c183 c181 S_SHARED E_SHARED S_UPDATE E_UPDATE S_EXCLUSIVE E_EXCLUSIVE S_CHANGE E_CHANGE S_KEEP E_KEEP F_SHARED_ordinal F_CHANGE_ordinal F_EXCLUSIVE_ordinal F_KEEP_ordinal F_UPDATE_ordinal) hZ (hw _ (List.mem_of_getElem? (i := 20) rfl)) (hw _ (List.mem_of_getElem? (i := 3) rfl)) (by decide) (by decide)) qa184 qc184 (g := (mkF mM 107 #[.val (.int p1), .val (.int p2), .val (.ref b2), .val (.ref b42), .val (.int (1 : Int32)), .val (.int (3 : Int32)), .val (.int (1 : Int32))] [(.ref a_CHANGE), (.ref a_UPDATE)])) rfl (by rw [hml]; rfl) (Steps.refl _) (argsL := [(.ref a_CHANGE)]) (rest := []) (lenOf pd_1 rfl) rfl (by show 2 * 0 + _ ≤ _; exact Nat.le_of_eq rfl) (hb hby at_107) (fun _ _ => ⟨rfl, e68, (by decide : 2 + 0 ≤ _), (by decide : 10 + 0 ≤ _)⟩)
      dsimp only [Pt.U, Pt.locs, Pt.cells, Pt.slots] at X184 l184 y184 z184 st184 hQ184
      subst l184 y184 z184
      obtain ⟨rfl, Nq184, e184⟩ := hQ184
      have N184 := Fr.app N68 Nq184
      have pr185 : ∀ tg, Steps pP.tables eE below (T184.setTop (mkF mM 110 #[.val (.int p1), .val (.int p2), .val (.ref b2), .val (.ref b42), .val (.int (1 : Int32)), .val (.int (3 : Int32)), .val (.int (1 : Int32))] [(.int (1 : Int32))])) tg → Steps pP.tables eE below (s₁.setTop (entryFrame mM #[(.int p1), (.int p2)] maxLocals)) tg := fun tg kg => pr182 _ (st184.trans kg)
      have pr186 : ∀ tg, Steps pP.tables eE below (T184.setTop (mkF mM 120 #[.val (.int p1), .val (.int p2), .val (.ref b2), .val (.ref b42), .val (.int (1 : Int32)), .val (.int (3 : Int32)), .val (.int (1 : Int32))] [(.int (1 : Int32))])) tg → Steps pP.tables eE below (s₁.setTop (entryFrame mM #[(.int p1), (.int p2)] maxLocals)) tg := fun tg kg => pr185 _ (by
        show Steps pP.tables eE below (T184.setTop (mkF mM 110 #[.val (.int p1), .val (.int p2), .val (.ref b2), .val (.ref b42), .val (.int (1 : Int32)), .val (.int (3 : Int32)), .val (.int (1 : Int32))] [(.int (1 : Int32))])) _
        refine XS.iload X184.here hx rfl (hb hby at_110) rfl ?_
        show Steps pP.tables eE below (T184.setTop (mkF mM 112 #[.val (.int p1), .val (.int p2), .val (.ref b2), .val (.ref b42), .val (.int (1 : Int32)), .val (.int (3 : Int32)), .val (.int (1 : Int32))] [(.int (1 : Int32)), (.int (1 : Int32))])) _
        refine XS.icmpNo X184.here hx rfl (hb hby at_112) rfl (teq (by decide)).2 ?_
        show Steps pP.tables eE below (T184.setTop (mkF mM 115 #[.val (.int p1), .val (.int p2), .val (.ref b2), .val (.ref b42), .val (.int (1 : Int32)), .val (.int (3 : Int32)), .val (.int (1 : Int32))] [])) _
        refine XS.iconst X184.here hx rfl (hb hby at_115) ?_
        show Steps pP.tables eE below (T184.setTop (mkF mM 116 #[.val (.int p1), .val (.int p2), .val (.ref b2), .val (.ref b42), .val (.int (1 : Int32)), .val (.int (3 : Int32)), .val (.int (1 : Int32))] [(.int (1 : Int32))])) _
        refine XS.goto X184.here hx rfl (pc0 := 116) (pc' := 120) rfl (hb hby at_116) (by decide) (by decide) ?_
        exact kg)
      obtain ⟨fs, hr, hrun, hended, hW, hsame⟩ := X184.leave (v := some (.int (1 : Int32))) (fun h => by rw [Bd.returns] at h; cases h)
      refine ⟨_, _, pr186 _ (retOut X184 hx (t := .boolean) Bd.returns rfl (Or.inl ⟨rfl, Or.inr (Or.inl rfl), _, rfl⟩) (hb hby at_120) hr), hrun, hended, _, _, rfl, ?_, ⟨_, rfl⟩, hW, hsame.mono (by decide) (by decide)⟩
      show Q0 Z p1 p2 a_SHARED a_UPDATE a_EXCLUSIVE a_CHANGE a_KEEP h0 n0 _ T184.heap _
      rw [e184]
      exact ⟨rfl, N184⟩
    ·
      obtain ⟨cla187, Ara187, qa187, Sa187, Ma187, Ha187, Ga187⟩ := id V68
      have hin188 : ¬ ((1 : Int32) < 0 ∨ cla187.slots.size ≤ ((1 : Int32)).toNatClampNeg) := inb_of Sa187 ⟨by decide, by decide⟩
      have hat188 : cla187.slots[((1 : Int32)).toNatClampNeg]? = some (.int (30 : Int32)) := Has.at Ha187 hin188 rfl
      have c189 := (Arv.other (Arv.other (Arv.other (Arv.other (Arv.other (Arv.ext V39 E42) W52 ne43) W56 ne43) W60 ne43) W64 ne43) W68 ne43)
      obtain ⟨cla190, Ara190, qa190, Sa190, Ma190, Ha190, Ga190⟩ := id c189
      have hin191 : ¬ ((1 : Int32) < 0 ∨ cla190.slots.size ≤ ((1 : Int32)).toNatClampNeg) := inb_of Sa190 ⟨by decide, by decide⟩
      have hat191 : cla190.slots[((1 : Int32)).toNatClampNeg]? = some (.ref a_UPDATE) := Has.at Ha190 hin191 rfl
      have hin192 : ¬ ((4 : Int32) < 0 ∨ cla190.slots.size ≤ ((4 : Int32)).toNatClampNeg) := inb_of Sa190 ⟨by decide, by decide⟩
      have hat192 : cla190.slots[((4 : Int32)).toNatClampNeg]? = some (.ref a_KEEP) := Has.at Ha190 hin192 rfl
      have c193 := (Old.wr (Old.wr (Old.wr (Old.wr (Old.wr (Old.ext c48 E42) W52 gn44) W56 gn44) W60 gn44) W64 gn44) W68 gn44)
      have pr194 : ∀ tg, Steps pP.tables eE below (T68.setTop (mkF mM 107 #[.val (.int p1), .val (.int p2), .val (.ref b2), .val (.ref b42), .val (.int (1 : Int32)), .val (.int (4 : Int32)), .val (.int (1 : Int32))] [(.ref a_KEEP), (.ref a_UPDATE)])) tg → Steps pP.tables eE below (s₁.setTop (entryFrame mM #[(.int p1), (.int p2)] maxLocals)) tg := fun tg kg => pr138 _ (by
        show Steps pP.tables eE below (T68.setTop (mkF mM 80 #[.val (.int p1), .val (.int p2), .val (.ref b2), .val (.ref b42), .val (.int (1 : Int32)), .val (.int (4 : Int32)), .unset] [])) _
        refine XS.aloadN X68.here hx rfl (hb hby at_80) rfl rfl ?_
        show Steps pP.tables eE below (T68.setTop (mkF mM 81 #[.val (.int p1), .val (.int p2), .val (.ref b2), .val (.ref b42), .val (.int (1 : Int32)), .val (.int (4 : Int32)), .unset] [(.ref b42)])) _
        refine XS.iload X68.here hx rfl (hb hby at_81) rfl ?_
        show Steps pP.tables eE below (T68.setTop (mkF mM 83 #[.val (.int p1), .val (.int p2), .val (.ref b2), .val (.ref b42), .val (.int (1 : Int32)), .val (.int (4 : Int32)), .unset] [(.int (1 : Int32)), (.ref b42)])) _
        refine X68.iaload hx (j := (1 : Int32)) (v := (.int (30 : Int32))) (by rw [e68]; exact Ara187.1) (State.isArrayOf_alike hZ.alike Ara187.2.1) Ara187.2.2 hin188 hat188 (g := (mkF mM 83 #[.val (.int p1), .val (.int p2), .val (.ref b2), .val (.ref b42), .val (.int (1 : Int32)), .val (.int (4 : Int32)), .unset] [(.int (1 : Int32)), (.ref b42)])) rfl rfl (hb hby at_83) _ ?_
        show Steps pP.tables eE below (T68.setTop (mkF mM 84 #[.val (.int p1), .val (.int p2), .val (.ref b2), .val (.ref b42), .val (.int (1 : Int32)), .val (.int (4 : Int32)), .unset] [(.int (30 : Int32))])) _
        refine XS.iload X68.here hx rfl (hb hby at_84) rfl ?_
        show Steps pP.tables eE below (T68.setTop (mkF mM 86 #[.val (.int p1), .val (.int p2), .val (.ref b2), .val (.ref b42), .val (.int (1 : Int32)), .val (.int (4 : Int32)), .unset] [(.int (4 : Int32)), (.int (30 : Int32))])) _
        refine XS.ishr X68.here hx rfl (hb hby at_86) rfl ?_
        show Steps pP.tables eE below (T68.setTop (mkF mM 87 #[.val (.int p1), .val (.int p2), .val (.ref b2), .val (.ref b42), .val (.int (1 : Int32)), .val (.int (4 : Int32)), .unset] [(.int ((30 : Int32) >>> ((4 : Int32) &&& 31)))])) _
        refine XS.iconst X68.here hx rfl (hb hby at_87) ?_
        show Steps pP.tables eE below (T68.setTop (mkF mM 88 #[.val (.int p1), .val (.int p2), .val (.ref b2), .val (.ref b42), .val (.int (1 : Int32)), .val (.int (4 : Int32)), .unset] [(.int (1 : Int32)), (.int ((30 : Int32) >>> ((4 : Int32) &&& 31)))])) _
        refine XS.iand X68.here hx rfl (hb hby at_88) rfl ?_
        show Steps pP.tables eE below (T68.setTop (mkF mM 89 #[.val (.int p1), .val (.int p2), .val (.ref b2), .val (.ref b42), .val (.int (1 : Int32)), .val (.int (4 : Int32)), .unset] [(.int (1 : Int32))])) _
        refine XS.ifNo X68.here hx rfl (hb hby at_89) rfl ((if0 _ _).trans (feq (by decide)).1) ?_
        show Steps pP.tables eE below (T68.setTop (mkF mM 92 #[.val (.int p1), .val (.int p2), .val (.ref b2), .val (.ref b42), .val (.int (1 : Int32)), .val (.int (4 : Int32)), .unset] [])) _
        refine XS.iconst X68.here hx rfl (hb hby at_92) ?_
        show Steps pP.tables eE below (T68.setTop (mkF mM 93 #[.val (.int p1), .val (.int p2), .val (.ref b2), .val (.ref b42), .val (.int (1 : Int32)), .val (.int (4 : Int32)), .unset] [(.int (1 : Int32))])) _
        refine XS.goto X68.here hx rfl (pc0 := 93) (pc' := 97) rfl (hb hby at_93) (by decide) (by decide) ?_
        show Steps pP.tables eE below (T68.setTop (mkF mM 97 #[.val (.int p1), .val (.int p2), .val (.ref b2), .val (.ref b42), .val (.int (1 : Int32)), .val (.int (4 : Int32)), .unset] [(.int (1 : Int32))])) _
        refine XS.istore X68.here hx rfl (hb hby at_97) rfl (l' := #[.val (.int p1), .val (.int p2), .val (.ref b2), .val (.ref b42), .val (.int (1 : Int32)), .val (.int (4 : Int32)), .val (.int (1 : Int32))]) rfl ?_
        show Steps pP.tables eE below (T68.setTop (mkF mM 99 #[.val (.int p1), .val (.int p2), .val (.ref b2), .val (.ref b42), .val (.int (1 : Int32)), .val (.int (4 : Int32)), .val (.int (1 : Int32))] [])) _
        refine XS.aloadN X68.here hx rfl (hb hby at_99) rfl rfl ?_
        show Steps pP.tables eE below (T68.setTop (mkF mM 100 #[.val (.int p1), .val (.int p2), .val (.ref b2), .val (.ref b42), .val (.int (1 : Int32)), .val (.int (4 : Int32)), .val (.int (1 : Int32))] [(.ref b2)])) _
        refine XS.iload X68.here hx rfl (hb hby at_100) rfl ?_
        show Steps pP.tables eE below (T68.setTop (mkF mM 102 #[.val (.int p1), .val (.int p2), .val (.ref b2), .val (.ref b42), .val (.int (1 : Int32)), .val (.int (4 : Int32)), .val (.int (1 : Int32))] [(.int (1 : Int32)), (.ref b2)])) _
        refine X68.aaload hx (j := (1 : Int32)) (v := (.ref a_UPDATE)) (by rw [e68]; exact Ara190.1) (State.isArrayOf_alike hZ.alike Ara190.2.1) rfl Ara190.2.2 hin191 hat191 (g := (mkF mM 102 #[.val (.int p1), .val (.int p2), .val (.ref b2), .val (.ref b42), .val (.int (1 : Int32)), .val (.int (4 : Int32)), .val (.int (1 : Int32))] [(.int (1 : Int32)), (.ref b2)])) rfl rfl (hb hby at_102) _ ?_
        show Steps pP.tables eE below (T68.setTop (mkF mM 103 #[.val (.int p1), .val (.int p2), .val (.ref b2), .val (.ref b42), .val (.int (1 : Int32)), .val (.int (4 : Int32)), .val (.int (1 : Int32))] [(.ref a_UPDATE)])) _
        refine XS.aloadN X68.here hx rfl (hb hby at_103) rfl rfl ?_
        show Steps pP.tables eE below (T68.setTop (mkF mM 104 #[.val (.int p1), .val (.int p2), .val (.ref b2), .val (.ref b42), .val (.int (1 : Int32)), .val (.int (4 : Int32)), .val (.int (1 : Int32))] [(.ref b2), (.ref a_UPDATE)])) _
        refine XS.iload X68.here hx rfl (hb hby at_104) rfl ?_
        show Steps pP.tables eE below (T68.setTop (mkF mM 106 #[.val (.int p1), .val (.int p2), .val (.ref b2), .val (.ref b42), .val (.int (1 : Int32)), .val (.int (4 : Int32)), .val (.int (1 : Int32))] [(.int (4 : Int32)), (.ref b2), (.ref a_UPDATE)])) _
        refine X68.aaload hx (j := (4 : Int32)) (v := (.ref a_KEEP)) (by rw [e68]; exact Ara190.1) (State.isArrayOf_alike hZ.alike Ara190.2.1) rfl Ara190.2.2 hin192 hat192 (g := (mkF mM 106 #[.val (.int p1), .val (.int p2), .val (.ref b2), .val (.ref b42), .val (.int (1 : Int32)), .val (.int (4 : Int32)), .val (.int (1 : Int32))] [(.int (4 : Int32)), (.ref b2), (.ref a_UPDATE)])) rfl rfl (hb hby at_106) _ ?_
        exact kg)
      have c195 := (Nat.le_trans (Nat.le_trans (Nat.le_trans (Nat.le_trans (Nat.le_trans (Nat.le_trans c45 E42.1) (Keep.of_wr W52).1) (Keep.of_wr W56).1) (Keep.of_wr W60).1) (Keep.of_wr W64).1) (Keep.of_wr W68).1)
      obtain ⟨cq196, kq196, qa196, qb196, qc196⟩ := isOf hZ e68 (Exa.ext (c193).2 E_UPDATE)
      obtain ⟨_, _, ⟨T196, L196, kk196, nn196⟩, -, X196, ⟨Lc196, hQ196, l196, y196, z196⟩, st196⟩ := X68.virtualBack hx (y := (⟨"com/example/settle/settle/service/LockTable$Mode", "keepsOut", "(Lcom/example/settle/settle/service/LockTable$Mode;)Z"⟩ : MethodName)) (z := (⟨"com/example/settle/settle/service/LockTable$Mode", "keepsOut", "(Lcom/example/settle/settle/service/LockTable$Mode;)Z"⟩ : MethodName)) hown (mvT hZ (hw _ (List.mem_of_getElem? (i := 16) rfl))) (mvT hZ (hw _ (List.mem_of_getElem? (i := 17) rfl))) (notFace_of_selects (args := #[]) (mvT hZ (hw _ (List.mem_of_getElem? (i := 19) rfl)))) (mvT hZ (hw _ (List.mem_of_getElem? (i := 19) rfl))) (mvT hZ (hw _ (List.mem_of_getElem? (i := 18) rfl))) (by decide) (backOf (W := 0) (rm214 l Z a0 hw [] a_SHARED a_UPDATE a_EXCLUSIVE a_CHANGE a_KEEP h68 n0 c195 c193 S_SHARED E_SHARED S_UPDATE E_UPDATE S_EXCLUSIVE E_EXCLUSIVE S_CHANGE E_CHANGE S_KEEP E_KEEP F_SHARED_ordinal F_CHANGE_ordinal F_EXCLUSIVE_ordinal F_KEEP_ordinal F_UPDATE_ordinal) hZ (hw _ (List.mem_of_getElem? (i := 20) rfl)) (hw _ (List.mem_of_getElem? (i := 3) rfl)) (by decide) (by decide)) qa196 qc196 (g := (mkF mM 107 #[.val (.int p1), .val (.int p2), .val (.ref b2), .val (.ref b42), .val (.int (1 : Int32)), .val (.int (4 : Int32)), .val (.int (1 : Int32))] [(.ref a_KEEP), (.ref a_UPDATE)])) rfl (by rw [hml]; rfl) (Steps.refl _) (argsL := [(.ref a_KEEP)]) (rest := []) (lenOf pd_1 rfl) rfl (by show 2 * 0 + _ ≤ _; exact Nat.le_of_eq rfl) (hb hby at_107) (fun _ _ => ⟨rfl, e68, (by decide : 2 + 0 ≤ _), (by decide : 10 + 0 ≤ _)⟩)
      dsimp only [Pt.U, Pt.locs, Pt.cells, Pt.slots] at X196 l196 y196 z196 st196 hQ196
      subst l196 y196 z196
      obtain ⟨rfl, Nq196, e196⟩ := hQ196
      have N196 := Fr.app N68 Nq196
      have pr197 : ∀ tg, Steps pP.tables eE below (T196.setTop (mkF mM 110 #[.val (.int p1), .val (.int p2), .val (.ref b2), .val (.ref b42), .val (.int (1 : Int32)), .val (.int (4 : Int32)), .val (.int (1 : Int32))] [(.int (1 : Int32))])) tg → Steps pP.tables eE below (s₁.setTop (entryFrame mM #[(.int p1), (.int p2)] maxLocals)) tg := fun tg kg => pr194 _ (st196.trans kg)
      have pr198 : ∀ tg, Steps pP.tables eE below (T196.setTop (mkF mM 120 #[.val (.int p1), .val (.int p2), .val (.ref b2), .val (.ref b42), .val (.int (1 : Int32)), .val (.int (4 : Int32)), .val (.int (1 : Int32))] [(.int (1 : Int32))])) tg → Steps pP.tables eE below (s₁.setTop (entryFrame mM #[(.int p1), (.int p2)] maxLocals)) tg := fun tg kg => pr197 _ (by
        show Steps pP.tables eE below (T196.setTop (mkF mM 110 #[.val (.int p1), .val (.int p2), .val (.ref b2), .val (.ref b42), .val (.int (1 : Int32)), .val (.int (4 : Int32)), .val (.int (1 : Int32))] [(.int (1 : Int32))])) _
        refine XS.iload X196.here hx rfl (hb hby at_110) rfl ?_
        show Steps pP.tables eE below (T196.setTop (mkF mM 112 #[.val (.int p1), .val (.int p2), .val (.ref b2), .val (.ref b42), .val (.int (1 : Int32)), .val (.int (4 : Int32)), .val (.int (1 : Int32))] [(.int (1 : Int32)), (.int (1 : Int32))])) _
        refine XS.icmpNo X196.here hx rfl (hb hby at_112) rfl (teq (by decide)).2 ?_
        show Steps pP.tables eE below (T196.setTop (mkF mM 115 #[.val (.int p1), .val (.int p2), .val (.ref b2), .val (.ref b42), .val (.int (1 : Int32)), .val (.int (4 : Int32)), .val (.int (1 : Int32))] [])) _
        refine XS.iconst X196.here hx rfl (hb hby at_115) ?_
        show Steps pP.tables eE below (T196.setTop (mkF mM 116 #[.val (.int p1), .val (.int p2), .val (.ref b2), .val (.ref b42), .val (.int (1 : Int32)), .val (.int (4 : Int32)), .val (.int (1 : Int32))] [(.int (1 : Int32))])) _
        refine XS.goto X196.here hx rfl (pc0 := 116) (pc' := 120) rfl (hb hby at_116) (by decide) (by decide) ?_
        exact kg)
      obtain ⟨fs, hr, hrun, hended, hW, hsame⟩ := X196.leave (v := some (.int (1 : Int32))) (fun h => by rw [Bd.returns] at h; cases h)
      refine ⟨_, _, pr198 _ (retOut X196 hx (t := .boolean) Bd.returns rfl (Or.inl ⟨rfl, Or.inr (Or.inl rfl), _, rfl⟩) (hb hby at_120) hr), hrun, hended, _, _, rfl, ?_, ⟨_, rfl⟩, hW, hsame.mono (by decide) (by decide)⟩
      show Q0 Z p1 p2 a_SHARED a_UPDATE a_EXCLUSIVE a_CHANGE a_KEEP h0 n0 _ T196.heap _
      rw [e196]
      exact ⟨rfl, N196⟩
  ·
    have pr199 : ∀ tg, Steps pP.tables eE below (T68.setTop (mkF mM 80 #[.val (.int p1), .val (.int p2), .val (.ref b2), .val (.ref b42), .val (.int (2 : Int32)), .val (.int ((p2 &&& (2147483647 : Int32)) % (5 : Int32))), .unset] [])) tg → Steps pP.tables eE below (s₁.setTop (entryFrame mM #[(.int p1), (.int p2)] maxLocals)) tg := fun tg kg => pr72 _ (by
      show Steps pP.tables eE below (T68.setTop (mkF mM 72 #[.val (.int p1), .val (.int p2), .val (.ref b2), .val (.ref b42), .val (.int (2 : Int32)), .unset, .unset] [])) _
      refine XS.iloadN X68.here hx rfl (hb hby at_72) rfl ?_
      show Steps pP.tables eE below (T68.setTop (mkF mM 73 #[.val (.int p1), .val (.int p2), .val (.ref b2), .val (.ref b42), .val (.int (2 : Int32)), .unset, .unset] [(.int p2)])) _
      refine Jvm.Stand.ldcI X68 hx hown (v := (2147483647 : Int32)) (mvT hZ (hw _ (List.mem_of_getElem? (i := 15) rfl))) rfl (hb hby at_73) ?_
      show Steps pP.tables eE below (T68.setTop (mkF mM 75 #[.val (.int p1), .val (.int p2), .val (.ref b2), .val (.ref b42), .val (.int (2 : Int32)), .unset, .unset] [(.int (2147483647 : Int32)), (.int p2)])) _
      refine XS.iand X68.here hx rfl (hb hby at_75) rfl ?_
      show Steps pP.tables eE below (T68.setTop (mkF mM 76 #[.val (.int p1), .val (.int p2), .val (.ref b2), .val (.ref b42), .val (.int (2 : Int32)), .unset, .unset] [(.int (p2 &&& (2147483647 : Int32)))])) _
      refine XS.iconst X68.here hx rfl (hb hby at_76) ?_
      show Steps pP.tables eE below (T68.setTop (mkF mM 77 #[.val (.int p1), .val (.int p2), .val (.ref b2), .val (.ref b42), .val (.int (2 : Int32)), .unset, .unset] [(.int (5 : Int32)), (.int (p2 &&& (2147483647 : Int32)))])) _
      refine iremM (g := (mkF mM 77 #[.val (.int p1), .val (.int p2), .val (.ref b2), .val (.ref b42), .val (.int (2 : Int32)), .unset, .unset] [(.int (5 : Int32)), (.int (p2 &&& (2147483647 : Int32)))])) X68 hx rfl (hb hby at_77) rfl (by decide) ?_
      show Steps pP.tables eE below (T68.setTop (mkF mM 78 #[.val (.int p1), .val (.int p2), .val (.ref b2), .val (.ref b42), .val (.int (2 : Int32)), .unset, .unset] [(.int ((p2 &&& (2147483647 : Int32)) % (5 : Int32)))])) _
      refine XS.istore X68.here hx rfl (hb hby at_78) rfl (l' := #[.val (.int p1), .val (.int p2), .val (.ref b2), .val (.ref b42), .val (.int (2 : Int32)), .val (.int ((p2 &&& (2147483647 : Int32)) % (5 : Int32))), .unset]) rfl ?_
      exact kg)
    obtain ⟨z200, hz200⟩ : ∃ z, z = ((p2 &&& (2147483647 : Int32)) % (5 : Int32)) := ⟨_, rfl⟩
    have pr201 : ∀ tg, Steps pP.tables eE below (T68.setTop (mkF mM 80 #[.val (.int p1), .val (.int p2), .val (.ref b2), .val (.ref b42), .val (.int (2 : Int32)), .val (.int z200), .unset] [])) tg → Steps pP.tables eE below (s₁.setTop (entryFrame mM #[(.int p1), (.int p2)] maxLocals)) tg := by
      rw [hz200]; exact pr199
    have hbz200 : 0 ≤ z200.toInt ∧ z200.toInt < 5 := by rw [hz200]; exact own_rem5 _
    rcases (own_5 hbz200.1 hbz200.2) with rfl | rfl | rfl | rfl | rfl
    ·
      obtain ⟨cla202, Ara202, qa202, Sa202, Ma202, Ha202, Ga202⟩ := id V68
      have hin203 : ¬ ((2 : Int32) < 0 ∨ cla202.slots.size ≤ ((2 : Int32)).toNatClampNeg) := inb_of Sa202 ⟨by decide, by decide⟩
      have hat203 : cla202.slots[((2 : Int32)).toNatClampNeg]? = some (.int (31 : Int32)) := Has.at Ha202 hin203 rfl
      have c204 := (Arv.other (Arv.other (Arv.other (Arv.other (Arv.other (Arv.ext V39 E42) W52 ne43) W56 ne43) W60 ne43) W64 ne43) W68 ne43)
      obtain ⟨cla205, Ara205, qa205, Sa205, Ma205, Ha205, Ga205⟩ := id c204
      have hin206 : ¬ ((2 : Int32) < 0 ∨ cla205.slots.size ≤ ((2 : Int32)).toNatClampNeg) := inb_of Sa205 ⟨by decide, by decide⟩
      have hat206 : cla205.slots[((2 : Int32)).toNatClampNeg]? = some (.ref a_EXCLUSIVE) := Has.at Ha205 hin206 rfl
      have hin207 : ¬ ((0 : Int32) < 0 ∨ cla205.slots.size ≤ ((0 : Int32)).toNatClampNeg) := inb_of Sa205 ⟨by decide, by decide⟩
      have hat207 : cla205.slots[((0 : Int32)).toNatClampNeg]? = some (.ref a_SHARED) := Has.at Ha205 hin207 rfl
      have c208 := (Old.wr (Old.wr (Old.wr (Old.wr (Old.wr (Old.ext c48 E42) W52 gn44) W56 gn44) W60 gn44) W64 gn44) W68 gn44)
      have pr209 : ∀ tg, Steps pP.tables eE below (T68.setTop (mkF mM 107 #[.val (.int p1), .val (.int p2), .val (.ref b2), .val (.ref b42), .val (.int (2 : Int32)), .val (.int (0 : Int32)), .val (.int (1 : Int32))] [(.ref a_SHARED), (.ref a_EXCLUSIVE)])) tg → Steps pP.tables eE below (s₁.setTop (entryFrame mM #[(.int p1), (.int p2)] maxLocals)) tg := fun tg kg => pr201 _ (by
        show Steps pP.tables eE below (T68.setTop (mkF mM 80 #[.val (.int p1), .val (.int p2), .val (.ref b2), .val (.ref b42), .val (.int (2 : Int32)), .val (.int (0 : Int32)), .unset] [])) _
        refine XS.aloadN X68.here hx rfl (hb hby at_80) rfl rfl ?_
        show Steps pP.tables eE below (T68.setTop (mkF mM 81 #[.val (.int p1), .val (.int p2), .val (.ref b2), .val (.ref b42), .val (.int (2 : Int32)), .val (.int (0 : Int32)), .unset] [(.ref b42)])) _
        refine XS.iload X68.here hx rfl (hb hby at_81) rfl ?_
        show Steps pP.tables eE below (T68.setTop (mkF mM 83 #[.val (.int p1), .val (.int p2), .val (.ref b2), .val (.ref b42), .val (.int (2 : Int32)), .val (.int (0 : Int32)), .unset] [(.int (2 : Int32)), (.ref b42)])) _
        refine X68.iaload hx (j := (2 : Int32)) (v := (.int (31 : Int32))) (by rw [e68]; exact Ara202.1) (State.isArrayOf_alike hZ.alike Ara202.2.1) Ara202.2.2 hin203 hat203 (g := (mkF mM 83 #[.val (.int p1), .val (.int p2), .val (.ref b2), .val (.ref b42), .val (.int (2 : Int32)), .val (.int (0 : Int32)), .unset] [(.int (2 : Int32)), (.ref b42)])) rfl rfl (hb hby at_83) _ ?_
        show Steps pP.tables eE below (T68.setTop (mkF mM 84 #[.val (.int p1), .val (.int p2), .val (.ref b2), .val (.ref b42), .val (.int (2 : Int32)), .val (.int (0 : Int32)), .unset] [(.int (31 : Int32))])) _
        refine XS.iload X68.here hx rfl (hb hby at_84) rfl ?_
        show Steps pP.tables eE below (T68.setTop (mkF mM 86 #[.val (.int p1), .val (.int p2), .val (.ref b2), .val (.ref b42), .val (.int (2 : Int32)), .val (.int (0 : Int32)), .unset] [(.int (0 : Int32)), (.int (31 : Int32))])) _
        refine XS.ishr X68.here hx rfl (hb hby at_86) rfl ?_
        show Steps pP.tables eE below (T68.setTop (mkF mM 87 #[.val (.int p1), .val (.int p2), .val (.ref b2), .val (.ref b42), .val (.int (2 : Int32)), .val (.int (0 : Int32)), .unset] [(.int ((31 : Int32) >>> ((0 : Int32) &&& 31)))])) _
        refine XS.iconst X68.here hx rfl (hb hby at_87) ?_
        show Steps pP.tables eE below (T68.setTop (mkF mM 88 #[.val (.int p1), .val (.int p2), .val (.ref b2), .val (.ref b42), .val (.int (2 : Int32)), .val (.int (0 : Int32)), .unset] [(.int (1 : Int32)), (.int ((31 : Int32) >>> ((0 : Int32) &&& 31)))])) _
        refine XS.iand X68.here hx rfl (hb hby at_88) rfl ?_
        show Steps pP.tables eE below (T68.setTop (mkF mM 89 #[.val (.int p1), .val (.int p2), .val (.ref b2), .val (.ref b42), .val (.int (2 : Int32)), .val (.int (0 : Int32)), .unset] [(.int (1 : Int32))])) _
        refine XS.ifNo X68.here hx rfl (hb hby at_89) rfl ((if0 _ _).trans (feq (by decide)).1) ?_
        show Steps pP.tables eE below (T68.setTop (mkF mM 92 #[.val (.int p1), .val (.int p2), .val (.ref b2), .val (.ref b42), .val (.int (2 : Int32)), .val (.int (0 : Int32)), .unset] [])) _
        refine XS.iconst X68.here hx rfl (hb hby at_92) ?_
        show Steps pP.tables eE below (T68.setTop (mkF mM 93 #[.val (.int p1), .val (.int p2), .val (.ref b2), .val (.ref b42), .val (.int (2 : Int32)), .val (.int (0 : Int32)), .unset] [(.int (1 : Int32))])) _
        refine XS.goto X68.here hx rfl (pc0 := 93) (pc' := 97) rfl (hb hby at_93) (by decide) (by decide) ?_
        show Steps pP.tables eE below (T68.setTop (mkF mM 97 #[.val (.int p1), .val (.int p2), .val (.ref b2), .val (.ref b42), .val (.int (2 : Int32)), .val (.int (0 : Int32)), .unset] [(.int (1 : Int32))])) _
        refine XS.istore X68.here hx rfl (hb hby at_97) rfl (l' := #[.val (.int p1), .val (.int p2), .val (.ref b2), .val (.ref b42), .val (.int (2 : Int32)), .val (.int (0 : Int32)), .val (.int (1 : Int32))]) rfl ?_
        show Steps pP.tables eE below (T68.setTop (mkF mM 99 #[.val (.int p1), .val (.int p2), .val (.ref b2), .val (.ref b42), .val (.int (2 : Int32)), .val (.int (0 : Int32)), .val (.int (1 : Int32))] [])) _
        refine XS.aloadN X68.here hx rfl (hb hby at_99) rfl rfl ?_
        show Steps pP.tables eE below (T68.setTop (mkF mM 100 #[.val (.int p1), .val (.int p2), .val (.ref b2), .val (.ref b42), .val (.int (2 : Int32)), .val (.int (0 : Int32)), .val (.int (1 : Int32))] [(.ref b2)])) _
        refine XS.iload X68.here hx rfl (hb hby at_100) rfl ?_
        show Steps pP.tables eE below (T68.setTop (mkF mM 102 #[.val (.int p1), .val (.int p2), .val (.ref b2), .val (.ref b42), .val (.int (2 : Int32)), .val (.int (0 : Int32)), .val (.int (1 : Int32))] [(.int (2 : Int32)), (.ref b2)])) _
        refine X68.aaload hx (j := (2 : Int32)) (v := (.ref a_EXCLUSIVE)) (by rw [e68]; exact Ara205.1) (State.isArrayOf_alike hZ.alike Ara205.2.1) rfl Ara205.2.2 hin206 hat206 (g := (mkF mM 102 #[.val (.int p1), .val (.int p2), .val (.ref b2), .val (.ref b42), .val (.int (2 : Int32)), .val (.int (0 : Int32)), .val (.int (1 : Int32))] [(.int (2 : Int32)), (.ref b2)])) rfl rfl (hb hby at_102) _ ?_
        show Steps pP.tables eE below (T68.setTop (mkF mM 103 #[.val (.int p1), .val (.int p2), .val (.ref b2), .val (.ref b42), .val (.int (2 : Int32)), .val (.int (0 : Int32)), .val (.int (1 : Int32))] [(.ref a_EXCLUSIVE)])) _
        refine XS.aloadN X68.here hx rfl (hb hby at_103) rfl rfl ?_
        show Steps pP.tables eE below (T68.setTop (mkF mM 104 #[.val (.int p1), .val (.int p2), .val (.ref b2), .val (.ref b42), .val (.int (2 : Int32)), .val (.int (0 : Int32)), .val (.int (1 : Int32))] [(.ref b2), (.ref a_EXCLUSIVE)])) _
        refine XS.iload X68.here hx rfl (hb hby at_104) rfl ?_
        show Steps pP.tables eE below (T68.setTop (mkF mM 106 #[.val (.int p1), .val (.int p2), .val (.ref b2), .val (.ref b42), .val (.int (2 : Int32)), .val (.int (0 : Int32)), .val (.int (1 : Int32))] [(.int (0 : Int32)), (.ref b2), (.ref a_EXCLUSIVE)])) _
        refine X68.aaload hx (j := (0 : Int32)) (v := (.ref a_SHARED)) (by rw [e68]; exact Ara205.1) (State.isArrayOf_alike hZ.alike Ara205.2.1) rfl Ara205.2.2 hin207 hat207 (g := (mkF mM 106 #[.val (.int p1), .val (.int p2), .val (.ref b2), .val (.ref b42), .val (.int (2 : Int32)), .val (.int (0 : Int32)), .val (.int (1 : Int32))] [(.int (0 : Int32)), (.ref b2), (.ref a_EXCLUSIVE)])) rfl rfl (hb hby at_106) _ ?_
        exact kg)
      have c210 := (Nat.le_trans (Nat.le_trans (Nat.le_trans (Nat.le_trans (Nat.le_trans (Nat.le_trans c45 E42.1) (Keep.of_wr W52).1) (Keep.of_wr W56).1) (Keep.of_wr W60).1) (Keep.of_wr W64).1) (Keep.of_wr W68).1)
      obtain ⟨cq211, kq211, qa211, qb211, qc211⟩ := isOf hZ e68 (Exa.ext (c208).2 E_EXCLUSIVE)
      obtain ⟨_, _, ⟨T211, L211, kk211, nn211⟩, -, X211, ⟨Lc211, hQ211, l211, y211, z211⟩, st211⟩ := X68.virtualBack hx (y := (⟨"com/example/settle/settle/service/LockTable$Mode", "keepsOut", "(Lcom/example/settle/settle/service/LockTable$Mode;)Z"⟩ : MethodName)) (z := (⟨"com/example/settle/settle/service/LockTable$Mode", "keepsOut", "(Lcom/example/settle/settle/service/LockTable$Mode;)Z"⟩ : MethodName)) hown (mvT hZ (hw _ (List.mem_of_getElem? (i := 16) rfl))) (mvT hZ (hw _ (List.mem_of_getElem? (i := 17) rfl))) (notFace_of_selects (args := #[]) (mvT hZ (hw _ (List.mem_of_getElem? (i := 19) rfl)))) (mvT hZ (hw _ (List.mem_of_getElem? (i := 19) rfl))) (mvT hZ (hw _ (List.mem_of_getElem? (i := 18) rfl))) (by decide) (backOf (W := 0) (rm220 l Z a0 hw [] a_SHARED a_UPDATE a_EXCLUSIVE a_CHANGE a_KEEP h68 n0 c210 c208 S_SHARED E_SHARED S_UPDATE E_UPDATE S_EXCLUSIVE E_EXCLUSIVE S_CHANGE E_CHANGE S_KEEP E_KEEP F_SHARED_ordinal F_CHANGE_ordinal F_EXCLUSIVE_ordinal F_KEEP_ordinal F_UPDATE_ordinal) hZ (hw _ (List.mem_of_getElem? (i := 20) rfl)) (hw _ (List.mem_of_getElem? (i := 3) rfl)) (by decide) (by decide)) qa211 qc211 (g := (mkF mM 107 #[.val (.int p1), .val (.int p2), .val (.ref b2), .val (.ref b42), .val (.int (2 : Int32)), .val (.int (0 : Int32)), .val (.int (1 : Int32))] [(.ref a_SHARED), (.ref a_EXCLUSIVE)])) rfl (by rw [hml]; rfl) (Steps.refl _) (argsL := [(.ref a_SHARED)]) (rest := []) (lenOf pd_1 rfl) rfl (by show 2 * 0 + _ ≤ _; exact Nat.le_of_eq rfl) (hb hby at_107) (fun _ _ => ⟨rfl, e68, (by decide : 2 + 0 ≤ _), (by decide : 10 + 0 ≤ _)⟩)
      dsimp only [Pt.U, Pt.locs, Pt.cells, Pt.slots] at X211 l211 y211 z211 st211 hQ211
      subst l211 y211 z211
      obtain ⟨rfl, Nq211, e211⟩ := hQ211
      have N211 := Fr.app N68 Nq211
      have pr212 : ∀ tg, Steps pP.tables eE below (T211.setTop (mkF mM 110 #[.val (.int p1), .val (.int p2), .val (.ref b2), .val (.ref b42), .val (.int (2 : Int32)), .val (.int (0 : Int32)), .val (.int (1 : Int32))] [(.int (1 : Int32))])) tg → Steps pP.tables eE below (s₁.setTop (entryFrame mM #[(.int p1), (.int p2)] maxLocals)) tg := fun tg kg => pr209 _ (st211.trans kg)
      have pr213 : ∀ tg, Steps pP.tables eE below (T211.setTop (mkF mM 120 #[.val (.int p1), .val (.int p2), .val (.ref b2), .val (.ref b42), .val (.int (2 : Int32)), .val (.int (0 : Int32)), .val (.int (1 : Int32))] [(.int (1 : Int32))])) tg → Steps pP.tables eE below (s₁.setTop (entryFrame mM #[(.int p1), (.int p2)] maxLocals)) tg := fun tg kg => pr212 _ (by
        show Steps pP.tables eE below (T211.setTop (mkF mM 110 #[.val (.int p1), .val (.int p2), .val (.ref b2), .val (.ref b42), .val (.int (2 : Int32)), .val (.int (0 : Int32)), .val (.int (1 : Int32))] [(.int (1 : Int32))])) _
        refine XS.iload X211.here hx rfl (hb hby at_110) rfl ?_
        show Steps pP.tables eE below (T211.setTop (mkF mM 112 #[.val (.int p1), .val (.int p2), .val (.ref b2), .val (.ref b42), .val (.int (2 : Int32)), .val (.int (0 : Int32)), .val (.int (1 : Int32))] [(.int (1 : Int32)), (.int (1 : Int32))])) _
        refine XS.icmpNo X211.here hx rfl (hb hby at_112) rfl (teq (by decide)).2 ?_
        show Steps pP.tables eE below (T211.setTop (mkF mM 115 #[.val (.int p1), .val (.int p2), .val (.ref b2), .val (.ref b42), .val (.int (2 : Int32)), .val (.int (0 : Int32)), .val (.int (1 : Int32))] [])) _
        refine XS.iconst X211.here hx rfl (hb hby at_115) ?_
        show Steps pP.tables eE below (T211.setTop (mkF mM 116 #[.val (.int p1), .val (.int p2), .val (.ref b2), .val (.ref b42), .val (.int (2 : Int32)), .val (.int (0 : Int32)), .val (.int (1 : Int32))] [(.int (1 : Int32))])) _
        refine XS.goto X211.here hx rfl (pc0 := 116) (pc' := 120) rfl (hb hby at_116) (by decide) (by decide) ?_
        exact kg)
      obtain ⟨fs, hr, hrun, hended, hW, hsame⟩ := X211.leave (v := some (.int (1 : Int32))) (fun h => by rw [Bd.returns] at h; cases h)
      refine ⟨_, _, pr213 _ (retOut X211 hx (t := .boolean) Bd.returns rfl (Or.inl ⟨rfl, Or.inr (Or.inl rfl), _, rfl⟩) (hb hby at_120) hr), hrun, hended, _, _, rfl, ?_, ⟨_, rfl⟩, hW, hsame.mono (by decide) (by decide)⟩
      show Q0 Z p1 p2 a_SHARED a_UPDATE a_EXCLUSIVE a_CHANGE a_KEEP h0 n0 _ T211.heap _
      rw [e211]
      exact ⟨rfl, N211⟩
    ·
      obtain ⟨cla214, Ara214, qa214, Sa214, Ma214, Ha214, Ga214⟩ := id V68
      have hin215 : ¬ ((2 : Int32) < 0 ∨ cla214.slots.size ≤ ((2 : Int32)).toNatClampNeg) := inb_of Sa214 ⟨by decide, by decide⟩
      have hat215 : cla214.slots[((2 : Int32)).toNatClampNeg]? = some (.int (31 : Int32)) := Has.at Ha214 hin215 rfl
      have c216 := (Arv.other (Arv.other (Arv.other (Arv.other (Arv.other (Arv.ext V39 E42) W52 ne43) W56 ne43) W60 ne43) W64 ne43) W68 ne43)
      obtain ⟨cla217, Ara217, qa217, Sa217, Ma217, Ha217, Ga217⟩ := id c216
      have hin218 : ¬ ((2 : Int32) < 0 ∨ cla217.slots.size ≤ ((2 : Int32)).toNatClampNeg) := inb_of Sa217 ⟨by decide, by decide⟩
      have hat218 : cla217.slots[((2 : Int32)).toNatClampNeg]? = some (.ref a_EXCLUSIVE) := Has.at Ha217 hin218 rfl
      have hin219 : ¬ ((1 : Int32) < 0 ∨ cla217.slots.size ≤ ((1 : Int32)).toNatClampNeg) := inb_of Sa217 ⟨by decide, by decide⟩
      have hat219 : cla217.slots[((1 : Int32)).toNatClampNeg]? = some (.ref a_UPDATE) := Has.at Ha217 hin219 rfl
      have c220 := (Old.wr (Old.wr (Old.wr (Old.wr (Old.wr (Old.ext c48 E42) W52 gn44) W56 gn44) W60 gn44) W64 gn44) W68 gn44)
      have pr221 : ∀ tg, Steps pP.tables eE below (T68.setTop (mkF mM 107 #[.val (.int p1), .val (.int p2), .val (.ref b2), .val (.ref b42), .val (.int (2 : Int32)), .val (.int (1 : Int32)), .val (.int (1 : Int32))] [(.ref a_UPDATE), (.ref a_EXCLUSIVE)])) tg → Steps pP.tables eE below (s₁.setTop (entryFrame mM #[(.int p1), (.int p2)] maxLocals)) tg := fun tg kg => pr201 _ (by
        show Steps pP.tables eE below (T68.setTop (mkF mM 80 #[.val (.int p1), .val (.int p2), .val (.ref b2), .val (.ref b42), .val (.int (2 : Int32)), .val (.int (1 : Int32)), .unset] [])) _
        refine XS.aloadN X68.here hx rfl (hb hby at_80) rfl rfl ?_
        show Steps pP.tables eE below (T68.setTop (mkF mM 81 #[.val (.int p1), .val (.int p2), .val (.ref b2), .val (.ref b42), .val (.int (2 : Int32)), .val (.int (1 : Int32)), .unset] [(.ref b42)])) _
        refine XS.iload X68.here hx rfl (hb hby at_81) rfl ?_
        show Steps pP.tables eE below (T68.setTop (mkF mM 83 #[.val (.int p1), .val (.int p2), .val (.ref b2), .val (.ref b42), .val (.int (2 : Int32)), .val (.int (1 : Int32)), .unset] [(.int (2 : Int32)), (.ref b42)])) _
        refine X68.iaload hx (j := (2 : Int32)) (v := (.int (31 : Int32))) (by rw [e68]; exact Ara214.1) (State.isArrayOf_alike hZ.alike Ara214.2.1) Ara214.2.2 hin215 hat215 (g := (mkF mM 83 #[.val (.int p1), .val (.int p2), .val (.ref b2), .val (.ref b42), .val (.int (2 : Int32)), .val (.int (1 : Int32)), .unset] [(.int (2 : Int32)), (.ref b42)])) rfl rfl (hb hby at_83) _ ?_
        show Steps pP.tables eE below (T68.setTop (mkF mM 84 #[.val (.int p1), .val (.int p2), .val (.ref b2), .val (.ref b42), .val (.int (2 : Int32)), .val (.int (1 : Int32)), .unset] [(.int (31 : Int32))])) _
        refine XS.iload X68.here hx rfl (hb hby at_84) rfl ?_
        show Steps pP.tables eE below (T68.setTop (mkF mM 86 #[.val (.int p1), .val (.int p2), .val (.ref b2), .val (.ref b42), .val (.int (2 : Int32)), .val (.int (1 : Int32)), .unset] [(.int (1 : Int32)), (.int (31 : Int32))])) _
        refine XS.ishr X68.here hx rfl (hb hby at_86) rfl ?_
        show Steps pP.tables eE below (T68.setTop (mkF mM 87 #[.val (.int p1), .val (.int p2), .val (.ref b2), .val (.ref b42), .val (.int (2 : Int32)), .val (.int (1 : Int32)), .unset] [(.int ((31 : Int32) >>> ((1 : Int32) &&& 31)))])) _
        refine XS.iconst X68.here hx rfl (hb hby at_87) ?_
        show Steps pP.tables eE below (T68.setTop (mkF mM 88 #[.val (.int p1), .val (.int p2), .val (.ref b2), .val (.ref b42), .val (.int (2 : Int32)), .val (.int (1 : Int32)), .unset] [(.int (1 : Int32)), (.int ((31 : Int32) >>> ((1 : Int32) &&& 31)))])) _
        refine XS.iand X68.here hx rfl (hb hby at_88) rfl ?_
        show Steps pP.tables eE below (T68.setTop (mkF mM 89 #[.val (.int p1), .val (.int p2), .val (.ref b2), .val (.ref b42), .val (.int (2 : Int32)), .val (.int (1 : Int32)), .unset] [(.int (1 : Int32))])) _
        refine XS.ifNo X68.here hx rfl (hb hby at_89) rfl ((if0 _ _).trans (feq (by decide)).1) ?_
        show Steps pP.tables eE below (T68.setTop (mkF mM 92 #[.val (.int p1), .val (.int p2), .val (.ref b2), .val (.ref b42), .val (.int (2 : Int32)), .val (.int (1 : Int32)), .unset] [])) _
        refine XS.iconst X68.here hx rfl (hb hby at_92) ?_
        show Steps pP.tables eE below (T68.setTop (mkF mM 93 #[.val (.int p1), .val (.int p2), .val (.ref b2), .val (.ref b42), .val (.int (2 : Int32)), .val (.int (1 : Int32)), .unset] [(.int (1 : Int32))])) _
        refine XS.goto X68.here hx rfl (pc0 := 93) (pc' := 97) rfl (hb hby at_93) (by decide) (by decide) ?_
        show Steps pP.tables eE below (T68.setTop (mkF mM 97 #[.val (.int p1), .val (.int p2), .val (.ref b2), .val (.ref b42), .val (.int (2 : Int32)), .val (.int (1 : Int32)), .unset] [(.int (1 : Int32))])) _
        refine XS.istore X68.here hx rfl (hb hby at_97) rfl (l' := #[.val (.int p1), .val (.int p2), .val (.ref b2), .val (.ref b42), .val (.int (2 : Int32)), .val (.int (1 : Int32)), .val (.int (1 : Int32))]) rfl ?_
        show Steps pP.tables eE below (T68.setTop (mkF mM 99 #[.val (.int p1), .val (.int p2), .val (.ref b2), .val (.ref b42), .val (.int (2 : Int32)), .val (.int (1 : Int32)), .val (.int (1 : Int32))] [])) _
        refine XS.aloadN X68.here hx rfl (hb hby at_99) rfl rfl ?_
        show Steps pP.tables eE below (T68.setTop (mkF mM 100 #[.val (.int p1), .val (.int p2), .val (.ref b2), .val (.ref b42), .val (.int (2 : Int32)), .val (.int (1 : Int32)), .val (.int (1 : Int32))] [(.ref b2)])) _
        refine XS.iload X68.here hx rfl (hb hby at_100) rfl ?_
        show Steps pP.tables eE below (T68.setTop (mkF mM 102 #[.val (.int p1), .val (.int p2), .val (.ref b2), .val (.ref b42), .val (.int (2 : Int32)), .val (.int (1 : Int32)), .val (.int (1 : Int32))] [(.int (2 : Int32)), (.ref b2)])) _
        refine X68.aaload hx (j := (2 : Int32)) (v := (.ref a_EXCLUSIVE)) (by rw [e68]; exact Ara217.1) (State.isArrayOf_alike hZ.alike Ara217.2.1) rfl Ara217.2.2 hin218 hat218 (g := (mkF mM 102 #[.val (.int p1), .val (.int p2), .val (.ref b2), .val (.ref b42), .val (.int (2 : Int32)), .val (.int (1 : Int32)), .val (.int (1 : Int32))] [(.int (2 : Int32)), (.ref b2)])) rfl rfl (hb hby at_102) _ ?_
        show Steps pP.tables eE below (T68.setTop (mkF mM 103 #[.val (.int p1), .val (.int p2), .val (.ref b2), .val (.ref b42), .val (.int (2 : Int32)), .val (.int (1 : Int32)), .val (.int (1 : Int32))] [(.ref a_EXCLUSIVE)])) _
        refine XS.aloadN X68.here hx rfl (hb hby at_103) rfl rfl ?_
        show Steps pP.tables eE below (T68.setTop (mkF mM 104 #[.val (.int p1), .val (.int p2), .val (.ref b2), .val (.ref b42), .val (.int (2 : Int32)), .val (.int (1 : Int32)), .val (.int (1 : Int32))] [(.ref b2), (.ref a_EXCLUSIVE)])) _
        refine XS.iload X68.here hx rfl (hb hby at_104) rfl ?_
        show Steps pP.tables eE below (T68.setTop (mkF mM 106 #[.val (.int p1), .val (.int p2), .val (.ref b2), .val (.ref b42), .val (.int (2 : Int32)), .val (.int (1 : Int32)), .val (.int (1 : Int32))] [(.int (1 : Int32)), (.ref b2), (.ref a_EXCLUSIVE)])) _
        refine X68.aaload hx (j := (1 : Int32)) (v := (.ref a_UPDATE)) (by rw [e68]; exact Ara217.1) (State.isArrayOf_alike hZ.alike Ara217.2.1) rfl Ara217.2.2 hin219 hat219 (g := (mkF mM 106 #[.val (.int p1), .val (.int p2), .val (.ref b2), .val (.ref b42), .val (.int (2 : Int32)), .val (.int (1 : Int32)), .val (.int (1 : Int32))] [(.int (1 : Int32)), (.ref b2), (.ref a_EXCLUSIVE)])) rfl rfl (hb hby at_106) _ ?_
        exact kg)
      have c222 := (Nat.le_trans (Nat.le_trans (Nat.le_trans (Nat.le_trans (Nat.le_trans (Nat.le_trans c45 E42.1) (Keep.of_wr W52).1) (Keep.of_wr W56).1) (Keep.of_wr W60).1) (Keep.of_wr W64).1) (Keep.of_wr W68).1)
      obtain ⟨cq223, kq223, qa223, qb223, qc223⟩ := isOf hZ e68 (Exa.ext (c220).2 E_EXCLUSIVE)
      obtain ⟨_, _, ⟨T223, L223, kk223, nn223⟩, -, X223, ⟨Lc223, hQ223, l223, y223, z223⟩, st223⟩ := X68.virtualBack hx (y := (⟨"com/example/settle/settle/service/LockTable$Mode", "keepsOut", "(Lcom/example/settle/settle/service/LockTable$Mode;)Z"⟩ : MethodName)) (z := (⟨"com/example/settle/settle/service/LockTable$Mode", "keepsOut", "(Lcom/example/settle/settle/service/LockTable$Mode;)Z"⟩ : MethodName)) hown (mvT hZ (hw _ (List.mem_of_getElem? (i := 16) rfl))) (mvT hZ (hw _ (List.mem_of_getElem? (i := 17) rfl))) (notFace_of_selects (args := #[]) (mvT hZ (hw _ (List.mem_of_getElem? (i := 19) rfl)))) (mvT hZ (hw _ (List.mem_of_getElem? (i := 19) rfl))) (mvT hZ (hw _ (List.mem_of_getElem? (i := 18) rfl))) (by decide) (backOf (W := 0) (rm221 l Z a0 hw [] a_SHARED a_UPDATE a_EXCLUSIVE a_CHANGE a_KEEP h68 n0 c222 c220 S_SHARED E_SHARED S_UPDATE E_UPDATE S_EXCLUSIVE E_EXCLUSIVE S_CHANGE E_CHANGE S_KEEP E_KEEP F_SHARED_ordinal F_CHANGE_ordinal F_EXCLUSIVE_ordinal F_KEEP_ordinal F_UPDATE_ordinal) hZ (hw _ (List.mem_of_getElem? (i := 20) rfl)) (hw _ (List.mem_of_getElem? (i := 3) rfl)) (by decide) (by decide)) qa223 qc223 (g := (mkF mM 107 #[.val (.int p1), .val (.int p2), .val (.ref b2), .val (.ref b42), .val (.int (2 : Int32)), .val (.int (1 : Int32)), .val (.int (1 : Int32))] [(.ref a_UPDATE), (.ref a_EXCLUSIVE)])) rfl (by rw [hml]; rfl) (Steps.refl _) (argsL := [(.ref a_UPDATE)]) (rest := []) (lenOf pd_1 rfl) rfl (by show 2 * 0 + _ ≤ _; exact Nat.le_of_eq rfl) (hb hby at_107) (fun _ _ => ⟨rfl, e68, (by decide : 2 + 0 ≤ _), (by decide : 10 + 0 ≤ _)⟩)
      dsimp only [Pt.U, Pt.locs, Pt.cells, Pt.slots] at X223 l223 y223 z223 st223 hQ223
      subst l223 y223 z223
      obtain ⟨rfl, Nq223, e223⟩ := hQ223
      have N223 := Fr.app N68 Nq223
      have pr224 : ∀ tg, Steps pP.tables eE below (T223.setTop (mkF mM 110 #[.val (.int p1), .val (.int p2), .val (.ref b2), .val (.ref b42), .val (.int (2 : Int32)), .val (.int (1 : Int32)), .val (.int (1 : Int32))] [(.int (1 : Int32))])) tg → Steps pP.tables eE below (s₁.setTop (entryFrame mM #[(.int p1), (.int p2)] maxLocals)) tg := fun tg kg => pr221 _ (st223.trans kg)
      have pr225 : ∀ tg, Steps pP.tables eE below (T223.setTop (mkF mM 120 #[.val (.int p1), .val (.int p2), .val (.ref b2), .val (.ref b42), .val (.int (2 : Int32)), .val (.int (1 : Int32)), .val (.int (1 : Int32))] [(.int (1 : Int32))])) tg → Steps pP.tables eE below (s₁.setTop (entryFrame mM #[(.int p1), (.int p2)] maxLocals)) tg := fun tg kg => pr224 _ (by
        show Steps pP.tables eE below (T223.setTop (mkF mM 110 #[.val (.int p1), .val (.int p2), .val (.ref b2), .val (.ref b42), .val (.int (2 : Int32)), .val (.int (1 : Int32)), .val (.int (1 : Int32))] [(.int (1 : Int32))])) _
        refine XS.iload X223.here hx rfl (hb hby at_110) rfl ?_
        show Steps pP.tables eE below (T223.setTop (mkF mM 112 #[.val (.int p1), .val (.int p2), .val (.ref b2), .val (.ref b42), .val (.int (2 : Int32)), .val (.int (1 : Int32)), .val (.int (1 : Int32))] [(.int (1 : Int32)), (.int (1 : Int32))])) _
        refine XS.icmpNo X223.here hx rfl (hb hby at_112) rfl (teq (by decide)).2 ?_
        show Steps pP.tables eE below (T223.setTop (mkF mM 115 #[.val (.int p1), .val (.int p2), .val (.ref b2), .val (.ref b42), .val (.int (2 : Int32)), .val (.int (1 : Int32)), .val (.int (1 : Int32))] [])) _
        refine XS.iconst X223.here hx rfl (hb hby at_115) ?_
        show Steps pP.tables eE below (T223.setTop (mkF mM 116 #[.val (.int p1), .val (.int p2), .val (.ref b2), .val (.ref b42), .val (.int (2 : Int32)), .val (.int (1 : Int32)), .val (.int (1 : Int32))] [(.int (1 : Int32))])) _
        refine XS.goto X223.here hx rfl (pc0 := 116) (pc' := 120) rfl (hb hby at_116) (by decide) (by decide) ?_
        exact kg)
      obtain ⟨fs, hr, hrun, hended, hW, hsame⟩ := X223.leave (v := some (.int (1 : Int32))) (fun h => by rw [Bd.returns] at h; cases h)
      refine ⟨_, _, pr225 _ (retOut X223 hx (t := .boolean) Bd.returns rfl (Or.inl ⟨rfl, Or.inr (Or.inl rfl), _, rfl⟩) (hb hby at_120) hr), hrun, hended, _, _, rfl, ?_, ⟨_, rfl⟩, hW, hsame.mono (by decide) (by decide)⟩
      show Q0 Z p1 p2 a_SHARED a_UPDATE a_EXCLUSIVE a_CHANGE a_KEEP h0 n0 _ T223.heap _
      rw [e223]
      exact ⟨rfl, N223⟩
    ·
      obtain ⟨cla226, Ara226, qa226, Sa226, Ma226, Ha226, Ga226⟩ := id V68
      have hin227 : ¬ ((2 : Int32) < 0 ∨ cla226.slots.size ≤ ((2 : Int32)).toNatClampNeg) := inb_of Sa226 ⟨by decide, by decide⟩
      have hat227 : cla226.slots[((2 : Int32)).toNatClampNeg]? = some (.int (31 : Int32)) := Has.at Ha226 hin227 rfl
      have c228 := (Arv.other (Arv.other (Arv.other (Arv.other (Arv.other (Arv.ext V39 E42) W52 ne43) W56 ne43) W60 ne43) W64 ne43) W68 ne43)
      obtain ⟨cla229, Ara229, qa229, Sa229, Ma229, Ha229, Ga229⟩ := id c228
      have hin230 : ¬ ((2 : Int32) < 0 ∨ cla229.slots.size ≤ ((2 : Int32)).toNatClampNeg) := inb_of Sa229 ⟨by decide, by decide⟩
      have hat230 : cla229.slots[((2 : Int32)).toNatClampNeg]? = some (.ref a_EXCLUSIVE) := Has.at Ha229 hin230 rfl
      have hin231 : ¬ ((2 : Int32) < 0 ∨ cla229.slots.size ≤ ((2 : Int32)).toNatClampNeg) := inb_of Sa229 ⟨by decide, by decide⟩
      have hat231 : cla229.slots[((2 : Int32)).toNatClampNeg]? = some (.ref a_EXCLUSIVE) := Has.at Ha229 hin231 rfl
      have c232 := (Old.wr (Old.wr (Old.wr (Old.wr (Old.wr (Old.ext c48 E42) W52 gn44) W56 gn44) W60 gn44) W64 gn44) W68 gn44)
      have pr233 : ∀ tg, Steps pP.tables eE below (T68.setTop (mkF mM 107 #[.val (.int p1), .val (.int p2), .val (.ref b2), .val (.ref b42), .val (.int (2 : Int32)), .val (.int (2 : Int32)), .val (.int (1 : Int32))] [(.ref a_EXCLUSIVE), (.ref a_EXCLUSIVE)])) tg → Steps pP.tables eE below (s₁.setTop (entryFrame mM #[(.int p1), (.int p2)] maxLocals)) tg := fun tg kg => pr201 _ (by
        show Steps pP.tables eE below (T68.setTop (mkF mM 80 #[.val (.int p1), .val (.int p2), .val (.ref b2), .val (.ref b42), .val (.int (2 : Int32)), .val (.int (2 : Int32)), .unset] [])) _
        refine XS.aloadN X68.here hx rfl (hb hby at_80) rfl rfl ?_
        show Steps pP.tables eE below (T68.setTop (mkF mM 81 #[.val (.int p1), .val (.int p2), .val (.ref b2), .val (.ref b42), .val (.int (2 : Int32)), .val (.int (2 : Int32)), .unset] [(.ref b42)])) _
        refine XS.iload X68.here hx rfl (hb hby at_81) rfl ?_
        show Steps pP.tables eE below (T68.setTop (mkF mM 83 #[.val (.int p1), .val (.int p2), .val (.ref b2), .val (.ref b42), .val (.int (2 : Int32)), .val (.int (2 : Int32)), .unset] [(.int (2 : Int32)), (.ref b42)])) _
        refine X68.iaload hx (j := (2 : Int32)) (v := (.int (31 : Int32))) (by rw [e68]; exact Ara226.1) (State.isArrayOf_alike hZ.alike Ara226.2.1) Ara226.2.2 hin227 hat227 (g := (mkF mM 83 #[.val (.int p1), .val (.int p2), .val (.ref b2), .val (.ref b42), .val (.int (2 : Int32)), .val (.int (2 : Int32)), .unset] [(.int (2 : Int32)), (.ref b42)])) rfl rfl (hb hby at_83) _ ?_
        show Steps pP.tables eE below (T68.setTop (mkF mM 84 #[.val (.int p1), .val (.int p2), .val (.ref b2), .val (.ref b42), .val (.int (2 : Int32)), .val (.int (2 : Int32)), .unset] [(.int (31 : Int32))])) _
        refine XS.iload X68.here hx rfl (hb hby at_84) rfl ?_
        show Steps pP.tables eE below (T68.setTop (mkF mM 86 #[.val (.int p1), .val (.int p2), .val (.ref b2), .val (.ref b42), .val (.int (2 : Int32)), .val (.int (2 : Int32)), .unset] [(.int (2 : Int32)), (.int (31 : Int32))])) _
        refine XS.ishr X68.here hx rfl (hb hby at_86) rfl ?_
        show Steps pP.tables eE below (T68.setTop (mkF mM 87 #[.val (.int p1), .val (.int p2), .val (.ref b2), .val (.ref b42), .val (.int (2 : Int32)), .val (.int (2 : Int32)), .unset] [(.int ((31 : Int32) >>> ((2 : Int32) &&& 31)))])) _
        refine XS.iconst X68.here hx rfl (hb hby at_87) ?_
        show Steps pP.tables eE below (T68.setTop (mkF mM 88 #[.val (.int p1), .val (.int p2), .val (.ref b2), .val (.ref b42), .val (.int (2 : Int32)), .val (.int (2 : Int32)), .unset] [(.int (1 : Int32)), (.int ((31 : Int32) >>> ((2 : Int32) &&& 31)))])) _
        refine XS.iand X68.here hx rfl (hb hby at_88) rfl ?_
        show Steps pP.tables eE below (T68.setTop (mkF mM 89 #[.val (.int p1), .val (.int p2), .val (.ref b2), .val (.ref b42), .val (.int (2 : Int32)), .val (.int (2 : Int32)), .unset] [(.int (1 : Int32))])) _
        refine XS.ifNo X68.here hx rfl (hb hby at_89) rfl ((if0 _ _).trans (feq (by decide)).1) ?_
        show Steps pP.tables eE below (T68.setTop (mkF mM 92 #[.val (.int p1), .val (.int p2), .val (.ref b2), .val (.ref b42), .val (.int (2 : Int32)), .val (.int (2 : Int32)), .unset] [])) _
        refine XS.iconst X68.here hx rfl (hb hby at_92) ?_
        show Steps pP.tables eE below (T68.setTop (mkF mM 93 #[.val (.int p1), .val (.int p2), .val (.ref b2), .val (.ref b42), .val (.int (2 : Int32)), .val (.int (2 : Int32)), .unset] [(.int (1 : Int32))])) _
        refine XS.goto X68.here hx rfl (pc0 := 93) (pc' := 97) rfl (hb hby at_93) (by decide) (by decide) ?_
        show Steps pP.tables eE below (T68.setTop (mkF mM 97 #[.val (.int p1), .val (.int p2), .val (.ref b2), .val (.ref b42), .val (.int (2 : Int32)), .val (.int (2 : Int32)), .unset] [(.int (1 : Int32))])) _
        refine XS.istore X68.here hx rfl (hb hby at_97) rfl (l' := #[.val (.int p1), .val (.int p2), .val (.ref b2), .val (.ref b42), .val (.int (2 : Int32)), .val (.int (2 : Int32)), .val (.int (1 : Int32))]) rfl ?_
        show Steps pP.tables eE below (T68.setTop (mkF mM 99 #[.val (.int p1), .val (.int p2), .val (.ref b2), .val (.ref b42), .val (.int (2 : Int32)), .val (.int (2 : Int32)), .val (.int (1 : Int32))] [])) _
        refine XS.aloadN X68.here hx rfl (hb hby at_99) rfl rfl ?_
        show Steps pP.tables eE below (T68.setTop (mkF mM 100 #[.val (.int p1), .val (.int p2), .val (.ref b2), .val (.ref b42), .val (.int (2 : Int32)), .val (.int (2 : Int32)), .val (.int (1 : Int32))] [(.ref b2)])) _
        refine XS.iload X68.here hx rfl (hb hby at_100) rfl ?_
        show Steps pP.tables eE below (T68.setTop (mkF mM 102 #[.val (.int p1), .val (.int p2), .val (.ref b2), .val (.ref b42), .val (.int (2 : Int32)), .val (.int (2 : Int32)), .val (.int (1 : Int32))] [(.int (2 : Int32)), (.ref b2)])) _
        refine X68.aaload hx (j := (2 : Int32)) (v := (.ref a_EXCLUSIVE)) (by rw [e68]; exact Ara229.1) (State.isArrayOf_alike hZ.alike Ara229.2.1) rfl Ara229.2.2 hin230 hat230 (g := (mkF mM 102 #[.val (.int p1), .val (.int p2), .val (.ref b2), .val (.ref b42), .val (.int (2 : Int32)), .val (.int (2 : Int32)), .val (.int (1 : Int32))] [(.int (2 : Int32)), (.ref b2)])) rfl rfl (hb hby at_102) _ ?_
        show Steps pP.tables eE below (T68.setTop (mkF mM 103 #[.val (.int p1), .val (.int p2), .val (.ref b2), .val (.ref b42), .val (.int (2 : Int32)), .val (.int (2 : Int32)), .val (.int (1 : Int32))] [(.ref a_EXCLUSIVE)])) _
        refine XS.aloadN X68.here hx rfl (hb hby at_103) rfl rfl ?_
        show Steps pP.tables eE below (T68.setTop (mkF mM 104 #[.val (.int p1), .val (.int p2), .val (.ref b2), .val (.ref b42), .val (.int (2 : Int32)), .val (.int (2 : Int32)), .val (.int (1 : Int32))] [(.ref b2), (.ref a_EXCLUSIVE)])) _
        refine XS.iload X68.here hx rfl (hb hby at_104) rfl ?_
        show Steps pP.tables eE below (T68.setTop (mkF mM 106 #[.val (.int p1), .val (.int p2), .val (.ref b2), .val (.ref b42), .val (.int (2 : Int32)), .val (.int (2 : Int32)), .val (.int (1 : Int32))] [(.int (2 : Int32)), (.ref b2), (.ref a_EXCLUSIVE)])) _
        refine X68.aaload hx (j := (2 : Int32)) (v := (.ref a_EXCLUSIVE)) (by rw [e68]; exact Ara229.1) (State.isArrayOf_alike hZ.alike Ara229.2.1) rfl Ara229.2.2 hin231 hat231 (g := (mkF mM 106 #[.val (.int p1), .val (.int p2), .val (.ref b2), .val (.ref b42), .val (.int (2 : Int32)), .val (.int (2 : Int32)), .val (.int (1 : Int32))] [(.int (2 : Int32)), (.ref b2), (.ref a_EXCLUSIVE)])) rfl rfl (hb hby at_106) _ ?_
        exact kg)
      have c234 := (Nat.le_trans (Nat.le_trans (Nat.le_trans (Nat.le_trans (Nat.le_trans (Nat.le_trans c45 E42.1) (Keep.of_wr W52).1) (Keep.of_wr W56).1) (Keep.of_wr W60).1) (Keep.of_wr W64).1) (Keep.of_wr W68).1)
      obtain ⟨cq235, kq235, qa235, qb235, qc235⟩ := isOf hZ e68 (Exa.ext (c232).2 E_EXCLUSIVE)
      obtain ⟨_, _, ⟨T235, L235, kk235, nn235⟩, -, X235, ⟨Lc235, hQ235, l235, y235, z235⟩, st235⟩ := X68.virtualBack hx (y := (⟨"com/example/settle/settle/service/LockTable$Mode", "keepsOut", "(Lcom/example/settle/settle/service/LockTable$Mode;)Z"⟩ : MethodName)) (z := (⟨"com/example/settle/settle/service/LockTable$Mode", "keepsOut", "(Lcom/example/settle/settle/service/LockTable$Mode;)Z"⟩ : MethodName)) hown (mvT hZ (hw _ (List.mem_of_getElem? (i := 16) rfl))) (mvT hZ (hw _ (List.mem_of_getElem? (i := 17) rfl))) (notFace_of_selects (args := #[]) (mvT hZ (hw _ (List.mem_of_getElem? (i := 19) rfl)))) (mvT hZ (hw _ (List.mem_of_getElem? (i := 19) rfl))) (mvT hZ (hw _ (List.mem_of_getElem? (i := 18) rfl))) (by decide) (backOf (W := 0) (rm222 l Z a0 hw [] a_SHARED a_UPDATE a_EXCLUSIVE a_CHANGE a_KEEP h68 n0 c234 c232 S_SHARED E_SHARED S_UPDATE E_UPDATE S_EXCLUSIVE E_EXCLUSIVE S_CHANGE E_CHANGE S_KEEP E_KEEP F_SHARED_ordinal F_CHANGE_ordinal F_EXCLUSIVE_ordinal F_KEEP_ordinal F_UPDATE_ordinal) hZ (hw _ (List.mem_of_getElem? (i := 20) rfl)) (hw _ (List.mem_of_getElem? (i := 3) rfl)) (by decide) (by decide)) qa235 qc235 (g := (mkF mM 107 #[.val (.int p1), .val (.int p2), .val (.ref b2), .val (.ref b42), .val (.int (2 : Int32)), .val (.int (2 : Int32)), .val (.int (1 : Int32))] [(.ref a_EXCLUSIVE), (.ref a_EXCLUSIVE)])) rfl (by rw [hml]; rfl) (Steps.refl _) (argsL := [(.ref a_EXCLUSIVE)]) (rest := []) (lenOf pd_1 rfl) rfl (by show 2 * 0 + _ ≤ _; exact Nat.le_of_eq rfl) (hb hby at_107) (fun _ _ => ⟨rfl, e68, (by decide : 2 + 0 ≤ _), (by decide : 10 + 0 ≤ _)⟩)
      dsimp only [Pt.U, Pt.locs, Pt.cells, Pt.slots] at X235 l235 y235 z235 st235 hQ235
      subst l235 y235 z235
      obtain ⟨rfl, Nq235, e235⟩ := hQ235
      have N235 := Fr.app N68 Nq235
      have pr236 : ∀ tg, Steps pP.tables eE below (T235.setTop (mkF mM 110 #[.val (.int p1), .val (.int p2), .val (.ref b2), .val (.ref b42), .val (.int (2 : Int32)), .val (.int (2 : Int32)), .val (.int (1 : Int32))] [(.int (1 : Int32))])) tg → Steps pP.tables eE below (s₁.setTop (entryFrame mM #[(.int p1), (.int p2)] maxLocals)) tg := fun tg kg => pr233 _ (st235.trans kg)
      have pr237 : ∀ tg, Steps pP.tables eE below (T235.setTop (mkF mM 120 #[.val (.int p1), .val (.int p2), .val (.ref b2), .val (.ref b42), .val (.int (2 : Int32)), .val (.int (2 : Int32)), .val (.int (1 : Int32))] [(.int (1 : Int32))])) tg → Steps pP.tables eE below (s₁.setTop (entryFrame mM #[(.int p1), (.int p2)] maxLocals)) tg := fun tg kg => pr236 _ (by
        show Steps pP.tables eE below (T235.setTop (mkF mM 110 #[.val (.int p1), .val (.int p2), .val (.ref b2), .val (.ref b42), .val (.int (2 : Int32)), .val (.int (2 : Int32)), .val (.int (1 : Int32))] [(.int (1 : Int32))])) _
        refine XS.iload X235.here hx rfl (hb hby at_110) rfl ?_
        show Steps pP.tables eE below (T235.setTop (mkF mM 112 #[.val (.int p1), .val (.int p2), .val (.ref b2), .val (.ref b42), .val (.int (2 : Int32)), .val (.int (2 : Int32)), .val (.int (1 : Int32))] [(.int (1 : Int32)), (.int (1 : Int32))])) _
        refine XS.icmpNo X235.here hx rfl (hb hby at_112) rfl (teq (by decide)).2 ?_
        show Steps pP.tables eE below (T235.setTop (mkF mM 115 #[.val (.int p1), .val (.int p2), .val (.ref b2), .val (.ref b42), .val (.int (2 : Int32)), .val (.int (2 : Int32)), .val (.int (1 : Int32))] [])) _
        refine XS.iconst X235.here hx rfl (hb hby at_115) ?_
        show Steps pP.tables eE below (T235.setTop (mkF mM 116 #[.val (.int p1), .val (.int p2), .val (.ref b2), .val (.ref b42), .val (.int (2 : Int32)), .val (.int (2 : Int32)), .val (.int (1 : Int32))] [(.int (1 : Int32))])) _
        refine XS.goto X235.here hx rfl (pc0 := 116) (pc' := 120) rfl (hb hby at_116) (by decide) (by decide) ?_
        exact kg)
      obtain ⟨fs, hr, hrun, hended, hW, hsame⟩ := X235.leave (v := some (.int (1 : Int32))) (fun h => by rw [Bd.returns] at h; cases h)
      refine ⟨_, _, pr237 _ (retOut X235 hx (t := .boolean) Bd.returns rfl (Or.inl ⟨rfl, Or.inr (Or.inl rfl), _, rfl⟩) (hb hby at_120) hr), hrun, hended, _, _, rfl, ?_, ⟨_, rfl⟩, hW, hsame.mono (by decide) (by decide)⟩
      show Q0 Z p1 p2 a_SHARED a_UPDATE a_EXCLUSIVE a_CHANGE a_KEEP h0 n0 _ T235.heap _
      rw [e235]
      exact ⟨rfl, N235⟩
    ·
      obtain ⟨cla238, Ara238, qa238, Sa238, Ma238, Ha238, Ga238⟩ := id V68
      have hin239 : ¬ ((2 : Int32) < 0 ∨ cla238.slots.size ≤ ((2 : Int32)).toNatClampNeg) := inb_of Sa238 ⟨by decide, by decide⟩
      have hat239 : cla238.slots[((2 : Int32)).toNatClampNeg]? = some (.int (31 : Int32)) := Has.at Ha238 hin239 rfl
      have c240 := (Arv.other (Arv.other (Arv.other (Arv.other (Arv.other (Arv.ext V39 E42) W52 ne43) W56 ne43) W60 ne43) W64 ne43) W68 ne43)
      obtain ⟨cla241, Ara241, qa241, Sa241, Ma241, Ha241, Ga241⟩ := id c240
      have hin242 : ¬ ((2 : Int32) < 0 ∨ cla241.slots.size ≤ ((2 : Int32)).toNatClampNeg) := inb_of Sa241 ⟨by decide, by decide⟩
      have hat242 : cla241.slots[((2 : Int32)).toNatClampNeg]? = some (.ref a_EXCLUSIVE) := Has.at Ha241 hin242 rfl
      have hin243 : ¬ ((3 : Int32) < 0 ∨ cla241.slots.size ≤ ((3 : Int32)).toNatClampNeg) := inb_of Sa241 ⟨by decide, by decide⟩
      have hat243 : cla241.slots[((3 : Int32)).toNatClampNeg]? = some (.ref a_CHANGE) := Has.at Ha241 hin243 rfl
      have c244 := (Old.wr (Old.wr (Old.wr (Old.wr (Old.wr (Old.ext c48 E42) W52 gn44) W56 gn44) W60 gn44) W64 gn44) W68 gn44)
      have pr245 : ∀ tg, Steps pP.tables eE below (T68.setTop (mkF mM 107 #[.val (.int p1), .val (.int p2), .val (.ref b2), .val (.ref b42), .val (.int (2 : Int32)), .val (.int (3 : Int32)), .val (.int (1 : Int32))] [(.ref a_CHANGE), (.ref a_EXCLUSIVE)])) tg → Steps pP.tables eE below (s₁.setTop (entryFrame mM #[(.int p1), (.int p2)] maxLocals)) tg := fun tg kg => pr201 _ (by
        show Steps pP.tables eE below (T68.setTop (mkF mM 80 #[.val (.int p1), .val (.int p2), .val (.ref b2), .val (.ref b42), .val (.int (2 : Int32)), .val (.int (3 : Int32)), .unset] [])) _
        refine XS.aloadN X68.here hx rfl (hb hby at_80) rfl rfl ?_
        show Steps pP.tables eE below (T68.setTop (mkF mM 81 #[.val (.int p1), .val (.int p2), .val (.ref b2), .val (.ref b42), .val (.int (2 : Int32)), .val (.int (3 : Int32)), .unset] [(.ref b42)])) _
        refine XS.iload X68.here hx rfl (hb hby at_81) rfl ?_
        show Steps pP.tables eE below (T68.setTop (mkF mM 83 #[.val (.int p1), .val (.int p2), .val (.ref b2), .val (.ref b42), .val (.int (2 : Int32)), .val (.int (3 : Int32)), .unset] [(.int (2 : Int32)), (.ref b42)])) _
        refine X68.iaload hx (j := (2 : Int32)) (v := (.int (31 : Int32))) (by rw [e68]; exact Ara238.1) (State.isArrayOf_alike hZ.alike Ara238.2.1) Ara238.2.2 hin239 hat239 (g := (mkF mM 83 #[.val (.int p1), .val (.int p2), .val (.ref b2), .val (.ref b42), .val (.int (2 : Int32)), .val (.int (3 : Int32)), .unset] [(.int (2 : Int32)), (.ref b42)])) rfl rfl (hb hby at_83) _ ?_
        show Steps pP.tables eE below (T68.setTop (mkF mM 84 #[.val (.int p1), .val (.int p2), .val (.ref b2), .val (.ref b42), .val (.int (2 : Int32)), .val (.int (3 : Int32)), .unset] [(.int (31 : Int32))])) _
        refine XS.iload X68.here hx rfl (hb hby at_84) rfl ?_
        show Steps pP.tables eE below (T68.setTop (mkF mM 86 #[.val (.int p1), .val (.int p2), .val (.ref b2), .val (.ref b42), .val (.int (2 : Int32)), .val (.int (3 : Int32)), .unset] [(.int (3 : Int32)), (.int (31 : Int32))])) _
        refine XS.ishr X68.here hx rfl (hb hby at_86) rfl ?_
        show Steps pP.tables eE below (T68.setTop (mkF mM 87 #[.val (.int p1), .val (.int p2), .val (.ref b2), .val (.ref b42), .val (.int (2 : Int32)), .val (.int (3 : Int32)), .unset] [(.int ((31 : Int32) >>> ((3 : Int32) &&& 31)))])) _
        refine XS.iconst X68.here hx rfl (hb hby at_87) ?_
        show Steps pP.tables eE below (T68.setTop (mkF mM 88 #[.val (.int p1), .val (.int p2), .val (.ref b2), .val (.ref b42), .val (.int (2 : Int32)), .val (.int (3 : Int32)), .unset] [(.int (1 : Int32)), (.int ((31 : Int32) >>> ((3 : Int32) &&& 31)))])) _
        refine XS.iand X68.here hx rfl (hb hby at_88) rfl ?_
        show Steps pP.tables eE below (T68.setTop (mkF mM 89 #[.val (.int p1), .val (.int p2), .val (.ref b2), .val (.ref b42), .val (.int (2 : Int32)), .val (.int (3 : Int32)), .unset] [(.int (1 : Int32))])) _
        refine XS.ifNo X68.here hx rfl (hb hby at_89) rfl ((if0 _ _).trans (feq (by decide)).1) ?_
        show Steps pP.tables eE below (T68.setTop (mkF mM 92 #[.val (.int p1), .val (.int p2), .val (.ref b2), .val (.ref b42), .val (.int (2 : Int32)), .val (.int (3 : Int32)), .unset] [])) _
        refine XS.iconst X68.here hx rfl (hb hby at_92) ?_
        show Steps pP.tables eE below (T68.setTop (mkF mM 93 #[.val (.int p1), .val (.int p2), .val (.ref b2), .val (.ref b42), .val (.int (2 : Int32)), .val (.int (3 : Int32)), .unset] [(.int (1 : Int32))])) _
        refine XS.goto X68.here hx rfl (pc0 := 93) (pc' := 97) rfl (hb hby at_93) (by decide) (by decide) ?_
        show Steps pP.tables eE below (T68.setTop (mkF mM 97 #[.val (.int p1), .val (.int p2), .val (.ref b2), .val (.ref b42), .val (.int (2 : Int32)), .val (.int (3 : Int32)), .unset] [(.int (1 : Int32))])) _
        refine XS.istore X68.here hx rfl (hb hby at_97) rfl (l' := #[.val (.int p1), .val (.int p2), .val (.ref b2), .val (.ref b42), .val (.int (2 : Int32)), .val (.int (3 : Int32)), .val (.int (1 : Int32))]) rfl ?_
        show Steps pP.tables eE below (T68.setTop (mkF mM 99 #[.val (.int p1), .val (.int p2), .val (.ref b2), .val (.ref b42), .val (.int (2 : Int32)), .val (.int (3 : Int32)), .val (.int (1 : Int32))] [])) _
        refine XS.aloadN X68.here hx rfl (hb hby at_99) rfl rfl ?_
        show Steps pP.tables eE below (T68.setTop (mkF mM 100 #[.val (.int p1), .val (.int p2), .val (.ref b2), .val (.ref b42), .val (.int (2 : Int32)), .val (.int (3 : Int32)), .val (.int (1 : Int32))] [(.ref b2)])) _
        refine XS.iload X68.here hx rfl (hb hby at_100) rfl ?_
        show Steps pP.tables eE below (T68.setTop (mkF mM 102 #[.val (.int p1), .val (.int p2), .val (.ref b2), .val (.ref b42), .val (.int (2 : Int32)), .val (.int (3 : Int32)), .val (.int (1 : Int32))] [(.int (2 : Int32)), (.ref b2)])) _
        refine X68.aaload hx (j := (2 : Int32)) (v := (.ref a_EXCLUSIVE)) (by rw [e68]; exact Ara241.1) (State.isArrayOf_alike hZ.alike Ara241.2.1) rfl Ara241.2.2 hin242 hat242 (g := (mkF mM 102 #[.val (.int p1), .val (.int p2), .val (.ref b2), .val (.ref b42), .val (.int (2 : Int32)), .val (.int (3 : Int32)), .val (.int (1 : Int32))] [(.int (2 : Int32)), (.ref b2)])) rfl rfl (hb hby at_102) _ ?_
        show Steps pP.tables eE below (T68.setTop (mkF mM 103 #[.val (.int p1), .val (.int p2), .val (.ref b2), .val (.ref b42), .val (.int (2 : Int32)), .val (.int (3 : Int32)), .val (.int (1 : Int32))] [(.ref a_EXCLUSIVE)])) _
        refine XS.aloadN X68.here hx rfl (hb hby at_103) rfl rfl ?_
        show Steps pP.tables eE below (T68.setTop (mkF mM 104 #[.val (.int p1), .val (.int p2), .val (.ref b2), .val (.ref b42), .val (.int (2 : Int32)), .val (.int (3 : Int32)), .val (.int (1 : Int32))] [(.ref b2), (.ref a_EXCLUSIVE)])) _
        refine XS.iload X68.here hx rfl (hb hby at_104) rfl ?_
        show Steps pP.tables eE below (T68.setTop (mkF mM 106 #[.val (.int p1), .val (.int p2), .val (.ref b2), .val (.ref b42), .val (.int (2 : Int32)), .val (.int (3 : Int32)), .val (.int (1 : Int32))] [(.int (3 : Int32)), (.ref b2), (.ref a_EXCLUSIVE)])) _
        refine X68.aaload hx (j := (3 : Int32)) (v := (.ref a_CHANGE)) (by rw [e68]; exact Ara241.1) (State.isArrayOf_alike hZ.alike Ara241.2.1) rfl Ara241.2.2 hin243 hat243 (g := (mkF mM 106 #[.val (.int p1), .val (.int p2), .val (.ref b2), .val (.ref b42), .val (.int (2 : Int32)), .val (.int (3 : Int32)), .val (.int (1 : Int32))] [(.int (3 : Int32)), (.ref b2), (.ref a_EXCLUSIVE)])) rfl rfl (hb hby at_106) _ ?_
        exact kg)
      have c246 := (Nat.le_trans (Nat.le_trans (Nat.le_trans (Nat.le_trans (Nat.le_trans (Nat.le_trans c45 E42.1) (Keep.of_wr W52).1) (Keep.of_wr W56).1) (Keep.of_wr W60).1) (Keep.of_wr W64).1) (Keep.of_wr W68).1)
      obtain ⟨cq247, kq247, qa247, qb247, qc247⟩ := isOf hZ e68 (Exa.ext (c244).2 E_EXCLUSIVE)
      obtain ⟨_, _, ⟨T247, L247, kk247, nn247⟩, -, X247, ⟨Lc247, hQ247, l247, y247, z247⟩, st247⟩ := X68.virtualBack hx (y := (⟨"com/example/settle/settle/service/LockTable$Mode", "keepsOut", "(Lcom/example/settle/settle/service/LockTable$Mode;)Z"⟩ : MethodName)) (z := (⟨"com/example/settle/settle/service/LockTable$Mode", "keepsOut", "(Lcom/example/settle/settle/service/LockTable$Mode;)Z"⟩ : MethodName)) hown (mvT hZ (hw _ (List.mem_of_getElem? (i := 16) rfl))) (mvT hZ (hw _ (List.mem_of_getElem? (i := 17) rfl))) (notFace_of_selects (args := #[]) (mvT hZ (hw _ (List.mem_of_getElem? (i := 19) rfl)))) (mvT hZ (hw _ (List.mem_of_getElem? (i := 19) rfl))) (mvT hZ (hw _ (List.mem_of_getElem? (i := 18) rfl))) (by decide) (backOf (W := 0) (rm223 l Z a0 hw [] a_SHARED a_UPDATE a_EXCLUSIVE a_CHANGE a_KEEP h68 n0 c246 c244 S_SHARED E_SHARED S_UPDATE E_UPDATE S_EXCLUSIVE E_EXCLUSIVE S_CHANGE E_CHANGE S_KEEP E_KEEP F_SHARED_ordinal F_CHANGE_ordinal F_EXCLUSIVE_ordinal F_KEEP_ordinal F_UPDATE_ordinal) hZ (hw _ (List.mem_of_getElem? (i := 20) rfl)) (hw _ (List.mem_of_getElem? (i := 3) rfl)) (by decide) (by decide)) qa247 qc247 (g := (mkF mM 107 #[.val (.int p1), .val (.int p2), .val (.ref b2), .val (.ref b42), .val (.int (2 : Int32)), .val (.int (3 : Int32)), .val (.int (1 : Int32))] [(.ref a_CHANGE), (.ref a_EXCLUSIVE)])) rfl (by rw [hml]; rfl) (Steps.refl _) (argsL := [(.ref a_CHANGE)]) (rest := []) (lenOf pd_1 rfl) rfl (by show 2 * 0 + _ ≤ _; exact Nat.le_of_eq rfl) (hb hby at_107) (fun _ _ => ⟨rfl, e68, (by decide : 2 + 0 ≤ _), (by decide : 10 + 0 ≤ _)⟩)
      dsimp only [Pt.U, Pt.locs, Pt.cells, Pt.slots] at X247 l247 y247 z247 st247 hQ247
      subst l247 y247 z247
      obtain ⟨rfl, Nq247, e247⟩ := hQ247
      have N247 := Fr.app N68 Nq247
      have pr248 : ∀ tg, Steps pP.tables eE below (T247.setTop (mkF mM 110 #[.val (.int p1), .val (.int p2), .val (.ref b2), .val (.ref b42), .val (.int (2 : Int32)), .val (.int (3 : Int32)), .val (.int (1 : Int32))] [(.int (1 : Int32))])) tg → Steps pP.tables eE below (s₁.setTop (entryFrame mM #[(.int p1), (.int p2)] maxLocals)) tg := fun tg kg => pr245 _ (st247.trans kg)
      have pr249 : ∀ tg, Steps pP.tables eE below (T247.setTop (mkF mM 120 #[.val (.int p1), .val (.int p2), .val (.ref b2), .val (.ref b42), .val (.int (2 : Int32)), .val (.int (3 : Int32)), .val (.int (1 : Int32))] [(.int (1 : Int32))])) tg → Steps pP.tables eE below (s₁.setTop (entryFrame mM #[(.int p1), (.int p2)] maxLocals)) tg := fun tg kg => pr248 _ (by
        show Steps pP.tables eE below (T247.setTop (mkF mM 110 #[.val (.int p1), .val (.int p2), .val (.ref b2), .val (.ref b42), .val (.int (2 : Int32)), .val (.int (3 : Int32)), .val (.int (1 : Int32))] [(.int (1 : Int32))])) _
        refine XS.iload X247.here hx rfl (hb hby at_110) rfl ?_
        show Steps pP.tables eE below (T247.setTop (mkF mM 112 #[.val (.int p1), .val (.int p2), .val (.ref b2), .val (.ref b42), .val (.int (2 : Int32)), .val (.int (3 : Int32)), .val (.int (1 : Int32))] [(.int (1 : Int32)), (.int (1 : Int32))])) _
        refine XS.icmpNo X247.here hx rfl (hb hby at_112) rfl (teq (by decide)).2 ?_
        show Steps pP.tables eE below (T247.setTop (mkF mM 115 #[.val (.int p1), .val (.int p2), .val (.ref b2), .val (.ref b42), .val (.int (2 : Int32)), .val (.int (3 : Int32)), .val (.int (1 : Int32))] [])) _
        refine XS.iconst X247.here hx rfl (hb hby at_115) ?_
        show Steps pP.tables eE below (T247.setTop (mkF mM 116 #[.val (.int p1), .val (.int p2), .val (.ref b2), .val (.ref b42), .val (.int (2 : Int32)), .val (.int (3 : Int32)), .val (.int (1 : Int32))] [(.int (1 : Int32))])) _
        refine XS.goto X247.here hx rfl (pc0 := 116) (pc' := 120) rfl (hb hby at_116) (by decide) (by decide) ?_
        exact kg)
      obtain ⟨fs, hr, hrun, hended, hW, hsame⟩ := X247.leave (v := some (.int (1 : Int32))) (fun h => by rw [Bd.returns] at h; cases h)
      refine ⟨_, _, pr249 _ (retOut X247 hx (t := .boolean) Bd.returns rfl (Or.inl ⟨rfl, Or.inr (Or.inl rfl), _, rfl⟩) (hb hby at_120) hr), hrun, hended, _, _, rfl, ?_, ⟨_, rfl⟩, hW, hsame.mono (by decide) (by decide)⟩
      show Q0 Z p1 p2 a_SHARED a_UPDATE a_EXCLUSIVE a_CHANGE a_KEEP h0 n0 _ T247.heap _
      rw [e247]
      exact ⟨rfl, N247⟩
    ·
      obtain ⟨cla250, Ara250, qa250, Sa250, Ma250, Ha250, Ga250⟩ := id V68
      have hin251 : ¬ ((2 : Int32) < 0 ∨ cla250.slots.size ≤ ((2 : Int32)).toNatClampNeg) := inb_of Sa250 ⟨by decide, by decide⟩
      have hat251 : cla250.slots[((2 : Int32)).toNatClampNeg]? = some (.int (31 : Int32)) := Has.at Ha250 hin251 rfl
      have c252 := (Arv.other (Arv.other (Arv.other (Arv.other (Arv.other (Arv.ext V39 E42) W52 ne43) W56 ne43) W60 ne43) W64 ne43) W68 ne43)
      obtain ⟨cla253, Ara253, qa253, Sa253, Ma253, Ha253, Ga253⟩ := id c252
      have hin254 : ¬ ((2 : Int32) < 0 ∨ cla253.slots.size ≤ ((2 : Int32)).toNatClampNeg) := inb_of Sa253 ⟨by decide, by decide⟩
      have hat254 : cla253.slots[((2 : Int32)).toNatClampNeg]? = some (.ref a_EXCLUSIVE) := Has.at Ha253 hin254 rfl
      have hin255 : ¬ ((4 : Int32) < 0 ∨ cla253.slots.size ≤ ((4 : Int32)).toNatClampNeg) := inb_of Sa253 ⟨by decide, by decide⟩
      have hat255 : cla253.slots[((4 : Int32)).toNatClampNeg]? = some (.ref a_KEEP) := Has.at Ha253 hin255 rfl
      have c256 := (Old.wr (Old.wr (Old.wr (Old.wr (Old.wr (Old.ext c48 E42) W52 gn44) W56 gn44) W60 gn44) W64 gn44) W68 gn44)
      have pr257 : ∀ tg, Steps pP.tables eE below (T68.setTop (mkF mM 107 #[.val (.int p1), .val (.int p2), .val (.ref b2), .val (.ref b42), .val (.int (2 : Int32)), .val (.int (4 : Int32)), .val (.int (1 : Int32))] [(.ref a_KEEP), (.ref a_EXCLUSIVE)])) tg → Steps pP.tables eE below (s₁.setTop (entryFrame mM #[(.int p1), (.int p2)] maxLocals)) tg := fun tg kg => pr201 _ (by
        show Steps pP.tables eE below (T68.setTop (mkF mM 80 #[.val (.int p1), .val (.int p2), .val (.ref b2), .val (.ref b42), .val (.int (2 : Int32)), .val (.int (4 : Int32)), .unset] [])) _
        refine XS.aloadN X68.here hx rfl (hb hby at_80) rfl rfl ?_
        show Steps pP.tables eE below (T68.setTop (mkF mM 81 #[.val (.int p1), .val (.int p2), .val (.ref b2), .val (.ref b42), .val (.int (2 : Int32)), .val (.int (4 : Int32)), .unset] [(.ref b42)])) _
        refine XS.iload X68.here hx rfl (hb hby at_81) rfl ?_
        show Steps pP.tables eE below (T68.setTop (mkF mM 83 #[.val (.int p1), .val (.int p2), .val (.ref b2), .val (.ref b42), .val (.int (2 : Int32)), .val (.int (4 : Int32)), .unset] [(.int (2 : Int32)), (.ref b42)])) _
        refine X68.iaload hx (j := (2 : Int32)) (v := (.int (31 : Int32))) (by rw [e68]; exact Ara250.1) (State.isArrayOf_alike hZ.alike Ara250.2.1) Ara250.2.2 hin251 hat251 (g := (mkF mM 83 #[.val (.int p1), .val (.int p2), .val (.ref b2), .val (.ref b42), .val (.int (2 : Int32)), .val (.int (4 : Int32)), .unset] [(.int (2 : Int32)), (.ref b42)])) rfl rfl (hb hby at_83) _ ?_
        show Steps pP.tables eE below (T68.setTop (mkF mM 84 #[.val (.int p1), .val (.int p2), .val (.ref b2), .val (.ref b42), .val (.int (2 : Int32)), .val (.int (4 : Int32)), .unset] [(.int (31 : Int32))])) _
        refine XS.iload X68.here hx rfl (hb hby at_84) rfl ?_
        show Steps pP.tables eE below (T68.setTop (mkF mM 86 #[.val (.int p1), .val (.int p2), .val (.ref b2), .val (.ref b42), .val (.int (2 : Int32)), .val (.int (4 : Int32)), .unset] [(.int (4 : Int32)), (.int (31 : Int32))])) _
        refine XS.ishr X68.here hx rfl (hb hby at_86) rfl ?_
        show Steps pP.tables eE below (T68.setTop (mkF mM 87 #[.val (.int p1), .val (.int p2), .val (.ref b2), .val (.ref b42), .val (.int (2 : Int32)), .val (.int (4 : Int32)), .unset] [(.int ((31 : Int32) >>> ((4 : Int32) &&& 31)))])) _
        refine XS.iconst X68.here hx rfl (hb hby at_87) ?_
        show Steps pP.tables eE below (T68.setTop (mkF mM 88 #[.val (.int p1), .val (.int p2), .val (.ref b2), .val (.ref b42), .val (.int (2 : Int32)), .val (.int (4 : Int32)), .unset] [(.int (1 : Int32)), (.int ((31 : Int32) >>> ((4 : Int32) &&& 31)))])) _
        refine XS.iand X68.here hx rfl (hb hby at_88) rfl ?_
        show Steps pP.tables eE below (T68.setTop (mkF mM 89 #[.val (.int p1), .val (.int p2), .val (.ref b2), .val (.ref b42), .val (.int (2 : Int32)), .val (.int (4 : Int32)), .unset] [(.int (1 : Int32))])) _
        refine XS.ifNo X68.here hx rfl (hb hby at_89) rfl ((if0 _ _).trans (feq (by decide)).1) ?_
        show Steps pP.tables eE below (T68.setTop (mkF mM 92 #[.val (.int p1), .val (.int p2), .val (.ref b2), .val (.ref b42), .val (.int (2 : Int32)), .val (.int (4 : Int32)), .unset] [])) _
        refine XS.iconst X68.here hx rfl (hb hby at_92) ?_
        show Steps pP.tables eE below (T68.setTop (mkF mM 93 #[.val (.int p1), .val (.int p2), .val (.ref b2), .val (.ref b42), .val (.int (2 : Int32)), .val (.int (4 : Int32)), .unset] [(.int (1 : Int32))])) _
        refine XS.goto X68.here hx rfl (pc0 := 93) (pc' := 97) rfl (hb hby at_93) (by decide) (by decide) ?_
        show Steps pP.tables eE below (T68.setTop (mkF mM 97 #[.val (.int p1), .val (.int p2), .val (.ref b2), .val (.ref b42), .val (.int (2 : Int32)), .val (.int (4 : Int32)), .unset] [(.int (1 : Int32))])) _
        refine XS.istore X68.here hx rfl (hb hby at_97) rfl (l' := #[.val (.int p1), .val (.int p2), .val (.ref b2), .val (.ref b42), .val (.int (2 : Int32)), .val (.int (4 : Int32)), .val (.int (1 : Int32))]) rfl ?_
        show Steps pP.tables eE below (T68.setTop (mkF mM 99 #[.val (.int p1), .val (.int p2), .val (.ref b2), .val (.ref b42), .val (.int (2 : Int32)), .val (.int (4 : Int32)), .val (.int (1 : Int32))] [])) _
        refine XS.aloadN X68.here hx rfl (hb hby at_99) rfl rfl ?_
        show Steps pP.tables eE below (T68.setTop (mkF mM 100 #[.val (.int p1), .val (.int p2), .val (.ref b2), .val (.ref b42), .val (.int (2 : Int32)), .val (.int (4 : Int32)), .val (.int (1 : Int32))] [(.ref b2)])) _
        refine XS.iload X68.here hx rfl (hb hby at_100) rfl ?_
        show Steps pP.tables eE below (T68.setTop (mkF mM 102 #[.val (.int p1), .val (.int p2), .val (.ref b2), .val (.ref b42), .val (.int (2 : Int32)), .val (.int (4 : Int32)), .val (.int (1 : Int32))] [(.int (2 : Int32)), (.ref b2)])) _
        refine X68.aaload hx (j := (2 : Int32)) (v := (.ref a_EXCLUSIVE)) (by rw [e68]; exact Ara253.1) (State.isArrayOf_alike hZ.alike Ara253.2.1) rfl Ara253.2.2 hin254 hat254 (g := (mkF mM 102 #[.val (.int p1), .val (.int p2), .val (.ref b2), .val (.ref b42), .val (.int (2 : Int32)), .val (.int (4 : Int32)), .val (.int (1 : Int32))] [(.int (2 : Int32)), (.ref b2)])) rfl rfl (hb hby at_102) _ ?_
        show Steps pP.tables eE below (T68.setTop (mkF mM 103 #[.val (.int p1), .val (.int p2), .val (.ref b2), .val (.ref b42), .val (.int (2 : Int32)), .val (.int (4 : Int32)), .val (.int (1 : Int32))] [(.ref a_EXCLUSIVE)])) _
        refine XS.aloadN X68.here hx rfl (hb hby at_103) rfl rfl ?_
        show Steps pP.tables eE below (T68.setTop (mkF mM 104 #[.val (.int p1), .val (.int p2), .val (.ref b2), .val (.ref b42), .val (.int (2 : Int32)), .val (.int (4 : Int32)), .val (.int (1 : Int32))] [(.ref b2), (.ref a_EXCLUSIVE)])) _
        refine XS.iload X68.here hx rfl (hb hby at_104) rfl ?_
        show Steps pP.tables eE below (T68.setTop (mkF mM 106 #[.val (.int p1), .val (.int p2), .val (.ref b2), .val (.ref b42), .val (.int (2 : Int32)), .val (.int (4 : Int32)), .val (.int (1 : Int32))] [(.int (4 : Int32)), (.ref b2), (.ref a_EXCLUSIVE)])) _
        refine X68.aaload hx (j := (4 : Int32)) (v := (.ref a_KEEP)) (by rw [e68]; exact Ara253.1) (State.isArrayOf_alike hZ.alike Ara253.2.1) rfl Ara253.2.2 hin255 hat255 (g := (mkF mM 106 #[.val (.int p1), .val (.int p2), .val (.ref b2), .val (.ref b42), .val (.int (2 : Int32)), .val (.int (4 : Int32)), .val (.int (1 : Int32))] [(.int (4 : Int32)), (.ref b2), (.ref a_EXCLUSIVE)])) rfl rfl (hb hby at_106) _ ?_
        exact kg)
      have c258 := (Nat.le_trans (Nat.le_trans (Nat.le_trans (Nat.le_trans (Nat.le_trans (Nat.le_trans c45 E42.1) (Keep.of_wr W52).1) (Keep.of_wr W56).1) (Keep.of_wr W60).1) (Keep.of_wr W64).1) (Keep.of_wr W68).1)
      obtain ⟨cq259, kq259, qa259, qb259, qc259⟩ := isOf hZ e68 (Exa.ext (c256).2 E_EXCLUSIVE)
      obtain ⟨_, _, ⟨T259, L259, kk259, nn259⟩, -, X259, ⟨Lc259, hQ259, l259, y259, z259⟩, st259⟩ := X68.virtualBack hx (y := (⟨"com/example/settle/settle/service/LockTable$Mode", "keepsOut", "(Lcom/example/settle/settle/service/LockTable$Mode;)Z"⟩ : MethodName)) (z := (⟨"com/example/settle/settle/service/LockTable$Mode", "keepsOut", "(Lcom/example/settle/settle/service/LockTable$Mode;)Z"⟩ : MethodName)) hown (mvT hZ (hw _ (List.mem_of_getElem? (i := 16) rfl))) (mvT hZ (hw _ (List.mem_of_getElem? (i := 17) rfl))) (notFace_of_selects (args := #[]) (mvT hZ (hw _ (List.mem_of_getElem? (i := 19) rfl)))) (mvT hZ (hw _ (List.mem_of_getElem? (i := 19) rfl))) (mvT hZ (hw _ (List.mem_of_getElem? (i := 18) rfl))) (by decide) (backOf (W := 0) (rm224 l Z a0 hw [] a_SHARED a_UPDATE a_EXCLUSIVE a_CHANGE a_KEEP h68 n0 c258 c256 S_SHARED E_SHARED S_UPDATE E_UPDATE S_EXCLUSIVE E_EXCLUSIVE S_CHANGE E_CHANGE S_KEEP E_KEEP F_SHARED_ordinal F_CHANGE_ordinal F_EXCLUSIVE_ordinal F_KEEP_ordinal F_UPDATE_ordinal) hZ (hw _ (List.mem_of_getElem? (i := 20) rfl)) (hw _ (List.mem_of_getElem? (i := 3) rfl)) (by decide) (by decide)) qa259 qc259 (g := (mkF mM 107 #[.val (.int p1), .val (.int p2), .val (.ref b2), .val (.ref b42), .val (.int (2 : Int32)), .val (.int (4 : Int32)), .val (.int (1 : Int32))] [(.ref a_KEEP), (.ref a_EXCLUSIVE)])) rfl (by rw [hml]; rfl) (Steps.refl _) (argsL := [(.ref a_KEEP)]) (rest := []) (lenOf pd_1 rfl) rfl (by show 2 * 0 + _ ≤ _; exact Nat.le_of_eq rfl) (hb hby at_107) (fun _ _ => ⟨rfl, e68, (by decide : 2 + 0 ≤ _), (by decide : 10 + 0 ≤ _)⟩)
      dsimp only [Pt.U, Pt.locs, Pt.cells, Pt.slots] at X259 l259 y259 z259 st259 hQ259
      subst l259 y259 z259
      obtain ⟨rfl, Nq259, e259⟩ := hQ259
      have N259 := Fr.app N68 Nq259
      have pr260 : ∀ tg, Steps pP.tables eE below (T259.setTop (mkF mM 110 #[.val (.int p1), .val (.int p2), .val (.ref b2), .val (.ref b42), .val (.int (2 : Int32)), .val (.int (4 : Int32)), .val (.int (1 : Int32))] [(.int (1 : Int32))])) tg → Steps pP.tables eE below (s₁.setTop (entryFrame mM #[(.int p1), (.int p2)] maxLocals)) tg := fun tg kg => pr257 _ (st259.trans kg)
      have pr261 : ∀ tg, Steps pP.tables eE below (T259.setTop (mkF mM 120 #[.val (.int p1), .val (.int p2), .val (.ref b2), .val (.ref b42), .val (.int (2 : Int32)), .val (.int (4 : Int32)), .val (.int (1 : Int32))] [(.int (1 : Int32))])) tg → Steps pP.tables eE below (s₁.setTop (entryFrame mM #[(.int p1), (.int p2)] maxLocals)) tg := fun tg kg => pr260 _ (by
        show Steps pP.tables eE below (T259.setTop (mkF mM 110 #[.val (.int p1), .val (.int p2), .val (.ref b2), .val (.ref b42), .val (.int (2 : Int32)), .val (.int (4 : Int32)), .val (.int (1 : Int32))] [(.int (1 : Int32))])) _
        refine XS.iload X259.here hx rfl (hb hby at_110) rfl ?_
        show Steps pP.tables eE below (T259.setTop (mkF mM 112 #[.val (.int p1), .val (.int p2), .val (.ref b2), .val (.ref b42), .val (.int (2 : Int32)), .val (.int (4 : Int32)), .val (.int (1 : Int32))] [(.int (1 : Int32)), (.int (1 : Int32))])) _
        refine XS.icmpNo X259.here hx rfl (hb hby at_112) rfl (teq (by decide)).2 ?_
        show Steps pP.tables eE below (T259.setTop (mkF mM 115 #[.val (.int p1), .val (.int p2), .val (.ref b2), .val (.ref b42), .val (.int (2 : Int32)), .val (.int (4 : Int32)), .val (.int (1 : Int32))] [])) _
        refine XS.iconst X259.here hx rfl (hb hby at_115) ?_
        show Steps pP.tables eE below (T259.setTop (mkF mM 116 #[.val (.int p1), .val (.int p2), .val (.ref b2), .val (.ref b42), .val (.int (2 : Int32)), .val (.int (4 : Int32)), .val (.int (1 : Int32))] [(.int (1 : Int32))])) _
        refine XS.goto X259.here hx rfl (pc0 := 116) (pc' := 120) rfl (hb hby at_116) (by decide) (by decide) ?_
        exact kg)
      obtain ⟨fs, hr, hrun, hended, hW, hsame⟩ := X259.leave (v := some (.int (1 : Int32))) (fun h => by rw [Bd.returns] at h; cases h)
      refine ⟨_, _, pr261 _ (retOut X259 hx (t := .boolean) Bd.returns rfl (Or.inl ⟨rfl, Or.inr (Or.inl rfl), _, rfl⟩) (hb hby at_120) hr), hrun, hended, _, _, rfl, ?_, ⟨_, rfl⟩, hW, hsame.mono (by decide) (by decide)⟩
      show Q0 Z p1 p2 a_SHARED a_UPDATE a_EXCLUSIVE a_CHANGE a_KEEP h0 n0 _ T259.heap _
      rw [e259]
      exact ⟨rfl, N259⟩
  ·
    have pr262 : ∀ tg, Steps pP.tables eE below (T68.setTop (mkF mM 80 #[.val (.int p1), .val (.int p2), .val (.ref b2), .val (.ref b42), .val (.int (3 : Int32)), .val (.int ((p2 &&& (2147483647 : Int32)) % (5 : Int32))), .unset] [])) tg → Steps pP.tables eE below (s₁.setTop (entryFrame mM #[(.int p1), (.int p2)] maxLocals)) tg := fun tg kg => pr72 _ (by
      show Steps pP.tables eE below (T68.setTop (mkF mM 72 #[.val (.int p1), .val (.int p2), .val (.ref b2), .val (.ref b42), .val (.int (3 : Int32)), .unset, .unset] [])) _
      refine XS.iloadN X68.here hx rfl (hb hby at_72) rfl ?_
      show Steps pP.tables eE below (T68.setTop (mkF mM 73 #[.val (.int p1), .val (.int p2), .val (.ref b2), .val (.ref b42), .val (.int (3 : Int32)), .unset, .unset] [(.int p2)])) _
      refine Jvm.Stand.ldcI X68 hx hown (v := (2147483647 : Int32)) (mvT hZ (hw _ (List.mem_of_getElem? (i := 15) rfl))) rfl (hb hby at_73) ?_
      show Steps pP.tables eE below (T68.setTop (mkF mM 75 #[.val (.int p1), .val (.int p2), .val (.ref b2), .val (.ref b42), .val (.int (3 : Int32)), .unset, .unset] [(.int (2147483647 : Int32)), (.int p2)])) _
      refine XS.iand X68.here hx rfl (hb hby at_75) rfl ?_
      show Steps pP.tables eE below (T68.setTop (mkF mM 76 #[.val (.int p1), .val (.int p2), .val (.ref b2), .val (.ref b42), .val (.int (3 : Int32)), .unset, .unset] [(.int (p2 &&& (2147483647 : Int32)))])) _
      refine XS.iconst X68.here hx rfl (hb hby at_76) ?_
      show Steps pP.tables eE below (T68.setTop (mkF mM 77 #[.val (.int p1), .val (.int p2), .val (.ref b2), .val (.ref b42), .val (.int (3 : Int32)), .unset, .unset] [(.int (5 : Int32)), (.int (p2 &&& (2147483647 : Int32)))])) _
      refine iremM (g := (mkF mM 77 #[.val (.int p1), .val (.int p2), .val (.ref b2), .val (.ref b42), .val (.int (3 : Int32)), .unset, .unset] [(.int (5 : Int32)), (.int (p2 &&& (2147483647 : Int32)))])) X68 hx rfl (hb hby at_77) rfl (by decide) ?_
      show Steps pP.tables eE below (T68.setTop (mkF mM 78 #[.val (.int p1), .val (.int p2), .val (.ref b2), .val (.ref b42), .val (.int (3 : Int32)), .unset, .unset] [(.int ((p2 &&& (2147483647 : Int32)) % (5 : Int32)))])) _
      refine XS.istore X68.here hx rfl (hb hby at_78) rfl (l' := #[.val (.int p1), .val (.int p2), .val (.ref b2), .val (.ref b42), .val (.int (3 : Int32)), .val (.int ((p2 &&& (2147483647 : Int32)) % (5 : Int32))), .unset]) rfl ?_
      exact kg)
    obtain ⟨z263, hz263⟩ : ∃ z, z = ((p2 &&& (2147483647 : Int32)) % (5 : Int32)) := ⟨_, rfl⟩
    have pr264 : ∀ tg, Steps pP.tables eE below (T68.setTop (mkF mM 80 #[.val (.int p1), .val (.int p2), .val (.ref b2), .val (.ref b42), .val (.int (3 : Int32)), .val (.int z263), .unset] [])) tg → Steps pP.tables eE below (s₁.setTop (entryFrame mM #[(.int p1), (.int p2)] maxLocals)) tg := by
      rw [hz263]; exact pr262
    have hbz263 : 0 ≤ z263.toInt ∧ z263.toInt < 5 := by rw [hz263]; exact own_rem5 _
    rcases (own_5 hbz263.1 hbz263.2) with rfl | rfl | rfl | rfl | rfl
    ·
      obtain ⟨cla265, Ara265, qa265, Sa265, Ma265, Ha265, Ga265⟩ := id V68
      have hin266 : ¬ ((3 : Int32) < 0 ∨ cla265.slots.size ≤ ((3 : Int32)).toNatClampNeg) := inb_of Sa265 ⟨by decide, by decide⟩
      have hat266 : cla265.slots[((3 : Int32)).toNatClampNeg]? = some (.int (7 : Int32)) := Has.at Ha265 hin266 rfl
      have c267 := (Arv.other (Arv.other (Arv.other (Arv.other (Arv.other (Arv.ext V39 E42) W52 ne43) W56 ne43) W60 ne43) W64 ne43) W68 ne43)
      obtain ⟨cla268, Ara268, qa268, Sa268, Ma268, Ha268, Ga268⟩ := id c267
      have hin269 : ¬ ((3 : Int32) < 0 ∨ cla268.slots.size ≤ ((3 : Int32)).toNatClampNeg) := inb_of Sa268 ⟨by decide, by decide⟩
      have hat269 : cla268.slots[((3 : Int32)).toNatClampNeg]? = some (.ref a_CHANGE) := Has.at Ha268 hin269 rfl
      have hin270 : ¬ ((0 : Int32) < 0 ∨ cla268.slots.size ≤ ((0 : Int32)).toNatClampNeg) := inb_of Sa268 ⟨by decide, by decide⟩
      have hat270 : cla268.slots[((0 : Int32)).toNatClampNeg]? = some (.ref a_SHARED) := Has.at Ha268 hin270 rfl
      have c271 := (Old.wr (Old.wr (Old.wr (Old.wr (Old.wr (Old.ext c48 E42) W52 gn44) W56 gn44) W60 gn44) W64 gn44) W68 gn44)
      have pr272 : ∀ tg, Steps pP.tables eE below (T68.setTop (mkF mM 107 #[.val (.int p1), .val (.int p2), .val (.ref b2), .val (.ref b42), .val (.int (3 : Int32)), .val (.int (0 : Int32)), .val (.int (1 : Int32))] [(.ref a_SHARED), (.ref a_CHANGE)])) tg → Steps pP.tables eE below (s₁.setTop (entryFrame mM #[(.int p1), (.int p2)] maxLocals)) tg := fun tg kg => pr264 _ (by
        show Steps pP.tables eE below (T68.setTop (mkF mM 80 #[.val (.int p1), .val (.int p2), .val (.ref b2), .val (.ref b42), .val (.int (3 : Int32)), .val (.int (0 : Int32)), .unset] [])) _
        refine XS.aloadN X68.here hx rfl (hb hby at_80) rfl rfl ?_
        show Steps pP.tables eE below (T68.setTop (mkF mM 81 #[.val (.int p1), .val (.int p2), .val (.ref b2), .val (.ref b42), .val (.int (3 : Int32)), .val (.int (0 : Int32)), .unset] [(.ref b42)])) _
        refine XS.iload X68.here hx rfl (hb hby at_81) rfl ?_
        show Steps pP.tables eE below (T68.setTop (mkF mM 83 #[.val (.int p1), .val (.int p2), .val (.ref b2), .val (.ref b42), .val (.int (3 : Int32)), .val (.int (0 : Int32)), .unset] [(.int (3 : Int32)), (.ref b42)])) _
        refine X68.iaload hx (j := (3 : Int32)) (v := (.int (7 : Int32))) (by rw [e68]; exact Ara265.1) (State.isArrayOf_alike hZ.alike Ara265.2.1) Ara265.2.2 hin266 hat266 (g := (mkF mM 83 #[.val (.int p1), .val (.int p2), .val (.ref b2), .val (.ref b42), .val (.int (3 : Int32)), .val (.int (0 : Int32)), .unset] [(.int (3 : Int32)), (.ref b42)])) rfl rfl (hb hby at_83) _ ?_
        show Steps pP.tables eE below (T68.setTop (mkF mM 84 #[.val (.int p1), .val (.int p2), .val (.ref b2), .val (.ref b42), .val (.int (3 : Int32)), .val (.int (0 : Int32)), .unset] [(.int (7 : Int32))])) _
        refine XS.iload X68.here hx rfl (hb hby at_84) rfl ?_
        show Steps pP.tables eE below (T68.setTop (mkF mM 86 #[.val (.int p1), .val (.int p2), .val (.ref b2), .val (.ref b42), .val (.int (3 : Int32)), .val (.int (0 : Int32)), .unset] [(.int (0 : Int32)), (.int (7 : Int32))])) _
        refine XS.ishr X68.here hx rfl (hb hby at_86) rfl ?_
        show Steps pP.tables eE below (T68.setTop (mkF mM 87 #[.val (.int p1), .val (.int p2), .val (.ref b2), .val (.ref b42), .val (.int (3 : Int32)), .val (.int (0 : Int32)), .unset] [(.int ((7 : Int32) >>> ((0 : Int32) &&& 31)))])) _
        refine XS.iconst X68.here hx rfl (hb hby at_87) ?_
        show Steps pP.tables eE below (T68.setTop (mkF mM 88 #[.val (.int p1), .val (.int p2), .val (.ref b2), .val (.ref b42), .val (.int (3 : Int32)), .val (.int (0 : Int32)), .unset] [(.int (1 : Int32)), (.int ((7 : Int32) >>> ((0 : Int32) &&& 31)))])) _
        refine XS.iand X68.here hx rfl (hb hby at_88) rfl ?_
        show Steps pP.tables eE below (T68.setTop (mkF mM 89 #[.val (.int p1), .val (.int p2), .val (.ref b2), .val (.ref b42), .val (.int (3 : Int32)), .val (.int (0 : Int32)), .unset] [(.int (1 : Int32))])) _
        refine XS.ifNo X68.here hx rfl (hb hby at_89) rfl ((if0 _ _).trans (feq (by decide)).1) ?_
        show Steps pP.tables eE below (T68.setTop (mkF mM 92 #[.val (.int p1), .val (.int p2), .val (.ref b2), .val (.ref b42), .val (.int (3 : Int32)), .val (.int (0 : Int32)), .unset] [])) _
        refine XS.iconst X68.here hx rfl (hb hby at_92) ?_
        show Steps pP.tables eE below (T68.setTop (mkF mM 93 #[.val (.int p1), .val (.int p2), .val (.ref b2), .val (.ref b42), .val (.int (3 : Int32)), .val (.int (0 : Int32)), .unset] [(.int (1 : Int32))])) _
        refine XS.goto X68.here hx rfl (pc0 := 93) (pc' := 97) rfl (hb hby at_93) (by decide) (by decide) ?_
        show Steps pP.tables eE below (T68.setTop (mkF mM 97 #[.val (.int p1), .val (.int p2), .val (.ref b2), .val (.ref b42), .val (.int (3 : Int32)), .val (.int (0 : Int32)), .unset] [(.int (1 : Int32))])) _
        refine XS.istore X68.here hx rfl (hb hby at_97) rfl (l' := #[.val (.int p1), .val (.int p2), .val (.ref b2), .val (.ref b42), .val (.int (3 : Int32)), .val (.int (0 : Int32)), .val (.int (1 : Int32))]) rfl ?_
        show Steps pP.tables eE below (T68.setTop (mkF mM 99 #[.val (.int p1), .val (.int p2), .val (.ref b2), .val (.ref b42), .val (.int (3 : Int32)), .val (.int (0 : Int32)), .val (.int (1 : Int32))] [])) _
        refine XS.aloadN X68.here hx rfl (hb hby at_99) rfl rfl ?_
        show Steps pP.tables eE below (T68.setTop (mkF mM 100 #[.val (.int p1), .val (.int p2), .val (.ref b2), .val (.ref b42), .val (.int (3 : Int32)), .val (.int (0 : Int32)), .val (.int (1 : Int32))] [(.ref b2)])) _
        refine XS.iload X68.here hx rfl (hb hby at_100) rfl ?_
        show Steps pP.tables eE below (T68.setTop (mkF mM 102 #[.val (.int p1), .val (.int p2), .val (.ref b2), .val (.ref b42), .val (.int (3 : Int32)), .val (.int (0 : Int32)), .val (.int (1 : Int32))] [(.int (3 : Int32)), (.ref b2)])) _
        refine X68.aaload hx (j := (3 : Int32)) (v := (.ref a_CHANGE)) (by rw [e68]; exact Ara268.1) (State.isArrayOf_alike hZ.alike Ara268.2.1) rfl Ara268.2.2 hin269 hat269 (g := (mkF mM 102 #[.val (.int p1), .val (.int p2), .val (.ref b2), .val (.ref b42), .val (.int (3 : Int32)), .val (.int (0 : Int32)), .val (.int (1 : Int32))] [(.int (3 : Int32)), (.ref b2)])) rfl rfl (hb hby at_102) _ ?_
        show Steps pP.tables eE below (T68.setTop (mkF mM 103 #[.val (.int p1), .val (.int p2), .val (.ref b2), .val (.ref b42), .val (.int (3 : Int32)), .val (.int (0 : Int32)), .val (.int (1 : Int32))] [(.ref a_CHANGE)])) _
        refine XS.aloadN X68.here hx rfl (hb hby at_103) rfl rfl ?_
        show Steps pP.tables eE below (T68.setTop (mkF mM 104 #[.val (.int p1), .val (.int p2), .val (.ref b2), .val (.ref b42), .val (.int (3 : Int32)), .val (.int (0 : Int32)), .val (.int (1 : Int32))] [(.ref b2), (.ref a_CHANGE)])) _
        refine XS.iload X68.here hx rfl (hb hby at_104) rfl ?_
        show Steps pP.tables eE below (T68.setTop (mkF mM 106 #[.val (.int p1), .val (.int p2), .val (.ref b2), .val (.ref b42), .val (.int (3 : Int32)), .val (.int (0 : Int32)), .val (.int (1 : Int32))] [(.int (0 : Int32)), (.ref b2), (.ref a_CHANGE)])) _
        refine X68.aaload hx (j := (0 : Int32)) (v := (.ref a_SHARED)) (by rw [e68]; exact Ara268.1) (State.isArrayOf_alike hZ.alike Ara268.2.1) rfl Ara268.2.2 hin270 hat270 (g := (mkF mM 106 #[.val (.int p1), .val (.int p2), .val (.ref b2), .val (.ref b42), .val (.int (3 : Int32)), .val (.int (0 : Int32)), .val (.int (1 : Int32))] [(.int (0 : Int32)), (.ref b2), (.ref a_CHANGE)])) rfl rfl (hb hby at_106) _ ?_
        exact kg)
      have c273 := (Nat.le_trans (Nat.le_trans (Nat.le_trans (Nat.le_trans (Nat.le_trans (Nat.le_trans c45 E42.1) (Keep.of_wr W52).1) (Keep.of_wr W56).1) (Keep.of_wr W60).1) (Keep.of_wr W64).1) (Keep.of_wr W68).1)
      obtain ⟨cq274, kq274, qa274, qb274, qc274⟩ := isOf hZ e68 (Exa.ext (c271).2 E_CHANGE)
      obtain ⟨_, _, ⟨T274, L274, kk274, nn274⟩, -, X274, ⟨Lc274, hQ274, l274, y274, z274⟩, st274⟩ := X68.virtualBack hx (y := (⟨"com/example/settle/settle/service/LockTable$Mode", "keepsOut", "(Lcom/example/settle/settle/service/LockTable$Mode;)Z"⟩ : MethodName)) (z := (⟨"com/example/settle/settle/service/LockTable$Mode", "keepsOut", "(Lcom/example/settle/settle/service/LockTable$Mode;)Z"⟩ : MethodName)) hown (mvT hZ (hw _ (List.mem_of_getElem? (i := 16) rfl))) (mvT hZ (hw _ (List.mem_of_getElem? (i := 17) rfl))) (notFace_of_selects (args := #[]) (mvT hZ (hw _ (List.mem_of_getElem? (i := 19) rfl)))) (mvT hZ (hw _ (List.mem_of_getElem? (i := 19) rfl))) (mvT hZ (hw _ (List.mem_of_getElem? (i := 18) rfl))) (by decide) (backOf (W := 0) (rm230 l Z a0 hw [] a_SHARED a_UPDATE a_EXCLUSIVE a_CHANGE a_KEEP h68 n0 c273 c271 S_SHARED E_SHARED S_UPDATE E_UPDATE S_EXCLUSIVE E_EXCLUSIVE S_CHANGE E_CHANGE S_KEEP E_KEEP F_SHARED_ordinal F_CHANGE_ordinal F_EXCLUSIVE_ordinal F_KEEP_ordinal F_UPDATE_ordinal) hZ (hw _ (List.mem_of_getElem? (i := 20) rfl)) (hw _ (List.mem_of_getElem? (i := 3) rfl)) (by decide) (by decide)) qa274 qc274 (g := (mkF mM 107 #[.val (.int p1), .val (.int p2), .val (.ref b2), .val (.ref b42), .val (.int (3 : Int32)), .val (.int (0 : Int32)), .val (.int (1 : Int32))] [(.ref a_SHARED), (.ref a_CHANGE)])) rfl (by rw [hml]; rfl) (Steps.refl _) (argsL := [(.ref a_SHARED)]) (rest := []) (lenOf pd_1 rfl) rfl (by show 2 * 0 + _ ≤ _; exact Nat.le_of_eq rfl) (hb hby at_107) (fun _ _ => ⟨rfl, e68, (by decide : 2 + 0 ≤ _), (by decide : 10 + 0 ≤ _)⟩)
      dsimp only [Pt.U, Pt.locs, Pt.cells, Pt.slots] at X274 l274 y274 z274 st274 hQ274
      subst l274 y274 z274
      obtain ⟨rfl, Nq274, e274⟩ := hQ274
      have N274 := Fr.app N68 Nq274
      have pr275 : ∀ tg, Steps pP.tables eE below (T274.setTop (mkF mM 110 #[.val (.int p1), .val (.int p2), .val (.ref b2), .val (.ref b42), .val (.int (3 : Int32)), .val (.int (0 : Int32)), .val (.int (1 : Int32))] [(.int (1 : Int32))])) tg → Steps pP.tables eE below (s₁.setTop (entryFrame mM #[(.int p1), (.int p2)] maxLocals)) tg := fun tg kg => pr272 _ (st274.trans kg)
      have pr276 : ∀ tg, Steps pP.tables eE below (T274.setTop (mkF mM 120 #[.val (.int p1), .val (.int p2), .val (.ref b2), .val (.ref b42), .val (.int (3 : Int32)), .val (.int (0 : Int32)), .val (.int (1 : Int32))] [(.int (1 : Int32))])) tg → Steps pP.tables eE below (s₁.setTop (entryFrame mM #[(.int p1), (.int p2)] maxLocals)) tg := fun tg kg => pr275 _ (by
        show Steps pP.tables eE below (T274.setTop (mkF mM 110 #[.val (.int p1), .val (.int p2), .val (.ref b2), .val (.ref b42), .val (.int (3 : Int32)), .val (.int (0 : Int32)), .val (.int (1 : Int32))] [(.int (1 : Int32))])) _
        refine XS.iload X274.here hx rfl (hb hby at_110) rfl ?_
        show Steps pP.tables eE below (T274.setTop (mkF mM 112 #[.val (.int p1), .val (.int p2), .val (.ref b2), .val (.ref b42), .val (.int (3 : Int32)), .val (.int (0 : Int32)), .val (.int (1 : Int32))] [(.int (1 : Int32)), (.int (1 : Int32))])) _
        refine XS.icmpNo X274.here hx rfl (hb hby at_112) rfl (teq (by decide)).2 ?_
        show Steps pP.tables eE below (T274.setTop (mkF mM 115 #[.val (.int p1), .val (.int p2), .val (.ref b2), .val (.ref b42), .val (.int (3 : Int32)), .val (.int (0 : Int32)), .val (.int (1 : Int32))] [])) _
        refine XS.iconst X274.here hx rfl (hb hby at_115) ?_
        show Steps pP.tables eE below (T274.setTop (mkF mM 116 #[.val (.int p1), .val (.int p2), .val (.ref b2), .val (.ref b42), .val (.int (3 : Int32)), .val (.int (0 : Int32)), .val (.int (1 : Int32))] [(.int (1 : Int32))])) _
        refine XS.goto X274.here hx rfl (pc0 := 116) (pc' := 120) rfl (hb hby at_116) (by decide) (by decide) ?_
        exact kg)
      obtain ⟨fs, hr, hrun, hended, hW, hsame⟩ := X274.leave (v := some (.int (1 : Int32))) (fun h => by rw [Bd.returns] at h; cases h)
      refine ⟨_, _, pr276 _ (retOut X274 hx (t := .boolean) Bd.returns rfl (Or.inl ⟨rfl, Or.inr (Or.inl rfl), _, rfl⟩) (hb hby at_120) hr), hrun, hended, _, _, rfl, ?_, ⟨_, rfl⟩, hW, hsame.mono (by decide) (by decide)⟩
      show Q0 Z p1 p2 a_SHARED a_UPDATE a_EXCLUSIVE a_CHANGE a_KEEP h0 n0 _ T274.heap _
      rw [e274]
      exact ⟨rfl, N274⟩
    ·
      obtain ⟨cla277, Ara277, qa277, Sa277, Ma277, Ha277, Ga277⟩ := id V68
      have hin278 : ¬ ((3 : Int32) < 0 ∨ cla277.slots.size ≤ ((3 : Int32)).toNatClampNeg) := inb_of Sa277 ⟨by decide, by decide⟩
      have hat278 : cla277.slots[((3 : Int32)).toNatClampNeg]? = some (.int (7 : Int32)) := Has.at Ha277 hin278 rfl
      have c279 := (Arv.other (Arv.other (Arv.other (Arv.other (Arv.other (Arv.ext V39 E42) W52 ne43) W56 ne43) W60 ne43) W64 ne43) W68 ne43)
      obtain ⟨cla280, Ara280, qa280, Sa280, Ma280, Ha280, Ga280⟩ := id c279
      have hin281 : ¬ ((3 : Int32) < 0 ∨ cla280.slots.size ≤ ((3 : Int32)).toNatClampNeg) := inb_of Sa280 ⟨by decide, by decide⟩
      have hat281 : cla280.slots[((3 : Int32)).toNatClampNeg]? = some (.ref a_CHANGE) := Has.at Ha280 hin281 rfl
      have hin282 : ¬ ((1 : Int32) < 0 ∨ cla280.slots.size ≤ ((1 : Int32)).toNatClampNeg) := inb_of Sa280 ⟨by decide, by decide⟩
      have hat282 : cla280.slots[((1 : Int32)).toNatClampNeg]? = some (.ref a_UPDATE) := Has.at Ha280 hin282 rfl
      have c283 := (Old.wr (Old.wr (Old.wr (Old.wr (Old.wr (Old.ext c48 E42) W52 gn44) W56 gn44) W60 gn44) W64 gn44) W68 gn44)
      have pr284 : ∀ tg, Steps pP.tables eE below (T68.setTop (mkF mM 107 #[.val (.int p1), .val (.int p2), .val (.ref b2), .val (.ref b42), .val (.int (3 : Int32)), .val (.int (1 : Int32)), .val (.int (1 : Int32))] [(.ref a_UPDATE), (.ref a_CHANGE)])) tg → Steps pP.tables eE below (s₁.setTop (entryFrame mM #[(.int p1), (.int p2)] maxLocals)) tg := fun tg kg => pr264 _ (by
        show Steps pP.tables eE below (T68.setTop (mkF mM 80 #[.val (.int p1), .val (.int p2), .val (.ref b2), .val (.ref b42), .val (.int (3 : Int32)), .val (.int (1 : Int32)), .unset] [])) _
        refine XS.aloadN X68.here hx rfl (hb hby at_80) rfl rfl ?_
        show Steps pP.tables eE below (T68.setTop (mkF mM 81 #[.val (.int p1), .val (.int p2), .val (.ref b2), .val (.ref b42), .val (.int (3 : Int32)), .val (.int (1 : Int32)), .unset] [(.ref b42)])) _
        refine XS.iload X68.here hx rfl (hb hby at_81) rfl ?_
        show Steps pP.tables eE below (T68.setTop (mkF mM 83 #[.val (.int p1), .val (.int p2), .val (.ref b2), .val (.ref b42), .val (.int (3 : Int32)), .val (.int (1 : Int32)), .unset] [(.int (3 : Int32)), (.ref b42)])) _
        refine X68.iaload hx (j := (3 : Int32)) (v := (.int (7 : Int32))) (by rw [e68]; exact Ara277.1) (State.isArrayOf_alike hZ.alike Ara277.2.1) Ara277.2.2 hin278 hat278 (g := (mkF mM 83 #[.val (.int p1), .val (.int p2), .val (.ref b2), .val (.ref b42), .val (.int (3 : Int32)), .val (.int (1 : Int32)), .unset] [(.int (3 : Int32)), (.ref b42)])) rfl rfl (hb hby at_83) _ ?_
        show Steps pP.tables eE below (T68.setTop (mkF mM 84 #[.val (.int p1), .val (.int p2), .val (.ref b2), .val (.ref b42), .val (.int (3 : Int32)), .val (.int (1 : Int32)), .unset] [(.int (7 : Int32))])) _
        refine XS.iload X68.here hx rfl (hb hby at_84) rfl ?_
        show Steps pP.tables eE below (T68.setTop (mkF mM 86 #[.val (.int p1), .val (.int p2), .val (.ref b2), .val (.ref b42), .val (.int (3 : Int32)), .val (.int (1 : Int32)), .unset] [(.int (1 : Int32)), (.int (7 : Int32))])) _
        refine XS.ishr X68.here hx rfl (hb hby at_86) rfl ?_
        show Steps pP.tables eE below (T68.setTop (mkF mM 87 #[.val (.int p1), .val (.int p2), .val (.ref b2), .val (.ref b42), .val (.int (3 : Int32)), .val (.int (1 : Int32)), .unset] [(.int ((7 : Int32) >>> ((1 : Int32) &&& 31)))])) _
        refine XS.iconst X68.here hx rfl (hb hby at_87) ?_
        show Steps pP.tables eE below (T68.setTop (mkF mM 88 #[.val (.int p1), .val (.int p2), .val (.ref b2), .val (.ref b42), .val (.int (3 : Int32)), .val (.int (1 : Int32)), .unset] [(.int (1 : Int32)), (.int ((7 : Int32) >>> ((1 : Int32) &&& 31)))])) _
        refine XS.iand X68.here hx rfl (hb hby at_88) rfl ?_
        show Steps pP.tables eE below (T68.setTop (mkF mM 89 #[.val (.int p1), .val (.int p2), .val (.ref b2), .val (.ref b42), .val (.int (3 : Int32)), .val (.int (1 : Int32)), .unset] [(.int (1 : Int32))])) _
        refine XS.ifNo X68.here hx rfl (hb hby at_89) rfl ((if0 _ _).trans (feq (by decide)).1) ?_
        show Steps pP.tables eE below (T68.setTop (mkF mM 92 #[.val (.int p1), .val (.int p2), .val (.ref b2), .val (.ref b42), .val (.int (3 : Int32)), .val (.int (1 : Int32)), .unset] [])) _
        refine XS.iconst X68.here hx rfl (hb hby at_92) ?_
        show Steps pP.tables eE below (T68.setTop (mkF mM 93 #[.val (.int p1), .val (.int p2), .val (.ref b2), .val (.ref b42), .val (.int (3 : Int32)), .val (.int (1 : Int32)), .unset] [(.int (1 : Int32))])) _
        refine XS.goto X68.here hx rfl (pc0 := 93) (pc' := 97) rfl (hb hby at_93) (by decide) (by decide) ?_
        show Steps pP.tables eE below (T68.setTop (mkF mM 97 #[.val (.int p1), .val (.int p2), .val (.ref b2), .val (.ref b42), .val (.int (3 : Int32)), .val (.int (1 : Int32)), .unset] [(.int (1 : Int32))])) _
        refine XS.istore X68.here hx rfl (hb hby at_97) rfl (l' := #[.val (.int p1), .val (.int p2), .val (.ref b2), .val (.ref b42), .val (.int (3 : Int32)), .val (.int (1 : Int32)), .val (.int (1 : Int32))]) rfl ?_
        show Steps pP.tables eE below (T68.setTop (mkF mM 99 #[.val (.int p1), .val (.int p2), .val (.ref b2), .val (.ref b42), .val (.int (3 : Int32)), .val (.int (1 : Int32)), .val (.int (1 : Int32))] [])) _
        refine XS.aloadN X68.here hx rfl (hb hby at_99) rfl rfl ?_
        show Steps pP.tables eE below (T68.setTop (mkF mM 100 #[.val (.int p1), .val (.int p2), .val (.ref b2), .val (.ref b42), .val (.int (3 : Int32)), .val (.int (1 : Int32)), .val (.int (1 : Int32))] [(.ref b2)])) _
        refine XS.iload X68.here hx rfl (hb hby at_100) rfl ?_
        show Steps pP.tables eE below (T68.setTop (mkF mM 102 #[.val (.int p1), .val (.int p2), .val (.ref b2), .val (.ref b42), .val (.int (3 : Int32)), .val (.int (1 : Int32)), .val (.int (1 : Int32))] [(.int (3 : Int32)), (.ref b2)])) _
        refine X68.aaload hx (j := (3 : Int32)) (v := (.ref a_CHANGE)) (by rw [e68]; exact Ara280.1) (State.isArrayOf_alike hZ.alike Ara280.2.1) rfl Ara280.2.2 hin281 hat281 (g := (mkF mM 102 #[.val (.int p1), .val (.int p2), .val (.ref b2), .val (.ref b42), .val (.int (3 : Int32)), .val (.int (1 : Int32)), .val (.int (1 : Int32))] [(.int (3 : Int32)), (.ref b2)])) rfl rfl (hb hby at_102) _ ?_
        show Steps pP.tables eE below (T68.setTop (mkF mM 103 #[.val (.int p1), .val (.int p2), .val (.ref b2), .val (.ref b42), .val (.int (3 : Int32)), .val (.int (1 : Int32)), .val (.int (1 : Int32))] [(.ref a_CHANGE)])) _
        refine XS.aloadN X68.here hx rfl (hb hby at_103) rfl rfl ?_
        show Steps pP.tables eE below (T68.setTop (mkF mM 104 #[.val (.int p1), .val (.int p2), .val (.ref b2), .val (.ref b42), .val (.int (3 : Int32)), .val (.int (1 : Int32)), .val (.int (1 : Int32))] [(.ref b2), (.ref a_CHANGE)])) _
        refine XS.iload X68.here hx rfl (hb hby at_104) rfl ?_
        show Steps pP.tables eE below (T68.setTop (mkF mM 106 #[.val (.int p1), .val (.int p2), .val (.ref b2), .val (.ref b42), .val (.int (3 : Int32)), .val (.int (1 : Int32)), .val (.int (1 : Int32))] [(.int (1 : Int32)), (.ref b2), (.ref a_CHANGE)])) _
        refine X68.aaload hx (j := (1 : Int32)) (v := (.ref a_UPDATE)) (by rw [e68]; exact Ara280.1) (State.isArrayOf_alike hZ.alike Ara280.2.1) rfl Ara280.2.2 hin282 hat282 (g := (mkF mM 106 #[.val (.int p1), .val (.int p2), .val (.ref b2), .val (.ref b42), .val (.int (3 : Int32)), .val (.int (1 : Int32)), .val (.int (1 : Int32))] [(.int (1 : Int32)), (.ref b2), (.ref a_CHANGE)])) rfl rfl (hb hby at_106) _ ?_
        exact kg)
      have c285 := (Nat.le_trans (Nat.le_trans (Nat.le_trans (Nat.le_trans (Nat.le_trans (Nat.le_trans c45 E42.1) (Keep.of_wr W52).1) (Keep.of_wr W56).1) (Keep.of_wr W60).1) (Keep.of_wr W64).1) (Keep.of_wr W68).1)
      obtain ⟨cq286, kq286, qa286, qb286, qc286⟩ := isOf hZ e68 (Exa.ext (c283).2 E_CHANGE)
      obtain ⟨_, _, ⟨T286, L286, kk286, nn286⟩, -, X286, ⟨Lc286, hQ286, l286, y286, z286⟩, st286⟩ := X68.virtualBack hx (y := (⟨"com/example/settle/settle/service/LockTable$Mode", "keepsOut", "(Lcom/example/settle/settle/service/LockTable$Mode;)Z"⟩ : MethodName)) (z := (⟨"com/example/settle/settle/service/LockTable$Mode", "keepsOut", "(Lcom/example/settle/settle/service/LockTable$Mode;)Z"⟩ : MethodName)) hown (mvT hZ (hw _ (List.mem_of_getElem? (i := 16) rfl))) (mvT hZ (hw _ (List.mem_of_getElem? (i := 17) rfl))) (notFace_of_selects (args := #[]) (mvT hZ (hw _ (List.mem_of_getElem? (i := 19) rfl)))) (mvT hZ (hw _ (List.mem_of_getElem? (i := 19) rfl))) (mvT hZ (hw _ (List.mem_of_getElem? (i := 18) rfl))) (by decide) (backOf (W := 0) (rm231 l Z a0 hw [] a_SHARED a_UPDATE a_EXCLUSIVE a_CHANGE a_KEEP h68 n0 c285 c283 S_SHARED E_SHARED S_UPDATE E_UPDATE S_EXCLUSIVE E_EXCLUSIVE S_CHANGE E_CHANGE S_KEEP E_KEEP F_SHARED_ordinal F_CHANGE_ordinal F_EXCLUSIVE_ordinal F_KEEP_ordinal F_UPDATE_ordinal) hZ (hw _ (List.mem_of_getElem? (i := 20) rfl)) (hw _ (List.mem_of_getElem? (i := 3) rfl)) (by decide) (by decide)) qa286 qc286 (g := (mkF mM 107 #[.val (.int p1), .val (.int p2), .val (.ref b2), .val (.ref b42), .val (.int (3 : Int32)), .val (.int (1 : Int32)), .val (.int (1 : Int32))] [(.ref a_UPDATE), (.ref a_CHANGE)])) rfl (by rw [hml]; rfl) (Steps.refl _) (argsL := [(.ref a_UPDATE)]) (rest := []) (lenOf pd_1 rfl) rfl (by show 2 * 0 + _ ≤ _; exact Nat.le_of_eq rfl) (hb hby at_107) (fun _ _ => ⟨rfl, e68, (by decide : 2 + 0 ≤ _), (by decide : 10 + 0 ≤ _)⟩)
      dsimp only [Pt.U, Pt.locs, Pt.cells, Pt.slots] at X286 l286 y286 z286 st286 hQ286
      subst l286 y286 z286
      obtain ⟨rfl, Nq286, e286⟩ := hQ286
      have N286 := Fr.app N68 Nq286
      have pr287 : ∀ tg, Steps pP.tables eE below (T286.setTop (mkF mM 110 #[.val (.int p1), .val (.int p2), .val (.ref b2), .val (.ref b42), .val (.int (3 : Int32)), .val (.int (1 : Int32)), .val (.int (1 : Int32))] [(.int (1 : Int32))])) tg → Steps pP.tables eE below (s₁.setTop (entryFrame mM #[(.int p1), (.int p2)] maxLocals)) tg := fun tg kg => pr284 _ (st286.trans kg)
      have pr288 : ∀ tg, Steps pP.tables eE below (T286.setTop (mkF mM 120 #[.val (.int p1), .val (.int p2), .val (.ref b2), .val (.ref b42), .val (.int (3 : Int32)), .val (.int (1 : Int32)), .val (.int (1 : Int32))] [(.int (1 : Int32))])) tg → Steps pP.tables eE below (s₁.setTop (entryFrame mM #[(.int p1), (.int p2)] maxLocals)) tg := fun tg kg => pr287 _ (by
        show Steps pP.tables eE below (T286.setTop (mkF mM 110 #[.val (.int p1), .val (.int p2), .val (.ref b2), .val (.ref b42), .val (.int (3 : Int32)), .val (.int (1 : Int32)), .val (.int (1 : Int32))] [(.int (1 : Int32))])) _
        refine XS.iload X286.here hx rfl (hb hby at_110) rfl ?_
        show Steps pP.tables eE below (T286.setTop (mkF mM 112 #[.val (.int p1), .val (.int p2), .val (.ref b2), .val (.ref b42), .val (.int (3 : Int32)), .val (.int (1 : Int32)), .val (.int (1 : Int32))] [(.int (1 : Int32)), (.int (1 : Int32))])) _
        refine XS.icmpNo X286.here hx rfl (hb hby at_112) rfl (teq (by decide)).2 ?_
        show Steps pP.tables eE below (T286.setTop (mkF mM 115 #[.val (.int p1), .val (.int p2), .val (.ref b2), .val (.ref b42), .val (.int (3 : Int32)), .val (.int (1 : Int32)), .val (.int (1 : Int32))] [])) _
        refine XS.iconst X286.here hx rfl (hb hby at_115) ?_
        show Steps pP.tables eE below (T286.setTop (mkF mM 116 #[.val (.int p1), .val (.int p2), .val (.ref b2), .val (.ref b42), .val (.int (3 : Int32)), .val (.int (1 : Int32)), .val (.int (1 : Int32))] [(.int (1 : Int32))])) _
        refine XS.goto X286.here hx rfl (pc0 := 116) (pc' := 120) rfl (hb hby at_116) (by decide) (by decide) ?_
        exact kg)
      obtain ⟨fs, hr, hrun, hended, hW, hsame⟩ := X286.leave (v := some (.int (1 : Int32))) (fun h => by rw [Bd.returns] at h; cases h)
      refine ⟨_, _, pr288 _ (retOut X286 hx (t := .boolean) Bd.returns rfl (Or.inl ⟨rfl, Or.inr (Or.inl rfl), _, rfl⟩) (hb hby at_120) hr), hrun, hended, _, _, rfl, ?_, ⟨_, rfl⟩, hW, hsame.mono (by decide) (by decide)⟩
      show Q0 Z p1 p2 a_SHARED a_UPDATE a_EXCLUSIVE a_CHANGE a_KEEP h0 n0 _ T286.heap _
      rw [e286]
      exact ⟨rfl, N286⟩
    ·
      obtain ⟨cla289, Ara289, qa289, Sa289, Ma289, Ha289, Ga289⟩ := id V68
      have hin290 : ¬ ((3 : Int32) < 0 ∨ cla289.slots.size ≤ ((3 : Int32)).toNatClampNeg) := inb_of Sa289 ⟨by decide, by decide⟩
      have hat290 : cla289.slots[((3 : Int32)).toNatClampNeg]? = some (.int (7 : Int32)) := Has.at Ha289 hin290 rfl
      have c291 := (Arv.other (Arv.other (Arv.other (Arv.other (Arv.other (Arv.ext V39 E42) W52 ne43) W56 ne43) W60 ne43) W64 ne43) W68 ne43)
      obtain ⟨cla292, Ara292, qa292, Sa292, Ma292, Ha292, Ga292⟩ := id c291
      have hin293 : ¬ ((3 : Int32) < 0 ∨ cla292.slots.size ≤ ((3 : Int32)).toNatClampNeg) := inb_of Sa292 ⟨by decide, by decide⟩
      have hat293 : cla292.slots[((3 : Int32)).toNatClampNeg]? = some (.ref a_CHANGE) := Has.at Ha292 hin293 rfl
      have hin294 : ¬ ((2 : Int32) < 0 ∨ cla292.slots.size ≤ ((2 : Int32)).toNatClampNeg) := inb_of Sa292 ⟨by decide, by decide⟩
      have hat294 : cla292.slots[((2 : Int32)).toNatClampNeg]? = some (.ref a_EXCLUSIVE) := Has.at Ha292 hin294 rfl
      have c295 := (Old.wr (Old.wr (Old.wr (Old.wr (Old.wr (Old.ext c48 E42) W52 gn44) W56 gn44) W60 gn44) W64 gn44) W68 gn44)
      have pr296 : ∀ tg, Steps pP.tables eE below (T68.setTop (mkF mM 107 #[.val (.int p1), .val (.int p2), .val (.ref b2), .val (.ref b42), .val (.int (3 : Int32)), .val (.int (2 : Int32)), .val (.int (1 : Int32))] [(.ref a_EXCLUSIVE), (.ref a_CHANGE)])) tg → Steps pP.tables eE below (s₁.setTop (entryFrame mM #[(.int p1), (.int p2)] maxLocals)) tg := fun tg kg => pr264 _ (by
        show Steps pP.tables eE below (T68.setTop (mkF mM 80 #[.val (.int p1), .val (.int p2), .val (.ref b2), .val (.ref b42), .val (.int (3 : Int32)), .val (.int (2 : Int32)), .unset] [])) _
        refine XS.aloadN X68.here hx rfl (hb hby at_80) rfl rfl ?_
        show Steps pP.tables eE below (T68.setTop (mkF mM 81 #[.val (.int p1), .val (.int p2), .val (.ref b2), .val (.ref b42), .val (.int (3 : Int32)), .val (.int (2 : Int32)), .unset] [(.ref b42)])) _
        refine XS.iload X68.here hx rfl (hb hby at_81) rfl ?_
        show Steps pP.tables eE below (T68.setTop (mkF mM 83 #[.val (.int p1), .val (.int p2), .val (.ref b2), .val (.ref b42), .val (.int (3 : Int32)), .val (.int (2 : Int32)), .unset] [(.int (3 : Int32)), (.ref b42)])) _
        refine X68.iaload hx (j := (3 : Int32)) (v := (.int (7 : Int32))) (by rw [e68]; exact Ara289.1) (State.isArrayOf_alike hZ.alike Ara289.2.1) Ara289.2.2 hin290 hat290 (g := (mkF mM 83 #[.val (.int p1), .val (.int p2), .val (.ref b2), .val (.ref b42), .val (.int (3 : Int32)), .val (.int (2 : Int32)), .unset] [(.int (3 : Int32)), (.ref b42)])) rfl rfl (hb hby at_83) _ ?_
        show Steps pP.tables eE below (T68.setTop (mkF mM 84 #[.val (.int p1), .val (.int p2), .val (.ref b2), .val (.ref b42), .val (.int (3 : Int32)), .val (.int (2 : Int32)), .unset] [(.int (7 : Int32))])) _
        refine XS.iload X68.here hx rfl (hb hby at_84) rfl ?_
        show Steps pP.tables eE below (T68.setTop (mkF mM 86 #[.val (.int p1), .val (.int p2), .val (.ref b2), .val (.ref b42), .val (.int (3 : Int32)), .val (.int (2 : Int32)), .unset] [(.int (2 : Int32)), (.int (7 : Int32))])) _
        refine XS.ishr X68.here hx rfl (hb hby at_86) rfl ?_
        show Steps pP.tables eE below (T68.setTop (mkF mM 87 #[.val (.int p1), .val (.int p2), .val (.ref b2), .val (.ref b42), .val (.int (3 : Int32)), .val (.int (2 : Int32)), .unset] [(.int ((7 : Int32) >>> ((2 : Int32) &&& 31)))])) _
        refine XS.iconst X68.here hx rfl (hb hby at_87) ?_
        show Steps pP.tables eE below (T68.setTop (mkF mM 88 #[.val (.int p1), .val (.int p2), .val (.ref b2), .val (.ref b42), .val (.int (3 : Int32)), .val (.int (2 : Int32)), .unset] [(.int (1 : Int32)), (.int ((7 : Int32) >>> ((2 : Int32) &&& 31)))])) _
        refine XS.iand X68.here hx rfl (hb hby at_88) rfl ?_
        show Steps pP.tables eE below (T68.setTop (mkF mM 89 #[.val (.int p1), .val (.int p2), .val (.ref b2), .val (.ref b42), .val (.int (3 : Int32)), .val (.int (2 : Int32)), .unset] [(.int (1 : Int32))])) _
        refine XS.ifNo X68.here hx rfl (hb hby at_89) rfl ((if0 _ _).trans (feq (by decide)).1) ?_
        show Steps pP.tables eE below (T68.setTop (mkF mM 92 #[.val (.int p1), .val (.int p2), .val (.ref b2), .val (.ref b42), .val (.int (3 : Int32)), .val (.int (2 : Int32)), .unset] [])) _
        refine XS.iconst X68.here hx rfl (hb hby at_92) ?_
        show Steps pP.tables eE below (T68.setTop (mkF mM 93 #[.val (.int p1), .val (.int p2), .val (.ref b2), .val (.ref b42), .val (.int (3 : Int32)), .val (.int (2 : Int32)), .unset] [(.int (1 : Int32))])) _
        refine XS.goto X68.here hx rfl (pc0 := 93) (pc' := 97) rfl (hb hby at_93) (by decide) (by decide) ?_
        show Steps pP.tables eE below (T68.setTop (mkF mM 97 #[.val (.int p1), .val (.int p2), .val (.ref b2), .val (.ref b42), .val (.int (3 : Int32)), .val (.int (2 : Int32)), .unset] [(.int (1 : Int32))])) _
        refine XS.istore X68.here hx rfl (hb hby at_97) rfl (l' := #[.val (.int p1), .val (.int p2), .val (.ref b2), .val (.ref b42), .val (.int (3 : Int32)), .val (.int (2 : Int32)), .val (.int (1 : Int32))]) rfl ?_
        show Steps pP.tables eE below (T68.setTop (mkF mM 99 #[.val (.int p1), .val (.int p2), .val (.ref b2), .val (.ref b42), .val (.int (3 : Int32)), .val (.int (2 : Int32)), .val (.int (1 : Int32))] [])) _
        refine XS.aloadN X68.here hx rfl (hb hby at_99) rfl rfl ?_
        show Steps pP.tables eE below (T68.setTop (mkF mM 100 #[.val (.int p1), .val (.int p2), .val (.ref b2), .val (.ref b42), .val (.int (3 : Int32)), .val (.int (2 : Int32)), .val (.int (1 : Int32))] [(.ref b2)])) _
        refine XS.iload X68.here hx rfl (hb hby at_100) rfl ?_
        show Steps pP.tables eE below (T68.setTop (mkF mM 102 #[.val (.int p1), .val (.int p2), .val (.ref b2), .val (.ref b42), .val (.int (3 : Int32)), .val (.int (2 : Int32)), .val (.int (1 : Int32))] [(.int (3 : Int32)), (.ref b2)])) _
        refine X68.aaload hx (j := (3 : Int32)) (v := (.ref a_CHANGE)) (by rw [e68]; exact Ara292.1) (State.isArrayOf_alike hZ.alike Ara292.2.1) rfl Ara292.2.2 hin293 hat293 (g := (mkF mM 102 #[.val (.int p1), .val (.int p2), .val (.ref b2), .val (.ref b42), .val (.int (3 : Int32)), .val (.int (2 : Int32)), .val (.int (1 : Int32))] [(.int (3 : Int32)), (.ref b2)])) rfl rfl (hb hby at_102) _ ?_
        show Steps pP.tables eE below (T68.setTop (mkF mM 103 #[.val (.int p1), .val (.int p2), .val (.ref b2), .val (.ref b42), .val (.int (3 : Int32)), .val (.int (2 : Int32)), .val (.int (1 : Int32))] [(.ref a_CHANGE)])) _
        refine XS.aloadN X68.here hx rfl (hb hby at_103) rfl rfl ?_
        show Steps pP.tables eE below (T68.setTop (mkF mM 104 #[.val (.int p1), .val (.int p2), .val (.ref b2), .val (.ref b42), .val (.int (3 : Int32)), .val (.int (2 : Int32)), .val (.int (1 : Int32))] [(.ref b2), (.ref a_CHANGE)])) _
        refine XS.iload X68.here hx rfl (hb hby at_104) rfl ?_
        show Steps pP.tables eE below (T68.setTop (mkF mM 106 #[.val (.int p1), .val (.int p2), .val (.ref b2), .val (.ref b42), .val (.int (3 : Int32)), .val (.int (2 : Int32)), .val (.int (1 : Int32))] [(.int (2 : Int32)), (.ref b2), (.ref a_CHANGE)])) _
        refine X68.aaload hx (j := (2 : Int32)) (v := (.ref a_EXCLUSIVE)) (by rw [e68]; exact Ara292.1) (State.isArrayOf_alike hZ.alike Ara292.2.1) rfl Ara292.2.2 hin294 hat294 (g := (mkF mM 106 #[.val (.int p1), .val (.int p2), .val (.ref b2), .val (.ref b42), .val (.int (3 : Int32)), .val (.int (2 : Int32)), .val (.int (1 : Int32))] [(.int (2 : Int32)), (.ref b2), (.ref a_CHANGE)])) rfl rfl (hb hby at_106) _ ?_
        exact kg)
      have c297 := (Nat.le_trans (Nat.le_trans (Nat.le_trans (Nat.le_trans (Nat.le_trans (Nat.le_trans c45 E42.1) (Keep.of_wr W52).1) (Keep.of_wr W56).1) (Keep.of_wr W60).1) (Keep.of_wr W64).1) (Keep.of_wr W68).1)
      obtain ⟨cq298, kq298, qa298, qb298, qc298⟩ := isOf hZ e68 (Exa.ext (c295).2 E_CHANGE)
      obtain ⟨_, _, ⟨T298, L298, kk298, nn298⟩, -, X298, ⟨Lc298, hQ298, l298, y298, z298⟩, st298⟩ := X68.virtualBack hx (y := (⟨"com/example/settle/settle/service/LockTable$Mode", "keepsOut", "(Lcom/example/settle/settle/service/LockTable$Mode;)Z"⟩ : MethodName)) (z := (⟨"com/example/settle/settle/service/LockTable$Mode", "keepsOut", "(Lcom/example/settle/settle/service/LockTable$Mode;)Z"⟩ : MethodName)) hown (mvT hZ (hw _ (List.mem_of_getElem? (i := 16) rfl))) (mvT hZ (hw _ (List.mem_of_getElem? (i := 17) rfl))) (notFace_of_selects (args := #[]) (mvT hZ (hw _ (List.mem_of_getElem? (i := 19) rfl)))) (mvT hZ (hw _ (List.mem_of_getElem? (i := 19) rfl))) (mvT hZ (hw _ (List.mem_of_getElem? (i := 18) rfl))) (by decide) (backOf (W := 0) (rm232 l Z a0 hw [] a_SHARED a_UPDATE a_EXCLUSIVE a_CHANGE a_KEEP h68 n0 c297 c295 S_SHARED E_SHARED S_UPDATE E_UPDATE S_EXCLUSIVE E_EXCLUSIVE S_CHANGE E_CHANGE S_KEEP E_KEEP F_SHARED_ordinal F_CHANGE_ordinal F_EXCLUSIVE_ordinal F_KEEP_ordinal F_UPDATE_ordinal) hZ (hw _ (List.mem_of_getElem? (i := 20) rfl)) (hw _ (List.mem_of_getElem? (i := 3) rfl)) (by decide) (by decide)) qa298 qc298 (g := (mkF mM 107 #[.val (.int p1), .val (.int p2), .val (.ref b2), .val (.ref b42), .val (.int (3 : Int32)), .val (.int (2 : Int32)), .val (.int (1 : Int32))] [(.ref a_EXCLUSIVE), (.ref a_CHANGE)])) rfl (by rw [hml]; rfl) (Steps.refl _) (argsL := [(.ref a_EXCLUSIVE)]) (rest := []) (lenOf pd_1 rfl) rfl (by show 2 * 0 + _ ≤ _; exact Nat.le_of_eq rfl) (hb hby at_107) (fun _ _ => ⟨rfl, e68, (by decide : 2 + 0 ≤ _), (by decide : 10 + 0 ≤ _)⟩)
      dsimp only [Pt.U, Pt.locs, Pt.cells, Pt.slots] at X298 l298 y298 z298 st298 hQ298
      subst l298 y298 z298
      obtain ⟨rfl, Nq298, e298⟩ := hQ298
      have N298 := Fr.app N68 Nq298
      have pr299 : ∀ tg, Steps pP.tables eE below (T298.setTop (mkF mM 110 #[.val (.int p1), .val (.int p2), .val (.ref b2), .val (.ref b42), .val (.int (3 : Int32)), .val (.int (2 : Int32)), .val (.int (1 : Int32))] [(.int (1 : Int32))])) tg → Steps pP.tables eE below (s₁.setTop (entryFrame mM #[(.int p1), (.int p2)] maxLocals)) tg := fun tg kg => pr296 _ (st298.trans kg)
      have pr300 : ∀ tg, Steps pP.tables eE below (T298.setTop (mkF mM 120 #[.val (.int p1), .val (.int p2), .val (.ref b2), .val (.ref b42), .val (.int (3 : Int32)), .val (.int (2 : Int32)), .val (.int (1 : Int32))] [(.int (1 : Int32))])) tg → Steps pP.tables eE below (s₁.setTop (entryFrame mM #[(.int p1), (.int p2)] maxLocals)) tg := fun tg kg => pr299 _ (by
        show Steps pP.tables eE below (T298.setTop (mkF mM 110 #[.val (.int p1), .val (.int p2), .val (.ref b2), .val (.ref b42), .val (.int (3 : Int32)), .val (.int (2 : Int32)), .val (.int (1 : Int32))] [(.int (1 : Int32))])) _
        refine XS.iload X298.here hx rfl (hb hby at_110) rfl ?_
        show Steps pP.tables eE below (T298.setTop (mkF mM 112 #[.val (.int p1), .val (.int p2), .val (.ref b2), .val (.ref b42), .val (.int (3 : Int32)), .val (.int (2 : Int32)), .val (.int (1 : Int32))] [(.int (1 : Int32)), (.int (1 : Int32))])) _
        refine XS.icmpNo X298.here hx rfl (hb hby at_112) rfl (teq (by decide)).2 ?_
        show Steps pP.tables eE below (T298.setTop (mkF mM 115 #[.val (.int p1), .val (.int p2), .val (.ref b2), .val (.ref b42), .val (.int (3 : Int32)), .val (.int (2 : Int32)), .val (.int (1 : Int32))] [])) _
        refine XS.iconst X298.here hx rfl (hb hby at_115) ?_
        show Steps pP.tables eE below (T298.setTop (mkF mM 116 #[.val (.int p1), .val (.int p2), .val (.ref b2), .val (.ref b42), .val (.int (3 : Int32)), .val (.int (2 : Int32)), .val (.int (1 : Int32))] [(.int (1 : Int32))])) _
        refine XS.goto X298.here hx rfl (pc0 := 116) (pc' := 120) rfl (hb hby at_116) (by decide) (by decide) ?_
        exact kg)
      obtain ⟨fs, hr, hrun, hended, hW, hsame⟩ := X298.leave (v := some (.int (1 : Int32))) (fun h => by rw [Bd.returns] at h; cases h)
      refine ⟨_, _, pr300 _ (retOut X298 hx (t := .boolean) Bd.returns rfl (Or.inl ⟨rfl, Or.inr (Or.inl rfl), _, rfl⟩) (hb hby at_120) hr), hrun, hended, _, _, rfl, ?_, ⟨_, rfl⟩, hW, hsame.mono (by decide) (by decide)⟩
      show Q0 Z p1 p2 a_SHARED a_UPDATE a_EXCLUSIVE a_CHANGE a_KEEP h0 n0 _ T298.heap _
      rw [e298]
      exact ⟨rfl, N298⟩
    ·
      obtain ⟨cla301, Ara301, qa301, Sa301, Ma301, Ha301, Ga301⟩ := id V68
      have hin302 : ¬ ((3 : Int32) < 0 ∨ cla301.slots.size ≤ ((3 : Int32)).toNatClampNeg) := inb_of Sa301 ⟨by decide, by decide⟩
      have hat302 : cla301.slots[((3 : Int32)).toNatClampNeg]? = some (.int (7 : Int32)) := Has.at Ha301 hin302 rfl
      have c303 := (Arv.other (Arv.other (Arv.other (Arv.other (Arv.other (Arv.ext V39 E42) W52 ne43) W56 ne43) W60 ne43) W64 ne43) W68 ne43)
      obtain ⟨cla304, Ara304, qa304, Sa304, Ma304, Ha304, Ga304⟩ := id c303
      have hin305 : ¬ ((3 : Int32) < 0 ∨ cla304.slots.size ≤ ((3 : Int32)).toNatClampNeg) := inb_of Sa304 ⟨by decide, by decide⟩
      have hat305 : cla304.slots[((3 : Int32)).toNatClampNeg]? = some (.ref a_CHANGE) := Has.at Ha304 hin305 rfl
      have hin306 : ¬ ((3 : Int32) < 0 ∨ cla304.slots.size ≤ ((3 : Int32)).toNatClampNeg) := inb_of Sa304 ⟨by decide, by decide⟩
      have hat306 : cla304.slots[((3 : Int32)).toNatClampNeg]? = some (.ref a_CHANGE) := Has.at Ha304 hin306 rfl
      have c307 := (Old.wr (Old.wr (Old.wr (Old.wr (Old.wr (Old.ext c48 E42) W52 gn44) W56 gn44) W60 gn44) W64 gn44) W68 gn44)
      have pr308 : ∀ tg, Steps pP.tables eE below (T68.setTop (mkF mM 107 #[.val (.int p1), .val (.int p2), .val (.ref b2), .val (.ref b42), .val (.int (3 : Int32)), .val (.int (3 : Int32)), .val (.int (0 : Int32))] [(.ref a_CHANGE), (.ref a_CHANGE)])) tg → Steps pP.tables eE below (s₁.setTop (entryFrame mM #[(.int p1), (.int p2)] maxLocals)) tg := fun tg kg => pr264 _ (by
        show Steps pP.tables eE below (T68.setTop (mkF mM 80 #[.val (.int p1), .val (.int p2), .val (.ref b2), .val (.ref b42), .val (.int (3 : Int32)), .val (.int (3 : Int32)), .unset] [])) _
        refine XS.aloadN X68.here hx rfl (hb hby at_80) rfl rfl ?_
        show Steps pP.tables eE below (T68.setTop (mkF mM 81 #[.val (.int p1), .val (.int p2), .val (.ref b2), .val (.ref b42), .val (.int (3 : Int32)), .val (.int (3 : Int32)), .unset] [(.ref b42)])) _
        refine XS.iload X68.here hx rfl (hb hby at_81) rfl ?_
        show Steps pP.tables eE below (T68.setTop (mkF mM 83 #[.val (.int p1), .val (.int p2), .val (.ref b2), .val (.ref b42), .val (.int (3 : Int32)), .val (.int (3 : Int32)), .unset] [(.int (3 : Int32)), (.ref b42)])) _
        refine X68.iaload hx (j := (3 : Int32)) (v := (.int (7 : Int32))) (by rw [e68]; exact Ara301.1) (State.isArrayOf_alike hZ.alike Ara301.2.1) Ara301.2.2 hin302 hat302 (g := (mkF mM 83 #[.val (.int p1), .val (.int p2), .val (.ref b2), .val (.ref b42), .val (.int (3 : Int32)), .val (.int (3 : Int32)), .unset] [(.int (3 : Int32)), (.ref b42)])) rfl rfl (hb hby at_83) _ ?_
        show Steps pP.tables eE below (T68.setTop (mkF mM 84 #[.val (.int p1), .val (.int p2), .val (.ref b2), .val (.ref b42), .val (.int (3 : Int32)), .val (.int (3 : Int32)), .unset] [(.int (7 : Int32))])) _
        refine XS.iload X68.here hx rfl (hb hby at_84) rfl ?_
        show Steps pP.tables eE below (T68.setTop (mkF mM 86 #[.val (.int p1), .val (.int p2), .val (.ref b2), .val (.ref b42), .val (.int (3 : Int32)), .val (.int (3 : Int32)), .unset] [(.int (3 : Int32)), (.int (7 : Int32))])) _
        refine XS.ishr X68.here hx rfl (hb hby at_86) rfl ?_
        show Steps pP.tables eE below (T68.setTop (mkF mM 87 #[.val (.int p1), .val (.int p2), .val (.ref b2), .val (.ref b42), .val (.int (3 : Int32)), .val (.int (3 : Int32)), .unset] [(.int ((7 : Int32) >>> ((3 : Int32) &&& 31)))])) _
        refine XS.iconst X68.here hx rfl (hb hby at_87) ?_
        show Steps pP.tables eE below (T68.setTop (mkF mM 88 #[.val (.int p1), .val (.int p2), .val (.ref b2), .val (.ref b42), .val (.int (3 : Int32)), .val (.int (3 : Int32)), .unset] [(.int (1 : Int32)), (.int ((7 : Int32) >>> ((3 : Int32) &&& 31)))])) _
        refine XS.iand X68.here hx rfl (hb hby at_88) rfl ?_
        show Steps pP.tables eE below (T68.setTop (mkF mM 89 #[.val (.int p1), .val (.int p2), .val (.ref b2), .val (.ref b42), .val (.int (3 : Int32)), .val (.int (3 : Int32)), .unset] [(.int (0 : Int32))])) _
        refine XS.ifYes X68.here hx rfl (pc0 := 89) (pc' := 96) rfl (hb hby at_89) rfl ((if0 _ _).trans (teq (by decide)).1) (by decide) (by decide) ?_
        show Steps pP.tables eE below (T68.setTop (mkF mM 96 #[.val (.int p1), .val (.int p2), .val (.ref b2), .val (.ref b42), .val (.int (3 : Int32)), .val (.int (3 : Int32)), .unset] [])) _
        refine XS.iconst X68.here hx rfl (hb hby at_96) ?_
        show Steps pP.tables eE below (T68.setTop (mkF mM 97 #[.val (.int p1), .val (.int p2), .val (.ref b2), .val (.ref b42), .val (.int (3 : Int32)), .val (.int (3 : Int32)), .unset] [(.int (0 : Int32))])) _
        refine XS.istore X68.here hx rfl (hb hby at_97) rfl (l' := #[.val (.int p1), .val (.int p2), .val (.ref b2), .val (.ref b42), .val (.int (3 : Int32)), .val (.int (3 : Int32)), .val (.int (0 : Int32))]) rfl ?_
        show Steps pP.tables eE below (T68.setTop (mkF mM 99 #[.val (.int p1), .val (.int p2), .val (.ref b2), .val (.ref b42), .val (.int (3 : Int32)), .val (.int (3 : Int32)), .val (.int (0 : Int32))] [])) _
        refine XS.aloadN X68.here hx rfl (hb hby at_99) rfl rfl ?_
        show Steps pP.tables eE below (T68.setTop (mkF mM 100 #[.val (.int p1), .val (.int p2), .val (.ref b2), .val (.ref b42), .val (.int (3 : Int32)), .val (.int (3 : Int32)), .val (.int (0 : Int32))] [(.ref b2)])) _
        refine XS.iload X68.here hx rfl (hb hby at_100) rfl ?_
        show Steps pP.tables eE below (T68.setTop (mkF mM 102 #[.val (.int p1), .val (.int p2), .val (.ref b2), .val (.ref b42), .val (.int (3 : Int32)), .val (.int (3 : Int32)), .val (.int (0 : Int32))] [(.int (3 : Int32)), (.ref b2)])) _
        refine X68.aaload hx (j := (3 : Int32)) (v := (.ref a_CHANGE)) (by rw [e68]; exact Ara304.1) (State.isArrayOf_alike hZ.alike Ara304.2.1) rfl Ara304.2.2 hin305 hat305 (g := (mkF mM 102 #[.val (.int p1), .val (.int p2), .val (.ref b2), .val (.ref b42), .val (.int (3 : Int32)), .val (.int (3 : Int32)), .val (.int (0 : Int32))] [(.int (3 : Int32)), (.ref b2)])) rfl rfl (hb hby at_102) _ ?_
        show Steps pP.tables eE below (T68.setTop (mkF mM 103 #[.val (.int p1), .val (.int p2), .val (.ref b2), .val (.ref b42), .val (.int (3 : Int32)), .val (.int (3 : Int32)), .val (.int (0 : Int32))] [(.ref a_CHANGE)])) _
        refine XS.aloadN X68.here hx rfl (hb hby at_103) rfl rfl ?_
        show Steps pP.tables eE below (T68.setTop (mkF mM 104 #[.val (.int p1), .val (.int p2), .val (.ref b2), .val (.ref b42), .val (.int (3 : Int32)), .val (.int (3 : Int32)), .val (.int (0 : Int32))] [(.ref b2), (.ref a_CHANGE)])) _
        refine XS.iload X68.here hx rfl (hb hby at_104) rfl ?_
        show Steps pP.tables eE below (T68.setTop (mkF mM 106 #[.val (.int p1), .val (.int p2), .val (.ref b2), .val (.ref b42), .val (.int (3 : Int32)), .val (.int (3 : Int32)), .val (.int (0 : Int32))] [(.int (3 : Int32)), (.ref b2), (.ref a_CHANGE)])) _
        refine X68.aaload hx (j := (3 : Int32)) (v := (.ref a_CHANGE)) (by rw [e68]; exact Ara304.1) (State.isArrayOf_alike hZ.alike Ara304.2.1) rfl Ara304.2.2 hin306 hat306 (g := (mkF mM 106 #[.val (.int p1), .val (.int p2), .val (.ref b2), .val (.ref b42), .val (.int (3 : Int32)), .val (.int (3 : Int32)), .val (.int (0 : Int32))] [(.int (3 : Int32)), (.ref b2), (.ref a_CHANGE)])) rfl rfl (hb hby at_106) _ ?_
        exact kg)
      have c309 := (Nat.le_trans (Nat.le_trans (Nat.le_trans (Nat.le_trans (Nat.le_trans (Nat.le_trans c45 E42.1) (Keep.of_wr W52).1) (Keep.of_wr W56).1) (Keep.of_wr W60).1) (Keep.of_wr W64).1) (Keep.of_wr W68).1)
      obtain ⟨cq310, kq310, qa310, qb310, qc310⟩ := isOf hZ e68 (Exa.ext (c307).2 E_CHANGE)
      obtain ⟨_, _, ⟨T310, L310, kk310, nn310⟩, -, X310, ⟨Lc310, hQ310, l310, y310, z310⟩, st310⟩ := X68.virtualBack hx (y := (⟨"com/example/settle/settle/service/LockTable$Mode", "keepsOut", "(Lcom/example/settle/settle/service/LockTable$Mode;)Z"⟩ : MethodName)) (z := (⟨"com/example/settle/settle/service/LockTable$Mode", "keepsOut", "(Lcom/example/settle/settle/service/LockTable$Mode;)Z"⟩ : MethodName)) hown (mvT hZ (hw _ (List.mem_of_getElem? (i := 16) rfl))) (mvT hZ (hw _ (List.mem_of_getElem? (i := 17) rfl))) (notFace_of_selects (args := #[]) (mvT hZ (hw _ (List.mem_of_getElem? (i := 19) rfl)))) (mvT hZ (hw _ (List.mem_of_getElem? (i := 19) rfl))) (mvT hZ (hw _ (List.mem_of_getElem? (i := 18) rfl))) (by decide) (backOf (W := 0) (rm233 l Z a0 hw [] a_SHARED a_UPDATE a_EXCLUSIVE a_CHANGE a_KEEP h68 n0 c309 c307 S_SHARED E_SHARED S_UPDATE E_UPDATE S_EXCLUSIVE E_EXCLUSIVE S_CHANGE E_CHANGE S_KEEP E_KEEP F_SHARED_ordinal F_CHANGE_ordinal F_EXCLUSIVE_ordinal F_KEEP_ordinal F_UPDATE_ordinal) hZ (hw _ (List.mem_of_getElem? (i := 20) rfl)) (hw _ (List.mem_of_getElem? (i := 3) rfl)) (by decide) (by decide)) qa310 qc310 (g := (mkF mM 107 #[.val (.int p1), .val (.int p2), .val (.ref b2), .val (.ref b42), .val (.int (3 : Int32)), .val (.int (3 : Int32)), .val (.int (0 : Int32))] [(.ref a_CHANGE), (.ref a_CHANGE)])) rfl (by rw [hml]; rfl) (Steps.refl _) (argsL := [(.ref a_CHANGE)]) (rest := []) (lenOf pd_1 rfl) rfl (by show 2 * 0 + _ ≤ _; exact Nat.le_of_eq rfl) (hb hby at_107) (fun _ _ => ⟨rfl, e68, (by decide : 2 + 0 ≤ _), (by decide : 10 + 0 ≤ _)⟩)
      dsimp only [Pt.U, Pt.locs, Pt.cells, Pt.slots] at X310 l310 y310 z310 st310 hQ310
      subst l310 y310 z310
      obtain ⟨rfl, Nq310, e310⟩ := hQ310
      have N310 := Fr.app N68 Nq310
      have pr311 : ∀ tg, Steps pP.tables eE below (T310.setTop (mkF mM 110 #[.val (.int p1), .val (.int p2), .val (.ref b2), .val (.ref b42), .val (.int (3 : Int32)), .val (.int (3 : Int32)), .val (.int (0 : Int32))] [(.int (0 : Int32))])) tg → Steps pP.tables eE below (s₁.setTop (entryFrame mM #[(.int p1), (.int p2)] maxLocals)) tg := fun tg kg => pr308 _ (st310.trans kg)
      have pr312 : ∀ tg, Steps pP.tables eE below (T310.setTop (mkF mM 120 #[.val (.int p1), .val (.int p2), .val (.ref b2), .val (.ref b42), .val (.int (3 : Int32)), .val (.int (3 : Int32)), .val (.int (0 : Int32))] [(.int (1 : Int32))])) tg → Steps pP.tables eE below (s₁.setTop (entryFrame mM #[(.int p1), (.int p2)] maxLocals)) tg := fun tg kg => pr311 _ (by
        show Steps pP.tables eE below (T310.setTop (mkF mM 110 #[.val (.int p1), .val (.int p2), .val (.ref b2), .val (.ref b42), .val (.int (3 : Int32)), .val (.int (3 : Int32)), .val (.int (0 : Int32))] [(.int (0 : Int32))])) _
        refine XS.iload X310.here hx rfl (hb hby at_110) rfl ?_
        show Steps pP.tables eE below (T310.setTop (mkF mM 112 #[.val (.int p1), .val (.int p2), .val (.ref b2), .val (.ref b42), .val (.int (3 : Int32)), .val (.int (3 : Int32)), .val (.int (0 : Int32))] [(.int (0 : Int32)), (.int (0 : Int32))])) _
        refine XS.icmpNo X310.here hx rfl (hb hby at_112) rfl (teq (by decide)).2 ?_
        show Steps pP.tables eE below (T310.setTop (mkF mM 115 #[.val (.int p1), .val (.int p2), .val (.ref b2), .val (.ref b42), .val (.int (3 : Int32)), .val (.int (3 : Int32)), .val (.int (0 : Int32))] [])) _
        refine XS.iconst X310.here hx rfl (hb hby at_115) ?_
        show Steps pP.tables eE below (T310.setTop (mkF mM 116 #[.val (.int p1), .val (.int p2), .val (.ref b2), .val (.ref b42), .val (.int (3 : Int32)), .val (.int (3 : Int32)), .val (.int (0 : Int32))] [(.int (1 : Int32))])) _
        refine XS.goto X310.here hx rfl (pc0 := 116) (pc' := 120) rfl (hb hby at_116) (by decide) (by decide) ?_
        exact kg)
      obtain ⟨fs, hr, hrun, hended, hW, hsame⟩ := X310.leave (v := some (.int (1 : Int32))) (fun h => by rw [Bd.returns] at h; cases h)
      refine ⟨_, _, pr312 _ (retOut X310 hx (t := .boolean) Bd.returns rfl (Or.inl ⟨rfl, Or.inr (Or.inl rfl), _, rfl⟩) (hb hby at_120) hr), hrun, hended, _, _, rfl, ?_, ⟨_, rfl⟩, hW, hsame.mono (by decide) (by decide)⟩
      show Q0 Z p1 p2 a_SHARED a_UPDATE a_EXCLUSIVE a_CHANGE a_KEEP h0 n0 _ T310.heap _
      rw [e310]
      exact ⟨rfl, N310⟩
    ·
      obtain ⟨cla313, Ara313, qa313, Sa313, Ma313, Ha313, Ga313⟩ := id V68
      have hin314 : ¬ ((3 : Int32) < 0 ∨ cla313.slots.size ≤ ((3 : Int32)).toNatClampNeg) := inb_of Sa313 ⟨by decide, by decide⟩
      have hat314 : cla313.slots[((3 : Int32)).toNatClampNeg]? = some (.int (7 : Int32)) := Has.at Ha313 hin314 rfl
      have c315 := (Arv.other (Arv.other (Arv.other (Arv.other (Arv.other (Arv.ext V39 E42) W52 ne43) W56 ne43) W60 ne43) W64 ne43) W68 ne43)
      obtain ⟨cla316, Ara316, qa316, Sa316, Ma316, Ha316, Ga316⟩ := id c315
      have hin317 : ¬ ((3 : Int32) < 0 ∨ cla316.slots.size ≤ ((3 : Int32)).toNatClampNeg) := inb_of Sa316 ⟨by decide, by decide⟩
      have hat317 : cla316.slots[((3 : Int32)).toNatClampNeg]? = some (.ref a_CHANGE) := Has.at Ha316 hin317 rfl
      have hin318 : ¬ ((4 : Int32) < 0 ∨ cla316.slots.size ≤ ((4 : Int32)).toNatClampNeg) := inb_of Sa316 ⟨by decide, by decide⟩
      have hat318 : cla316.slots[((4 : Int32)).toNatClampNeg]? = some (.ref a_KEEP) := Has.at Ha316 hin318 rfl
      have c319 := (Old.wr (Old.wr (Old.wr (Old.wr (Old.wr (Old.ext c48 E42) W52 gn44) W56 gn44) W60 gn44) W64 gn44) W68 gn44)
      have pr320 : ∀ tg, Steps pP.tables eE below (T68.setTop (mkF mM 107 #[.val (.int p1), .val (.int p2), .val (.ref b2), .val (.ref b42), .val (.int (3 : Int32)), .val (.int (4 : Int32)), .val (.int (0 : Int32))] [(.ref a_KEEP), (.ref a_CHANGE)])) tg → Steps pP.tables eE below (s₁.setTop (entryFrame mM #[(.int p1), (.int p2)] maxLocals)) tg := fun tg kg => pr264 _ (by
        show Steps pP.tables eE below (T68.setTop (mkF mM 80 #[.val (.int p1), .val (.int p2), .val (.ref b2), .val (.ref b42), .val (.int (3 : Int32)), .val (.int (4 : Int32)), .unset] [])) _
        refine XS.aloadN X68.here hx rfl (hb hby at_80) rfl rfl ?_
        show Steps pP.tables eE below (T68.setTop (mkF mM 81 #[.val (.int p1), .val (.int p2), .val (.ref b2), .val (.ref b42), .val (.int (3 : Int32)), .val (.int (4 : Int32)), .unset] [(.ref b42)])) _
        refine XS.iload X68.here hx rfl (hb hby at_81) rfl ?_
        show Steps pP.tables eE below (T68.setTop (mkF mM 83 #[.val (.int p1), .val (.int p2), .val (.ref b2), .val (.ref b42), .val (.int (3 : Int32)), .val (.int (4 : Int32)), .unset] [(.int (3 : Int32)), (.ref b42)])) _
        refine X68.iaload hx (j := (3 : Int32)) (v := (.int (7 : Int32))) (by rw [e68]; exact Ara313.1) (State.isArrayOf_alike hZ.alike Ara313.2.1) Ara313.2.2 hin314 hat314 (g := (mkF mM 83 #[.val (.int p1), .val (.int p2), .val (.ref b2), .val (.ref b42), .val (.int (3 : Int32)), .val (.int (4 : Int32)), .unset] [(.int (3 : Int32)), (.ref b42)])) rfl rfl (hb hby at_83) _ ?_
        show Steps pP.tables eE below (T68.setTop (mkF mM 84 #[.val (.int p1), .val (.int p2), .val (.ref b2), .val (.ref b42), .val (.int (3 : Int32)), .val (.int (4 : Int32)), .unset] [(.int (7 : Int32))])) _
        refine XS.iload X68.here hx rfl (hb hby at_84) rfl ?_
        show Steps pP.tables eE below (T68.setTop (mkF mM 86 #[.val (.int p1), .val (.int p2), .val (.ref b2), .val (.ref b42), .val (.int (3 : Int32)), .val (.int (4 : Int32)), .unset] [(.int (4 : Int32)), (.int (7 : Int32))])) _
        refine XS.ishr X68.here hx rfl (hb hby at_86) rfl ?_
        show Steps pP.tables eE below (T68.setTop (mkF mM 87 #[.val (.int p1), .val (.int p2), .val (.ref b2), .val (.ref b42), .val (.int (3 : Int32)), .val (.int (4 : Int32)), .unset] [(.int ((7 : Int32) >>> ((4 : Int32) &&& 31)))])) _
        refine XS.iconst X68.here hx rfl (hb hby at_87) ?_
        show Steps pP.tables eE below (T68.setTop (mkF mM 88 #[.val (.int p1), .val (.int p2), .val (.ref b2), .val (.ref b42), .val (.int (3 : Int32)), .val (.int (4 : Int32)), .unset] [(.int (1 : Int32)), (.int ((7 : Int32) >>> ((4 : Int32) &&& 31)))])) _
        refine XS.iand X68.here hx rfl (hb hby at_88) rfl ?_
        show Steps pP.tables eE below (T68.setTop (mkF mM 89 #[.val (.int p1), .val (.int p2), .val (.ref b2), .val (.ref b42), .val (.int (3 : Int32)), .val (.int (4 : Int32)), .unset] [(.int (0 : Int32))])) _
        refine XS.ifYes X68.here hx rfl (pc0 := 89) (pc' := 96) rfl (hb hby at_89) rfl ((if0 _ _).trans (teq (by decide)).1) (by decide) (by decide) ?_
        show Steps pP.tables eE below (T68.setTop (mkF mM 96 #[.val (.int p1), .val (.int p2), .val (.ref b2), .val (.ref b42), .val (.int (3 : Int32)), .val (.int (4 : Int32)), .unset] [])) _
        refine XS.iconst X68.here hx rfl (hb hby at_96) ?_
        show Steps pP.tables eE below (T68.setTop (mkF mM 97 #[.val (.int p1), .val (.int p2), .val (.ref b2), .val (.ref b42), .val (.int (3 : Int32)), .val (.int (4 : Int32)), .unset] [(.int (0 : Int32))])) _
        refine XS.istore X68.here hx rfl (hb hby at_97) rfl (l' := #[.val (.int p1), .val (.int p2), .val (.ref b2), .val (.ref b42), .val (.int (3 : Int32)), .val (.int (4 : Int32)), .val (.int (0 : Int32))]) rfl ?_
        show Steps pP.tables eE below (T68.setTop (mkF mM 99 #[.val (.int p1), .val (.int p2), .val (.ref b2), .val (.ref b42), .val (.int (3 : Int32)), .val (.int (4 : Int32)), .val (.int (0 : Int32))] [])) _
        refine XS.aloadN X68.here hx rfl (hb hby at_99) rfl rfl ?_
        show Steps pP.tables eE below (T68.setTop (mkF mM 100 #[.val (.int p1), .val (.int p2), .val (.ref b2), .val (.ref b42), .val (.int (3 : Int32)), .val (.int (4 : Int32)), .val (.int (0 : Int32))] [(.ref b2)])) _
        refine XS.iload X68.here hx rfl (hb hby at_100) rfl ?_
        show Steps pP.tables eE below (T68.setTop (mkF mM 102 #[.val (.int p1), .val (.int p2), .val (.ref b2), .val (.ref b42), .val (.int (3 : Int32)), .val (.int (4 : Int32)), .val (.int (0 : Int32))] [(.int (3 : Int32)), (.ref b2)])) _
        refine X68.aaload hx (j := (3 : Int32)) (v := (.ref a_CHANGE)) (by rw [e68]; exact Ara316.1) (State.isArrayOf_alike hZ.alike Ara316.2.1) rfl Ara316.2.2 hin317 hat317 (g := (mkF mM 102 #[.val (.int p1), .val (.int p2), .val (.ref b2), .val (.ref b42), .val (.int (3 : Int32)), .val (.int (4 : Int32)), .val (.int (0 : Int32))] [(.int (3 : Int32)), (.ref b2)])) rfl rfl (hb hby at_102) _ ?_
        show Steps pP.tables eE below (T68.setTop (mkF mM 103 #[.val (.int p1), .val (.int p2), .val (.ref b2), .val (.ref b42), .val (.int (3 : Int32)), .val (.int (4 : Int32)), .val (.int (0 : Int32))] [(.ref a_CHANGE)])) _
        refine XS.aloadN X68.here hx rfl (hb hby at_103) rfl rfl ?_
        show Steps pP.tables eE below (T68.setTop (mkF mM 104 #[.val (.int p1), .val (.int p2), .val (.ref b2), .val (.ref b42), .val (.int (3 : Int32)), .val (.int (4 : Int32)), .val (.int (0 : Int32))] [(.ref b2), (.ref a_CHANGE)])) _
        refine XS.iload X68.here hx rfl (hb hby at_104) rfl ?_
        show Steps pP.tables eE below (T68.setTop (mkF mM 106 #[.val (.int p1), .val (.int p2), .val (.ref b2), .val (.ref b42), .val (.int (3 : Int32)), .val (.int (4 : Int32)), .val (.int (0 : Int32))] [(.int (4 : Int32)), (.ref b2), (.ref a_CHANGE)])) _
        refine X68.aaload hx (j := (4 : Int32)) (v := (.ref a_KEEP)) (by rw [e68]; exact Ara316.1) (State.isArrayOf_alike hZ.alike Ara316.2.1) rfl Ara316.2.2 hin318 hat318 (g := (mkF mM 106 #[.val (.int p1), .val (.int p2), .val (.ref b2), .val (.ref b42), .val (.int (3 : Int32)), .val (.int (4 : Int32)), .val (.int (0 : Int32))] [(.int (4 : Int32)), (.ref b2), (.ref a_CHANGE)])) rfl rfl (hb hby at_106) _ ?_
        exact kg)
      have c321 := (Nat.le_trans (Nat.le_trans (Nat.le_trans (Nat.le_trans (Nat.le_trans (Nat.le_trans c45 E42.1) (Keep.of_wr W52).1) (Keep.of_wr W56).1) (Keep.of_wr W60).1) (Keep.of_wr W64).1) (Keep.of_wr W68).1)
      obtain ⟨cq322, kq322, qa322, qb322, qc322⟩ := isOf hZ e68 (Exa.ext (c319).2 E_CHANGE)
      obtain ⟨_, _, ⟨T322, L322, kk322, nn322⟩, -, X322, ⟨Lc322, hQ322, l322, y322, z322⟩, st322⟩ := X68.virtualBack hx (y := (⟨"com/example/settle/settle/service/LockTable$Mode", "keepsOut", "(Lcom/example/settle/settle/service/LockTable$Mode;)Z"⟩ : MethodName)) (z := (⟨"com/example/settle/settle/service/LockTable$Mode", "keepsOut", "(Lcom/example/settle/settle/service/LockTable$Mode;)Z"⟩ : MethodName)) hown (mvT hZ (hw _ (List.mem_of_getElem? (i := 16) rfl))) (mvT hZ (hw _ (List.mem_of_getElem? (i := 17) rfl))) (notFace_of_selects (args := #[]) (mvT hZ (hw _ (List.mem_of_getElem? (i := 19) rfl)))) (mvT hZ (hw _ (List.mem_of_getElem? (i := 19) rfl))) (mvT hZ (hw _ (List.mem_of_getElem? (i := 18) rfl))) (by decide) (backOf (W := 0) (rm234 l Z a0 hw [] a_SHARED a_UPDATE a_EXCLUSIVE a_CHANGE a_KEEP h68 n0 c321 c319 S_SHARED E_SHARED S_UPDATE E_UPDATE S_EXCLUSIVE E_EXCLUSIVE S_CHANGE E_CHANGE S_KEEP E_KEEP F_SHARED_ordinal F_CHANGE_ordinal F_EXCLUSIVE_ordinal F_KEEP_ordinal F_UPDATE_ordinal) hZ (hw _ (List.mem_of_getElem? (i := 20) rfl)) (hw _ (List.mem_of_getElem? (i := 3) rfl)) (by decide) (by decide)) qa322 qc322 (g := (mkF mM 107 #[.val (.int p1), .val (.int p2), .val (.ref b2), .val (.ref b42), .val (.int (3 : Int32)), .val (.int (4 : Int32)), .val (.int (0 : Int32))] [(.ref a_KEEP), (.ref a_CHANGE)])) rfl (by rw [hml]; rfl) (Steps.refl _) (argsL := [(.ref a_KEEP)]) (rest := []) (lenOf pd_1 rfl) rfl (by show 2 * 0 + _ ≤ _; exact Nat.le_of_eq rfl) (hb hby at_107) (fun _ _ => ⟨rfl, e68, (by decide : 2 + 0 ≤ _), (by decide : 10 + 0 ≤ _)⟩)
      dsimp only [Pt.U, Pt.locs, Pt.cells, Pt.slots] at X322 l322 y322 z322 st322 hQ322
      subst l322 y322 z322
      obtain ⟨rfl, Nq322, e322⟩ := hQ322
      have N322 := Fr.app N68 Nq322
      have pr323 : ∀ tg, Steps pP.tables eE below (T322.setTop (mkF mM 110 #[.val (.int p1), .val (.int p2), .val (.ref b2), .val (.ref b42), .val (.int (3 : Int32)), .val (.int (4 : Int32)), .val (.int (0 : Int32))] [(.int (0 : Int32))])) tg → Steps pP.tables eE below (s₁.setTop (entryFrame mM #[(.int p1), (.int p2)] maxLocals)) tg := fun tg kg => pr320 _ (st322.trans kg)
      have pr324 : ∀ tg, Steps pP.tables eE below (T322.setTop (mkF mM 120 #[.val (.int p1), .val (.int p2), .val (.ref b2), .val (.ref b42), .val (.int (3 : Int32)), .val (.int (4 : Int32)), .val (.int (0 : Int32))] [(.int (1 : Int32))])) tg → Steps pP.tables eE below (s₁.setTop (entryFrame mM #[(.int p1), (.int p2)] maxLocals)) tg := fun tg kg => pr323 _ (by
        show Steps pP.tables eE below (T322.setTop (mkF mM 110 #[.val (.int p1), .val (.int p2), .val (.ref b2), .val (.ref b42), .val (.int (3 : Int32)), .val (.int (4 : Int32)), .val (.int (0 : Int32))] [(.int (0 : Int32))])) _
        refine XS.iload X322.here hx rfl (hb hby at_110) rfl ?_
        show Steps pP.tables eE below (T322.setTop (mkF mM 112 #[.val (.int p1), .val (.int p2), .val (.ref b2), .val (.ref b42), .val (.int (3 : Int32)), .val (.int (4 : Int32)), .val (.int (0 : Int32))] [(.int (0 : Int32)), (.int (0 : Int32))])) _
        refine XS.icmpNo X322.here hx rfl (hb hby at_112) rfl (teq (by decide)).2 ?_
        show Steps pP.tables eE below (T322.setTop (mkF mM 115 #[.val (.int p1), .val (.int p2), .val (.ref b2), .val (.ref b42), .val (.int (3 : Int32)), .val (.int (4 : Int32)), .val (.int (0 : Int32))] [])) _
        refine XS.iconst X322.here hx rfl (hb hby at_115) ?_
        show Steps pP.tables eE below (T322.setTop (mkF mM 116 #[.val (.int p1), .val (.int p2), .val (.ref b2), .val (.ref b42), .val (.int (3 : Int32)), .val (.int (4 : Int32)), .val (.int (0 : Int32))] [(.int (1 : Int32))])) _
        refine XS.goto X322.here hx rfl (pc0 := 116) (pc' := 120) rfl (hb hby at_116) (by decide) (by decide) ?_
        exact kg)
      obtain ⟨fs, hr, hrun, hended, hW, hsame⟩ := X322.leave (v := some (.int (1 : Int32))) (fun h => by rw [Bd.returns] at h; cases h)
      refine ⟨_, _, pr324 _ (retOut X322 hx (t := .boolean) Bd.returns rfl (Or.inl ⟨rfl, Or.inr (Or.inl rfl), _, rfl⟩) (hb hby at_120) hr), hrun, hended, _, _, rfl, ?_, ⟨_, rfl⟩, hW, hsame.mono (by decide) (by decide)⟩
      show Q0 Z p1 p2 a_SHARED a_UPDATE a_EXCLUSIVE a_CHANGE a_KEEP h0 n0 _ T322.heap _
      rw [e322]
      exact ⟨rfl, N322⟩
  ·
    have pr325 : ∀ tg, Steps pP.tables eE below (T68.setTop (mkF mM 80 #[.val (.int p1), .val (.int p2), .val (.ref b2), .val (.ref b42), .val (.int (4 : Int32)), .val (.int ((p2 &&& (2147483647 : Int32)) % (5 : Int32))), .unset] [])) tg → Steps pP.tables eE below (s₁.setTop (entryFrame mM #[(.int p1), (.int p2)] maxLocals)) tg := fun tg kg => pr72 _ (by
      show Steps pP.tables eE below (T68.setTop (mkF mM 72 #[.val (.int p1), .val (.int p2), .val (.ref b2), .val (.ref b42), .val (.int (4 : Int32)), .unset, .unset] [])) _
      refine XS.iloadN X68.here hx rfl (hb hby at_72) rfl ?_
      show Steps pP.tables eE below (T68.setTop (mkF mM 73 #[.val (.int p1), .val (.int p2), .val (.ref b2), .val (.ref b42), .val (.int (4 : Int32)), .unset, .unset] [(.int p2)])) _
      refine Jvm.Stand.ldcI X68 hx hown (v := (2147483647 : Int32)) (mvT hZ (hw _ (List.mem_of_getElem? (i := 15) rfl))) rfl (hb hby at_73) ?_
      show Steps pP.tables eE below (T68.setTop (mkF mM 75 #[.val (.int p1), .val (.int p2), .val (.ref b2), .val (.ref b42), .val (.int (4 : Int32)), .unset, .unset] [(.int (2147483647 : Int32)), (.int p2)])) _
      refine XS.iand X68.here hx rfl (hb hby at_75) rfl ?_
      show Steps pP.tables eE below (T68.setTop (mkF mM 76 #[.val (.int p1), .val (.int p2), .val (.ref b2), .val (.ref b42), .val (.int (4 : Int32)), .unset, .unset] [(.int (p2 &&& (2147483647 : Int32)))])) _
      refine XS.iconst X68.here hx rfl (hb hby at_76) ?_
      show Steps pP.tables eE below (T68.setTop (mkF mM 77 #[.val (.int p1), .val (.int p2), .val (.ref b2), .val (.ref b42), .val (.int (4 : Int32)), .unset, .unset] [(.int (5 : Int32)), (.int (p2 &&& (2147483647 : Int32)))])) _
      refine iremM (g := (mkF mM 77 #[.val (.int p1), .val (.int p2), .val (.ref b2), .val (.ref b42), .val (.int (4 : Int32)), .unset, .unset] [(.int (5 : Int32)), (.int (p2 &&& (2147483647 : Int32)))])) X68 hx rfl (hb hby at_77) rfl (by decide) ?_
      show Steps pP.tables eE below (T68.setTop (mkF mM 78 #[.val (.int p1), .val (.int p2), .val (.ref b2), .val (.ref b42), .val (.int (4 : Int32)), .unset, .unset] [(.int ((p2 &&& (2147483647 : Int32)) % (5 : Int32)))])) _
      refine XS.istore X68.here hx rfl (hb hby at_78) rfl (l' := #[.val (.int p1), .val (.int p2), .val (.ref b2), .val (.ref b42), .val (.int (4 : Int32)), .val (.int ((p2 &&& (2147483647 : Int32)) % (5 : Int32))), .unset]) rfl ?_
      exact kg)
    obtain ⟨z326, hz326⟩ : ∃ z, z = ((p2 &&& (2147483647 : Int32)) % (5 : Int32)) := ⟨_, rfl⟩
    have pr327 : ∀ tg, Steps pP.tables eE below (T68.setTop (mkF mM 80 #[.val (.int p1), .val (.int p2), .val (.ref b2), .val (.ref b42), .val (.int (4 : Int32)), .val (.int z326), .unset] [])) tg → Steps pP.tables eE below (s₁.setTop (entryFrame mM #[(.int p1), (.int p2)] maxLocals)) tg := by
      rw [hz326]; exact pr325
    have hbz326 : 0 ≤ z326.toInt ∧ z326.toInt < 5 := by rw [hz326]; exact own_rem5 _
    rcases (own_5 hbz326.1 hbz326.2) with rfl | rfl | rfl | rfl | rfl
    ·
      obtain ⟨cla328, Ara328, qa328, Sa328, Ma328, Ha328, Ga328⟩ := id V68
      have hin329 : ¬ ((4 : Int32) < 0 ∨ cla328.slots.size ≤ ((4 : Int32)).toNatClampNeg) := inb_of Sa328 ⟨by decide, by decide⟩
      have hat329 : cla328.slots[((4 : Int32)).toNatClampNeg]? = some (.int (7 : Int32)) := Has.at Ha328 hin329 rfl
      have c330 := (Arv.other (Arv.other (Arv.other (Arv.other (Arv.other (Arv.ext V39 E42) W52 ne43) W56 ne43) W60 ne43) W64 ne43) W68 ne43)
      obtain ⟨cla331, Ara331, qa331, Sa331, Ma331, Ha331, Ga331⟩ := id c330
      have hin332 : ¬ ((4 : Int32) < 0 ∨ cla331.slots.size ≤ ((4 : Int32)).toNatClampNeg) := inb_of Sa331 ⟨by decide, by decide⟩
      have hat332 : cla331.slots[((4 : Int32)).toNatClampNeg]? = some (.ref a_KEEP) := Has.at Ha331 hin332 rfl
      have hin333 : ¬ ((0 : Int32) < 0 ∨ cla331.slots.size ≤ ((0 : Int32)).toNatClampNeg) := inb_of Sa331 ⟨by decide, by decide⟩
      have hat333 : cla331.slots[((0 : Int32)).toNatClampNeg]? = some (.ref a_SHARED) := Has.at Ha331 hin333 rfl
      have c334 := (Old.wr (Old.wr (Old.wr (Old.wr (Old.wr (Old.ext c48 E42) W52 gn44) W56 gn44) W60 gn44) W64 gn44) W68 gn44)
      have pr335 : ∀ tg, Steps pP.tables eE below (T68.setTop (mkF mM 107 #[.val (.int p1), .val (.int p2), .val (.ref b2), .val (.ref b42), .val (.int (4 : Int32)), .val (.int (0 : Int32)), .val (.int (1 : Int32))] [(.ref a_SHARED), (.ref a_KEEP)])) tg → Steps pP.tables eE below (s₁.setTop (entryFrame mM #[(.int p1), (.int p2)] maxLocals)) tg := fun tg kg => pr327 _ (by
        show Steps pP.tables eE below (T68.setTop (mkF mM 80 #[.val (.int p1), .val (.int p2), .val (.ref b2), .val (.ref b42), .val (.int (4 : Int32)), .val (.int (0 : Int32)), .unset] [])) _
        refine XS.aloadN X68.here hx rfl (hb hby at_80) rfl rfl ?_
        show Steps pP.tables eE below (T68.setTop (mkF mM 81 #[.val (.int p1), .val (.int p2), .val (.ref b2), .val (.ref b42), .val (.int (4 : Int32)), .val (.int (0 : Int32)), .unset] [(.ref b42)])) _
        refine XS.iload X68.here hx rfl (hb hby at_81) rfl ?_
        show Steps pP.tables eE below (T68.setTop (mkF mM 83 #[.val (.int p1), .val (.int p2), .val (.ref b2), .val (.ref b42), .val (.int (4 : Int32)), .val (.int (0 : Int32)), .unset] [(.int (4 : Int32)), (.ref b42)])) _
        refine X68.iaload hx (j := (4 : Int32)) (v := (.int (7 : Int32))) (by rw [e68]; exact Ara328.1) (State.isArrayOf_alike hZ.alike Ara328.2.1) Ara328.2.2 hin329 hat329 (g := (mkF mM 83 #[.val (.int p1), .val (.int p2), .val (.ref b2), .val (.ref b42), .val (.int (4 : Int32)), .val (.int (0 : Int32)), .unset] [(.int (4 : Int32)), (.ref b42)])) rfl rfl (hb hby at_83) _ ?_
        show Steps pP.tables eE below (T68.setTop (mkF mM 84 #[.val (.int p1), .val (.int p2), .val (.ref b2), .val (.ref b42), .val (.int (4 : Int32)), .val (.int (0 : Int32)), .unset] [(.int (7 : Int32))])) _
        refine XS.iload X68.here hx rfl (hb hby at_84) rfl ?_
        show Steps pP.tables eE below (T68.setTop (mkF mM 86 #[.val (.int p1), .val (.int p2), .val (.ref b2), .val (.ref b42), .val (.int (4 : Int32)), .val (.int (0 : Int32)), .unset] [(.int (0 : Int32)), (.int (7 : Int32))])) _
        refine XS.ishr X68.here hx rfl (hb hby at_86) rfl ?_
        show Steps pP.tables eE below (T68.setTop (mkF mM 87 #[.val (.int p1), .val (.int p2), .val (.ref b2), .val (.ref b42), .val (.int (4 : Int32)), .val (.int (0 : Int32)), .unset] [(.int ((7 : Int32) >>> ((0 : Int32) &&& 31)))])) _
        refine XS.iconst X68.here hx rfl (hb hby at_87) ?_
        show Steps pP.tables eE below (T68.setTop (mkF mM 88 #[.val (.int p1), .val (.int p2), .val (.ref b2), .val (.ref b42), .val (.int (4 : Int32)), .val (.int (0 : Int32)), .unset] [(.int (1 : Int32)), (.int ((7 : Int32) >>> ((0 : Int32) &&& 31)))])) _
        refine XS.iand X68.here hx rfl (hb hby at_88) rfl ?_
        show Steps pP.tables eE below (T68.setTop (mkF mM 89 #[.val (.int p1), .val (.int p2), .val (.ref b2), .val (.ref b42), .val (.int (4 : Int32)), .val (.int (0 : Int32)), .unset] [(.int (1 : Int32))])) _
        refine XS.ifNo X68.here hx rfl (hb hby at_89) rfl ((if0 _ _).trans (feq (by decide)).1) ?_
        show Steps pP.tables eE below (T68.setTop (mkF mM 92 #[.val (.int p1), .val (.int p2), .val (.ref b2), .val (.ref b42), .val (.int (4 : Int32)), .val (.int (0 : Int32)), .unset] [])) _
        refine XS.iconst X68.here hx rfl (hb hby at_92) ?_
        show Steps pP.tables eE below (T68.setTop (mkF mM 93 #[.val (.int p1), .val (.int p2), .val (.ref b2), .val (.ref b42), .val (.int (4 : Int32)), .val (.int (0 : Int32)), .unset] [(.int (1 : Int32))])) _
        refine XS.goto X68.here hx rfl (pc0 := 93) (pc' := 97) rfl (hb hby at_93) (by decide) (by decide) ?_
        show Steps pP.tables eE below (T68.setTop (mkF mM 97 #[.val (.int p1), .val (.int p2), .val (.ref b2), .val (.ref b42), .val (.int (4 : Int32)), .val (.int (0 : Int32)), .unset] [(.int (1 : Int32))])) _
        refine XS.istore X68.here hx rfl (hb hby at_97) rfl (l' := #[.val (.int p1), .val (.int p2), .val (.ref b2), .val (.ref b42), .val (.int (4 : Int32)), .val (.int (0 : Int32)), .val (.int (1 : Int32))]) rfl ?_
        show Steps pP.tables eE below (T68.setTop (mkF mM 99 #[.val (.int p1), .val (.int p2), .val (.ref b2), .val (.ref b42), .val (.int (4 : Int32)), .val (.int (0 : Int32)), .val (.int (1 : Int32))] [])) _
        refine XS.aloadN X68.here hx rfl (hb hby at_99) rfl rfl ?_
        show Steps pP.tables eE below (T68.setTop (mkF mM 100 #[.val (.int p1), .val (.int p2), .val (.ref b2), .val (.ref b42), .val (.int (4 : Int32)), .val (.int (0 : Int32)), .val (.int (1 : Int32))] [(.ref b2)])) _
        refine XS.iload X68.here hx rfl (hb hby at_100) rfl ?_
        show Steps pP.tables eE below (T68.setTop (mkF mM 102 #[.val (.int p1), .val (.int p2), .val (.ref b2), .val (.ref b42), .val (.int (4 : Int32)), .val (.int (0 : Int32)), .val (.int (1 : Int32))] [(.int (4 : Int32)), (.ref b2)])) _
        refine X68.aaload hx (j := (4 : Int32)) (v := (.ref a_KEEP)) (by rw [e68]; exact Ara331.1) (State.isArrayOf_alike hZ.alike Ara331.2.1) rfl Ara331.2.2 hin332 hat332 (g := (mkF mM 102 #[.val (.int p1), .val (.int p2), .val (.ref b2), .val (.ref b42), .val (.int (4 : Int32)), .val (.int (0 : Int32)), .val (.int (1 : Int32))] [(.int (4 : Int32)), (.ref b2)])) rfl rfl (hb hby at_102) _ ?_
        show Steps pP.tables eE below (T68.setTop (mkF mM 103 #[.val (.int p1), .val (.int p2), .val (.ref b2), .val (.ref b42), .val (.int (4 : Int32)), .val (.int (0 : Int32)), .val (.int (1 : Int32))] [(.ref a_KEEP)])) _
        refine XS.aloadN X68.here hx rfl (hb hby at_103) rfl rfl ?_
        show Steps pP.tables eE below (T68.setTop (mkF mM 104 #[.val (.int p1), .val (.int p2), .val (.ref b2), .val (.ref b42), .val (.int (4 : Int32)), .val (.int (0 : Int32)), .val (.int (1 : Int32))] [(.ref b2), (.ref a_KEEP)])) _
        refine XS.iload X68.here hx rfl (hb hby at_104) rfl ?_
        show Steps pP.tables eE below (T68.setTop (mkF mM 106 #[.val (.int p1), .val (.int p2), .val (.ref b2), .val (.ref b42), .val (.int (4 : Int32)), .val (.int (0 : Int32)), .val (.int (1 : Int32))] [(.int (0 : Int32)), (.ref b2), (.ref a_KEEP)])) _
        refine X68.aaload hx (j := (0 : Int32)) (v := (.ref a_SHARED)) (by rw [e68]; exact Ara331.1) (State.isArrayOf_alike hZ.alike Ara331.2.1) rfl Ara331.2.2 hin333 hat333 (g := (mkF mM 106 #[.val (.int p1), .val (.int p2), .val (.ref b2), .val (.ref b42), .val (.int (4 : Int32)), .val (.int (0 : Int32)), .val (.int (1 : Int32))] [(.int (0 : Int32)), (.ref b2), (.ref a_KEEP)])) rfl rfl (hb hby at_106) _ ?_
        exact kg)
      have c336 := (Nat.le_trans (Nat.le_trans (Nat.le_trans (Nat.le_trans (Nat.le_trans (Nat.le_trans c45 E42.1) (Keep.of_wr W52).1) (Keep.of_wr W56).1) (Keep.of_wr W60).1) (Keep.of_wr W64).1) (Keep.of_wr W68).1)
      obtain ⟨cq337, kq337, qa337, qb337, qc337⟩ := isOf hZ e68 (Exa.ext (c334).2 E_KEEP)
      obtain ⟨_, _, ⟨T337, L337, kk337, nn337⟩, -, X337, ⟨Lc337, hQ337, l337, y337, z337⟩, st337⟩ := X68.virtualBack hx (y := (⟨"com/example/settle/settle/service/LockTable$Mode", "keepsOut", "(Lcom/example/settle/settle/service/LockTable$Mode;)Z"⟩ : MethodName)) (z := (⟨"com/example/settle/settle/service/LockTable$Mode", "keepsOut", "(Lcom/example/settle/settle/service/LockTable$Mode;)Z"⟩ : MethodName)) hown (mvT hZ (hw _ (List.mem_of_getElem? (i := 16) rfl))) (mvT hZ (hw _ (List.mem_of_getElem? (i := 17) rfl))) (notFace_of_selects (args := #[]) (mvT hZ (hw _ (List.mem_of_getElem? (i := 19) rfl)))) (mvT hZ (hw _ (List.mem_of_getElem? (i := 19) rfl))) (mvT hZ (hw _ (List.mem_of_getElem? (i := 18) rfl))) (by decide) (backOf (W := 0) (rm240 l Z a0 hw [] a_SHARED a_UPDATE a_EXCLUSIVE a_CHANGE a_KEEP h68 n0 c336 c334 S_SHARED E_SHARED S_UPDATE E_UPDATE S_EXCLUSIVE E_EXCLUSIVE S_CHANGE E_CHANGE S_KEEP E_KEEP F_SHARED_ordinal F_CHANGE_ordinal F_EXCLUSIVE_ordinal F_KEEP_ordinal F_UPDATE_ordinal) hZ (hw _ (List.mem_of_getElem? (i := 20) rfl)) (hw _ (List.mem_of_getElem? (i := 3) rfl)) (by decide) (by decide)) qa337 qc337 (g := (mkF mM 107 #[.val (.int p1), .val (.int p2), .val (.ref b2), .val (.ref b42), .val (.int (4 : Int32)), .val (.int (0 : Int32)), .val (.int (1 : Int32))] [(.ref a_SHARED), (.ref a_KEEP)])) rfl (by rw [hml]; rfl) (Steps.refl _) (argsL := [(.ref a_SHARED)]) (rest := []) (lenOf pd_1 rfl) rfl (by show 2 * 0 + _ ≤ _; exact Nat.le_of_eq rfl) (hb hby at_107) (fun _ _ => ⟨rfl, e68, (by decide : 2 + 0 ≤ _), (by decide : 10 + 0 ≤ _)⟩)
      dsimp only [Pt.U, Pt.locs, Pt.cells, Pt.slots] at X337 l337 y337 z337 st337 hQ337
      subst l337 y337 z337
      obtain ⟨rfl, Nq337, e337⟩ := hQ337
      have N337 := Fr.app N68 Nq337
      have pr338 : ∀ tg, Steps pP.tables eE below (T337.setTop (mkF mM 110 #[.val (.int p1), .val (.int p2), .val (.ref b2), .val (.ref b42), .val (.int (4 : Int32)), .val (.int (0 : Int32)), .val (.int (1 : Int32))] [(.int (1 : Int32))])) tg → Steps pP.tables eE below (s₁.setTop (entryFrame mM #[(.int p1), (.int p2)] maxLocals)) tg := fun tg kg => pr335 _ (st337.trans kg)
      have pr339 : ∀ tg, Steps pP.tables eE below (T337.setTop (mkF mM 120 #[.val (.int p1), .val (.int p2), .val (.ref b2), .val (.ref b42), .val (.int (4 : Int32)), .val (.int (0 : Int32)), .val (.int (1 : Int32))] [(.int (1 : Int32))])) tg → Steps pP.tables eE below (s₁.setTop (entryFrame mM #[(.int p1), (.int p2)] maxLocals)) tg := fun tg kg => pr338 _ (by
        show Steps pP.tables eE below (T337.setTop (mkF mM 110 #[.val (.int p1), .val (.int p2), .val (.ref b2), .val (.ref b42), .val (.int (4 : Int32)), .val (.int (0 : Int32)), .val (.int (1 : Int32))] [(.int (1 : Int32))])) _
        refine XS.iload X337.here hx rfl (hb hby at_110) rfl ?_
        show Steps pP.tables eE below (T337.setTop (mkF mM 112 #[.val (.int p1), .val (.int p2), .val (.ref b2), .val (.ref b42), .val (.int (4 : Int32)), .val (.int (0 : Int32)), .val (.int (1 : Int32))] [(.int (1 : Int32)), (.int (1 : Int32))])) _
        refine XS.icmpNo X337.here hx rfl (hb hby at_112) rfl (teq (by decide)).2 ?_
        show Steps pP.tables eE below (T337.setTop (mkF mM 115 #[.val (.int p1), .val (.int p2), .val (.ref b2), .val (.ref b42), .val (.int (4 : Int32)), .val (.int (0 : Int32)), .val (.int (1 : Int32))] [])) _
        refine XS.iconst X337.here hx rfl (hb hby at_115) ?_
        show Steps pP.tables eE below (T337.setTop (mkF mM 116 #[.val (.int p1), .val (.int p2), .val (.ref b2), .val (.ref b42), .val (.int (4 : Int32)), .val (.int (0 : Int32)), .val (.int (1 : Int32))] [(.int (1 : Int32))])) _
        refine XS.goto X337.here hx rfl (pc0 := 116) (pc' := 120) rfl (hb hby at_116) (by decide) (by decide) ?_
        exact kg)
      obtain ⟨fs, hr, hrun, hended, hW, hsame⟩ := X337.leave (v := some (.int (1 : Int32))) (fun h => by rw [Bd.returns] at h; cases h)
      refine ⟨_, _, pr339 _ (retOut X337 hx (t := .boolean) Bd.returns rfl (Or.inl ⟨rfl, Or.inr (Or.inl rfl), _, rfl⟩) (hb hby at_120) hr), hrun, hended, _, _, rfl, ?_, ⟨_, rfl⟩, hW, hsame.mono (by decide) (by decide)⟩
      show Q0 Z p1 p2 a_SHARED a_UPDATE a_EXCLUSIVE a_CHANGE a_KEEP h0 n0 _ T337.heap _
      rw [e337]
      exact ⟨rfl, N337⟩
    ·
      obtain ⟨cla340, Ara340, qa340, Sa340, Ma340, Ha340, Ga340⟩ := id V68
      have hin341 : ¬ ((4 : Int32) < 0 ∨ cla340.slots.size ≤ ((4 : Int32)).toNatClampNeg) := inb_of Sa340 ⟨by decide, by decide⟩
      have hat341 : cla340.slots[((4 : Int32)).toNatClampNeg]? = some (.int (7 : Int32)) := Has.at Ha340 hin341 rfl
      have c342 := (Arv.other (Arv.other (Arv.other (Arv.other (Arv.other (Arv.ext V39 E42) W52 ne43) W56 ne43) W60 ne43) W64 ne43) W68 ne43)
      obtain ⟨cla343, Ara343, qa343, Sa343, Ma343, Ha343, Ga343⟩ := id c342
      have hin344 : ¬ ((4 : Int32) < 0 ∨ cla343.slots.size ≤ ((4 : Int32)).toNatClampNeg) := inb_of Sa343 ⟨by decide, by decide⟩
      have hat344 : cla343.slots[((4 : Int32)).toNatClampNeg]? = some (.ref a_KEEP) := Has.at Ha343 hin344 rfl
      have hin345 : ¬ ((1 : Int32) < 0 ∨ cla343.slots.size ≤ ((1 : Int32)).toNatClampNeg) := inb_of Sa343 ⟨by decide, by decide⟩
      have hat345 : cla343.slots[((1 : Int32)).toNatClampNeg]? = some (.ref a_UPDATE) := Has.at Ha343 hin345 rfl
      have c346 := (Old.wr (Old.wr (Old.wr (Old.wr (Old.wr (Old.ext c48 E42) W52 gn44) W56 gn44) W60 gn44) W64 gn44) W68 gn44)
      have pr347 : ∀ tg, Steps pP.tables eE below (T68.setTop (mkF mM 107 #[.val (.int p1), .val (.int p2), .val (.ref b2), .val (.ref b42), .val (.int (4 : Int32)), .val (.int (1 : Int32)), .val (.int (1 : Int32))] [(.ref a_UPDATE), (.ref a_KEEP)])) tg → Steps pP.tables eE below (s₁.setTop (entryFrame mM #[(.int p1), (.int p2)] maxLocals)) tg := fun tg kg => pr327 _ (by
        show Steps pP.tables eE below (T68.setTop (mkF mM 80 #[.val (.int p1), .val (.int p2), .val (.ref b2), .val (.ref b42), .val (.int (4 : Int32)), .val (.int (1 : Int32)), .unset] [])) _
        refine XS.aloadN X68.here hx rfl (hb hby at_80) rfl rfl ?_
        show Steps pP.tables eE below (T68.setTop (mkF mM 81 #[.val (.int p1), .val (.int p2), .val (.ref b2), .val (.ref b42), .val (.int (4 : Int32)), .val (.int (1 : Int32)), .unset] [(.ref b42)])) _
        refine XS.iload X68.here hx rfl (hb hby at_81) rfl ?_
        show Steps pP.tables eE below (T68.setTop (mkF mM 83 #[.val (.int p1), .val (.int p2), .val (.ref b2), .val (.ref b42), .val (.int (4 : Int32)), .val (.int (1 : Int32)), .unset] [(.int (4 : Int32)), (.ref b42)])) _
        refine X68.iaload hx (j := (4 : Int32)) (v := (.int (7 : Int32))) (by rw [e68]; exact Ara340.1) (State.isArrayOf_alike hZ.alike Ara340.2.1) Ara340.2.2 hin341 hat341 (g := (mkF mM 83 #[.val (.int p1), .val (.int p2), .val (.ref b2), .val (.ref b42), .val (.int (4 : Int32)), .val (.int (1 : Int32)), .unset] [(.int (4 : Int32)), (.ref b42)])) rfl rfl (hb hby at_83) _ ?_
        show Steps pP.tables eE below (T68.setTop (mkF mM 84 #[.val (.int p1), .val (.int p2), .val (.ref b2), .val (.ref b42), .val (.int (4 : Int32)), .val (.int (1 : Int32)), .unset] [(.int (7 : Int32))])) _
        refine XS.iload X68.here hx rfl (hb hby at_84) rfl ?_
        show Steps pP.tables eE below (T68.setTop (mkF mM 86 #[.val (.int p1), .val (.int p2), .val (.ref b2), .val (.ref b42), .val (.int (4 : Int32)), .val (.int (1 : Int32)), .unset] [(.int (1 : Int32)), (.int (7 : Int32))])) _
        refine XS.ishr X68.here hx rfl (hb hby at_86) rfl ?_
        show Steps pP.tables eE below (T68.setTop (mkF mM 87 #[.val (.int p1), .val (.int p2), .val (.ref b2), .val (.ref b42), .val (.int (4 : Int32)), .val (.int (1 : Int32)), .unset] [(.int ((7 : Int32) >>> ((1 : Int32) &&& 31)))])) _
        refine XS.iconst X68.here hx rfl (hb hby at_87) ?_
        show Steps pP.tables eE below (T68.setTop (mkF mM 88 #[.val (.int p1), .val (.int p2), .val (.ref b2), .val (.ref b42), .val (.int (4 : Int32)), .val (.int (1 : Int32)), .unset] [(.int (1 : Int32)), (.int ((7 : Int32) >>> ((1 : Int32) &&& 31)))])) _
        refine XS.iand X68.here hx rfl (hb hby at_88) rfl ?_
        show Steps pP.tables eE below (T68.setTop (mkF mM 89 #[.val (.int p1), .val (.int p2), .val (.ref b2), .val (.ref b42), .val (.int (4 : Int32)), .val (.int (1 : Int32)), .unset] [(.int (1 : Int32))])) _
        refine XS.ifNo X68.here hx rfl (hb hby at_89) rfl ((if0 _ _).trans (feq (by decide)).1) ?_
        show Steps pP.tables eE below (T68.setTop (mkF mM 92 #[.val (.int p1), .val (.int p2), .val (.ref b2), .val (.ref b42), .val (.int (4 : Int32)), .val (.int (1 : Int32)), .unset] [])) _
        refine XS.iconst X68.here hx rfl (hb hby at_92) ?_
        show Steps pP.tables eE below (T68.setTop (mkF mM 93 #[.val (.int p1), .val (.int p2), .val (.ref b2), .val (.ref b42), .val (.int (4 : Int32)), .val (.int (1 : Int32)), .unset] [(.int (1 : Int32))])) _
        refine XS.goto X68.here hx rfl (pc0 := 93) (pc' := 97) rfl (hb hby at_93) (by decide) (by decide) ?_
        show Steps pP.tables eE below (T68.setTop (mkF mM 97 #[.val (.int p1), .val (.int p2), .val (.ref b2), .val (.ref b42), .val (.int (4 : Int32)), .val (.int (1 : Int32)), .unset] [(.int (1 : Int32))])) _
        refine XS.istore X68.here hx rfl (hb hby at_97) rfl (l' := #[.val (.int p1), .val (.int p2), .val (.ref b2), .val (.ref b42), .val (.int (4 : Int32)), .val (.int (1 : Int32)), .val (.int (1 : Int32))]) rfl ?_
        show Steps pP.tables eE below (T68.setTop (mkF mM 99 #[.val (.int p1), .val (.int p2), .val (.ref b2), .val (.ref b42), .val (.int (4 : Int32)), .val (.int (1 : Int32)), .val (.int (1 : Int32))] [])) _
        refine XS.aloadN X68.here hx rfl (hb hby at_99) rfl rfl ?_
        show Steps pP.tables eE below (T68.setTop (mkF mM 100 #[.val (.int p1), .val (.int p2), .val (.ref b2), .val (.ref b42), .val (.int (4 : Int32)), .val (.int (1 : Int32)), .val (.int (1 : Int32))] [(.ref b2)])) _
        refine XS.iload X68.here hx rfl (hb hby at_100) rfl ?_
        show Steps pP.tables eE below (T68.setTop (mkF mM 102 #[.val (.int p1), .val (.int p2), .val (.ref b2), .val (.ref b42), .val (.int (4 : Int32)), .val (.int (1 : Int32)), .val (.int (1 : Int32))] [(.int (4 : Int32)), (.ref b2)])) _
        refine X68.aaload hx (j := (4 : Int32)) (v := (.ref a_KEEP)) (by rw [e68]; exact Ara343.1) (State.isArrayOf_alike hZ.alike Ara343.2.1) rfl Ara343.2.2 hin344 hat344 (g := (mkF mM 102 #[.val (.int p1), .val (.int p2), .val (.ref b2), .val (.ref b42), .val (.int (4 : Int32)), .val (.int (1 : Int32)), .val (.int (1 : Int32))] [(.int (4 : Int32)), (.ref b2)])) rfl rfl (hb hby at_102) _ ?_
        show Steps pP.tables eE below (T68.setTop (mkF mM 103 #[.val (.int p1), .val (.int p2), .val (.ref b2), .val (.ref b42), .val (.int (4 : Int32)), .val (.int (1 : Int32)), .val (.int (1 : Int32))] [(.ref a_KEEP)])) _
        refine XS.aloadN X68.here hx rfl (hb hby at_103) rfl rfl ?_
        show Steps pP.tables eE below (T68.setTop (mkF mM 104 #[.val (.int p1), .val (.int p2), .val (.ref b2), .val (.ref b42), .val (.int (4 : Int32)), .val (.int (1 : Int32)), .val (.int (1 : Int32))] [(.ref b2), (.ref a_KEEP)])) _
        refine XS.iload X68.here hx rfl (hb hby at_104) rfl ?_
        show Steps pP.tables eE below (T68.setTop (mkF mM 106 #[.val (.int p1), .val (.int p2), .val (.ref b2), .val (.ref b42), .val (.int (4 : Int32)), .val (.int (1 : Int32)), .val (.int (1 : Int32))] [(.int (1 : Int32)), (.ref b2), (.ref a_KEEP)])) _
        refine X68.aaload hx (j := (1 : Int32)) (v := (.ref a_UPDATE)) (by rw [e68]; exact Ara343.1) (State.isArrayOf_alike hZ.alike Ara343.2.1) rfl Ara343.2.2 hin345 hat345 (g := (mkF mM 106 #[.val (.int p1), .val (.int p2), .val (.ref b2), .val (.ref b42), .val (.int (4 : Int32)), .val (.int (1 : Int32)), .val (.int (1 : Int32))] [(.int (1 : Int32)), (.ref b2), (.ref a_KEEP)])) rfl rfl (hb hby at_106) _ ?_
        exact kg)
      have c348 := (Nat.le_trans (Nat.le_trans (Nat.le_trans (Nat.le_trans (Nat.le_trans (Nat.le_trans c45 E42.1) (Keep.of_wr W52).1) (Keep.of_wr W56).1) (Keep.of_wr W60).1) (Keep.of_wr W64).1) (Keep.of_wr W68).1)
      obtain ⟨cq349, kq349, qa349, qb349, qc349⟩ := isOf hZ e68 (Exa.ext (c346).2 E_KEEP)
      obtain ⟨_, _, ⟨T349, L349, kk349, nn349⟩, -, X349, ⟨Lc349, hQ349, l349, y349, z349⟩, st349⟩ := X68.virtualBack hx (y := (⟨"com/example/settle/settle/service/LockTable$Mode", "keepsOut", "(Lcom/example/settle/settle/service/LockTable$Mode;)Z"⟩ : MethodName)) (z := (⟨"com/example/settle/settle/service/LockTable$Mode", "keepsOut", "(Lcom/example/settle/settle/service/LockTable$Mode;)Z"⟩ : MethodName)) hown (mvT hZ (hw _ (List.mem_of_getElem? (i := 16) rfl))) (mvT hZ (hw _ (List.mem_of_getElem? (i := 17) rfl))) (notFace_of_selects (args := #[]) (mvT hZ (hw _ (List.mem_of_getElem? (i := 19) rfl)))) (mvT hZ (hw _ (List.mem_of_getElem? (i := 19) rfl))) (mvT hZ (hw _ (List.mem_of_getElem? (i := 18) rfl))) (by decide) (backOf (W := 0) (rm241 l Z a0 hw [] a_SHARED a_UPDATE a_EXCLUSIVE a_CHANGE a_KEEP h68 n0 c348 c346 S_SHARED E_SHARED S_UPDATE E_UPDATE S_EXCLUSIVE E_EXCLUSIVE S_CHANGE E_CHANGE S_KEEP E_KEEP F_SHARED_ordinal F_CHANGE_ordinal F_EXCLUSIVE_ordinal F_KEEP_ordinal F_UPDATE_ordinal) hZ (hw _ (List.mem_of_getElem? (i := 20) rfl)) (hw _ (List.mem_of_getElem? (i := 3) rfl)) (by decide) (by decide)) qa349 qc349 (g := (mkF mM 107 #[.val (.int p1), .val (.int p2), .val (.ref b2), .val (.ref b42), .val (.int (4 : Int32)), .val (.int (1 : Int32)), .val (.int (1 : Int32))] [(.ref a_UPDATE), (.ref a_KEEP)])) rfl (by rw [hml]; rfl) (Steps.refl _) (argsL := [(.ref a_UPDATE)]) (rest := []) (lenOf pd_1 rfl) rfl (by show 2 * 0 + _ ≤ _; exact Nat.le_of_eq rfl) (hb hby at_107) (fun _ _ => ⟨rfl, e68, (by decide : 2 + 0 ≤ _), (by decide : 10 + 0 ≤ _)⟩)
      dsimp only [Pt.U, Pt.locs, Pt.cells, Pt.slots] at X349 l349 y349 z349 st349 hQ349
      subst l349 y349 z349
      obtain ⟨rfl, Nq349, e349⟩ := hQ349
      have N349 := Fr.app N68 Nq349
      have pr350 : ∀ tg, Steps pP.tables eE below (T349.setTop (mkF mM 110 #[.val (.int p1), .val (.int p2), .val (.ref b2), .val (.ref b42), .val (.int (4 : Int32)), .val (.int (1 : Int32)), .val (.int (1 : Int32))] [(.int (1 : Int32))])) tg → Steps pP.tables eE below (s₁.setTop (entryFrame mM #[(.int p1), (.int p2)] maxLocals)) tg := fun tg kg => pr347 _ (st349.trans kg)
      have pr351 : ∀ tg, Steps pP.tables eE below (T349.setTop (mkF mM 120 #[.val (.int p1), .val (.int p2), .val (.ref b2), .val (.ref b42), .val (.int (4 : Int32)), .val (.int (1 : Int32)), .val (.int (1 : Int32))] [(.int (1 : Int32))])) tg → Steps pP.tables eE below (s₁.setTop (entryFrame mM #[(.int p1), (.int p2)] maxLocals)) tg := fun tg kg => pr350 _ (by
        show Steps pP.tables eE below (T349.setTop (mkF mM 110 #[.val (.int p1), .val (.int p2), .val (.ref b2), .val (.ref b42), .val (.int (4 : Int32)), .val (.int (1 : Int32)), .val (.int (1 : Int32))] [(.int (1 : Int32))])) _
        refine XS.iload X349.here hx rfl (hb hby at_110) rfl ?_
        show Steps pP.tables eE below (T349.setTop (mkF mM 112 #[.val (.int p1), .val (.int p2), .val (.ref b2), .val (.ref b42), .val (.int (4 : Int32)), .val (.int (1 : Int32)), .val (.int (1 : Int32))] [(.int (1 : Int32)), (.int (1 : Int32))])) _
        refine XS.icmpNo X349.here hx rfl (hb hby at_112) rfl (teq (by decide)).2 ?_
        show Steps pP.tables eE below (T349.setTop (mkF mM 115 #[.val (.int p1), .val (.int p2), .val (.ref b2), .val (.ref b42), .val (.int (4 : Int32)), .val (.int (1 : Int32)), .val (.int (1 : Int32))] [])) _
        refine XS.iconst X349.here hx rfl (hb hby at_115) ?_
        show Steps pP.tables eE below (T349.setTop (mkF mM 116 #[.val (.int p1), .val (.int p2), .val (.ref b2), .val (.ref b42), .val (.int (4 : Int32)), .val (.int (1 : Int32)), .val (.int (1 : Int32))] [(.int (1 : Int32))])) _
        refine XS.goto X349.here hx rfl (pc0 := 116) (pc' := 120) rfl (hb hby at_116) (by decide) (by decide) ?_
        exact kg)
      obtain ⟨fs, hr, hrun, hended, hW, hsame⟩ := X349.leave (v := some (.int (1 : Int32))) (fun h => by rw [Bd.returns] at h; cases h)
      refine ⟨_, _, pr351 _ (retOut X349 hx (t := .boolean) Bd.returns rfl (Or.inl ⟨rfl, Or.inr (Or.inl rfl), _, rfl⟩) (hb hby at_120) hr), hrun, hended, _, _, rfl, ?_, ⟨_, rfl⟩, hW, hsame.mono (by decide) (by decide)⟩
      show Q0 Z p1 p2 a_SHARED a_UPDATE a_EXCLUSIVE a_CHANGE a_KEEP h0 n0 _ T349.heap _
      rw [e349]
      exact ⟨rfl, N349⟩
    ·
      obtain ⟨cla352, Ara352, qa352, Sa352, Ma352, Ha352, Ga352⟩ := id V68
      have hin353 : ¬ ((4 : Int32) < 0 ∨ cla352.slots.size ≤ ((4 : Int32)).toNatClampNeg) := inb_of Sa352 ⟨by decide, by decide⟩
      have hat353 : cla352.slots[((4 : Int32)).toNatClampNeg]? = some (.int (7 : Int32)) := Has.at Ha352 hin353 rfl
      have c354 := (Arv.other (Arv.other (Arv.other (Arv.other (Arv.other (Arv.ext V39 E42) W52 ne43) W56 ne43) W60 ne43) W64 ne43) W68 ne43)
      obtain ⟨cla355, Ara355, qa355, Sa355, Ma355, Ha355, Ga355⟩ := id c354
      have hin356 : ¬ ((4 : Int32) < 0 ∨ cla355.slots.size ≤ ((4 : Int32)).toNatClampNeg) := inb_of Sa355 ⟨by decide, by decide⟩
      have hat356 : cla355.slots[((4 : Int32)).toNatClampNeg]? = some (.ref a_KEEP) := Has.at Ha355 hin356 rfl
      have hin357 : ¬ ((2 : Int32) < 0 ∨ cla355.slots.size ≤ ((2 : Int32)).toNatClampNeg) := inb_of Sa355 ⟨by decide, by decide⟩
      have hat357 : cla355.slots[((2 : Int32)).toNatClampNeg]? = some (.ref a_EXCLUSIVE) := Has.at Ha355 hin357 rfl
      have c358 := (Old.wr (Old.wr (Old.wr (Old.wr (Old.wr (Old.ext c48 E42) W52 gn44) W56 gn44) W60 gn44) W64 gn44) W68 gn44)
      have pr359 : ∀ tg, Steps pP.tables eE below (T68.setTop (mkF mM 107 #[.val (.int p1), .val (.int p2), .val (.ref b2), .val (.ref b42), .val (.int (4 : Int32)), .val (.int (2 : Int32)), .val (.int (1 : Int32))] [(.ref a_EXCLUSIVE), (.ref a_KEEP)])) tg → Steps pP.tables eE below (s₁.setTop (entryFrame mM #[(.int p1), (.int p2)] maxLocals)) tg := fun tg kg => pr327 _ (by
        show Steps pP.tables eE below (T68.setTop (mkF mM 80 #[.val (.int p1), .val (.int p2), .val (.ref b2), .val (.ref b42), .val (.int (4 : Int32)), .val (.int (2 : Int32)), .unset] [])) _
        refine XS.aloadN X68.here hx rfl (hb hby at_80) rfl rfl ?_
        show Steps pP.tables eE below (T68.setTop (mkF mM 81 #[.val (.int p1), .val (.int p2), .val (.ref b2), .val (.ref b42), .val (.int (4 : Int32)), .val (.int (2 : Int32)), .unset] [(.ref b42)])) _
        refine XS.iload X68.here hx rfl (hb hby at_81) rfl ?_
        show Steps pP.tables eE below (T68.setTop (mkF mM 83 #[.val (.int p1), .val (.int p2), .val (.ref b2), .val (.ref b42), .val (.int (4 : Int32)), .val (.int (2 : Int32)), .unset] [(.int (4 : Int32)), (.ref b42)])) _
        refine X68.iaload hx (j := (4 : Int32)) (v := (.int (7 : Int32))) (by rw [e68]; exact Ara352.1) (State.isArrayOf_alike hZ.alike Ara352.2.1) Ara352.2.2 hin353 hat353 (g := (mkF mM 83 #[.val (.int p1), .val (.int p2), .val (.ref b2), .val (.ref b42), .val (.int (4 : Int32)), .val (.int (2 : Int32)), .unset] [(.int (4 : Int32)), (.ref b42)])) rfl rfl (hb hby at_83) _ ?_
        show Steps pP.tables eE below (T68.setTop (mkF mM 84 #[.val (.int p1), .val (.int p2), .val (.ref b2), .val (.ref b42), .val (.int (4 : Int32)), .val (.int (2 : Int32)), .unset] [(.int (7 : Int32))])) _
        refine XS.iload X68.here hx rfl (hb hby at_84) rfl ?_
        show Steps pP.tables eE below (T68.setTop (mkF mM 86 #[.val (.int p1), .val (.int p2), .val (.ref b2), .val (.ref b42), .val (.int (4 : Int32)), .val (.int (2 : Int32)), .unset] [(.int (2 : Int32)), (.int (7 : Int32))])) _
        refine XS.ishr X68.here hx rfl (hb hby at_86) rfl ?_
        show Steps pP.tables eE below (T68.setTop (mkF mM 87 #[.val (.int p1), .val (.int p2), .val (.ref b2), .val (.ref b42), .val (.int (4 : Int32)), .val (.int (2 : Int32)), .unset] [(.int ((7 : Int32) >>> ((2 : Int32) &&& 31)))])) _
        refine XS.iconst X68.here hx rfl (hb hby at_87) ?_
        show Steps pP.tables eE below (T68.setTop (mkF mM 88 #[.val (.int p1), .val (.int p2), .val (.ref b2), .val (.ref b42), .val (.int (4 : Int32)), .val (.int (2 : Int32)), .unset] [(.int (1 : Int32)), (.int ((7 : Int32) >>> ((2 : Int32) &&& 31)))])) _
        refine XS.iand X68.here hx rfl (hb hby at_88) rfl ?_
        show Steps pP.tables eE below (T68.setTop (mkF mM 89 #[.val (.int p1), .val (.int p2), .val (.ref b2), .val (.ref b42), .val (.int (4 : Int32)), .val (.int (2 : Int32)), .unset] [(.int (1 : Int32))])) _
        refine XS.ifNo X68.here hx rfl (hb hby at_89) rfl ((if0 _ _).trans (feq (by decide)).1) ?_
        show Steps pP.tables eE below (T68.setTop (mkF mM 92 #[.val (.int p1), .val (.int p2), .val (.ref b2), .val (.ref b42), .val (.int (4 : Int32)), .val (.int (2 : Int32)), .unset] [])) _
        refine XS.iconst X68.here hx rfl (hb hby at_92) ?_
        show Steps pP.tables eE below (T68.setTop (mkF mM 93 #[.val (.int p1), .val (.int p2), .val (.ref b2), .val (.ref b42), .val (.int (4 : Int32)), .val (.int (2 : Int32)), .unset] [(.int (1 : Int32))])) _
        refine XS.goto X68.here hx rfl (pc0 := 93) (pc' := 97) rfl (hb hby at_93) (by decide) (by decide) ?_
        show Steps pP.tables eE below (T68.setTop (mkF mM 97 #[.val (.int p1), .val (.int p2), .val (.ref b2), .val (.ref b42), .val (.int (4 : Int32)), .val (.int (2 : Int32)), .unset] [(.int (1 : Int32))])) _
        refine XS.istore X68.here hx rfl (hb hby at_97) rfl (l' := #[.val (.int p1), .val (.int p2), .val (.ref b2), .val (.ref b42), .val (.int (4 : Int32)), .val (.int (2 : Int32)), .val (.int (1 : Int32))]) rfl ?_
        show Steps pP.tables eE below (T68.setTop (mkF mM 99 #[.val (.int p1), .val (.int p2), .val (.ref b2), .val (.ref b42), .val (.int (4 : Int32)), .val (.int (2 : Int32)), .val (.int (1 : Int32))] [])) _
        refine XS.aloadN X68.here hx rfl (hb hby at_99) rfl rfl ?_
        show Steps pP.tables eE below (T68.setTop (mkF mM 100 #[.val (.int p1), .val (.int p2), .val (.ref b2), .val (.ref b42), .val (.int (4 : Int32)), .val (.int (2 : Int32)), .val (.int (1 : Int32))] [(.ref b2)])) _
        refine XS.iload X68.here hx rfl (hb hby at_100) rfl ?_
        show Steps pP.tables eE below (T68.setTop (mkF mM 102 #[.val (.int p1), .val (.int p2), .val (.ref b2), .val (.ref b42), .val (.int (4 : Int32)), .val (.int (2 : Int32)), .val (.int (1 : Int32))] [(.int (4 : Int32)), (.ref b2)])) _
        refine X68.aaload hx (j := (4 : Int32)) (v := (.ref a_KEEP)) (by rw [e68]; exact Ara355.1) (State.isArrayOf_alike hZ.alike Ara355.2.1) rfl Ara355.2.2 hin356 hat356 (g := (mkF mM 102 #[.val (.int p1), .val (.int p2), .val (.ref b2), .val (.ref b42), .val (.int (4 : Int32)), .val (.int (2 : Int32)), .val (.int (1 : Int32))] [(.int (4 : Int32)), (.ref b2)])) rfl rfl (hb hby at_102) _ ?_
        show Steps pP.tables eE below (T68.setTop (mkF mM 103 #[.val (.int p1), .val (.int p2), .val (.ref b2), .val (.ref b42), .val (.int (4 : Int32)), .val (.int (2 : Int32)), .val (.int (1 : Int32))] [(.ref a_KEEP)])) _
        refine XS.aloadN X68.here hx rfl (hb hby at_103) rfl rfl ?_
        show Steps pP.tables eE below (T68.setTop (mkF mM 104 #[.val (.int p1), .val (.int p2), .val (.ref b2), .val (.ref b42), .val (.int (4 : Int32)), .val (.int (2 : Int32)), .val (.int (1 : Int32))] [(.ref b2), (.ref a_KEEP)])) _
        refine XS.iload X68.here hx rfl (hb hby at_104) rfl ?_
        show Steps pP.tables eE below (T68.setTop (mkF mM 106 #[.val (.int p1), .val (.int p2), .val (.ref b2), .val (.ref b42), .val (.int (4 : Int32)), .val (.int (2 : Int32)), .val (.int (1 : Int32))] [(.int (2 : Int32)), (.ref b2), (.ref a_KEEP)])) _
        refine X68.aaload hx (j := (2 : Int32)) (v := (.ref a_EXCLUSIVE)) (by rw [e68]; exact Ara355.1) (State.isArrayOf_alike hZ.alike Ara355.2.1) rfl Ara355.2.2 hin357 hat357 (g := (mkF mM 106 #[.val (.int p1), .val (.int p2), .val (.ref b2), .val (.ref b42), .val (.int (4 : Int32)), .val (.int (2 : Int32)), .val (.int (1 : Int32))] [(.int (2 : Int32)), (.ref b2), (.ref a_KEEP)])) rfl rfl (hb hby at_106) _ ?_
        exact kg)
      have c360 := (Nat.le_trans (Nat.le_trans (Nat.le_trans (Nat.le_trans (Nat.le_trans (Nat.le_trans c45 E42.1) (Keep.of_wr W52).1) (Keep.of_wr W56).1) (Keep.of_wr W60).1) (Keep.of_wr W64).1) (Keep.of_wr W68).1)
      obtain ⟨cq361, kq361, qa361, qb361, qc361⟩ := isOf hZ e68 (Exa.ext (c358).2 E_KEEP)
      obtain ⟨_, _, ⟨T361, L361, kk361, nn361⟩, -, X361, ⟨Lc361, hQ361, l361, y361, z361⟩, st361⟩ := X68.virtualBack hx (y := (⟨"com/example/settle/settle/service/LockTable$Mode", "keepsOut", "(Lcom/example/settle/settle/service/LockTable$Mode;)Z"⟩ : MethodName)) (z := (⟨"com/example/settle/settle/service/LockTable$Mode", "keepsOut", "(Lcom/example/settle/settle/service/LockTable$Mode;)Z"⟩ : MethodName)) hown (mvT hZ (hw _ (List.mem_of_getElem? (i := 16) rfl))) (mvT hZ (hw _ (List.mem_of_getElem? (i := 17) rfl))) (notFace_of_selects (args := #[]) (mvT hZ (hw _ (List.mem_of_getElem? (i := 19) rfl)))) (mvT hZ (hw _ (List.mem_of_getElem? (i := 19) rfl))) (mvT hZ (hw _ (List.mem_of_getElem? (i := 18) rfl))) (by decide) (backOf (W := 0) (rm242 l Z a0 hw [] a_SHARED a_UPDATE a_EXCLUSIVE a_CHANGE a_KEEP h68 n0 c360 c358 S_SHARED E_SHARED S_UPDATE E_UPDATE S_EXCLUSIVE E_EXCLUSIVE S_CHANGE E_CHANGE S_KEEP E_KEEP F_SHARED_ordinal F_CHANGE_ordinal F_EXCLUSIVE_ordinal F_KEEP_ordinal F_UPDATE_ordinal) hZ (hw _ (List.mem_of_getElem? (i := 20) rfl)) (hw _ (List.mem_of_getElem? (i := 3) rfl)) (by decide) (by decide)) qa361 qc361 (g := (mkF mM 107 #[.val (.int p1), .val (.int p2), .val (.ref b2), .val (.ref b42), .val (.int (4 : Int32)), .val (.int (2 : Int32)), .val (.int (1 : Int32))] [(.ref a_EXCLUSIVE), (.ref a_KEEP)])) rfl (by rw [hml]; rfl) (Steps.refl _) (argsL := [(.ref a_EXCLUSIVE)]) (rest := []) (lenOf pd_1 rfl) rfl (by show 2 * 0 + _ ≤ _; exact Nat.le_of_eq rfl) (hb hby at_107) (fun _ _ => ⟨rfl, e68, (by decide : 2 + 0 ≤ _), (by decide : 10 + 0 ≤ _)⟩)
      dsimp only [Pt.U, Pt.locs, Pt.cells, Pt.slots] at X361 l361 y361 z361 st361 hQ361
      subst l361 y361 z361
      obtain ⟨rfl, Nq361, e361⟩ := hQ361
      have N361 := Fr.app N68 Nq361
      have pr362 : ∀ tg, Steps pP.tables eE below (T361.setTop (mkF mM 110 #[.val (.int p1), .val (.int p2), .val (.ref b2), .val (.ref b42), .val (.int (4 : Int32)), .val (.int (2 : Int32)), .val (.int (1 : Int32))] [(.int (1 : Int32))])) tg → Steps pP.tables eE below (s₁.setTop (entryFrame mM #[(.int p1), (.int p2)] maxLocals)) tg := fun tg kg => pr359 _ (st361.trans kg)
      have pr363 : ∀ tg, Steps pP.tables eE below (T361.setTop (mkF mM 120 #[.val (.int p1), .val (.int p2), .val (.ref b2), .val (.ref b42), .val (.int (4 : Int32)), .val (.int (2 : Int32)), .val (.int (1 : Int32))] [(.int (1 : Int32))])) tg → Steps pP.tables eE below (s₁.setTop (entryFrame mM #[(.int p1), (.int p2)] maxLocals)) tg := fun tg kg => pr362 _ (by
        show Steps pP.tables eE below (T361.setTop (mkF mM 110 #[.val (.int p1), .val (.int p2), .val (.ref b2), .val (.ref b42), .val (.int (4 : Int32)), .val (.int (2 : Int32)), .val (.int (1 : Int32))] [(.int (1 : Int32))])) _
        refine XS.iload X361.here hx rfl (hb hby at_110) rfl ?_
        show Steps pP.tables eE below (T361.setTop (mkF mM 112 #[.val (.int p1), .val (.int p2), .val (.ref b2), .val (.ref b42), .val (.int (4 : Int32)), .val (.int (2 : Int32)), .val (.int (1 : Int32))] [(.int (1 : Int32)), (.int (1 : Int32))])) _
        refine XS.icmpNo X361.here hx rfl (hb hby at_112) rfl (teq (by decide)).2 ?_
        show Steps pP.tables eE below (T361.setTop (mkF mM 115 #[.val (.int p1), .val (.int p2), .val (.ref b2), .val (.ref b42), .val (.int (4 : Int32)), .val (.int (2 : Int32)), .val (.int (1 : Int32))] [])) _
        refine XS.iconst X361.here hx rfl (hb hby at_115) ?_
        show Steps pP.tables eE below (T361.setTop (mkF mM 116 #[.val (.int p1), .val (.int p2), .val (.ref b2), .val (.ref b42), .val (.int (4 : Int32)), .val (.int (2 : Int32)), .val (.int (1 : Int32))] [(.int (1 : Int32))])) _
        refine XS.goto X361.here hx rfl (pc0 := 116) (pc' := 120) rfl (hb hby at_116) (by decide) (by decide) ?_
        exact kg)
      obtain ⟨fs, hr, hrun, hended, hW, hsame⟩ := X361.leave (v := some (.int (1 : Int32))) (fun h => by rw [Bd.returns] at h; cases h)
      refine ⟨_, _, pr363 _ (retOut X361 hx (t := .boolean) Bd.returns rfl (Or.inl ⟨rfl, Or.inr (Or.inl rfl), _, rfl⟩) (hb hby at_120) hr), hrun, hended, _, _, rfl, ?_, ⟨_, rfl⟩, hW, hsame.mono (by decide) (by decide)⟩
      show Q0 Z p1 p2 a_SHARED a_UPDATE a_EXCLUSIVE a_CHANGE a_KEEP h0 n0 _ T361.heap _
      rw [e361]
      exact ⟨rfl, N361⟩
    ·
      obtain ⟨cla364, Ara364, qa364, Sa364, Ma364, Ha364, Ga364⟩ := id V68
      have hin365 : ¬ ((4 : Int32) < 0 ∨ cla364.slots.size ≤ ((4 : Int32)).toNatClampNeg) := inb_of Sa364 ⟨by decide, by decide⟩
      have hat365 : cla364.slots[((4 : Int32)).toNatClampNeg]? = some (.int (7 : Int32)) := Has.at Ha364 hin365 rfl
      have c366 := (Arv.other (Arv.other (Arv.other (Arv.other (Arv.other (Arv.ext V39 E42) W52 ne43) W56 ne43) W60 ne43) W64 ne43) W68 ne43)
      obtain ⟨cla367, Ara367, qa367, Sa367, Ma367, Ha367, Ga367⟩ := id c366
      have hin368 : ¬ ((4 : Int32) < 0 ∨ cla367.slots.size ≤ ((4 : Int32)).toNatClampNeg) := inb_of Sa367 ⟨by decide, by decide⟩
      have hat368 : cla367.slots[((4 : Int32)).toNatClampNeg]? = some (.ref a_KEEP) := Has.at Ha367 hin368 rfl
      have hin369 : ¬ ((3 : Int32) < 0 ∨ cla367.slots.size ≤ ((3 : Int32)).toNatClampNeg) := inb_of Sa367 ⟨by decide, by decide⟩
      have hat369 : cla367.slots[((3 : Int32)).toNatClampNeg]? = some (.ref a_CHANGE) := Has.at Ha367 hin369 rfl
      have c370 := (Old.wr (Old.wr (Old.wr (Old.wr (Old.wr (Old.ext c48 E42) W52 gn44) W56 gn44) W60 gn44) W64 gn44) W68 gn44)
      have pr371 : ∀ tg, Steps pP.tables eE below (T68.setTop (mkF mM 107 #[.val (.int p1), .val (.int p2), .val (.ref b2), .val (.ref b42), .val (.int (4 : Int32)), .val (.int (3 : Int32)), .val (.int (0 : Int32))] [(.ref a_CHANGE), (.ref a_KEEP)])) tg → Steps pP.tables eE below (s₁.setTop (entryFrame mM #[(.int p1), (.int p2)] maxLocals)) tg := fun tg kg => pr327 _ (by
        show Steps pP.tables eE below (T68.setTop (mkF mM 80 #[.val (.int p1), .val (.int p2), .val (.ref b2), .val (.ref b42), .val (.int (4 : Int32)), .val (.int (3 : Int32)), .unset] [])) _
        refine XS.aloadN X68.here hx rfl (hb hby at_80) rfl rfl ?_
        show Steps pP.tables eE below (T68.setTop (mkF mM 81 #[.val (.int p1), .val (.int p2), .val (.ref b2), .val (.ref b42), .val (.int (4 : Int32)), .val (.int (3 : Int32)), .unset] [(.ref b42)])) _
        refine XS.iload X68.here hx rfl (hb hby at_81) rfl ?_
        show Steps pP.tables eE below (T68.setTop (mkF mM 83 #[.val (.int p1), .val (.int p2), .val (.ref b2), .val (.ref b42), .val (.int (4 : Int32)), .val (.int (3 : Int32)), .unset] [(.int (4 : Int32)), (.ref b42)])) _
        refine X68.iaload hx (j := (4 : Int32)) (v := (.int (7 : Int32))) (by rw [e68]; exact Ara364.1) (State.isArrayOf_alike hZ.alike Ara364.2.1) Ara364.2.2 hin365 hat365 (g := (mkF mM 83 #[.val (.int p1), .val (.int p2), .val (.ref b2), .val (.ref b42), .val (.int (4 : Int32)), .val (.int (3 : Int32)), .unset] [(.int (4 : Int32)), (.ref b42)])) rfl rfl (hb hby at_83) _ ?_
        show Steps pP.tables eE below (T68.setTop (mkF mM 84 #[.val (.int p1), .val (.int p2), .val (.ref b2), .val (.ref b42), .val (.int (4 : Int32)), .val (.int (3 : Int32)), .unset] [(.int (7 : Int32))])) _
        refine XS.iload X68.here hx rfl (hb hby at_84) rfl ?_
        show Steps pP.tables eE below (T68.setTop (mkF mM 86 #[.val (.int p1), .val (.int p2), .val (.ref b2), .val (.ref b42), .val (.int (4 : Int32)), .val (.int (3 : Int32)), .unset] [(.int (3 : Int32)), (.int (7 : Int32))])) _
        refine XS.ishr X68.here hx rfl (hb hby at_86) rfl ?_
        show Steps pP.tables eE below (T68.setTop (mkF mM 87 #[.val (.int p1), .val (.int p2), .val (.ref b2), .val (.ref b42), .val (.int (4 : Int32)), .val (.int (3 : Int32)), .unset] [(.int ((7 : Int32) >>> ((3 : Int32) &&& 31)))])) _
        refine XS.iconst X68.here hx rfl (hb hby at_87) ?_
        show Steps pP.tables eE below (T68.setTop (mkF mM 88 #[.val (.int p1), .val (.int p2), .val (.ref b2), .val (.ref b42), .val (.int (4 : Int32)), .val (.int (3 : Int32)), .unset] [(.int (1 : Int32)), (.int ((7 : Int32) >>> ((3 : Int32) &&& 31)))])) _
        refine XS.iand X68.here hx rfl (hb hby at_88) rfl ?_
        show Steps pP.tables eE below (T68.setTop (mkF mM 89 #[.val (.int p1), .val (.int p2), .val (.ref b2), .val (.ref b42), .val (.int (4 : Int32)), .val (.int (3 : Int32)), .unset] [(.int (0 : Int32))])) _
        refine XS.ifYes X68.here hx rfl (pc0 := 89) (pc' := 96) rfl (hb hby at_89) rfl ((if0 _ _).trans (teq (by decide)).1) (by decide) (by decide) ?_
        show Steps pP.tables eE below (T68.setTop (mkF mM 96 #[.val (.int p1), .val (.int p2), .val (.ref b2), .val (.ref b42), .val (.int (4 : Int32)), .val (.int (3 : Int32)), .unset] [])) _
        refine XS.iconst X68.here hx rfl (hb hby at_96) ?_
        show Steps pP.tables eE below (T68.setTop (mkF mM 97 #[.val (.int p1), .val (.int p2), .val (.ref b2), .val (.ref b42), .val (.int (4 : Int32)), .val (.int (3 : Int32)), .unset] [(.int (0 : Int32))])) _
        refine XS.istore X68.here hx rfl (hb hby at_97) rfl (l' := #[.val (.int p1), .val (.int p2), .val (.ref b2), .val (.ref b42), .val (.int (4 : Int32)), .val (.int (3 : Int32)), .val (.int (0 : Int32))]) rfl ?_
        show Steps pP.tables eE below (T68.setTop (mkF mM 99 #[.val (.int p1), .val (.int p2), .val (.ref b2), .val (.ref b42), .val (.int (4 : Int32)), .val (.int (3 : Int32)), .val (.int (0 : Int32))] [])) _
        refine XS.aloadN X68.here hx rfl (hb hby at_99) rfl rfl ?_
        show Steps pP.tables eE below (T68.setTop (mkF mM 100 #[.val (.int p1), .val (.int p2), .val (.ref b2), .val (.ref b42), .val (.int (4 : Int32)), .val (.int (3 : Int32)), .val (.int (0 : Int32))] [(.ref b2)])) _
        refine XS.iload X68.here hx rfl (hb hby at_100) rfl ?_
        show Steps pP.tables eE below (T68.setTop (mkF mM 102 #[.val (.int p1), .val (.int p2), .val (.ref b2), .val (.ref b42), .val (.int (4 : Int32)), .val (.int (3 : Int32)), .val (.int (0 : Int32))] [(.int (4 : Int32)), (.ref b2)])) _
        refine X68.aaload hx (j := (4 : Int32)) (v := (.ref a_KEEP)) (by rw [e68]; exact Ara367.1) (State.isArrayOf_alike hZ.alike Ara367.2.1) rfl Ara367.2.2 hin368 hat368 (g := (mkF mM 102 #[.val (.int p1), .val (.int p2), .val (.ref b2), .val (.ref b42), .val (.int (4 : Int32)), .val (.int (3 : Int32)), .val (.int (0 : Int32))] [(.int (4 : Int32)), (.ref b2)])) rfl rfl (hb hby at_102) _ ?_
        show Steps pP.tables eE below (T68.setTop (mkF mM 103 #[.val (.int p1), .val (.int p2), .val (.ref b2), .val (.ref b42), .val (.int (4 : Int32)), .val (.int (3 : Int32)), .val (.int (0 : Int32))] [(.ref a_KEEP)])) _
        refine XS.aloadN X68.here hx rfl (hb hby at_103) rfl rfl ?_
        show Steps pP.tables eE below (T68.setTop (mkF mM 104 #[.val (.int p1), .val (.int p2), .val (.ref b2), .val (.ref b42), .val (.int (4 : Int32)), .val (.int (3 : Int32)), .val (.int (0 : Int32))] [(.ref b2), (.ref a_KEEP)])) _
        refine XS.iload X68.here hx rfl (hb hby at_104) rfl ?_
        show Steps pP.tables eE below (T68.setTop (mkF mM 106 #[.val (.int p1), .val (.int p2), .val (.ref b2), .val (.ref b42), .val (.int (4 : Int32)), .val (.int (3 : Int32)), .val (.int (0 : Int32))] [(.int (3 : Int32)), (.ref b2), (.ref a_KEEP)])) _
        refine X68.aaload hx (j := (3 : Int32)) (v := (.ref a_CHANGE)) (by rw [e68]; exact Ara367.1) (State.isArrayOf_alike hZ.alike Ara367.2.1) rfl Ara367.2.2 hin369 hat369 (g := (mkF mM 106 #[.val (.int p1), .val (.int p2), .val (.ref b2), .val (.ref b42), .val (.int (4 : Int32)), .val (.int (3 : Int32)), .val (.int (0 : Int32))] [(.int (3 : Int32)), (.ref b2), (.ref a_KEEP)])) rfl rfl (hb hby at_106) _ ?_
        exact kg)
      have c372 := (Nat.le_trans (Nat.le_trans (Nat.le_trans (Nat.le_trans (Nat.le_trans (Nat.le_trans c45 E42.1) (Keep.of_wr W52).1) (Keep.of_wr W56).1) (Keep.of_wr W60).1) (Keep.of_wr W64).1) (Keep.of_wr W68).1)
      obtain ⟨cq373, kq373, qa373, qb373, qc373⟩ := isOf hZ e68 (Exa.ext (c370).2 E_KEEP)
      obtain ⟨_, _, ⟨T373, L373, kk373, nn373⟩, -, X373, ⟨Lc373, hQ373, l373, y373, z373⟩, st373⟩ := X68.virtualBack hx (y := (⟨"com/example/settle/settle/service/LockTable$Mode", "keepsOut", "(Lcom/example/settle/settle/service/LockTable$Mode;)Z"⟩ : MethodName)) (z := (⟨"com/example/settle/settle/service/LockTable$Mode", "keepsOut", "(Lcom/example/settle/settle/service/LockTable$Mode;)Z"⟩ : MethodName)) hown (mvT hZ (hw _ (List.mem_of_getElem? (i := 16) rfl))) (mvT hZ (hw _ (List.mem_of_getElem? (i := 17) rfl))) (notFace_of_selects (args := #[]) (mvT hZ (hw _ (List.mem_of_getElem? (i := 19) rfl)))) (mvT hZ (hw _ (List.mem_of_getElem? (i := 19) rfl))) (mvT hZ (hw _ (List.mem_of_getElem? (i := 18) rfl))) (by decide) (backOf (W := 0) (rm243 l Z a0 hw [] a_SHARED a_UPDATE a_EXCLUSIVE a_CHANGE a_KEEP h68 n0 c372 c370 S_SHARED E_SHARED S_UPDATE E_UPDATE S_EXCLUSIVE E_EXCLUSIVE S_CHANGE E_CHANGE S_KEEP E_KEEP F_SHARED_ordinal F_CHANGE_ordinal F_EXCLUSIVE_ordinal F_KEEP_ordinal F_UPDATE_ordinal) hZ (hw _ (List.mem_of_getElem? (i := 20) rfl)) (hw _ (List.mem_of_getElem? (i := 3) rfl)) (by decide) (by decide)) qa373 qc373 (g := (mkF mM 107 #[.val (.int p1), .val (.int p2), .val (.ref b2), .val (.ref b42), .val (.int (4 : Int32)), .val (.int (3 : Int32)), .val (.int (0 : Int32))] [(.ref a_CHANGE), (.ref a_KEEP)])) rfl (by rw [hml]; rfl) (Steps.refl _) (argsL := [(.ref a_CHANGE)]) (rest := []) (lenOf pd_1 rfl) rfl (by show 2 * 0 + _ ≤ _; exact Nat.le_of_eq rfl) (hb hby at_107) (fun _ _ => ⟨rfl, e68, (by decide : 2 + 0 ≤ _), (by decide : 10 + 0 ≤ _)⟩)
      dsimp only [Pt.U, Pt.locs, Pt.cells, Pt.slots] at X373 l373 y373 z373 st373 hQ373
      subst l373 y373 z373
      obtain ⟨rfl, Nq373, e373⟩ := hQ373
      have N373 := Fr.app N68 Nq373
      have pr374 : ∀ tg, Steps pP.tables eE below (T373.setTop (mkF mM 110 #[.val (.int p1), .val (.int p2), .val (.ref b2), .val (.ref b42), .val (.int (4 : Int32)), .val (.int (3 : Int32)), .val (.int (0 : Int32))] [(.int (0 : Int32))])) tg → Steps pP.tables eE below (s₁.setTop (entryFrame mM #[(.int p1), (.int p2)] maxLocals)) tg := fun tg kg => pr371 _ (st373.trans kg)
      have pr375 : ∀ tg, Steps pP.tables eE below (T373.setTop (mkF mM 120 #[.val (.int p1), .val (.int p2), .val (.ref b2), .val (.ref b42), .val (.int (4 : Int32)), .val (.int (3 : Int32)), .val (.int (0 : Int32))] [(.int (1 : Int32))])) tg → Steps pP.tables eE below (s₁.setTop (entryFrame mM #[(.int p1), (.int p2)] maxLocals)) tg := fun tg kg => pr374 _ (by
        show Steps pP.tables eE below (T373.setTop (mkF mM 110 #[.val (.int p1), .val (.int p2), .val (.ref b2), .val (.ref b42), .val (.int (4 : Int32)), .val (.int (3 : Int32)), .val (.int (0 : Int32))] [(.int (0 : Int32))])) _
        refine XS.iload X373.here hx rfl (hb hby at_110) rfl ?_
        show Steps pP.tables eE below (T373.setTop (mkF mM 112 #[.val (.int p1), .val (.int p2), .val (.ref b2), .val (.ref b42), .val (.int (4 : Int32)), .val (.int (3 : Int32)), .val (.int (0 : Int32))] [(.int (0 : Int32)), (.int (0 : Int32))])) _
        refine XS.icmpNo X373.here hx rfl (hb hby at_112) rfl (teq (by decide)).2 ?_
        show Steps pP.tables eE below (T373.setTop (mkF mM 115 #[.val (.int p1), .val (.int p2), .val (.ref b2), .val (.ref b42), .val (.int (4 : Int32)), .val (.int (3 : Int32)), .val (.int (0 : Int32))] [])) _
        refine XS.iconst X373.here hx rfl (hb hby at_115) ?_
        show Steps pP.tables eE below (T373.setTop (mkF mM 116 #[.val (.int p1), .val (.int p2), .val (.ref b2), .val (.ref b42), .val (.int (4 : Int32)), .val (.int (3 : Int32)), .val (.int (0 : Int32))] [(.int (1 : Int32))])) _
        refine XS.goto X373.here hx rfl (pc0 := 116) (pc' := 120) rfl (hb hby at_116) (by decide) (by decide) ?_
        exact kg)
      obtain ⟨fs, hr, hrun, hended, hW, hsame⟩ := X373.leave (v := some (.int (1 : Int32))) (fun h => by rw [Bd.returns] at h; cases h)
      refine ⟨_, _, pr375 _ (retOut X373 hx (t := .boolean) Bd.returns rfl (Or.inl ⟨rfl, Or.inr (Or.inl rfl), _, rfl⟩) (hb hby at_120) hr), hrun, hended, _, _, rfl, ?_, ⟨_, rfl⟩, hW, hsame.mono (by decide) (by decide)⟩
      show Q0 Z p1 p2 a_SHARED a_UPDATE a_EXCLUSIVE a_CHANGE a_KEEP h0 n0 _ T373.heap _
      rw [e373]
      exact ⟨rfl, N373⟩
    ·
      obtain ⟨cla376, Ara376, qa376, Sa376, Ma376, Ha376, Ga376⟩ := id V68
      have hin377 : ¬ ((4 : Int32) < 0 ∨ cla376.slots.size ≤ ((4 : Int32)).toNatClampNeg) := inb_of Sa376 ⟨by decide, by decide⟩
      have hat377 : cla376.slots[((4 : Int32)).toNatClampNeg]? = some (.int (7 : Int32)) := Has.at Ha376 hin377 rfl
      have c378 := (Arv.other (Arv.other (Arv.other (Arv.other (Arv.other (Arv.ext V39 E42) W52 ne43) W56 ne43) W60 ne43) W64 ne43) W68 ne43)
      obtain ⟨cla379, Ara379, qa379, Sa379, Ma379, Ha379, Ga379⟩ := id c378
      have hin380 : ¬ ((4 : Int32) < 0 ∨ cla379.slots.size ≤ ((4 : Int32)).toNatClampNeg) := inb_of Sa379 ⟨by decide, by decide⟩
      have hat380 : cla379.slots[((4 : Int32)).toNatClampNeg]? = some (.ref a_KEEP) := Has.at Ha379 hin380 rfl
      have hin381 : ¬ ((4 : Int32) < 0 ∨ cla379.slots.size ≤ ((4 : Int32)).toNatClampNeg) := inb_of Sa379 ⟨by decide, by decide⟩
      have hat381 : cla379.slots[((4 : Int32)).toNatClampNeg]? = some (.ref a_KEEP) := Has.at Ha379 hin381 rfl
      have c382 := (Old.wr (Old.wr (Old.wr (Old.wr (Old.wr (Old.ext c48 E42) W52 gn44) W56 gn44) W60 gn44) W64 gn44) W68 gn44)
      have pr383 : ∀ tg, Steps pP.tables eE below (T68.setTop (mkF mM 107 #[.val (.int p1), .val (.int p2), .val (.ref b2), .val (.ref b42), .val (.int (4 : Int32)), .val (.int (4 : Int32)), .val (.int (0 : Int32))] [(.ref a_KEEP), (.ref a_KEEP)])) tg → Steps pP.tables eE below (s₁.setTop (entryFrame mM #[(.int p1), (.int p2)] maxLocals)) tg := fun tg kg => pr327 _ (by
        show Steps pP.tables eE below (T68.setTop (mkF mM 80 #[.val (.int p1), .val (.int p2), .val (.ref b2), .val (.ref b42), .val (.int (4 : Int32)), .val (.int (4 : Int32)), .unset] [])) _
        refine XS.aloadN X68.here hx rfl (hb hby at_80) rfl rfl ?_
        show Steps pP.tables eE below (T68.setTop (mkF mM 81 #[.val (.int p1), .val (.int p2), .val (.ref b2), .val (.ref b42), .val (.int (4 : Int32)), .val (.int (4 : Int32)), .unset] [(.ref b42)])) _
        refine XS.iload X68.here hx rfl (hb hby at_81) rfl ?_
        show Steps pP.tables eE below (T68.setTop (mkF mM 83 #[.val (.int p1), .val (.int p2), .val (.ref b2), .val (.ref b42), .val (.int (4 : Int32)), .val (.int (4 : Int32)), .unset] [(.int (4 : Int32)), (.ref b42)])) _
        refine X68.iaload hx (j := (4 : Int32)) (v := (.int (7 : Int32))) (by rw [e68]; exact Ara376.1) (State.isArrayOf_alike hZ.alike Ara376.2.1) Ara376.2.2 hin377 hat377 (g := (mkF mM 83 #[.val (.int p1), .val (.int p2), .val (.ref b2), .val (.ref b42), .val (.int (4 : Int32)), .val (.int (4 : Int32)), .unset] [(.int (4 : Int32)), (.ref b42)])) rfl rfl (hb hby at_83) _ ?_
        show Steps pP.tables eE below (T68.setTop (mkF mM 84 #[.val (.int p1), .val (.int p2), .val (.ref b2), .val (.ref b42), .val (.int (4 : Int32)), .val (.int (4 : Int32)), .unset] [(.int (7 : Int32))])) _
        refine XS.iload X68.here hx rfl (hb hby at_84) rfl ?_
        show Steps pP.tables eE below (T68.setTop (mkF mM 86 #[.val (.int p1), .val (.int p2), .val (.ref b2), .val (.ref b42), .val (.int (4 : Int32)), .val (.int (4 : Int32)), .unset] [(.int (4 : Int32)), (.int (7 : Int32))])) _
        refine XS.ishr X68.here hx rfl (hb hby at_86) rfl ?_
        show Steps pP.tables eE below (T68.setTop (mkF mM 87 #[.val (.int p1), .val (.int p2), .val (.ref b2), .val (.ref b42), .val (.int (4 : Int32)), .val (.int (4 : Int32)), .unset] [(.int ((7 : Int32) >>> ((4 : Int32) &&& 31)))])) _
        refine XS.iconst X68.here hx rfl (hb hby at_87) ?_
        show Steps pP.tables eE below (T68.setTop (mkF mM 88 #[.val (.int p1), .val (.int p2), .val (.ref b2), .val (.ref b42), .val (.int (4 : Int32)), .val (.int (4 : Int32)), .unset] [(.int (1 : Int32)), (.int ((7 : Int32) >>> ((4 : Int32) &&& 31)))])) _
        refine XS.iand X68.here hx rfl (hb hby at_88) rfl ?_
        show Steps pP.tables eE below (T68.setTop (mkF mM 89 #[.val (.int p1), .val (.int p2), .val (.ref b2), .val (.ref b42), .val (.int (4 : Int32)), .val (.int (4 : Int32)), .unset] [(.int (0 : Int32))])) _
        refine XS.ifYes X68.here hx rfl (pc0 := 89) (pc' := 96) rfl (hb hby at_89) rfl ((if0 _ _).trans (teq (by decide)).1) (by decide) (by decide) ?_
        show Steps pP.tables eE below (T68.setTop (mkF mM 96 #[.val (.int p1), .val (.int p2), .val (.ref b2), .val (.ref b42), .val (.int (4 : Int32)), .val (.int (4 : Int32)), .unset] [])) _
        refine XS.iconst X68.here hx rfl (hb hby at_96) ?_
        show Steps pP.tables eE below (T68.setTop (mkF mM 97 #[.val (.int p1), .val (.int p2), .val (.ref b2), .val (.ref b42), .val (.int (4 : Int32)), .val (.int (4 : Int32)), .unset] [(.int (0 : Int32))])) _
        refine XS.istore X68.here hx rfl (hb hby at_97) rfl (l' := #[.val (.int p1), .val (.int p2), .val (.ref b2), .val (.ref b42), .val (.int (4 : Int32)), .val (.int (4 : Int32)), .val (.int (0 : Int32))]) rfl ?_
        show Steps pP.tables eE below (T68.setTop (mkF mM 99 #[.val (.int p1), .val (.int p2), .val (.ref b2), .val (.ref b42), .val (.int (4 : Int32)), .val (.int (4 : Int32)), .val (.int (0 : Int32))] [])) _
        refine XS.aloadN X68.here hx rfl (hb hby at_99) rfl rfl ?_
        show Steps pP.tables eE below (T68.setTop (mkF mM 100 #[.val (.int p1), .val (.int p2), .val (.ref b2), .val (.ref b42), .val (.int (4 : Int32)), .val (.int (4 : Int32)), .val (.int (0 : Int32))] [(.ref b2)])) _
        refine XS.iload X68.here hx rfl (hb hby at_100) rfl ?_
        show Steps pP.tables eE below (T68.setTop (mkF mM 102 #[.val (.int p1), .val (.int p2), .val (.ref b2), .val (.ref b42), .val (.int (4 : Int32)), .val (.int (4 : Int32)), .val (.int (0 : Int32))] [(.int (4 : Int32)), (.ref b2)])) _
        refine X68.aaload hx (j := (4 : Int32)) (v := (.ref a_KEEP)) (by rw [e68]; exact Ara379.1) (State.isArrayOf_alike hZ.alike Ara379.2.1) rfl Ara379.2.2 hin380 hat380 (g := (mkF mM 102 #[.val (.int p1), .val (.int p2), .val (.ref b2), .val (.ref b42), .val (.int (4 : Int32)), .val (.int (4 : Int32)), .val (.int (0 : Int32))] [(.int (4 : Int32)), (.ref b2)])) rfl rfl (hb hby at_102) _ ?_
        show Steps pP.tables eE below (T68.setTop (mkF mM 103 #[.val (.int p1), .val (.int p2), .val (.ref b2), .val (.ref b42), .val (.int (4 : Int32)), .val (.int (4 : Int32)), .val (.int (0 : Int32))] [(.ref a_KEEP)])) _
        refine XS.aloadN X68.here hx rfl (hb hby at_103) rfl rfl ?_
        show Steps pP.tables eE below (T68.setTop (mkF mM 104 #[.val (.int p1), .val (.int p2), .val (.ref b2), .val (.ref b42), .val (.int (4 : Int32)), .val (.int (4 : Int32)), .val (.int (0 : Int32))] [(.ref b2), (.ref a_KEEP)])) _
        refine XS.iload X68.here hx rfl (hb hby at_104) rfl ?_
        show Steps pP.tables eE below (T68.setTop (mkF mM 106 #[.val (.int p1), .val (.int p2), .val (.ref b2), .val (.ref b42), .val (.int (4 : Int32)), .val (.int (4 : Int32)), .val (.int (0 : Int32))] [(.int (4 : Int32)), (.ref b2), (.ref a_KEEP)])) _
        refine X68.aaload hx (j := (4 : Int32)) (v := (.ref a_KEEP)) (by rw [e68]; exact Ara379.1) (State.isArrayOf_alike hZ.alike Ara379.2.1) rfl Ara379.2.2 hin381 hat381 (g := (mkF mM 106 #[.val (.int p1), .val (.int p2), .val (.ref b2), .val (.ref b42), .val (.int (4 : Int32)), .val (.int (4 : Int32)), .val (.int (0 : Int32))] [(.int (4 : Int32)), (.ref b2), (.ref a_KEEP)])) rfl rfl (hb hby at_106) _ ?_
        exact kg)
      have c384 := (Nat.le_trans (Nat.le_trans (Nat.le_trans (Nat.le_trans (Nat.le_trans (Nat.le_trans c45 E42.1) (Keep.of_wr W52).1) (Keep.of_wr W56).1) (Keep.of_wr W60).1) (Keep.of_wr W64).1) (Keep.of_wr W68).1)
      obtain ⟨cq385, kq385, qa385, qb385, qc385⟩ := isOf hZ e68 (Exa.ext (c382).2 E_KEEP)
      obtain ⟨_, _, ⟨T385, L385, kk385, nn385⟩, -, X385, ⟨Lc385, hQ385, l385, y385, z385⟩, st385⟩ := X68.virtualBack hx (y := (⟨"com/example/settle/settle/service/LockTable$Mode", "keepsOut", "(Lcom/example/settle/settle/service/LockTable$Mode;)Z"⟩ : MethodName)) (z := (⟨"com/example/settle/settle/service/LockTable$Mode", "keepsOut", "(Lcom/example/settle/settle/service/LockTable$Mode;)Z"⟩ : MethodName)) hown (mvT hZ (hw _ (List.mem_of_getElem? (i := 16) rfl))) (mvT hZ (hw _ (List.mem_of_getElem? (i := 17) rfl))) (notFace_of_selects (args := #[]) (mvT hZ (hw _ (List.mem_of_getElem? (i := 19) rfl)))) (mvT hZ (hw _ (List.mem_of_getElem? (i := 19) rfl))) (mvT hZ (hw _ (List.mem_of_getElem? (i := 18) rfl))) (by decide) (backOf (W := 0) (rm244 l Z a0 hw [] a_SHARED a_UPDATE a_EXCLUSIVE a_CHANGE a_KEEP h68 n0 c384 c382 S_SHARED E_SHARED S_UPDATE E_UPDATE S_EXCLUSIVE E_EXCLUSIVE S_CHANGE E_CHANGE S_KEEP E_KEEP F_SHARED_ordinal F_CHANGE_ordinal F_EXCLUSIVE_ordinal F_KEEP_ordinal F_UPDATE_ordinal) hZ (hw _ (List.mem_of_getElem? (i := 20) rfl)) (hw _ (List.mem_of_getElem? (i := 3) rfl)) (by decide) (by decide)) qa385 qc385 (g := (mkF mM 107 #[.val (.int p1), .val (.int p2), .val (.ref b2), .val (.ref b42), .val (.int (4 : Int32)), .val (.int (4 : Int32)), .val (.int (0 : Int32))] [(.ref a_KEEP), (.ref a_KEEP)])) rfl (by rw [hml]; rfl) (Steps.refl _) (argsL := [(.ref a_KEEP)]) (rest := []) (lenOf pd_1 rfl) rfl (by show 2 * 0 + _ ≤ _; exact Nat.le_of_eq rfl) (hb hby at_107) (fun _ _ => ⟨rfl, e68, (by decide : 2 + 0 ≤ _), (by decide : 10 + 0 ≤ _)⟩)
      dsimp only [Pt.U, Pt.locs, Pt.cells, Pt.slots] at X385 l385 y385 z385 st385 hQ385
      subst l385 y385 z385
      obtain ⟨rfl, Nq385, e385⟩ := hQ385
      have N385 := Fr.app N68 Nq385
      have pr386 : ∀ tg, Steps pP.tables eE below (T385.setTop (mkF mM 110 #[.val (.int p1), .val (.int p2), .val (.ref b2), .val (.ref b42), .val (.int (4 : Int32)), .val (.int (4 : Int32)), .val (.int (0 : Int32))] [(.int (0 : Int32))])) tg → Steps pP.tables eE below (s₁.setTop (entryFrame mM #[(.int p1), (.int p2)] maxLocals)) tg := fun tg kg => pr383 _ (st385.trans kg)
      have pr387 : ∀ tg, Steps pP.tables eE below (T385.setTop (mkF mM 120 #[.val (.int p1), .val (.int p2), .val (.ref b2), .val (.ref b42), .val (.int (4 : Int32)), .val (.int (4 : Int32)), .val (.int (0 : Int32))] [(.int (1 : Int32))])) tg → Steps pP.tables eE below (s₁.setTop (entryFrame mM #[(.int p1), (.int p2)] maxLocals)) tg := fun tg kg => pr386 _ (by
        show Steps pP.tables eE below (T385.setTop (mkF mM 110 #[.val (.int p1), .val (.int p2), .val (.ref b2), .val (.ref b42), .val (.int (4 : Int32)), .val (.int (4 : Int32)), .val (.int (0 : Int32))] [(.int (0 : Int32))])) _
        refine XS.iload X385.here hx rfl (hb hby at_110) rfl ?_
        show Steps pP.tables eE below (T385.setTop (mkF mM 112 #[.val (.int p1), .val (.int p2), .val (.ref b2), .val (.ref b42), .val (.int (4 : Int32)), .val (.int (4 : Int32)), .val (.int (0 : Int32))] [(.int (0 : Int32)), (.int (0 : Int32))])) _
        refine XS.icmpNo X385.here hx rfl (hb hby at_112) rfl (teq (by decide)).2 ?_
        show Steps pP.tables eE below (T385.setTop (mkF mM 115 #[.val (.int p1), .val (.int p2), .val (.ref b2), .val (.ref b42), .val (.int (4 : Int32)), .val (.int (4 : Int32)), .val (.int (0 : Int32))] [])) _
        refine XS.iconst X385.here hx rfl (hb hby at_115) ?_
        show Steps pP.tables eE below (T385.setTop (mkF mM 116 #[.val (.int p1), .val (.int p2), .val (.ref b2), .val (.ref b42), .val (.int (4 : Int32)), .val (.int (4 : Int32)), .val (.int (0 : Int32))] [(.int (1 : Int32))])) _
        refine XS.goto X385.here hx rfl (pc0 := 116) (pc' := 120) rfl (hb hby at_116) (by decide) (by decide) ?_
        exact kg)
      obtain ⟨fs, hr, hrun, hended, hW, hsame⟩ := X385.leave (v := some (.int (1 : Int32))) (fun h => by rw [Bd.returns] at h; cases h)
      refine ⟨_, _, pr387 _ (retOut X385 hx (t := .boolean) Bd.returns rfl (Or.inl ⟨rfl, Or.inr (Or.inl rfl), _, rfl⟩) (hb hby at_120) hr), hrun, hended, _, _, rfl, ?_, ⟨_, rfl⟩, hW, hsame.mono (by decide) (by decide)⟩
      show Q0 Z p1 p2 a_SHARED a_UPDATE a_EXCLUSIVE a_CHANGE a_KEEP h0 n0 _ T385.heap _
      rw [e385]
      exact ⟨rfl, N385⟩
set_option maxRecDepth 65536 in
set_option maxHeartbeats 40000000 in
theorem comes_1 {Post : Tables → Env → Array Value → State → Outcome → State → Prop} (hpost : ∀ tb e args s v u, (limb_1_1.after args s (.returned v) u = true ∧ limb_1_2.after args s (.returned v) u = true ∧ True) → FrameEnd s (.returned v) u (Jvm.fieldLocs frame_1_writes args s ++ Jvm.arrayLocs frame_1_arrays args s ++ Jvm.staticLocs frame_1_statics s) 16 128 → Post tb e args s (.returned v) u) :
    ArmFor flags0 classFile x code maxLocals ret World_1 tables_1 room_1 Calls_1 rest_1 Pre_1 Post := by
  intro l hfl _ _ p e ha hc hk s m args below hf hA hF happ hP
  obtain ⟨hcalls, hrest, hpre⟩ := hP
  obtain ⟨-, -, -, hnamed, -, -, -, hat⟩ := (Spec.applies_iff hf).mp happ
  obtain ⟨hg, hn⟩ := and_e (Cond.before_iff.mp (show (Jvm.Cond.and given_1 narrow_1).before args s = true from hpre))
  obtain ⟨n1, n2⟩ := and_e hg
  obtain ⟨n3, n4⟩ := and_e n2
  obtain ⟨w0, w1, rfl⟩ : ∃ w0 w1 : Value, args = #[w0, w1] := by
    have hs : args.size = 2 := by simpa [Cond.value, given_1] using n1
    obtain ⟨L⟩ := args
    match L, hs with
    | [w0, w1], _ => exact ⟨w0, w1, rfl⟩
  have hw := fun d (hd : d ∈ tables_1) => atoms_spec (ws := Jvm.Cond.code x code maxLocals ret :: tables_1) hat d (List.mem_cons_of_mem _ hd)
  have hfit : Fit s := fun {y c} hc i hi => by
    obtain ⟨ha, rfl⟩ := Array.getElem?_eq_some_iff.mp hc
    have q := List.all_eq_true.mp ((Array.all_eq_true_iff_forall_mem.mp hF) _ (Array.getElem_mem ha)) i (List.mem_range.mpr hi)
    simpa [Array.getElem?_eq_getElem hi] using q
  obtain ⟨i0, ei0⟩ := is_v n3
  obtain rfl : w0 = (.int i0) := Option.some.inj ei0
  obtain ⟨i1, ei1⟩ := is_v n4
  obtain rfl : w1 = (.int i1) := Option.some.inj ei1
  obtain ⟨n5, n6⟩ := and_e hn
  obtain ⟨n7, n8⟩ := and_e n6
  obtain ⟨n9, n10⟩ := and_e n8
  obtain ⟨n11, n12⟩ := and_e n10
  obtain ⟨n13, n14⟩ := and_e n12
  obtain ⟨n15, n16⟩ := and_e n14
  obtain ⟨n17, n18⟩ := and_e n16
  obtain ⟨n19, n20⟩ := and_e n18
  obtain ⟨n21, n22⟩ := and_e n20
  obtain ⟨a_SHARED, ea_SHARED⟩ := exa_v n5
  have S_SHARED : Sta s s.heap "com/example/settle/settle/service/LockTable$Mode" "SHARED" "Lcom/example/settle/settle/service/LockTable$Mode;" (.ref a_SHARED) := Sta.start ea_SHARED (Or.inr ⟨(hw _ (List.mem_of_getElem? (i := 3) rfl)), (hw _ (List.mem_of_getElem? (i := 4) rfl))⟩)
  have E_SHARED : Exa s s.heap a_SHARED "com/example/settle/settle/service/LockTable$Mode" := Exa.start ea_SHARED n5
  obtain ⟨a_UPDATE, ea_UPDATE⟩ := exa_v n7
  have S_UPDATE : Sta s s.heap "com/example/settle/settle/service/LockTable$Mode" "UPDATE" "Lcom/example/settle/settle/service/LockTable$Mode;" (.ref a_UPDATE) := Sta.start ea_UPDATE (Or.inr ⟨(hw _ (List.mem_of_getElem? (i := 3) rfl)), (hw _ (List.mem_of_getElem? (i := 7) rfl))⟩)
  have E_UPDATE : Exa s s.heap a_UPDATE "com/example/settle/settle/service/LockTable$Mode" := Exa.start ea_UPDATE n7
  obtain ⟨a_EXCLUSIVE, ea_EXCLUSIVE⟩ := exa_v n9
  have S_EXCLUSIVE : Sta s s.heap "com/example/settle/settle/service/LockTable$Mode" "EXCLUSIVE" "Lcom/example/settle/settle/service/LockTable$Mode;" (.ref a_EXCLUSIVE) := Sta.start ea_EXCLUSIVE (Or.inr ⟨(hw _ (List.mem_of_getElem? (i := 3) rfl)), (hw _ (List.mem_of_getElem? (i := 9) rfl))⟩)
  have E_EXCLUSIVE : Exa s s.heap a_EXCLUSIVE "com/example/settle/settle/service/LockTable$Mode" := Exa.start ea_EXCLUSIVE n9
  obtain ⟨a_CHANGE, ea_CHANGE⟩ := exa_v n11
  have S_CHANGE : Sta s s.heap "com/example/settle/settle/service/LockTable$Mode" "CHANGE" "Lcom/example/settle/settle/service/LockTable$Mode;" (.ref a_CHANGE) := Sta.start ea_CHANGE (Or.inr ⟨(hw _ (List.mem_of_getElem? (i := 3) rfl)), (hw _ (List.mem_of_getElem? (i := 11) rfl))⟩)
  have E_CHANGE : Exa s s.heap a_CHANGE "com/example/settle/settle/service/LockTable$Mode" := Exa.start ea_CHANGE n11
  obtain ⟨a_KEEP, ea_KEEP⟩ := exa_v n13
  have S_KEEP : Sta s s.heap "com/example/settle/settle/service/LockTable$Mode" "KEEP" "Lcom/example/settle/settle/service/LockTable$Mode;" (.ref a_KEEP) := Sta.start ea_KEEP (Or.inr ⟨(hw _ (List.mem_of_getElem? (i := 3) rfl)), (hw _ (List.mem_of_getElem? (i := 13) rfl))⟩)
  have E_KEEP : Exa s s.heap a_KEEP "com/example/settle/settle/service/LockTable$Mode" := Exa.start ea_KEEP n13
  have F_SHARED_ordinal : Fld s s.heap a_SHARED "java/lang/Enum" "ordinal" "I" (.int (0 : Int32)) := Fld.start ((fld_at ea_SHARED).symm.trans (eqv_i (Term.int_eval (0)) n15))
  have F_CHANGE_ordinal : Fld s s.heap a_CHANGE "java/lang/Enum" "ordinal" "I" (.int (3 : Int32)) := Fld.start ((fld_at ea_CHANGE).symm.trans (eqv_i (Term.int_eval (3)) n17))
  have F_EXCLUSIVE_ordinal : Fld s s.heap a_EXCLUSIVE "java/lang/Enum" "ordinal" "I" (.int (2 : Int32)) := Fld.start ((fld_at ea_EXCLUSIVE).symm.trans (eqv_i (Term.int_eval (2)) n19))
  have F_KEEP_ordinal : Fld s s.heap a_KEEP "java/lang/Enum" "ordinal" "I" (.int (4 : Int32)) := Fld.start ((fld_at ea_KEEP).symm.trans (eqv_i (Term.int_eval (4)) n21))
  have F_UPDATE_ordinal : Fld s s.heap a_UPDATE "java/lang/Enum" "ordinal" "I" (.int (1 : Int32)) := Fld.start ((fld_at ea_UPDATE).symm.trans (eqv_i (Term.int_eval (1)) n22))
  obtain ⟨n, o, h1, h2, h3, _, L, rfl, ⟨rfl, N⟩, hq⟩ := rm0 l s _ hw tables_1 i0 i1 a_SHARED a_UPDATE a_EXCLUSIVE a_CHANGE a_KEEP s.heap s.heap.size (Nat.le_refl _) (Old.start s) S_SHARED E_SHARED S_UPDATE E_UPDATE S_EXCLUSIVE E_EXCLUSIVE S_CHANGE E_CHANGE S_KEEP E_KEEP F_SHARED_ordinal F_CHANGE_ordinal F_EXCLUSIVE_ordinal F_KEEP_ordinal F_UPDATE_ordinal p e ha hc hk s m _ below hf ((Spec.applies_iff_loose hf).mp happ).1 ⟨rfl, State.Warmed39.refl s, rfl⟩ trivial
  refine ⟨n, _, h1, h2, h3, hpost _ _ _ _ _ _ ⟨Cond.after_iff.mpr rfl, Cond.after_iff.mpr (eq_i res_at (Term.int_eval (1)) rfl), trivial⟩ ⟨hq.1, hq.2.1, (hq.2.2.sift fun y hy => Or.inr (N y hy)).mono (by decide) (by decide)⟩⟩
theorem main_1_1 : Claimed_1_1 := comes_1 fun _ _ _ _ _ _ h hF => ⟨h.1, hF⟩
theorem main_1_2 : Claimed_1_2 := comes_1 fun _ _ _ _ _ _ h hF => ⟨h.2.1, hF⟩
end Jvm.Pilot.@@N@@
namespace Jvm.Pilot.@@N@@
open Jvm Jvm.ClassFile Sem Op Lib Jvm.Free Jvm.Stand Jvm.Pilot.@@N@@.Jvm.D
/-! MADE BY PROGRAM (witnessworld.py) out of the Statement's table words and the real class files: 13 classes; the members and pool entries that the words name. The judged class is class 1, her method 1. -/
namespace start1
open Jvm.ClassFile
def u (s : String) : CpInfo := .utf8 (stringToUtf16 s)
/-- a pool by its gaps: so many unusable entries, then the entry; so many at the end -/
def gap : Nat → List CpInfo → List CpInfo
  | 0, r => r
  | n + 1, r => .unusable :: gap n r
def poolList (es : List (Nat × CpInfo)) (last : Nat) : List CpInfo := es.foldr (fun e r => gap e.1 (e.2 :: r)) (gap last [])
def pool (es : List (Nat × CpInfo)) (last : Nat) : Array CpInfo := ⟨poolList es last⟩
def fileOf (pool : Array CpInfo) (this : Nat) (attrs : Array Attribute := #[]) (ms : Array MethodInfo := #[]) (fl : Nat := 33) (sup : Nat := 0) (ifs : Array Nat := #[]) (fds : Array FieldInfo := #[]) : ClassFile where
  minorVersion := 0
  majorVersion := 65
  constantPool := pool
  accessFlags := fl
  thisClass := this
  superClass := sup
  interfaces := ifs
  fields := fds
  methods := ms
  attributes := attrs
def plain (name : String) (sup : Option ClassId) : Class where
  name := name
  kind := .ordinary
  loader := none
  accessFlags := 33
  super := sup
  interfaces := #[]
  cf := none
  fields := #[]
  methods := #[]
  instanceTypes := #[]
  staticTypes := #[]
  resolved := #[]
  callSites := []
  init := .initialized
  statics := none
  mirror := none

def pool0 : Array CpInfo := pool [(5, u "<init>"), (0, u "()V"), (1, .class_ 10), (1, u "java/lang/Object")] 113

def k0m0 : Method := { name := "<init>", desc := "()V", sig := { parameters := [], returnType := none }, accessFlags := 1, code := none }
/-- java/lang/Object -/
def k0 : Class := { plain "java/lang/Object" none with
  accessFlags := 33
  interfaces := #[]
  cf := some (fileOf pool0 8 #[] #[{ accessFlags := 1, nameIndex := 5, descriptorIndex := 6, attributes := #[] }] 33 0 #[] #[])
  fields := #[]
  methods := #[k0m0]
  instanceTypes := #[]
  staticTypes := #[]
  resolved := Array.replicate 124 none
  statics := none }

def pool1 : Array CpInfo := pool [(2, .class_ 4), (1, u "java/lang/Object"), (0, u "<init>"), (0, u "()V"), (0, .class_ 8), (0, u "com/example/settle/settle/service/LockTable$Mode"), (0, .fieldref 7 10), (0, .nameAndType 11 12), (0, u "SHARED"), (0, u "Lcom/example/settle/settle/service/LockTable$Mode;"), (0, .fieldref 7 14), (0, .nameAndType 15 12), (0, u "UPDATE"), (0, .fieldref 7 17), (0, .nameAndType 18 12), (0, u "EXCLUSIVE"), (0, .fieldref 7 20), (0, .nameAndType 21 12), (0, u "CHANGE"), (0, .fieldref 7 23), (0, .nameAndType 24 12), (0, u "KEEP"), (0, .integer 2147483647), (0, .methodref 7 27), (0, .nameAndType 28 29), (0, u "keepsOut"), (0, u "(Lcom/example/settle/settle/service/LockTable$Mode;)Z"), (0, .class_ 31), (0, u "com/example/settle/settle/service/LockTableKeepsOutPinLaw"), (2, u "law"), (0, u "(II)Z")] 11

def k1m0 : Method := { name := "<init>", desc := "()V", sig := { parameters := [], returnType := none }, accessFlags := 2, code := none }
def k1c1 : Code := { maxStack := 4, maxLocals := 7, code := code, exceptionTable := #[], attributes := #[] }
def k1m1 : Method := { name := "law", desc := "(II)Z", sig := { parameters := [.int, .int], returnType := some .boolean }, accessFlags := 9, code := some k1c1 }
/-- com/example/settle/settle/service/LockTableKeepsOutPinLaw -/
def k1 : Class := { plain "com/example/settle/settle/service/LockTableKeepsOutPinLaw" (some 0) with
  accessFlags := 49
  interfaces := #[]
  cf := some (fileOf pool1 30 #[] #[{ accessFlags := 2, nameIndex := 5, descriptorIndex := 6, attributes := #[] }, { accessFlags := 9, nameIndex := 34, descriptorIndex := 35, attributes := #[] }] 49 2 #[] #[])
  fields := #[]
  methods := #[k1m0, k1m1]
  instanceTypes := #[]
  staticTypes := #[]
  resolved := Array.replicate 47 none
  statics := none }

def pool2 : Array CpInfo := pool [(1, .class_ 2), (0, u "java/lang/constant/Constable"), (0, .class_ 4), (0, u "java/lang/Object")] 6

/-- java/lang/constant/Constable -/
def k2 : Class := { plain "java/lang/constant/Constable" (some 0) with
  accessFlags := 1537
  interfaces := #[]
  cf := some (fileOf pool2 1 #[] #[] 1537 3 #[] #[])
  fields := #[]
  methods := #[]
  instanceTypes := #[]
  staticTypes := #[]
  resolved := Array.replicate 11 none
  statics := none }

def pool3 : Array CpInfo := pool [(1, .class_ 2), (0, u "java/lang/Comparable"), (0, .class_ 4), (0, u "java/lang/Object")] 7

/-- java/lang/Comparable -/
def k3 : Class := { plain "java/lang/Comparable" (some 0) with
  accessFlags := 1537
  interfaces := #[]
  cf := some (fileOf pool3 1 #[] #[] 1537 3 #[] #[])
  fields := #[]
  methods := #[]
  instanceTypes := #[]
  staticTypes := #[]
  resolved := Array.replicate 12 none
  statics := none }

def pool4 : Array CpInfo := pool [(1, .class_ 2), (0, u "java/io/Serializable"), (0, .class_ 4), (0, u "java/lang/Object")] 2

/-- java/io/Serializable -/
def k4 : Class := { plain "java/io/Serializable" (some 0) with
  accessFlags := 1537
  interfaces := #[]
  cf := some (fileOf pool4 1 #[] #[] 1537 3 #[] #[])
  fields := #[]
  methods := #[]
  instanceTypes := #[]
  staticTypes := #[]
  resolved := Array.replicate 7 none
  statics := none }

def pool5 : Array CpInfo := pool [(2, .class_ 4), (1, u "java/lang/Enum"), (0, u "name"), (0, u "Ljava/lang/String;"), (0, .fieldref 2 8), (0, .nameAndType 9 10), (0, u "ordinal"), (0, u "I"), (1, .class_ 14), (1, u "java/lang/Object"), (4, u "hash"), (86, .class_ 108), (1, u "java/lang/Enum$EnumDesc"), (2, .class_ 112), (0, u "java/lang/constant/Constable"), (0, .class_ 114), (0, u "java/lang/Comparable"), (0, .class_ 116), (0, u "java/io/Serializable"), (9, u "()I")] 77

def k5c0 : Code := { maxStack := 1, maxLocals := 1, code := jdk_37_method_2_code, exceptionTable := #[], attributes := #[] }
def k5m0 : Method := { name := "ordinal", desc := "()I", sig := { parameters := [], returnType := some .int }, accessFlags := 17, code := some k5c0 }
/-- java/lang/Enum -/
def k5 : Class := { plain "java/lang/Enum" (some 0) with
  accessFlags := 1057
  interfaces := #[2, 3, 4]
  cf := some (fileOf pool5 2 #[.nestMembers #[106]] #[{ accessFlags := 17, nameIndex := 9, descriptorIndex := 126, attributes := #[] }] 1057 12 #[111, 113, 115] #[{ accessFlags := 18, nameIndex := 5, descriptorIndex := 6, attributes := #[] }, { accessFlags := 18, nameIndex := 9, descriptorIndex := 10, attributes := #[] }, { accessFlags := 2, nameIndex := 19, descriptorIndex := 10, attributes := #[] }])
  fields := #[{ name := "name", type := (.object "java/lang/String"), accessFlags := 18, slot := 0, constantValue := 0 }, { name := "ordinal", type := .int, accessFlags := 18, slot := 1, constantValue := 0 }, { name := "hash", type := .int, accessFlags := 2, slot := 2, constantValue := 0 }]
  methods := #[k5m0]
  instanceTypes := #[(.object "java/lang/String"), .int, .int]
  staticTypes := #[]
  resolved := Array.replicate 204 none
  statics := none }

def pool6 : Array CpInfo := pool [(1, .class_ 2), (0, u "com/example/settle/settle/service/LockTable$Mode"), (0, .fieldref 1 4), (0, .nameAndType 5 6), (0, u "SHARED"), (0, u "Lcom/example/settle/settle/service/LockTable$Mode;"), (2, u "UPDATE"), (0, .fieldref 1 11), (0, .nameAndType 12 6), (0, u "EXCLUSIVE"), (0, .fieldref 1 14), (0, .nameAndType 15 6), (0, u "CHANGE"), (0, .fieldref 1 17), (0, .nameAndType 18 6), (0, u "KEEP"), (2, u "$VALUES"), (0, u "[Lcom/example/settle/settle/service/LockTable$Mode;"), (6, .class_ 31), (1, u "java/lang/Enum"), (6, .methodref 1 39), (0, .nameAndType 40 41), (0, u "ordinal"), (0, u "()I"), (37, u "keepsOut"), (0, u "(Lcom/example/settle/settle/service/LockTable$Mode;)Z"), (8, .class_ 90), (0, u "com/example/settle/settle/service/LockTable")] 2

def k6c0 : Code := { maxStack := 4, maxLocals := 2, code := prog_51_method_4_code, exceptionTable := #[], attributes := #[] }
def k6m0 : Method := { name := "keepsOut", desc := "(Lcom/example/settle/settle/service/LockTable$Mode;)Z", sig := { parameters := [(.object "com/example/settle/settle/service/LockTable$Mode")], returnType := some .boolean }, accessFlags := 0, code := some k6c0 }
/-- com/example/settle/settle/service/LockTable$Mode -/
def k6 : Class := { plain "com/example/settle/settle/service/LockTable$Mode" (some 5) with
  accessFlags := 16432
  interfaces := #[]
  cf := some (fileOf pool6 1 #[.nestHost 89] #[{ accessFlags := 0, nameIndex := 79, descriptorIndex := 80, attributes := #[] }] 16432 29 #[] #[{ accessFlags := 16409, nameIndex := 5, descriptorIndex := 6, attributes := #[] }, { accessFlags := 16409, nameIndex := 9, descriptorIndex := 6, attributes := #[] }, { accessFlags := 16409, nameIndex := 12, descriptorIndex := 6, attributes := #[] }, { accessFlags := 16409, nameIndex := 15, descriptorIndex := 6, attributes := #[] }, { accessFlags := 16409, nameIndex := 18, descriptorIndex := 6, attributes := #[] }, { accessFlags := 4122, nameIndex := 21, descriptorIndex := 22, attributes := #[] }])
  fields := #[{ name := "SHARED", type := (.object "com/example/settle/settle/service/LockTable$Mode"), accessFlags := 16409, slot := 0, constantValue := 0 }, { name := "UPDATE", type := (.object "com/example/settle/settle/service/LockTable$Mode"), accessFlags := 16409, slot := 1, constantValue := 0 }, { name := "EXCLUSIVE", type := (.object "com/example/settle/settle/service/LockTable$Mode"), accessFlags := 16409, slot := 2, constantValue := 0 }, { name := "CHANGE", type := (.object "com/example/settle/settle/service/LockTable$Mode"), accessFlags := 16409, slot := 3, constantValue := 0 }, { name := "KEEP", type := (.object "com/example/settle/settle/service/LockTable$Mode"), accessFlags := 16409, slot := 4, constantValue := 0 }, { name := "$VALUES", type := (.array (.object "com/example/settle/settle/service/LockTable$Mode")), accessFlags := 4122, slot := 5, constantValue := 0 }]
  methods := #[k6m0]
  instanceTypes := #[(.object "java/lang/String"), .int, .int]
  staticTypes := #[(.object "com/example/settle/settle/service/LockTable$Mode"), (.object "com/example/settle/settle/service/LockTable$Mode"), (.object "com/example/settle/settle/service/LockTable$Mode"), (.object "com/example/settle/settle/service/LockTable$Mode"), (.object "com/example/settle/settle/service/LockTable$Mode"), (.array (.object "com/example/settle/settle/service/LockTable$Mode"))]
  resolved := Array.replicate 93 none
  statics := some 0 }

def pool7 : Array CpInfo := pool [(1, u "java/lang/Cloneable"), (0, .class_ 1), (0, u "java/lang/Object"), (0, .class_ 3)] 3

/-- java/lang/Cloneable -/
def k7 : Class := { plain "java/lang/Cloneable" (some 0) with
  accessFlags := 1537
  interfaces := #[]
  cf := some (fileOf pool7 2 #[] #[] 1537 4 #[] #[])
  fields := #[]
  methods := #[]
  instanceTypes := #[]
  staticTypes := #[]
  resolved := Array.replicate 8 none
  statics := none }

/-- the primitive byte -/
def k8 : Class := { plain "byte" none with kind := .primitive 'B', accessFlags := 0x411 }
/-- [B -/
def k9 : Class := { plain "[B" (some 0) with kind := .array 8 .byte, interfaces := #[7, 4], accessFlags := 1041 }

/-- the primitive int -/
def k10 : Class := { plain "int" none with kind := .primitive 'I', accessFlags := 0x411 }
/-- [I -/
def k11 : Class := { plain "[I" (some 0) with kind := .array 10 .int, interfaces := #[7, 4], accessFlags := 1041 }

/-- [Lcom/example/settle/settle/service/LockTable$Mode; -/
def k12 : Class := { plain "[Lcom/example/settle/settle/service/LockTable$Mode;" (some 0) with kind := .array 6 (.object "com/example/settle/settle/service/LockTable$Mode"), interfaces := #[7, 4], accessFlags := 1041 }

def heap : Heap := #[{ cls := 6, slots := #[.ref 1, .ref 2, .ref 3, .ref 4, .ref 5, .null], vm := .statics 6 },
  { cls := 6, slots := #[.null, .int 0, .int 0], vm := .none },
  { cls := 6, slots := #[.null, .int 1, .int 0], vm := .none },
  { cls := 6, slots := #[.null, .int 2, .int 0], vm := .none },
  { cls := 6, slots := #[.null, .int 3, .int 0], vm := .none },
  { cls := 6, slots := #[.null, .int 4, .int 0], vm := .none }]
def classes : Array Class := #[k0, k1, k2, k3, k4, k5, k6, k7, k8, k9, k10, k11, k12]
def interned : List (Array UInt16 × Addr) := []
def slotsUsed : Nat := 21
def theMethod : MethodId := ⟨1, 1⟩
def args0 : Array Value := #[.int 5, .int 3]
def aboutOver (below : List Frame) : State where
  vm := { classes := classes, interned := interned.toArray }
  heap := heap
  slotsUsed := slotsUsed
  threads := #[{ frames := .invoking theMethod args0 :: below }]
def below0 : List Frame := [.native { method := ⟨0, 0⟩, args := #[] }]
def about1 : State := aboutOver below0
def p0 : Program := .bare "" "" ""
def e0 : Env := launch0.env 0 0 0
theorem w_frames : about1.frames = Frame.invoking theMethod args0 :: below0 := rfl
set_option maxRecDepth 65536 in
theorem w_args : argsFit about1.vm theMethod args0 = true := by decide +kernel
set_option maxRecDepth 65536 in
theorem w_heap : heapFits about1 = true := by decide +kernel
set_option maxRecDepth 65536 in
theorem w_runnable : about1.curStatus? = some .runnable := by decide +kernel
set_option maxRecDepth 65536 in
theorem w_alone : about1.alone = true := by decide +kernel
set_option maxRecDepth 65536 in
theorem w_named : about1.methodNamed? x = some theMethod := by decide +kernel
set_option maxRecDepth 65536 in
theorem w_hears : about1.hears theMethod below0 = true := by decide +kernel
set_option maxRecDepth 65536 in
theorem w_ripe : about1.ripe theMethod args0 below0 = true := by decide +kernel
theorem w_running : about1.status = .running := rfl
set_option maxRecDepth 65536 in
theorem w_room : about1.hasRoom e0.platform room_1 = true :=
  launch0.hasRoom_least _ room_1 (by decide +kernel) (by decide +kernel) (by decide +kernel) (by decide +kernel) (by decide +kernel) (by decide +kernel)
theorem allAtoms_all (ts : List Jvm.Cond) (a : Array Jvm.Value) (st : Jvm.State) : (allAtoms ts).before a st = ts.all (fun c => c.before a st) := by
  induction ts with
  | nil => rfl
  | cons c t ih =>
    show (Jvm.Cond.and c (allAtoms t)).before a st = _
    rw [Jvm.Cond.before_and, ih, List.all_cons]
def words1 : List Jvm.Cond := Jvm.Cond.code x code maxLocals ret :: tables_1
/-- a 'code' word, met by the world's own term for the bytes: nothing is compared byte by byte -/
theorem code_word {y : MethodName} {bytes : ByteArray} {mx : Nat} {rt : Option FieldType} {a : Array Value} {s : State} {m : MethodId} {meth : Method} {c : Code} (h1 : s.methodNamed? y = some m) (h2 : s.vm.method? m = some meth) (h3 : meth.code = some c) (h4 : c.code = bytes)
    (h5 : (c.maxLocals == mx && c.exceptionTable.isEmpty && decide (c.maxStack ≤ mostOperands) && decide (meth.sig.returnType = rt) && !meth.locks && decide (parseMethodDescriptor y.desc = some meth.sig)) = true) : (Jvm.Cond.code y bytes mx rt).before a s = true := by
  simp only [Bool.and_eq_true, beq_iff_eq, Bool.not_eq_true', decide_eq_true_eq] at h5
  obtain ⟨⟨⟨⟨⟨g1, g2⟩, g3⟩, g4⟩, g5⟩, g6⟩ := h5
  simp [Cond.before, Cond.holds, Cond.value, h1, h2, h3, h4, g1, g2, g3, g4, g5, g6]
def isCode : Jvm.Cond → Bool
  | .code _ _ _ _ => true
  | _ => false
theorem all_split {L : List Jvm.Cond} {P : Jvm.Cond → Bool} (h1 : L.all (fun c => isCode c || P c) = true) (h2 : ∀ c ∈ L.filter isCode, P c = true) : L.all P = true := by
  refine List.all_eq_true.mpr fun c hc => ?_
  have h := List.all_eq_true.mp h1 c hc
  rcases Bool.eq_false_or_eq_true (isCode c) with hi | hi
  · exact h2 c (List.mem_filter.mpr ⟨hc, hi⟩)
  · simpa [hi] using h
set_option maxRecDepth 65536 in
theorem w_c0 : (Jvm.Cond.code x code maxLocals ret).before args0 about1 = true := code_word (m := ⟨1, 1⟩) (meth := k1m1) (c := k1c1) (by decide +kernel) rfl rfl rfl (by decide +kernel)
set_option maxRecDepth 65536 in
theorem w_c1 : (Jvm.Cond.code ({ cls := "com/example/settle/settle/service/LockTable$Mode", name := "keepsOut", desc := "(Lcom/example/settle/settle/service/LockTable$Mode;)Z" } : Jvm.MethodName) prog_51_method_4_code (2 : Nat) (Option.some Jvm.ClassFile.FieldType.boolean)).before args0 about1 = true := code_word (m := ⟨6, 0⟩) (meth := k6m0) (c := k6c0) (by decide +kernel) rfl rfl rfl (by decide +kernel)
set_option maxRecDepth 65536 in
theorem w_c2 : (Jvm.Cond.code ({ cls := "java/lang/Enum", name := "ordinal", desc := "()I" } : Jvm.MethodName) jdk_37_method_2_code (1 : Nat) (Option.some Jvm.ClassFile.FieldType.int)).before args0 about1 = true := code_word (m := ⟨5, 0⟩) (meth := k5m0) (c := k5c0) (by decide +kernel) rfl rfl rfl (by decide +kernel)
def codes1 : List Jvm.Cond := [Jvm.Cond.code x code maxLocals ret, Jvm.Cond.code ({ cls := "com/example/settle/settle/service/LockTable$Mode", name := "keepsOut", desc := "(Lcom/example/settle/settle/service/LockTable$Mode;)Z" } : Jvm.MethodName) prog_51_method_4_code (2 : Nat) (Option.some Jvm.ClassFile.FieldType.boolean), Jvm.Cond.code ({ cls := "java/lang/Enum", name := "ordinal", desc := "()I" } : Jvm.MethodName) jdk_37_method_2_code (1 : Nat) (Option.some Jvm.ClassFile.FieldType.int)]
set_option maxRecDepth 65536 in
theorem codes_eq : words1.filter isCode = codes1 := rfl
theorem w_codes : ∀ c ∈ words1.filter isCode, c.before args0 about1 = true := by
  rw [codes_eq]
  intro c hc
  simp only [codes1, List.mem_cons, List.not_mem_nil, or_false] at hc
  rcases hc with rfl | rfl | rfl
  · exact w_c0
  · exact w_c1
  · exact w_c2
set_option maxRecDepth 65536 in
theorem w_t1 : (words1.take 24).all (fun c => isCode c || c.before args0 about1) = true := by decide +kernel
set_option maxRecDepth 65536 in
theorem w_t2 : (words1.drop 24).all (fun c => isCode c || c.before args0 about1) = true := by decide +kernel
theorem w_tables : (allAtoms (Jvm.Cond.code x code maxLocals ret :: tables_1)).before args0 about1 = true := by
  rw [allAtoms_all]
  show words1.all (fun c => c.before args0 about1) = true
  refine all_split ?_ w_codes
  rw [← List.take_append_drop 24 words1, List.all_append, w_t1, w_t2]
  rfl
set_option maxRecDepth 65536 in
theorem w_case : (Jvm.Cond.and given_1 narrow_1).before args0 about1 = true := by decide +kernel
theorem w_applies : (headSpec (Jvm.Cond.code x code maxLocals ret :: tables_1) room_1).applies x e0.platform about1 = true :=
  (Spec.applies_iff w_frames).mpr ⟨w_running, w_runnable, w_alone, w_named, w_hears, w_ripe, w_room, w_tables⟩
theorem atStart : AtStart classFile x code maxLocals ret World_1 tables_1 room_1 Calls_1 rest_1 Pre_1 launch0 p0 e0 about1 theMethod args0 below0 :=
  ⟨lists_1, trivial, launch0.admits_env _ _ _, launch0.least_env, fairChoices_fair.cas, fairChoices_fair.clock, w_frames, w_args, w_heap, w_applies, trivial, trivial, w_case⟩
end start1
theorem witness_1 : WitnessClaimed_1 := ⟨start1.p0, start1.e0, start1.about1, start1.theMethod, start1.args0, start1.below0, start1.atStart⟩
end Jvm.Pilot.@@N@@
