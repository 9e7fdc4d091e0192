import JvmDerived
import JvmDerived.Pilot.@@N@@Statement
import JvmDerived.Pilot.@@N@@Code
set_option linter.unusedVariables false
set_option linter.unusedSimpArgs false
@@BLOCK:NumsL.lean.txt@@
namespace Jvm.Pilot.@@N@@
open Jvm Jvm.ClassFile Sem Op Lib Jvm.Free Jvm.Stand Jvm.LawKit Jvm.RoadKit Bundle Jvm.Pilot.@@N@@.Jvm.D
theorem d1_0 : decode prog_24_method_14_code 0 = .ok (.iconst 2, 1) := by decide +kernel
theorem d1_1 : decode prog_24_method_14_code 1 = .ok (.newarray .byte, 2) := by decide +kernel
theorem d1_3 : decode prog_24_method_14_code 3 = .ok (.dup, 1) := by decide +kernel
theorem d1_4 : decode prog_24_method_14_code 4 = .ok (.iconst 0, 1) := by decide +kernel
theorem d1_5 : decode prog_24_method_14_code 5 = .ok (.iload_n 0, 1) := by decide +kernel
theorem d1_6 : decode prog_24_method_14_code 6 = .ok (.i2b, 1) := by decide +kernel
theorem d1_7 : decode prog_24_method_14_code 7 = .ok (.bastore, 1) := by decide +kernel
theorem d1_8 : decode prog_24_method_14_code 8 = .ok (.dup, 1) := by decide +kernel
theorem d1_9 : decode prog_24_method_14_code 9 = .ok (.iconst 1, 1) := by decide +kernel
theorem d1_10 : decode prog_24_method_14_code 10 = .ok (.iload_n 0, 1) := by decide +kernel
theorem d1_11 : decode prog_24_method_14_code 11 = .ok (.bipush 8, 2) := by decide +kernel
theorem d1_13 : decode prog_24_method_14_code 13 = .ok (.ishr, 1) := by decide +kernel
theorem d1_14 : decode prog_24_method_14_code 14 = .ok (.i2b, 1) := by decide +kernel
theorem d1_15 : decode prog_24_method_14_code 15 = .ok (.bastore, 1) := by decide +kernel
theorem d1_16 : decode prog_24_method_14_code 16 = .ok (.areturn, 1) := by decide +kernel
theorem pn_0 : plainName "com/example/tesserae/tesserae/value/Vr" = true := by first | (simp [plainName, overriddenIn]; done) | decide +kernel
theorem ef_1 (mM : MethodId) (x0 : Int32) : entryFrame mM #[(.int x0)] 1 = mkF mM 0 #[.val (.int x0)] [] := by first | (simp [entryFrame, mkF, argsToLocals, Value.category]; done) | rfl
def Q1 (Z : State) (p1 : Int32) (h0 : Heap) (n0 : Nat) (v : Option Value) (h : Heap) (L : List Loc) : Prop := ∃ b : Addr, v = some (.ref b) ∧ Fr n0 L ∧ ∃ k : ClassId, Arv Z h b k .byte (2 : Int32) [.int (nar .byte p1.toInt8.toInt32), .int (nar .byte (p1 >>> ((8 : Int32) &&& 31)).toInt8.toInt32)] (.int (0 : Int32)) ∧ Keep h0 h []
set_option maxRecDepth 65536 in
set_option maxHeartbeats 40000000 in
theorem rm1 (l : Launch) (Z : State) (a0 : Array Value) (hw : ∀ d ∈ tables_1, d.before a0 Z = true) (ws : List Jvm.Cond) (p1 : Int32) (h0 : Heap) (n0 : Nat) (Z0 : n0 ≤ h0.size) :
    MetFree l (⟨"com/example/tesserae/tesserae/value/Vr", "unsignedShort", "(I)[B"⟩ : MethodName) (head1 (Jvm.Cond.code (⟨"com/example/tesserae/tesserae/value/Vr", "unsignedShort", "(I)[B"⟩ : MethodName) prog_24_method_14_code 1 (some (.array .byte)) :: ws) ({ frames := 0, cells := 1, slots := 2, locals := 0 } : Room)) (fun aA uU => aA = #[(.int p1)] ∧ Z.Warmed39 uU.vm ∧ uU.heap = h0) (fun _ _ _ _ _ => True) (fun _ uU oO uU' => ∃ vV lL, oO = .returned vV ∧ Q1 Z p1 h0 n0 vV uU'.heap lL ∧ FrameEnd uU oO uU' lL ({ frames := 0, cells := 1, slots := 2, locals := 0 } : Room).cells ({ frames := 0, cells := 1, slots := 2, locals := 0 } : Room).slots) := by
  refine MetFree.of_bodySF (plainFor_of_name pn_0) hisR ?_
  intro pP eE sS mM args below meth cC s₁ Bd hml0 hP hK
  obtain ⟨rfl, hZ, hh⟩ := hP
  have hx := Bd.exec
  have hby := Bd.bytes
  have hml : cC.maxLocals = 1 := hml0
  have hown : sS.vm.findClass "com/example/tesserae/tesserae/value/Vr" = some mM.cls := findClass_of_methodNamed Bd.named
  have hnm := (name_of_methodNamed Bd.named Bd.method).1
  have X0 : Stand pP l eE ({ frames := 0, cells := 1, slots := 2, locals := 0 } : Room) sS mM #[(.int p1)] below meth cC s₁ [] 0 0 := Stand.of_body Bd
  have e0 : s₁.heap = h0 := by rw [← hh, Bd.state]; rfl
  have N0 := Fr.nil n0
  have pre0 : ∀ tg, Steps pP.tables eE below (s₁.setTop (mkF mM 0 #[.val (.int p1)] [])) tg → Steps pP.tables eE below (s₁.setTop (entryFrame mM #[(.int p1)] 1)) tg := fun tg kg => castTop (ef_1 mM p1) kg
  have pr1 : ∀ tg, Steps pP.tables eE below (s₁.setTop (mkF mM 1 #[.val (.int p1)] [(.int (2 : Int32))])) tg → Steps pP.tables eE below (s₁.setTop (entryFrame mM #[(.int p1)] 1)) tg := fun tg kg => pre0 _ (by
    show Steps pP.tables eE below (s₁.setTop (mkF mM 0 #[.val (.int p1)] [])) _
    refine XS.iconst X0.here hx rfl (hb hby d1_0) ?_
    exact kg)
  obtain ⟨T2, h2, k2, X2, e2, E2, A2, Ex2, st2⟩ := newPE X0 hx hZ (hw _ (List.mem_of_getElem? (i := 4) rfl)) e0 (g := (mkF mM 1 #[.val (.int p1)] [(.int (2 : Int32))])) rfl (hb hby d1_1) rfl (by decide) (cap := 2) (by decide) (by decide) (by decide) (by decide) (ad := "[B") rfl
  obtain ⟨b2, g2⟩ : ∃ z, z = (h0).size := ⟨_, rfl⟩
  rw [← g2] at A2 Ex2 st2
  have gn3 : n0 ≤ b2 := Nat.le_trans Z0 (Nat.le_of_eq g2.symm)
  have gs4 : h0.size ≤ b2 := Nat.le_trans (Keep.refl h0 []).1 (Nat.le_of_eq g2.symm)
  have V2 : Arv Z h2 b2 k2 .byte (2 : Int32) [(.int (0 : Int32)), (.int (0 : Int32))] (.int (0 : Int32)) := (Arv.new A2 (by decide)).pad (pad_rep [] (.int (0 : Int32)) 2)
  have pr5 : ∀ tg, Steps pP.tables eE below (T2.setTop (mkF mM 3 #[.val (.int p1)] [(.ref b2)])) tg → Steps pP.tables eE below (s₁.setTop (entryFrame mM #[(.int p1)] 1)) tg := fun tg kg => pr1 _ (st2 _ kg)
  have pr6 : ∀ tg, Steps pP.tables eE below (T2.setTop (mkF mM 7 #[.val (.int p1)] [(.int p1.toInt8.toInt32), (.int (0 : Int32)), (.ref b2), (.ref b2)])) tg → Steps pP.tables eE below (s₁.setTop (entryFrame mM #[(.int p1)] 1)) tg := fun tg kg => pr5 _ (by
    show Steps pP.tables eE below (T2.setTop (mkF mM 3 #[.val (.int p1)] [(.ref b2)])) _
    refine XS.dup X2.here hx rfl (hb hby d1_3) rfl rfl ?_
    show Steps pP.tables eE below (T2.setTop (mkF mM 4 #[.val (.int p1)] [(.ref b2), (.ref b2)])) _
    refine XS.iconst X2.here hx rfl (hb hby d1_4) ?_
    show Steps pP.tables eE below (T2.setTop (mkF mM 5 #[.val (.int p1)] [(.int (0 : Int32)), (.ref b2), (.ref b2)])) _
    refine XS.iloadN X2.here hx rfl (hb hby d1_5) rfl ?_
    show Steps pP.tables eE below (T2.setTop (mkF mM 6 #[.val (.int p1)] [(.int p1), (.int (0 : Int32)), (.ref b2), (.ref b2)])) _
    refine XS.i2b X2.here hx rfl (hb hby d1_6) rfl ?_
    exact kg)
  obtain ⟨cla7, Ara7, qa7, Sa7, Ma7, Ha7, Ga7⟩ := id V2
  have hin8 : ¬ ((0 : Int32) < 0 ∨ cla7.slots.size ≤ ((0 : Int32)).toNatClampNeg) := inb_of Sa7 ⟨by decide, by decide⟩
  obtain ⟨T8, h8, X8, e8, W8, st8⟩ := stB X2 hx hZ e2 Ara7 (j := (0 : Int32)) hin8 (g := (mkF mM 7 #[.val (.int p1)] [(.int p1.toInt8.toInt32), (.int (0 : Int32)), (.ref b2), (.ref b2)])) rfl rfl (hb hby d1_7)
  have V8 : Arv Z h8 b2 k2 .byte (2 : Int32) [(.int (nar .byte p1.toInt8.toInt32)), (.int (0 : Int32))] (.int (0 : Int32)) := Arv.set Ara7 qa7 Sa7 Ma7 Ha7 Ga7 (fits_nar_byte _) W8 0 rfl (Nat.le_of_ble_eq_true rfl)
  have N8 := Fr.snoc X8 N0 gn3
  have pr9 : ∀ tg, Steps pP.tables eE below (T8.setTop (mkF mM 8 #[.val (.int p1)] [(.ref b2)])) tg → Steps pP.tables eE below (s₁.setTop (entryFrame mM #[(.int p1)] 1)) tg := fun tg kg => pr6 _ (st8 _ kg)
  have pr10 : ∀ tg, Steps pP.tables eE below (T8.setTop (mkF mM 15 #[.val (.int p1)] [(.int (p1 >>> ((8 : Int32) &&& 31)).toInt8.toInt32), (.int (1 : Int32)), (.ref b2), (.ref b2)])) tg → Steps pP.tables eE below (s₁.setTop (entryFrame mM #[(.int p1)] 1)) tg := fun tg kg => pr9 _ (by
    show Steps pP.tables eE below (T8.setTop (mkF mM 8 #[.val (.int p1)] [(.ref b2)])) _
    refine XS.dup X8.here hx rfl (hb hby d1_8) rfl rfl ?_
    show Steps pP.tables eE below (T8.setTop (mkF mM 9 #[.val (.int p1)] [(.ref b2), (.ref b2)])) _
    refine XS.iconst X8.here hx rfl (hb hby d1_9) ?_
    show Steps pP.tables eE below (T8.setTop (mkF mM 10 #[.val (.int p1)] [(.int (1 : Int32)), (.ref b2), (.ref b2)])) _
    refine XS.iloadN X8.here hx rfl (hb hby d1_10) rfl ?_
    show Steps pP.tables eE below (T8.setTop (mkF mM 11 #[.val (.int p1)] [(.int p1), (.int (1 : Int32)), (.ref b2), (.ref b2)])) _
    refine XS.bipush X8.here hx rfl (hb hby d1_11) ?_
    show Steps pP.tables eE below (T8.setTop (mkF mM 13 #[.val (.int p1)] [(.int (8 : Int32)), (.int p1), (.int (1 : Int32)), (.ref b2), (.ref b2)])) _
    refine XS.ishr X8.here hx rfl (hb hby d1_13) rfl ?_
    show Steps pP.tables eE below (T8.setTop (mkF mM 14 #[.val (.int p1)] [(.int (p1 >>> ((8 : Int32) &&& 31))), (.int (1 : Int32)), (.ref b2), (.ref b2)])) _
    refine XS.i2b X8.here hx rfl (hb hby d1_14) rfl ?_
    exact kg)
  obtain ⟨cla11, Ara11, qa11, Sa11, Ma11, Ha11, Ga11⟩ := id V8
  have hin12 : ¬ ((1 : Int32) < 0 ∨ cla11.slots.size ≤ ((1 : Int32)).toNatClampNeg) := inb_of Sa11 ⟨by decide, by decide⟩
  obtain ⟨T12, h12, X12, e12, W12, st12⟩ := stB X8 hx hZ e8 Ara11 (j := (1 : Int32)) hin12 (g := (mkF mM 15 #[.val (.int p1)] [(.int (p1 >>> ((8 : Int32) &&& 31)).toInt8.toInt32), (.int (1 : Int32)), (.ref b2), (.ref b2)])) rfl rfl (hb hby d1_15)
  have V12 : Arv Z h12 b2 k2 .byte (2 : Int32) [(.int (nar .byte p1.toInt8.toInt32)), (.int (nar .byte (p1 >>> ((8 : Int32) &&& 31)).toInt8.toInt32))] (.int (0 : Int32)) := Arv.set Ara11 qa11 Sa11 Ma11 Ha11 Ga11 (fits_nar_byte _) W12 1 rfl (Nat.le_of_ble_eq_true rfl)
  have N12 := Fr.snoc X12 N8 gn3
  have pr13 : ∀ tg, Steps pP.tables eE below (T12.setTop (mkF mM 16 #[.val (.int p1)] [(.ref b2)])) tg → Steps pP.tables eE below (s₁.setTop (entryFrame mM #[(.int p1)] 1)) tg := fun tg kg => pr10 _ (st12 _ kg)
  have c14 := (Keep.wr (Keep.wr (Keep.ext (Keep.refl h0 []) E2) W8 (Or.inr gs4)) W12 (Or.inr gs4))
  obtain ⟨fs, hr, hrun, hended, hW, hsame⟩ := X12.leave (v := some (.ref b2)) (fun h => by rw [Bd.returns] at h; cases h)
  refine ⟨_, _, pr13 _ (retOut X12 hx (t := (.array .byte)) Bd.returns rfl (Or.inr (Or.inr (Or.inr (Or.inr ⟨rfl, rfl, rfl⟩)))) (hb hby d1_16) hr), hrun, hended, _, _, rfl, ?_, ⟨_, rfl⟩, hW, hsame.mono (by decide) (by decide)⟩
  show Q1 Z p1 h0 n0 _ T12.heap _
  rw [e12]
  exact ⟨_, rfl, N12, _, V12, c14⟩
theorem own_b (y : Int32) : y.toInt8.toInt32.toInt8.toInt32 = y.toInt8.toInt32 := by
  simp
theorem own_b255 (y : Int32) : (nar .byte y.toInt8.toInt32 &&& (255 : Int32)).toInt = y.toInt % 256 := by
  show (y.toInt8.toInt32.toInt8.toInt32 &&& (255 : Int32)).toInt = _
  rw [own_b, Jvm.Kit.i32_mask _ 255 (k := 8) (by decide) (by decide), Int8.toInt_toInt32, Int32.toInt_toInt8]
  exact Int.bmod_emod
theorem own_law (v : Int32) : ((nar .byte v.toInt8.toInt32 &&& (255 : Int32)) + ((256 : Int32) * (nar .byte (v >>> ((8 : Int32) &&& 31)).toInt8.toInt32 &&& (255 : Int32)))) = (v &&& (65535 : Int32)) := by
  have e1 := own_b255 v
  have e2 := own_b255 (v >>> ((8 : Int32) &&& 31))
  have e3 : (v >>> ((8 : Int32) &&& 31)).toInt = v.toInt / 2 ^ 8 := Jvm.Kit.i32_shr v _ (by decide)
  have e4 : (v &&& 65535).toInt = v.toInt % 2 ^ 16 := Jvm.Kit.i32_mask v 65535 (k := 16) (by decide) (by decide)
  have c : (256 : Int32).toInt = 256 := rfl
  generalize (nar .byte v.toInt8.toInt32 &&& (255 : Int32)) = a at *
  generalize (nar .byte (v >>> ((8 : Int32) &&& 31)).toInt8.toInt32 &&& (255 : Int32)) = b at *
  have e5 := Jvm.Kit.i32_mul (p := 256) (q := b) (by rw [c]; omega) (by rw [c]; omega)
  rw [c] at e5
  have e6 := Jvm.Kit.i32_add (p := a) (q := 256 * b) (by omega) (by omega)
  apply Int32.toInt_inj.mp
  omega
theorem pd_0 : parseMethodDescriptor "(I)[B" = some ⟨[.int], some (.array .byte)⟩ := by decide +kernel
theorem pn_1 : plainName "com/example/tesserae/tesserae/value/VrUnsignedShortPinLaw" = true := by first | (simp [plainName, overriddenIn]; done) | decide +kernel
theorem ef_0 (mM : MethodId) (x0 : Int32) : entryFrame mM #[(.int x0)] maxLocals = mkF mM 0 #[.val (.int x0), .unset, .unset, .unset, .unset, .unset] [] := by first | (simp [entryFrame, mkF, argsToLocals, Value.category, maxLocals]; done) | rfl
def Q0 (Z : State) (p1 : Int32) (h0 : Heap) (n0 : Nat) (v : Option Value) (h : Heap) (L : List Loc) : Prop := v = some (.int (1 : Int32)) ∧ Fr n0 L
set_option maxRecDepth 65536 in
set_option maxHeartbeats 40000000 in
theorem rm0 (l : Launch) (Z : State) (a0 : Array Value) (hw : ∀ d ∈ tables_1, d.before a0 Z = true) (ws : List Jvm.Cond) (p1 : Int32) (h0 : Heap) (n0 : Nat) (Z0 : n0 ≤ h0.size) :
    MetFree l x (head1 (Jvm.Cond.code x code maxLocals ret :: ws) room_1) (fun aA uU => aA = #[(.int p1)] ∧ Z.Warmed39 uU.vm ∧ uU.heap = h0) (fun _ _ _ _ _ => True) (fun _ uU oO uU' => ∃ vV lL, oO = .returned vV ∧ Q0 Z p1 h0 n0 vV uU'.heap lL ∧ FrameEnd uU oO uU' lL room_1.cells room_1.slots) := by
  refine MetFree.of_bodySF (plainFor_of_name pn_1) hisR ?_
  intro pP eE sS mM args below meth cC s₁ Bd hml0 hP hK
  obtain ⟨rfl, hZ, hh⟩ := hP
  have hx := Bd.exec
  have hby := Bd.bytes
  have hml : cC.maxLocals = 6 := hml0
  have hown : sS.vm.findClass "com/example/tesserae/tesserae/value/VrUnsignedShortPinLaw" = some mM.cls := findClass_of_methodNamed Bd.named
  have hnm := (name_of_methodNamed Bd.named Bd.method).1
  have X0 : Stand pP l eE room_1 sS mM #[(.int p1)] below meth cC s₁ [] 0 0 := Stand.of_body Bd
  have e0 : s₁.heap = h0 := by rw [← hh, Bd.state]; rfl
  have N0 := Fr.nil n0
  have pre0 : ∀ tg, Steps pP.tables eE below (s₁.setTop (mkF mM 0 #[.val (.int p1), .unset, .unset, .unset, .unset, .unset] [])) tg → Steps pP.tables eE below (s₁.setTop (entryFrame mM #[(.int p1)] maxLocals)) tg := fun tg kg => castTop (ef_0 mM p1) kg
  have pr1 : ∀ tg, Steps pP.tables eE below (s₁.setTop (mkF mM 1 #[.val (.int p1), .unset, .unset, .unset, .unset, .unset] [(.int p1)])) tg → Steps pP.tables eE below (s₁.setTop (entryFrame mM #[(.int p1)] maxLocals)) tg := fun tg kg => pre0 _ (by
    show Steps pP.tables eE below (s₁.setTop (mkF mM 0 #[.val (.int p1), .unset, .unset, .unset, .unset, .unset] [])) _
    refine XS.iloadN X0.here hx rfl (hb hby at_0) rfl ?_
    exact kg)
  obtain ⟨_, _, ⟨T2, L2, kk2, nn2⟩, -, X2, ⟨Lc2, hQ2, l2, y2, z2⟩, st2⟩ := Jvm.LawKit.callS X0 hx (y := (⟨"com/example/tesserae/tesserae/value/Vr", "unsignedShort", "(I)[B"⟩ : MethodName)) hown (mvT hZ (hw _ (List.mem_of_getElem? (i := 0) rfl))) (mvT hZ (hw _ (List.mem_of_getElem? (i := 1) rfl))) (mvT hZ (hw _ (List.mem_of_getElem? (i := 2) rfl))) (mvT hZ (hw _ (List.mem_of_getElem? (i := 3) rfl))) (by decide) (backOf (W := 0) (rm1 l Z a0 hw [] p1 h0 n0 Z0) hZ (hw _ (List.mem_of_getElem? (i := 3) rfl)) (hw _ (List.mem_of_getElem? (i := 2) rfl)) (by decide) (by decide)) (g := (mkF mM 1 #[.val (.int p1), .unset, .unset, .unset, .unset, .unset] [(.int p1)])) rfl (by rw [hml]; rfl) (argsL := [(.int p1)]) (rest := []) (lenOf pd_0 rfl) rfl (by show 2 * 0 + _ ≤ _; exact Nat.le_of_eq rfl) (hb hby at_1) (fun _ _ => ⟨rfl, e0, (by decide : 0 + 1 ≤ _), (by decide : 0 + 2 ≤ _)⟩)
  dsimp only [Pt.U, Pt.locs, Pt.cells, Pt.slots] at X2 l2 y2 z2 st2 hQ2
  subst l2 y2 z2
  obtain ⟨b2, rfl, Nq2, kc2, V2, K2⟩ := hQ2
  have N2 := Fr.app N0 Nq2
  have pr3 : ∀ tg, Steps pP.tables eE below (T2.setTop (mkF mM 4 #[.val (.int p1), .unset, .unset, .unset, .unset, .unset] [(.ref b2)])) tg → Steps pP.tables eE below (s₁.setTop (entryFrame mM #[(.int p1)] maxLocals)) tg := fun tg kg => pr1 _ (st2 _ kg)
  obtain ⟨cla4, Ara4, qa4, Sa4, Ma4, Ha4, Ga4⟩ := id V2
  have hin5 : ¬ ((0 : Int32) < 0 ∨ cla4.slots.size ≤ ((0 : Int32)).toNatClampNeg) := inb_of Sa4 ⟨by decide, by decide⟩
  have hat5 : cla4.slots[((0 : Int32)).toNatClampNeg]? = some (.int (nar .byte p1.toInt8.toInt32)) := Has.at Ha4 hin5 rfl
  have hin6 : ¬ ((1 : Int32) < 0 ∨ cla4.slots.size ≤ ((1 : Int32)).toNatClampNeg) := inb_of Sa4 ⟨by decide, by decide⟩
  have hat6 : cla4.slots[((1 : Int32)).toNatClampNeg]? = some (.int (nar .byte (p1 >>> ((8 : Int32) &&& 31)).toInt8.toInt32)) := Has.at Ha4 hin6 rfl
  have pr7 : ∀ tg, Steps pP.tables eE below (T2.setTop (mkF mM 60 #[.val (.int p1), .val (.ref b2), .val (.int ((nar .byte p1.toInt8.toInt32) &&& (255 : Int32))), .val (.int ((nar .byte (p1 >>> ((8 : Int32) &&& 31)).toInt8.toInt32) &&& (255 : Int32))), .val (.int (((nar .byte p1.toInt8.toInt32) &&& (255 : Int32)) + ((256 : Int32) * ((nar .byte (p1 >>> ((8 : Int32) &&& 31)).toInt8.toInt32) &&& (255 : Int32))))), .val (.int (p1 &&& (65535 : Int32)))] [(.int (1 : Int32))])) tg → Steps pP.tables eE below (s₁.setTop (entryFrame mM #[(.int p1)] maxLocals)) tg := fun tg kg => pr3 _ (by
    show Steps pP.tables eE below (T2.setTop (mkF mM 4 #[.val (.int p1), .unset, .unset, .unset, .unset, .unset] [(.ref b2)])) _
    refine XS.astoreN X2.here hx rfl (hb hby at_4) rfl rfl (l' := #[.val (.int p1), .val (.ref b2), .unset, .unset, .unset, .unset]) rfl ?_
    show Steps pP.tables eE below (T2.setTop (mkF mM 5 #[.val (.int p1), .val (.ref b2), .unset, .unset, .unset, .unset] [])) _
    refine XS.aloadN X2.here hx rfl (hb hby at_5) rfl rfl ?_
    show Steps pP.tables eE below (T2.setTop (mkF mM 6 #[.val (.int p1), .val (.ref b2), .unset, .unset, .unset, .unset] [(.ref b2)])) _
    refine XS.ifnullNo X2.here hx rfl (hb hby at_6) rfl ?_
    show Steps pP.tables eE below (T2.setTop (mkF mM 9 #[.val (.int p1), .val (.ref b2), .unset, .unset, .unset, .unset] [])) _
    refine XS.aloadN X2.here hx rfl (hb hby at_9) rfl rfl ?_
    show Steps pP.tables eE below (T2.setTop (mkF mM 10 #[.val (.int p1), .val (.ref b2), .unset, .unset, .unset, .unset] [(.ref b2)])) _
    refine X2.arraylength hx Ara4.1 (State.isArrayOf_alike hZ.alike Ara4.2.1) (g := (mkF mM 10 #[.val (.int p1), .val (.ref b2), .unset, .unset, .unset, .unset] [(.ref b2)])) rfl rfl (hb hby at_10) _ ?_
    rw [len_of Sa4 Ma4]
    show Steps pP.tables eE below (T2.setTop (mkF mM 11 #[.val (.int p1), .val (.ref b2), .unset, .unset, .unset, .unset] [(.int (2 : Int32))])) _
    refine XS.iconst X2.here hx rfl (hb hby at_11) ?_
    show Steps pP.tables eE below (T2.setTop (mkF mM 12 #[.val (.int p1), .val (.ref b2), .unset, .unset, .unset, .unset] [(.int (2 : Int32)), (.int (2 : Int32))])) _
    refine XS.icmpYes X2.here hx rfl (pc0 := 12) (pc' := 17) rfl (hb hby at_12) rfl (teq (by decide)).1 (by decide) (by decide) ?_
    show Steps pP.tables eE below (T2.setTop (mkF mM 17 #[.val (.int p1), .val (.ref b2), .unset, .unset, .unset, .unset] [])) _
    refine XS.aloadN X2.here hx rfl (hb hby at_17) rfl rfl ?_
    show Steps pP.tables eE below (T2.setTop (mkF mM 18 #[.val (.int p1), .val (.ref b2), .unset, .unset, .unset, .unset] [(.ref b2)])) _
    refine XS.iconst X2.here hx rfl (hb hby at_18) ?_
    show Steps pP.tables eE below (T2.setTop (mkF mM 19 #[.val (.int p1), .val (.ref b2), .unset, .unset, .unset, .unset] [(.int (0 : Int32)), (.ref b2)])) _
    refine X2.baloadBytes hx (j := (0 : Int32)) (v := (.int (nar .byte p1.toInt8.toInt32))) Ara4.1 (State.isArrayOf_alike hZ.alike Ara4.2.1) Ara4.2.2 hin5 hat5 (g := (mkF mM 19 #[.val (.int p1), .val (.ref b2), .unset, .unset, .unset, .unset] [(.int (0 : Int32)), (.ref b2)])) rfl rfl (hb hby at_19) _ ?_
    show Steps pP.tables eE below (T2.setTop (mkF mM 20 #[.val (.int p1), .val (.ref b2), .unset, .unset, .unset, .unset] [(.int (nar .byte p1.toInt8.toInt32))])) _
    refine XS.sipush X2.here hx rfl (hb hby at_20) ?_
    show Steps pP.tables eE below (T2.setTop (mkF mM 23 #[.val (.int p1), .val (.ref b2), .unset, .unset, .unset, .unset] [(.int (255 : Int32)), (.int (nar .byte p1.toInt8.toInt32))])) _
    refine XS.iand X2.here hx rfl (hb hby at_23) rfl ?_
    show Steps pP.tables eE below (T2.setTop (mkF mM 24 #[.val (.int p1), .val (.ref b2), .unset, .unset, .unset, .unset] [(.int ((nar .byte p1.toInt8.toInt32) &&& (255 : Int32)))])) _
    refine XS.istoreN X2.here hx rfl (hb hby at_24) rfl (l' := #[.val (.int p1), .val (.ref b2), .val (.int ((nar .byte p1.toInt8.toInt32) &&& (255 : Int32))), .unset, .unset, .unset]) rfl ?_
    show Steps pP.tables eE below (T2.setTop (mkF mM 25 #[.val (.int p1), .val (.ref b2), .val (.int ((nar .byte p1.toInt8.toInt32) &&& (255 : Int32))), .unset, .unset, .unset] [])) _
    refine XS.aloadN X2.here hx rfl (hb hby at_25) rfl rfl ?_
    show Steps pP.tables eE below (T2.setTop (mkF mM 26 #[.val (.int p1), .val (.ref b2), .val (.int ((nar .byte p1.toInt8.toInt32) &&& (255 : Int32))), .unset, .unset, .unset] [(.ref b2)])) _
    refine XS.iconst X2.here hx rfl (hb hby at_26) ?_
    show Steps pP.tables eE below (T2.setTop (mkF mM 27 #[.val (.int p1), .val (.ref b2), .val (.int ((nar .byte p1.toInt8.toInt32) &&& (255 : Int32))), .unset, .unset, .unset] [(.int (1 : Int32)), (.ref b2)])) _
    refine X2.baloadBytes hx (j := (1 : Int32)) (v := (.int (nar .byte (p1 >>> ((8 : Int32) &&& 31)).toInt8.toInt32))) Ara4.1 (State.isArrayOf_alike hZ.alike Ara4.2.1) Ara4.2.2 hin6 hat6 (g := (mkF mM 27 #[.val (.int p1), .val (.ref b2), .val (.int ((nar .byte p1.toInt8.toInt32) &&& (255 : Int32))), .unset, .unset, .unset] [(.int (1 : Int32)), (.ref b2)])) rfl rfl (hb hby at_27) _ ?_
    show Steps pP.tables eE below (T2.setTop (mkF mM 28 #[.val (.int p1), .val (.ref b2), .val (.int ((nar .byte p1.toInt8.toInt32) &&& (255 : Int32))), .unset, .unset, .unset] [(.int (nar .byte (p1 >>> ((8 : Int32) &&& 31)).toInt8.toInt32))])) _
    refine XS.sipush X2.here hx rfl (hb hby at_28) ?_
    show Steps pP.tables eE below (T2.setTop (mkF mM 31 #[.val (.int p1), .val (.ref b2), .val (.int ((nar .byte p1.toInt8.toInt32) &&& (255 : Int32))), .unset, .unset, .unset] [(.int (255 : Int32)), (.int (nar .byte (p1 >>> ((8 : Int32) &&& 31)).toInt8.toInt32))])) _
    refine XS.iand X2.here hx rfl (hb hby at_31) rfl ?_
    show Steps pP.tables eE below (T2.setTop (mkF mM 32 #[.val (.int p1), .val (.ref b2), .val (.int ((nar .byte p1.toInt8.toInt32) &&& (255 : Int32))), .unset, .unset, .unset] [(.int ((nar .byte (p1 >>> ((8 : Int32) &&& 31)).toInt8.toInt32) &&& (255 : Int32)))])) _
    refine XS.istoreN X2.here hx rfl (hb hby at_32) rfl (l' := #[.val (.int p1), .val (.ref b2), .val (.int ((nar .byte p1.toInt8.toInt32) &&& (255 : Int32))), .val (.int ((nar .byte (p1 >>> ((8 : Int32) &&& 31)).toInt8.toInt32) &&& (255 : Int32))), .unset, .unset]) rfl ?_
    show Steps pP.tables eE below (T2.setTop (mkF mM 33 #[.val (.int p1), .val (.ref b2), .val (.int ((nar .byte p1.toInt8.toInt32) &&& (255 : Int32))), .val (.int ((nar .byte (p1 >>> ((8 : Int32) &&& 31)).toInt8.toInt32) &&& (255 : Int32))), .unset, .unset] [])) _
    refine XS.iloadN X2.here hx rfl (hb hby at_33) rfl ?_
    show Steps pP.tables eE below (T2.setTop (mkF mM 34 #[.val (.int p1), .val (.ref b2), .val (.int ((nar .byte p1.toInt8.toInt32) &&& (255 : Int32))), .val (.int ((nar .byte (p1 >>> ((8 : Int32) &&& 31)).toInt8.toInt32) &&& (255 : Int32))), .unset, .unset] [(.int ((nar .byte p1.toInt8.toInt32) &&& (255 : Int32)))])) _
    refine XS.sipush X2.here hx rfl (hb hby at_34) ?_
    show Steps pP.tables eE below (T2.setTop (mkF mM 37 #[.val (.int p1), .val (.ref b2), .val (.int ((nar .byte p1.toInt8.toInt32) &&& (255 : Int32))), .val (.int ((nar .byte (p1 >>> ((8 : Int32) &&& 31)).toInt8.toInt32) &&& (255 : Int32))), .unset, .unset] [(.int (256 : Int32)), (.int ((nar .byte p1.toInt8.toInt32) &&& (255 : Int32)))])) _
    refine XS.iloadN X2.here hx rfl (hb hby at_37) rfl ?_
    show Steps pP.tables eE below (T2.setTop (mkF mM 38 #[.val (.int p1), .val (.ref b2), .val (.int ((nar .byte p1.toInt8.toInt32) &&& (255 : Int32))), .val (.int ((nar .byte (p1 >>> ((8 : Int32) &&& 31)).toInt8.toInt32) &&& (255 : Int32))), .unset, .unset] [(.int ((nar .byte (p1 >>> ((8 : Int32) &&& 31)).toInt8.toInt32) &&& (255 : Int32))), (.int (256 : Int32)), (.int ((nar .byte p1.toInt8.toInt32) &&& (255 : Int32)))])) _
    refine XS.imul X2.here hx rfl (hb hby at_38) rfl ?_
    show Steps pP.tables eE below (T2.setTop (mkF mM 39 #[.val (.int p1), .val (.ref b2), .val (.int ((nar .byte p1.toInt8.toInt32) &&& (255 : Int32))), .val (.int ((nar .byte (p1 >>> ((8 : Int32) &&& 31)).toInt8.toInt32) &&& (255 : Int32))), .unset, .unset] [(.int ((256 : Int32) * ((nar .byte (p1 >>> ((8 : Int32) &&& 31)).toInt8.toInt32) &&& (255 : Int32)))), (.int ((nar .byte p1.toInt8.toInt32) &&& (255 : Int32)))])) _
    refine XS.iadd X2.here hx rfl (hb hby at_39) rfl ?_
    show Steps pP.tables eE below (T2.setTop (mkF mM 40 #[.val (.int p1), .val (.ref b2), .val (.int ((nar .byte p1.toInt8.toInt32) &&& (255 : Int32))), .val (.int ((nar .byte (p1 >>> ((8 : Int32) &&& 31)).toInt8.toInt32) &&& (255 : Int32))), .unset, .unset] [(.int (((nar .byte p1.toInt8.toInt32) &&& (255 : Int32)) + ((256 : Int32) * ((nar .byte (p1 >>> ((8 : Int32) &&& 31)).toInt8.toInt32) &&& (255 : Int32)))))])) _
    refine XS.istore X2.here hx rfl (hb hby at_40) rfl (l' := #[.val (.int p1), .val (.ref b2), .val (.int ((nar .byte p1.toInt8.toInt32) &&& (255 : Int32))), .val (.int ((nar .byte (p1 >>> ((8 : Int32) &&& 31)).toInt8.toInt32) &&& (255 : Int32))), .val (.int (((nar .byte p1.toInt8.toInt32) &&& (255 : Int32)) + ((256 : Int32) * ((nar .byte (p1 >>> ((8 : Int32) &&& 31)).toInt8.toInt32) &&& (255 : Int32))))), .unset]) rfl ?_
    show Steps pP.tables eE below (T2.setTop (mkF mM 42 #[.val (.int p1), .val (.ref b2), .val (.int ((nar .byte p1.toInt8.toInt32) &&& (255 : Int32))), .val (.int ((nar .byte (p1 >>> ((8 : Int32) &&& 31)).toInt8.toInt32) &&& (255 : Int32))), .val (.int (((nar .byte p1.toInt8.toInt32) &&& (255 : Int32)) + ((256 : Int32) * ((nar .byte (p1 >>> ((8 : Int32) &&& 31)).toInt8.toInt32) &&& (255 : Int32))))), .unset] [])) _
    refine XS.iloadN X2.here hx rfl (hb hby at_42) rfl ?_
    show Steps pP.tables eE below (T2.setTop (mkF mM 43 #[.val (.int p1), .val (.ref b2), .val (.int ((nar .byte p1.toInt8.toInt32) &&& (255 : Int32))), .val (.int ((nar .byte (p1 >>> ((8 : Int32) &&& 31)).toInt8.toInt32) &&& (255 : Int32))), .val (.int (((nar .byte p1.toInt8.toInt32) &&& (255 : Int32)) + ((256 : Int32) * ((nar .byte (p1 >>> ((8 : Int32) &&& 31)).toInt8.toInt32) &&& (255 : Int32))))), .unset] [(.int p1)])) _
    refine Jvm.Stand.ldcI X2 hx hown (v := (65535 : Int32)) (mvT hZ (hw _ (List.mem_of_getElem? (i := 5) rfl))) rfl (hb hby at_43) ?_
    show Steps pP.tables eE below (T2.setTop (mkF mM 45 #[.val (.int p1), .val (.ref b2), .val (.int ((nar .byte p1.toInt8.toInt32) &&& (255 : Int32))), .val (.int ((nar .byte (p1 >>> ((8 : Int32) &&& 31)).toInt8.toInt32) &&& (255 : Int32))), .val (.int (((nar .byte p1.toInt8.toInt32) &&& (255 : Int32)) + ((256 : Int32) * ((nar .byte (p1 >>> ((8 : Int32) &&& 31)).toInt8.toInt32) &&& (255 : Int32))))), .unset] [(.int (65535 : Int32)), (.int p1)])) _
    refine XS.iand X2.here hx rfl (hb hby at_45) rfl ?_
    show Steps pP.tables eE below (T2.setTop (mkF mM 46 #[.val (.int p1), .val (.ref b2), .val (.int ((nar .byte p1.toInt8.toInt32) &&& (255 : Int32))), .val (.int ((nar .byte (p1 >>> ((8 : Int32) &&& 31)).toInt8.toInt32) &&& (255 : Int32))), .val (.int (((nar .byte p1.toInt8.toInt32) &&& (255 : Int32)) + ((256 : Int32) * ((nar .byte (p1 >>> ((8 : Int32) &&& 31)).toInt8.toInt32) &&& (255 : Int32))))), .unset] [(.int (p1 &&& (65535 : Int32)))])) _
    refine XS.istore X2.here hx rfl (hb hby at_46) rfl (l' := #[.val (.int p1), .val (.ref b2), .val (.int ((nar .byte p1.toInt8.toInt32) &&& (255 : Int32))), .val (.int ((nar .byte (p1 >>> ((8 : Int32) &&& 31)).toInt8.toInt32) &&& (255 : Int32))), .val (.int (((nar .byte p1.toInt8.toInt32) &&& (255 : Int32)) + ((256 : Int32) * ((nar .byte (p1 >>> ((8 : Int32) &&& 31)).toInt8.toInt32) &&& (255 : Int32))))), .val (.int (p1 &&& (65535 : Int32)))]) rfl ?_
    show Steps pP.tables eE below (T2.setTop (mkF mM 48 #[.val (.int p1), .val (.ref b2), .val (.int ((nar .byte p1.toInt8.toInt32) &&& (255 : Int32))), .val (.int ((nar .byte (p1 >>> ((8 : Int32) &&& 31)).toInt8.toInt32) &&& (255 : Int32))), .val (.int (((nar .byte p1.toInt8.toInt32) &&& (255 : Int32)) + ((256 : Int32) * ((nar .byte (p1 >>> ((8 : Int32) &&& 31)).toInt8.toInt32) &&& (255 : Int32))))), .val (.int (p1 &&& (65535 : Int32)))] [])) _
    refine XS.iload X2.here hx rfl (hb hby at_48) rfl ?_
    show Steps pP.tables eE below (T2.setTop (mkF mM 50 #[.val (.int p1), .val (.ref b2), .val (.int ((nar .byte p1.toInt8.toInt32) &&& (255 : Int32))), .val (.int ((nar .byte (p1 >>> ((8 : Int32) &&& 31)).toInt8.toInt32) &&& (255 : Int32))), .val (.int (((nar .byte p1.toInt8.toInt32) &&& (255 : Int32)) + ((256 : Int32) * ((nar .byte (p1 >>> ((8 : Int32) &&& 31)).toInt8.toInt32) &&& (255 : Int32))))), .val (.int (p1 &&& (65535 : Int32)))] [(.int (((nar .byte p1.toInt8.toInt32) &&& (255 : Int32)) + ((256 : Int32) * ((nar .byte (p1 >>> ((8 : Int32) &&& 31)).toInt8.toInt32) &&& (255 : Int32)))))])) _
    refine XS.iload X2.here hx rfl (hb hby at_50) rfl ?_
    show Steps pP.tables eE below (T2.setTop (mkF mM 52 #[.val (.int p1), .val (.ref b2), .val (.int ((nar .byte p1.toInt8.toInt32) &&& (255 : Int32))), .val (.int ((nar .byte (p1 >>> ((8 : Int32) &&& 31)).toInt8.toInt32) &&& (255 : Int32))), .val (.int (((nar .byte p1.toInt8.toInt32) &&& (255 : Int32)) + ((256 : Int32) * ((nar .byte (p1 >>> ((8 : Int32) &&& 31)).toInt8.toInt32) &&& (255 : Int32))))), .val (.int (p1 &&& (65535 : Int32)))] [(.int (p1 &&& (65535 : Int32))), (.int (((nar .byte p1.toInt8.toInt32) &&& (255 : Int32)) + ((256 : Int32) * ((nar .byte (p1 >>> ((8 : Int32) &&& 31)).toInt8.toInt32) &&& (255 : Int32)))))])) _
    refine XS.icmpNo X2.here hx rfl (hb hby at_52) rfl (teq (own_law p1)).2 ?_
    show Steps pP.tables eE below (T2.setTop (mkF mM 55 #[.val (.int p1), .val (.ref b2), .val (.int ((nar .byte p1.toInt8.toInt32) &&& (255 : Int32))), .val (.int ((nar .byte (p1 >>> ((8 : Int32) &&& 31)).toInt8.toInt32) &&& (255 : Int32))), .val (.int (((nar .byte p1.toInt8.toInt32) &&& (255 : Int32)) + ((256 : Int32) * ((nar .byte (p1 >>> ((8 : Int32) &&& 31)).toInt8.toInt32) &&& (255 : Int32))))), .val (.int (p1 &&& (65535 : Int32)))] [])) _
    refine XS.iconst X2.here hx rfl (hb hby at_55) ?_
    show Steps pP.tables eE below (T2.setTop (mkF mM 56 #[.val (.int p1), .val (.ref b2), .val (.int ((nar .byte p1.toInt8.toInt32) &&& (255 : Int32))), .val (.int ((nar .byte (p1 >>> ((8 : Int32) &&& 31)).toInt8.toInt32) &&& (255 : Int32))), .val (.int (((nar .byte p1.toInt8.toInt32) &&& (255 : Int32)) + ((256 : Int32) * ((nar .byte (p1 >>> ((8 : Int32) &&& 31)).toInt8.toInt32) &&& (255 : Int32))))), .val (.int (p1 &&& (65535 : Int32)))] [(.int (1 : Int32))])) _
    refine XS.goto X2.here hx rfl (pc0 := 56) (pc' := 60) rfl (hb hby at_56) (by decide) (by decide) ?_
    exact kg)
  obtain ⟨fs, hr, hrun, hended, hW, hsame⟩ := X2.leave (v := some (.int (1 : Int32))) (fun h => by rw [Bd.returns] at h; cases h)
  refine ⟨_, _, pr7 _ (retOut X2 hx (t := .boolean) Bd.returns rfl (Or.inl ⟨rfl, Or.inr (Or.inl rfl), _, rfl⟩) (hb hby at_60) hr), hrun, hended, _, _, rfl, ?_, ⟨_, rfl⟩, hW, hsame.mono (by decide) (by decide)⟩
  show Q0 Z p1 h0 n0 _ T2.heap _
  exact ⟨rfl, N2⟩
set_option maxRecDepth 65536 in
set_option maxHeartbeats 40000000 in
theorem comes_1 {Post : Tables → Env → Array Value → State → Outcome → State → Prop} (hpost : ∀ tb e args s v u, (limb_1_1.after args s (.returned v) u = true ∧ limb_1_2.after args s (.returned v) u = true ∧ True) → FrameEnd s (.returned v) u (Jvm.fieldLocs frame_1_writes args s ++ Jvm.arrayLocs frame_1_arrays args s ++ Jvm.staticLocs frame_1_statics s) 16 128 → Post tb e args s (.returned v) u) :
    ArmFor flags0 classFile x code maxLocals ret World_1 tables_1 room_1 Calls_1 rest_1 Pre_1 Post := by
  intro l hfl _ _ p e ha hc hk s m args below hf hA hF happ hP
  obtain ⟨hcalls, hrest, hpre⟩ := hP
  obtain ⟨-, -, -, hnamed, -, -, -, hat⟩ := (Spec.applies_iff hf).mp happ
  obtain ⟨hg, hn⟩ := and_e (Cond.before_iff.mp (show (Jvm.Cond.and given_1 narrow_1).before args s = true from hpre))
  obtain ⟨n1, n2⟩ := and_e hg
  obtain ⟨w0, rfl⟩ : ∃ w0 : Value, args = #[w0] := by
    have hs : args.size = 1 := by simpa [Cond.value, given_1] using n1
    obtain ⟨L⟩ := args
    match L, hs with
    | [w0], _ => exact ⟨w0, rfl⟩
  have hw := fun d (hd : d ∈ tables_1) => atoms_spec (ws := Jvm.Cond.code x code maxLocals ret :: tables_1) hat d (List.mem_cons_of_mem _ hd)
  have hfit : Fit s := fun {y c} hc i hi => by
    obtain ⟨ha, rfl⟩ := Array.getElem?_eq_some_iff.mp hc
    have q := List.all_eq_true.mp ((Array.all_eq_true_iff_forall_mem.mp hF) _ (Array.getElem_mem ha)) i (List.mem_range.mpr hi)
    simpa [Array.getElem?_eq_getElem hi] using q
  obtain ⟨i0, ei0⟩ := is_v n2
  obtain rfl : w0 = (.int i0) := Option.some.inj ei0
  obtain ⟨n, o, h1, h2, h3, _, L, rfl, ⟨rfl, N⟩, hq⟩ := rm0 l s _ hw tables_1 i0 s.heap s.heap.size (Nat.le_refl _)  p e ha hc hk s m _ below hf ((Spec.applies_iff_loose hf).mp happ).1 ⟨rfl, State.Warmed39.refl s, rfl⟩ trivial
  refine ⟨n, _, h1, h2, h3, hpost _ _ _ _ _ _ ⟨Cond.after_iff.mpr rfl, Cond.after_iff.mpr (eq_i res_at (Term.int_eval (1)) rfl), trivial⟩ ⟨hq.1, hq.2.1, (hq.2.2.sift fun y hy => Or.inr (N y hy)).mono (by decide) (by decide)⟩⟩
theorem main_1_1 : Claimed_1_1 := comes_1 fun _ _ _ _ _ _ h hF => ⟨h.1, hF⟩
theorem main_1_2 : Claimed_1_2 := comes_1 fun _ _ _ _ _ _ h hF => ⟨h.2.1, hF⟩
end Jvm.Pilot.@@N@@
namespace Jvm.Pilot.@@N@@
open Jvm Jvm.ClassFile Sem Op Lib Jvm.Free Jvm.Stand Jvm.Pilot.@@N@@.Jvm.D
/-! MADE BY PROGRAM (witnessworld.py) out of the Statement's table words and the real class files: 12 classes; the members and pool entries that the words name. The judged class is class 1, her method 1. -/
namespace start1
open Jvm.ClassFile
def u (s : String) : CpInfo := .utf8 (stringToUtf16 s)
/-- a pool by its gaps: so many unusable entries, then the entry; so many at the end -/
def gap : Nat → List CpInfo → List CpInfo
  | 0, r => r
  | n + 1, r => .unusable :: gap n r
def poolList (es : List (Nat × CpInfo)) (last : Nat) : List CpInfo := es.foldr (fun e r => gap e.1 (e.2 :: r)) (gap last [])
def pool (es : List (Nat × CpInfo)) (last : Nat) : Array CpInfo := ⟨poolList es last⟩
def fileOf (pool : Array CpInfo) (this : Nat) (attrs : Array Attribute := #[]) (ms : Array MethodInfo := #[]) (fl : Nat := 33) (sup : Nat := 0) (ifs : Array Nat := #[]) (fds : Array FieldInfo := #[]) : ClassFile where
  minorVersion := 0
  majorVersion := 65
  constantPool := pool
  accessFlags := fl
  thisClass := this
  superClass := sup
  interfaces := ifs
  fields := fds
  methods := ms
  attributes := attrs
def plain (name : String) (sup : Option ClassId) : Class where
  name := name
  kind := .ordinary
  loader := none
  accessFlags := 33
  super := sup
  interfaces := #[]
  cf := none
  fields := #[]
  methods := #[]
  instanceTypes := #[]
  staticTypes := #[]
  resolved := #[]
  callSites := []
  init := .initialized
  statics := none
  mirror := none

def pool0 : Array CpInfo := pool [(5, u "<init>"), (0, u "()V"), (1, .class_ 10), (1, u "java/lang/Object")] 113

def k0m0 : Method := { name := "<init>", desc := "()V", sig := { parameters := [], returnType := none }, accessFlags := 1, code := none }
/-- java/lang/Object -/
def k0 : Class := { plain "java/lang/Object" none with
  accessFlags := 33
  interfaces := #[]
  cf := some (fileOf pool0 8 #[] #[{ accessFlags := 1, nameIndex := 5, descriptorIndex := 6, attributes := #[] }] 33 0 #[] #[])
  fields := #[]
  methods := #[k0m0]
  instanceTypes := #[]
  staticTypes := #[]
  resolved := Array.replicate 124 none
  statics := none }

def pool1 : Array CpInfo := pool [(2, .class_ 4), (1, u "java/lang/Object"), (0, u "<init>"), (0, u "()V"), (0, .methodref 8 9), (0, .class_ 10), (0, .nameAndType 11 12), (0, u "com/example/tesserae/tesserae/value/Vr"), (0, u "unsignedShort"), (0, u "(I)[B"), (0, .integer 65535), (0, .class_ 15), (0, u "com/example/tesserae/tesserae/value/VrUnsignedShortPinLaw"), (2, u "law"), (0, u "(I)Z")] 5

def k1m0 : Method := { name := "<init>", desc := "()V", sig := { parameters := [], returnType := none }, accessFlags := 1, code := none }
def k1c1 : Code := { maxStack := 3, maxLocals := 6, code := code, exceptionTable := #[], attributes := #[] }
def k1m1 : Method := { name := "law", desc := "(I)Z", sig := { parameters := [.int], returnType := some .boolean }, accessFlags := 9, code := some k1c1 }
/-- com/example/tesserae/tesserae/value/VrUnsignedShortPinLaw -/
def k1 : Class := { plain "com/example/tesserae/tesserae/value/VrUnsignedShortPinLaw" (some 0) with
  accessFlags := 49
  interfaces := #[]
  cf := some (fileOf pool1 14 #[] #[{ accessFlags := 1, nameIndex := 5, descriptorIndex := 6, attributes := #[] }, { accessFlags := 9, nameIndex := 18, descriptorIndex := 19, attributes := #[] }] 49 2 #[] #[])
  fields := #[]
  methods := #[k1m0, k1m1]
  instanceTypes := #[]
  staticTypes := #[]
  resolved := Array.replicate 25 none
  statics := none }

def pool2 : Array CpInfo := pool [(1, .class_ 2), (0, u "java/lang/constant/Constable"), (0, .class_ 4), (0, u "java/lang/Object")] 6

/-- java/lang/constant/Constable -/
def k2 : Class := { plain "java/lang/constant/Constable" (some 0) with
  accessFlags := 1537
  interfaces := #[]
  cf := some (fileOf pool2 1 #[] #[] 1537 3 #[] #[])
  fields := #[]
  methods := #[]
  instanceTypes := #[]
  staticTypes := #[]
  resolved := Array.replicate 11 none
  statics := none }

def pool3 : Array CpInfo := pool [(1, .class_ 2), (0, u "java/lang/Comparable"), (0, .class_ 4), (0, u "java/lang/Object")] 7

/-- java/lang/Comparable -/
def k3 : Class := { plain "java/lang/Comparable" (some 0) with
  accessFlags := 1537
  interfaces := #[]
  cf := some (fileOf pool3 1 #[] #[] 1537 3 #[] #[])
  fields := #[]
  methods := #[]
  instanceTypes := #[]
  staticTypes := #[]
  resolved := Array.replicate 12 none
  statics := none }

def pool4 : Array CpInfo := pool [(1, .class_ 2), (0, u "java/io/Serializable"), (0, .class_ 4), (0, u "java/lang/Object")] 2

/-- java/io/Serializable -/
def k4 : Class := { plain "java/io/Serializable" (some 0) with
  accessFlags := 1537
  interfaces := #[]
  cf := some (fileOf pool4 1 #[] #[] 1537 3 #[] #[])
  fields := #[]
  methods := #[]
  instanceTypes := #[]
  staticTypes := #[]
  resolved := Array.replicate 7 none
  statics := none }

def pool5 : Array CpInfo := pool [(2, .class_ 4), (1, u "java/lang/Enum"), (0, u "name"), (0, u "Ljava/lang/String;"), (2, u "ordinal"), (0, u "I"), (1, .class_ 14), (1, u "java/lang/Object"), (4, u "hash"), (86, .class_ 108), (1, u "java/lang/Enum$EnumDesc"), (2, .class_ 112), (0, u "java/lang/constant/Constable"), (0, .class_ 114), (0, u "java/lang/Comparable"), (0, .class_ 116), (0, u "java/io/Serializable")] 87

/-- java/lang/Enum -/
def k5 : Class := { plain "java/lang/Enum" (some 0) with
  accessFlags := 1057
  interfaces := #[2, 3, 4]
  cf := some (fileOf pool5 2 #[.nestMembers #[106]] #[] 1057 12 #[111, 113, 115] #[{ accessFlags := 18, nameIndex := 5, descriptorIndex := 6, attributes := #[] }, { accessFlags := 18, nameIndex := 9, descriptorIndex := 10, attributes := #[] }, { accessFlags := 2, nameIndex := 19, descriptorIndex := 10, attributes := #[] }])
  fields := #[{ name := "name", type := (.object "java/lang/String"), accessFlags := 18, slot := 0, constantValue := 0 }, { name := "ordinal", type := .int, accessFlags := 18, slot := 1, constantValue := 0 }, { name := "hash", type := .int, accessFlags := 2, slot := 2, constantValue := 0 }]
  methods := #[]
  instanceTypes := #[(.object "java/lang/String"), .int, .int]
  staticTypes := #[]
  resolved := Array.replicate 204 none
  statics := none }

def pool6 : Array CpInfo := pool [(1, .class_ 2), (0, u "com/example/tesserae/tesserae/value/Vr"), (2, u "AE"), (0, u "Lcom/example/tesserae/tesserae/value/Vr;"), (2, u "AS"), (2, u "AT"), (2, u "CS"), (2, u "DA"), (2, u "DS"), (2, u "DT"), (2, u "FD"), (2, u "FL"), (2, u "IS"), (2, u "LO"), (2, u "LT"), (2, u "OB"), (2, u "OD"), (2, u "OF"), (2, u "OL"), (2, u "OV"), (2, u "OW"), (2, u "PN"), (2, u "SH"), (2, u "SL"), (2, u "SQ"), (2, u "SS"), (2, u "ST"), (2, u "SV"), (2, u "TM"), (2, u "UC"), (2, u "UI"), (2, u "UL"), (2, u "UN"), (2, u "UR"), (2, u "US"), (2, u "UT"), (2, u "UV"), (2, u "$VALUES"), (0, u "[Lcom/example/tesserae/tesserae/value/Vr;"), (6, .class_ 118), (1, u "java/lang/Enum"), (8, u "text"), (0, u "Z"), (2, u "longLength"), (2, u "maxLength"), (0, u "I"), (48, u "WORDS"), (0, u "Ljava/util/Set;"), (92, u "DELIMITER_STAND_IN"), (0, u "C"), (18, u "unsignedShort"), (0, u "(I)[B")] 8

def k6c0 : Code := { maxStack := 5, maxLocals := 1, code := prog_24_method_14_code, exceptionTable := #[], attributes := #[] }
def k6m0 : Method := { name := "unsignedShort", desc := "(I)[B", sig := { parameters := [.int], returnType := some (.array .byte) }, accessFlags := 9, code := some k6c0 }
/-- com/example/tesserae/tesserae/value/Vr -/
def k6 : Class := { plain "com/example/tesserae/tesserae/value/Vr" (some 5) with
  accessFlags := 16433
  interfaces := #[]
  cf := some (fileOf pool6 1 #[] #[{ accessFlags := 9, nameIndex := 298, descriptorIndex := 299, attributes := #[] }] 16433 116 #[] #[{ accessFlags := 16409, nameIndex := 5, descriptorIndex := 6, attributes := #[] }, { accessFlags := 16409, nameIndex := 9, descriptorIndex := 6, attributes := #[] }, { accessFlags := 16409, nameIndex := 12, descriptorIndex := 6, attributes := #[] }, { accessFlags := 16409, nameIndex := 15, descriptorIndex := 6, attributes := #[] }, { accessFlags := 16409, nameIndex := 18, descriptorIndex := 6, attributes := #[] }, { accessFlags := 16409, nameIndex := 21, descriptorIndex := 6, attributes := #[] }, { accessFlags := 16409, nameIndex := 24, descriptorIndex := 6, attributes := #[] }, { accessFlags := 16409, nameIndex := 27, descriptorIndex := 6, attributes := #[] }, { accessFlags := 16409, nameIndex := 30, descriptorIndex := 6, attributes := #[] }, { accessFlags := 16409, nameIndex := 33, descriptorIndex := 6, attributes := #[] }, { accessFlags := 16409, nameIndex := 36, descriptorIndex := 6, attributes := #[] }, { accessFlags := 16409, nameIndex := 39, descriptorIndex := 6, attributes := #[] }, { accessFlags := 16409, nameIndex := 42, descriptorIndex := 6, attributes := #[] }, { accessFlags := 16409, nameIndex := 45, descriptorIndex := 6, attributes := #[] }, { accessFlags := 16409, nameIndex := 48, descriptorIndex := 6, attributes := #[] }, { accessFlags := 16409, nameIndex := 51, descriptorIndex := 6, attributes := #[] }, { accessFlags := 16409, nameIndex := 54, descriptorIndex := 6, attributes := #[] }, { accessFlags := 16409, nameIndex := 57, descriptorIndex := 6, attributes := #[] }, { accessFlags := 16409, nameIndex := 60, descriptorIndex := 6, attributes := #[] }, { accessFlags := 16409, nameIndex := 63, descriptorIndex := 6, attributes := #[] }, { accessFlags := 16409, nameIndex := 66, descriptorIndex := 6, attributes := #[] }, { accessFlags := 16409, nameIndex := 69, descriptorIndex := 6, attributes := #[] }, { accessFlags := 16409, nameIndex := 72, descriptorIndex := 6, attributes := #[] }, { accessFlags := 16409, nameIndex := 75, descriptorIndex := 6, attributes := #[] }, { accessFlags := 16409, nameIndex := 78, descriptorIndex := 6, attributes := #[] }, { accessFlags := 16409, nameIndex := 81, descriptorIndex := 6, attributes := #[] }, { accessFlags := 16409, nameIndex := 84, descriptorIndex := 6, attributes := #[] }, { accessFlags := 16409, nameIndex := 87, descriptorIndex := 6, attributes := #[] }, { accessFlags := 16409, nameIndex := 90, descriptorIndex := 6, attributes := #[] }, { accessFlags := 16409, nameIndex := 93, descriptorIndex := 6, attributes := #[] }, { accessFlags := 16409, nameIndex := 96, descriptorIndex := 6, attributes := #[] }, { accessFlags := 16409, nameIndex := 99, descriptorIndex := 6, attributes := #[] }, { accessFlags := 16409, nameIndex := 102, descriptorIndex := 6, attributes := #[] }, { accessFlags := 16409, nameIndex := 105, descriptorIndex := 6, attributes := #[] }, { accessFlags := 26, nameIndex := 184, descriptorIndex := 185, attributes := #[] }, { accessFlags := 26, nameIndex := 278, descriptorIndex := 279, attributes := #[] }, { accessFlags := 18, nameIndex := 127, descriptorIndex := 128, attributes := #[] }, { accessFlags := 18, nameIndex := 131, descriptorIndex := 128, attributes := #[] }, { accessFlags := 18, nameIndex := 134, descriptorIndex := 135, attributes := #[] }, { accessFlags := 4122, nameIndex := 108, descriptorIndex := 109, attributes := #[] }])
  fields := #[{ name := "AE", type := (.object "com/example/tesserae/tesserae/value/Vr"), accessFlags := 16409, slot := 0, constantValue := 0 }, { name := "AS", type := (.object "com/example/tesserae/tesserae/value/Vr"), accessFlags := 16409, slot := 1, constantValue := 0 }, { name := "AT", type := (.object "com/example/tesserae/tesserae/value/Vr"), accessFlags := 16409, slot := 2, constantValue := 0 }, { name := "CS", type := (.object "com/example/tesserae/tesserae/value/Vr"), accessFlags := 16409, slot := 3, constantValue := 0 }, { name := "DA", type := (.object "com/example/tesserae/tesserae/value/Vr"), accessFlags := 16409, slot := 4, constantValue := 0 }, { name := "DS", type := (.object "com/example/tesserae/tesserae/value/Vr"), accessFlags := 16409, slot := 5, constantValue := 0 }, { name := "DT", type := (.object "com/example/tesserae/tesserae/value/Vr"), accessFlags := 16409, slot := 6, constantValue := 0 }, { name := "FD", type := (.object "com/example/tesserae/tesserae/value/Vr"), accessFlags := 16409, slot := 7, constantValue := 0 }, { name := "FL", type := (.object "com/example/tesserae/tesserae/value/Vr"), accessFlags := 16409, slot := 8, constantValue := 0 }, { name := "IS", type := (.object "com/example/tesserae/tesserae/value/Vr"), accessFlags := 16409, slot := 9, constantValue := 0 }, { name := "LO", type := (.object "com/example/tesserae/tesserae/value/Vr"), accessFlags := 16409, slot := 10, constantValue := 0 }, { name := "LT", type := (.object "com/example/tesserae/tesserae/value/Vr"), accessFlags := 16409, slot := 11, constantValue := 0 }, { name := "OB", type := (.object "com/example/tesserae/tesserae/value/Vr"), accessFlags := 16409, slot := 12, constantValue := 0 }, { name := "OD", type := (.object "com/example/tesserae/tesserae/value/Vr"), accessFlags := 16409, slot := 13, constantValue := 0 }, { name := "OF", type := (.object "com/example/tesserae/tesserae/value/Vr"), accessFlags := 16409, slot := 14, constantValue := 0 }, { name := "OL", type := (.object "com/example/tesserae/tesserae/value/Vr"), accessFlags := 16409, slot := 15, constantValue := 0 }, { name := "OV", type := (.object "com/example/tesserae/tesserae/value/Vr"), accessFlags := 16409, slot := 16, constantValue := 0 }, { name := "OW", type := (.object "com/example/tesserae/tesserae/value/Vr"), accessFlags := 16409, slot := 17, constantValue := 0 }, { name := "PN", type := (.object "com/example/tesserae/tesserae/value/Vr"), accessFlags := 16409, slot := 18, constantValue := 0 }, { name := "SH", type := (.object "com/example/tesserae/tesserae/value/Vr"), accessFlags := 16409, slot := 19, constantValue := 0 }, { name := "SL", type := (.object "com/example/tesserae/tesserae/value/Vr"), accessFlags := 16409, slot := 20, constantValue := 0 }, { name := "SQ", type := (.object "com/example/tesserae/tesserae/value/Vr"), accessFlags := 16409, slot := 21, constantValue := 0 }, { name := "SS", type := (.object "com/example/tesserae/tesserae/value/Vr"), accessFlags := 16409, slot := 22, constantValue := 0 }, { name := "ST", type := (.object "com/example/tesserae/tesserae/value/Vr"), accessFlags := 16409, slot := 23, constantValue := 0 }, { name := "SV", type := (.object "com/example/tesserae/tesserae/value/Vr"), accessFlags := 16409, slot := 24, constantValue := 0 }, { name := "TM", type := (.object "com/example/tesserae/tesserae/value/Vr"), accessFlags := 16409, slot := 25, constantValue := 0 }, { name := "UC", type := (.object "com/example/tesserae/tesserae/value/Vr"), accessFlags := 16409, slot := 26, constantValue := 0 }, { name := "UI", type := (.object "com/example/tesserae/tesserae/value/Vr"), accessFlags := 16409, slot := 27, constantValue := 0 }, { name := "UL", type := (.object "com/example/tesserae/tesserae/value/Vr"), accessFlags := 16409, slot := 28, constantValue := 0 }, { name := "UN", type := (.object "com/example/tesserae/tesserae/value/Vr"), accessFlags := 16409, slot := 29, constantValue := 0 }, { name := "UR", type := (.object "com/example/tesserae/tesserae/value/Vr"), accessFlags := 16409, slot := 30, constantValue := 0 }, { name := "US", type := (.object "com/example/tesserae/tesserae/value/Vr"), accessFlags := 16409, slot := 31, constantValue := 0 }, { name := "UT", type := (.object "com/example/tesserae/tesserae/value/Vr"), accessFlags := 16409, slot := 32, constantValue := 0 }, { name := "UV", type := (.object "com/example/tesserae/tesserae/value/Vr"), accessFlags := 16409, slot := 33, constantValue := 0 }, { name := "WORDS", type := (.object "java/util/Set"), accessFlags := 26, slot := 34, constantValue := 0 }, { name := "DELIMITER_STAND_IN", type := .char, accessFlags := 26, slot := 35, constantValue := 0 }, { name := "text", type := .boolean, accessFlags := 18, slot := 3, constantValue := 0 }, { name := "longLength", type := .boolean, accessFlags := 18, slot := 4, constantValue := 0 }, { name := "maxLength", type := .int, accessFlags := 18, slot := 5, constantValue := 0 }, { name := "$VALUES", type := (.array (.object "com/example/tesserae/tesserae/value/Vr")), accessFlags := 4122, slot := 36, constantValue := 0 }]
  methods := #[k6m0]
  instanceTypes := #[(.object "java/lang/String"), .int, .int, .boolean, .boolean, .int]
  staticTypes := #[(.object "com/example/tesserae/tesserae/value/Vr"), (.object "com/example/tesserae/tesserae/value/Vr"), (.object "com/example/tesserae/tesserae/value/Vr"), (.object "com/example/tesserae/tesserae/value/Vr"), (.object "com/example/tesserae/tesserae/value/Vr"), (.object "com/example/tesserae/tesserae/value/Vr"), (.object "com/example/tesserae/tesserae/value/Vr"), (.object "com/example/tesserae/tesserae/value/Vr"), (.object "com/example/tesserae/tesserae/value/Vr"), (.object "com/example/tesserae/tesserae/value/Vr"), (.object "com/example/tesserae/tesserae/value/Vr"), (.object "com/example/tesserae/tesserae/value/Vr"), (.object "com/example/tesserae/tesserae/value/Vr"), (.object "com/example/tesserae/tesserae/value/Vr"), (.object "com/example/tesserae/tesserae/value/Vr"), (.object "com/example/tesserae/tesserae/value/Vr"), (.object "com/example/tesserae/tesserae/value/Vr"), (.object "com/example/tesserae/tesserae/value/Vr"), (.object "com/example/tesserae/tesserae/value/Vr"), (.object "com/example/tesserae/tesserae/value/Vr"), (.object "com/example/tesserae/tesserae/value/Vr"), (.object "com/example/tesserae/tesserae/value/Vr"), (.object "com/example/tesserae/tesserae/value/Vr"), (.object "com/example/tesserae/tesserae/value/Vr"), (.object "com/example/tesserae/tesserae/value/Vr"), (.object "com/example/tesserae/tesserae/value/Vr"), (.object "com/example/tesserae/tesserae/value/Vr"), (.object "com/example/tesserae/tesserae/value/Vr"), (.object "com/example/tesserae/tesserae/value/Vr"), (.object "com/example/tesserae/tesserae/value/Vr"), (.object "com/example/tesserae/tesserae/value/Vr"), (.object "com/example/tesserae/tesserae/value/Vr"), (.object "com/example/tesserae/tesserae/value/Vr"), (.object "com/example/tesserae/tesserae/value/Vr"), (.object "java/util/Set"), .char, (.array (.object "com/example/tesserae/tesserae/value/Vr"))]
  resolved := Array.replicate 308 none
  statics := none }

def pool7 : Array CpInfo := pool [(1, u "java/lang/Cloneable"), (0, .class_ 1), (0, u "java/lang/Object"), (0, .class_ 3)] 3

/-- java/lang/Cloneable -/
def k7 : Class := { plain "java/lang/Cloneable" (some 0) with
  accessFlags := 1537
  interfaces := #[]
  cf := some (fileOf pool7 2 #[] #[] 1537 4 #[] #[])
  fields := #[]
  methods := #[]
  instanceTypes := #[]
  staticTypes := #[]
  resolved := Array.replicate 8 none
  statics := none }

/-- the primitive byte -/
def k8 : Class := { plain "byte" none with kind := .primitive 'B', accessFlags := 0x411 }
/-- [B -/
def k9 : Class := { plain "[B" (some 0) with kind := .array 8 .byte, interfaces := #[7, 4], accessFlags := 1041 }

/-- the primitive int -/
def k10 : Class := { plain "int" none with kind := .primitive 'I', accessFlags := 0x411 }
/-- [I -/
def k11 : Class := { plain "[I" (some 0) with kind := .array 10 .int, interfaces := #[7, 4], accessFlags := 1041 }

def heap : Heap := #[]
def classes : Array Class := #[k0, k1, k2, k3, k4, k5, k6, k7, k8, k9, k10, k11]
def interned : List (Array UInt16 × Addr) := []
def slotsUsed : Nat := 0
def theMethod : MethodId := ⟨1, 1⟩
def args0 : Array Value := #[.int 300]
def aboutOver (below : List Frame) : State where
  vm := { classes := classes, interned := interned.toArray }
  heap := heap
  slotsUsed := slotsUsed
  threads := #[{ frames := .invoking theMethod args0 :: below }]
def below0 : List Frame := [.native { method := ⟨0, 0⟩, args := #[] }]
def about1 : State := aboutOver below0
def p0 : Program := .bare "" "" ""
def e0 : Env := launch0.env 0 0 0
theorem w_frames : about1.frames = Frame.invoking theMethod args0 :: below0 := rfl
set_option maxRecDepth 65536 in
theorem w_args : argsFit about1.vm theMethod args0 = true := by decide +kernel
set_option maxRecDepth 65536 in
theorem w_heap : heapFits about1 = true := by decide +kernel
set_option maxRecDepth 65536 in
theorem w_runnable : about1.curStatus? = some .runnable := by decide +kernel
set_option maxRecDepth 65536 in
theorem w_alone : about1.alone = true := by decide +kernel
set_option maxRecDepth 65536 in
theorem w_named : about1.methodNamed? x = some theMethod := by decide +kernel
set_option maxRecDepth 65536 in
theorem w_hears : about1.hears theMethod below0 = true := by decide +kernel
set_option maxRecDepth 65536 in
theorem w_ripe : about1.ripe theMethod args0 below0 = true := by decide +kernel
theorem w_running : about1.status = .running := rfl
set_option maxRecDepth 65536 in
theorem w_room : about1.hasRoom e0.platform room_1 = true :=
  launch0.hasRoom_least _ room_1 (by decide +kernel) (by decide +kernel) (by decide +kernel) (by decide +kernel) (by decide +kernel) (by decide +kernel)
theorem allAtoms_all (ts : List Jvm.Cond) (a : Array Jvm.Value) (st : Jvm.State) : (allAtoms ts).before a st = ts.all (fun c => c.before a st) := by
  induction ts with
  | nil => rfl
  | cons c t ih =>
    show (Jvm.Cond.and c (allAtoms t)).before a st = _
    rw [Jvm.Cond.before_and, ih, List.all_cons]
def words1 : List Jvm.Cond := Jvm.Cond.code x code maxLocals ret :: tables_1
/-- a 'code' word, met by the world's own term for the bytes: nothing is compared byte by byte -/
theorem code_word {y : MethodName} {bytes : ByteArray} {mx : Nat} {rt : Option FieldType} {a : Array Value} {s : State} {m : MethodId} {meth : Method} {c : Code} (h1 : s.methodNamed? y = some m) (h2 : s.vm.method? m = some meth) (h3 : meth.code = some c) (h4 : c.code = bytes)
    (h5 : (c.maxLocals == mx && c.exceptionTable.isEmpty && decide (c.maxStack ≤ mostOperands) && decide (meth.sig.returnType = rt) && !meth.locks && decide (parseMethodDescriptor y.desc = some meth.sig)) = true) : (Jvm.Cond.code y bytes mx rt).before a s = true := by
  simp only [Bool.and_eq_true, beq_iff_eq, Bool.not_eq_true', decide_eq_true_eq] at h5
  obtain ⟨⟨⟨⟨⟨g1, g2⟩, g3⟩, g4⟩, g5⟩, g6⟩ := h5
  simp [Cond.before, Cond.holds, Cond.value, h1, h2, h3, h4, g1, g2, g3, g4, g5, g6]
def isCode : Jvm.Cond → Bool
  | .code _ _ _ _ => true
  | _ => false
theorem all_split {L : List Jvm.Cond} {P : Jvm.Cond → Bool} (h1 : L.all (fun c => isCode c || P c) = true) (h2 : ∀ c ∈ L.filter isCode, P c = true) : L.all P = true := by
  refine List.all_eq_true.mpr fun c hc => ?_
  have h := List.all_eq_true.mp h1 c hc
  rcases Bool.eq_false_or_eq_true (isCode c) with hi | hi
  · exact h2 c (List.mem_filter.mpr ⟨hc, hi⟩)
  · simpa [hi] using h
set_option maxRecDepth 65536 in
theorem w_c0 : (Jvm.Cond.code x code maxLocals ret).before args0 about1 = true := code_word (m := ⟨1, 1⟩) (meth := k1m1) (c := k1c1) (by decide +kernel) rfl rfl rfl (by decide +kernel)
set_option maxRecDepth 65536 in
theorem w_c1 : (Jvm.Cond.code ({ cls := "com/example/tesserae/tesserae/value/Vr", name := "unsignedShort", desc := "(I)[B" } : Jvm.MethodName) prog_24_method_14_code (1 : Nat) (Option.some (Jvm.ClassFile.FieldType.array Jvm.ClassFile.FieldType.byte))).before args0 about1 = true := code_word (m := ⟨6, 0⟩) (meth := k6m0) (c := k6c0) (by decide +kernel) rfl rfl rfl (by decide +kernel)
def codes1 : List Jvm.Cond := [Jvm.Cond.code x code maxLocals ret, Jvm.Cond.code ({ cls := "com/example/tesserae/tesserae/value/Vr", name := "unsignedShort", desc := "(I)[B" } : Jvm.MethodName) prog_24_method_14_code (1 : Nat) (Option.some (Jvm.ClassFile.FieldType.array Jvm.ClassFile.FieldType.byte))]
set_option maxRecDepth 65536 in
theorem codes_eq : words1.filter isCode = codes1 := rfl
theorem w_codes : ∀ c ∈ words1.filter isCode, c.before args0 about1 = true := by
  rw [codes_eq]
  intro c hc
  simp only [codes1, List.mem_cons, List.not_mem_nil, or_false] at hc
  rcases hc with rfl | rfl
  · exact w_c0
  · exact w_c1
set_option maxRecDepth 65536 in
theorem w_t1 : words1.all (fun c => isCode c || c.before args0 about1) = true := by decide +kernel
theorem w_tables : (allAtoms (Jvm.Cond.code x code maxLocals ret :: tables_1)).before args0 about1 = true := by
  rw [allAtoms_all]
  show words1.all (fun c => c.before args0 about1) = true
  refine all_split ?_ w_codes
  rw [w_t1]
set_option maxRecDepth 65536 in
theorem w_case : (Jvm.Cond.and given_1 narrow_1).before args0 about1 = true := by decide +kernel
theorem w_applies : (headSpec (Jvm.Cond.code x code maxLocals ret :: tables_1) room_1).applies x e0.platform about1 = true :=
  (Spec.applies_iff w_frames).mpr ⟨w_running, w_runnable, w_alone, w_named, w_hears, w_ripe, w_room, w_tables⟩
theorem atStart : AtStart classFile x code maxLocals ret World_1 tables_1 room_1 Calls_1 rest_1 Pre_1 launch0 p0 e0 about1 theMethod args0 below0 :=
  ⟨lists_1, trivial, launch0.admits_env _ _ _, launch0.least_env, fairChoices_fair.cas, fairChoices_fair.clock, w_frames, w_args, w_heap, w_applies, trivial, trivial, w_case⟩
end start1
theorem witness_1 : WitnessClaimed_1 := ⟨start1.p0, start1.e0, start1.about1, start1.theMethod, start1.args0, start1.below0, start1.atStart⟩
end Jvm.Pilot.@@N@@
