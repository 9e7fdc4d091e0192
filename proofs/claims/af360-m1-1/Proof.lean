import JvmDerived
import JvmDerived.Pilot.@@N@@Statement
import JvmDerived.Pilot.@@N@@Code
set_option linter.unusedVariables false
set_option linter.unusedSimpArgs false
@@BLOCK:NumsL.lean.txt@@
namespace Jvm.Pilot.@@N@@
open Jvm Jvm.ClassFile Sem Op Lib Jvm.Free Jvm.Stand Jvm.LawKit Jvm.RoadKit Bundle Jvm.Pilot.@@N@@.Jvm.D
theorem d10_0 : decode method_2_code 0 = .ok (.iload_n 0, 1) := by decide +kernel
theorem d10_1 : decode method_2_code 1 = .ok (.ifCond .ne 7, 3) := by decide +kernel
theorem d10_4 : decode method_2_code 4 = .ok (.getstatic 7, 3) := by decide +kernel
theorem d10_7 : decode method_2_code 7 = .ok (.areturn, 1) := by decide +kernel
theorem pn_0 : plainName "com/example/thawline/thawline/stun/StunClassIsResponsePinLaw" = true := by first | (simp [plainName, overriddenIn]; done) | decide +kernel
theorem ef_10 (mM : MethodId) (x0 : Int32) : entryFrame mM #[(.int x0)] 1 = mkF mM 0 #[.val (.int x0)] [] := by first | (simp [entryFrame, mkF, argsToLocals, Value.category]; done) | rfl
def Q10 (Z : State) (a_REQUEST : Addr) (a_INDICATION : Addr) (a_SUCCESS_RESPONSE : Addr) (a_ERROR_RESPONSE : Addr) (h0 : Heap) (n0 : Nat) (v : Option Value) (h : Heap) (L : List Loc) : Prop := v = some (.ref a_REQUEST) ∧ Fr n0 L ∧ h = h0
set_option maxRecDepth 65536 in
set_option maxHeartbeats 40000000 in
theorem rm10 (l : Launch) (Z : State) (a0 : Array Value) (hw : ∀ d ∈ tables_1, d.before a0 Z = true) (ws : List Jvm.Cond) (a_REQUEST : Addr) (a_INDICATION : Addr) (a_SUCCESS_RESPONSE : Addr) (a_ERROR_RESPONSE : Addr) (h0 : Heap) (n0 : Nat) (Z0 : n0 ≤ h0.size) (O : Old Z n0 h0) (S_REQUEST : Sta Z Z.heap "com/example/thawline/thawline/stun/StunClass" "REQUEST" "Lcom/example/thawline/thawline/stun/StunClass;" (.ref a_REQUEST)) (E_REQUEST : Exa Z Z.heap a_REQUEST "com/example/thawline/thawline/stun/StunClass") (S_INDICATION : Sta Z Z.heap "com/example/thawline/thawline/stun/StunClass" "INDICATION" "Lcom/example/thawline/thawline/stun/StunClass;" (.ref a_INDICATION)) (E_INDICATION : Exa Z Z.heap a_INDICATION "com/example/thawline/thawline/stun/StunClass") (S_SUCCESS_RESPONSE : Sta Z Z.heap "com/example/thawline/thawline/stun/StunClass" "SUCCESS_RESPONSE" "Lcom/example/thawline/thawline/stun/StunClass;" (.ref a_SUCCESS_RESPONSE)) (E_SUCCESS_RESPONSE : Exa Z Z.heap a_SUCCESS_RESPONSE "com/example/thawline/thawline/stun/StunClass") (S_ERROR_RESPONSE : Sta Z Z.heap "com/example/thawline/thawline/stun/StunClass" "ERROR_RESPONSE" "Lcom/example/thawline/thawline/stun/StunClass;" (.ref a_ERROR_RESPONSE)) (E_ERROR_RESPONSE : Exa Z Z.heap a_ERROR_RESPONSE "com/example/thawline/thawline/stun/StunClass") (F_REQUEST_ordinal : Fld Z Z.heap a_REQUEST "java/lang/Enum" "ordinal" "I" (.int (0 : Int32))) (F_SUCCESS_RESPONSE_ordinal : Fld Z Z.heap a_SUCCESS_RESPONSE "java/lang/Enum" "ordinal" "I" (.int (2 : Int32))) (F_ERROR_RESPONSE_ordinal : Fld Z Z.heap a_ERROR_RESPONSE "java/lang/Enum" "ordinal" "I" (.int (3 : Int32))) (F_REQUEST_bits : Fld Z Z.heap a_REQUEST "com/example/thawline/thawline/stun/StunClass" "bits" "I" (.int (0 : Int32))) (F_ERROR_RESPONSE_bits : Fld Z Z.heap a_ERROR_RESPONSE "com/example/thawline/thawline/stun/StunClass" "bits" "I" (.int (3 : Int32))) (F_SUCCESS_RESPONSE_bits : Fld Z Z.heap a_SUCCESS_RESPONSE "com/example/thawline/thawline/stun/StunClass" "bits" "I" (.int (2 : Int32))) (F_INDICATION_ordinal : Fld Z Z.heap a_INDICATION "java/lang/Enum" "ordinal" "I" (.int (1 : Int32))) (F_INDICATION_bits : Fld Z Z.heap a_INDICATION "com/example/thawline/thawline/stun/StunClass" "bits" "I" (.int (1 : Int32))) :
    MetFree l (⟨"com/example/thawline/thawline/stun/StunClassIsResponsePinLaw", "pick", "(I)Lcom/example/thawline/thawline/stun/StunClass;"⟩ : MethodName) (head1 (Jvm.Cond.code (⟨"com/example/thawline/thawline/stun/StunClassIsResponsePinLaw", "pick", "(I)Lcom/example/thawline/thawline/stun/StunClass;"⟩ : MethodName) method_2_code 1 (some (.object "com/example/thawline/thawline/stun/StunClass")) :: ws) ({ frames := 0, cells := 0, slots := 0, locals := 0 } : Room)) (fun aA uU => aA = #[(.int (0 : Int32))] ∧ Z.Warmed39 uU.vm ∧ uU.heap = h0) (fun _ _ _ _ _ => True) (fun _ uU oO uU' => ∃ vV lL, oO = .returned vV ∧ Q10 Z a_REQUEST a_INDICATION a_SUCCESS_RESPONSE a_ERROR_RESPONSE h0 n0 vV uU'.heap lL ∧ FrameEnd uU oO uU' lL ({ frames := 0, cells := 0, slots := 0, locals := 0 } : Room).cells ({ frames := 0, cells := 0, slots := 0, locals := 0 } : Room).slots) := by
  refine MetFree.of_bodySF (plainFor_of_name pn_0) hisR ?_
  intro pP eE sS mM args below meth cC s₁ Bd hml0 hP hK
  obtain ⟨rfl, hZ, hh⟩ := hP
  have hx := Bd.exec
  have hby := Bd.bytes
  have hml : cC.maxLocals = 1 := hml0
  have hown : sS.vm.findClass "com/example/thawline/thawline/stun/StunClassIsResponsePinLaw" = some mM.cls := findClass_of_methodNamed Bd.named
  have hnm := (name_of_methodNamed Bd.named Bd.method).1
  have X0 : Stand pP l eE ({ frames := 0, cells := 0, slots := 0, locals := 0 } : Room) sS mM #[(.int (0 : Int32))] below meth cC s₁ [] 0 0 := Stand.of_body Bd
  have e0 : s₁.heap = h0 := by rw [← hh, Bd.state]; rfl
  have N0 := Fr.nil n0
  have pre0 : ∀ tg, Steps pP.tables eE below (s₁.setTop (mkF mM 0 #[.val (.int (0 : Int32))] [])) tg → Steps pP.tables eE below (s₁.setTop (entryFrame mM #[(.int (0 : Int32))] 1)) tg := fun tg kg => castTop (ef_10 mM (0 : Int32)) kg
  have pr1 : ∀ tg, Steps pP.tables eE below (s₁.setTop (mkF mM 4 #[.val (.int (0 : Int32))] [])) tg → Steps pP.tables eE below (s₁.setTop (entryFrame mM #[(.int (0 : Int32))] 1)) tg := fun tg kg => pre0 _ (by
    show Steps pP.tables eE below (s₁.setTop (mkF mM 0 #[.val (.int (0 : Int32))] [])) _
    refine XS.iloadN X0.here hx rfl (hb hby d10_0) rfl ?_
    show Steps pP.tables eE below (s₁.setTop (mkF mM 1 #[.val (.int (0 : Int32))] [(.int (0 : Int32))])) _
    refine XS.ifNo X0.here hx rfl (hb hby d10_1) rfl ((if0 _ _).trans (teq (by decide)).2) ?_
    exact kg)
  obtain ⟨T2, X2, e2, st2⟩ := getS2 X0 hx hZ hown (host := "") (Or.inl (hw _ (List.mem_of_getElem? (i := 4) rfl))) Via.refl e0 (Sta.ext (O).2 S_REQUEST) (g := (mkF mM 4 #[.val (.int (0 : Int32))] [])) rfl (hb hby d10_4)
  have pr3 : ∀ tg, Steps pP.tables eE below (T2.setTop (mkF mM 7 #[.val (.int (0 : Int32))] [(.ref a_REQUEST)])) tg → Steps pP.tables eE below (s₁.setTop (entryFrame mM #[(.int (0 : Int32))] 1)) tg := fun tg kg => pr1 _ (st2 _ kg)
  obtain ⟨fs, hr, hrun, hended, hW, hsame⟩ := X2.leave (v := some (.ref a_REQUEST)) (fun h => by rw [Bd.returns] at h; cases h)
  refine ⟨_, _, pr3 _ (retOut X2 hx (t := (.object "com/example/thawline/thawline/stun/StunClass")) Bd.returns rfl (Or.inr (Or.inr (Or.inr (Or.inr ⟨rfl, rfl, rfl⟩)))) (hb hby d10_7) hr), hrun, hended, _, _, rfl, ?_, ⟨_, rfl⟩, hW, hsame.mono (by decide) (by decide)⟩
  show Q10 Z a_REQUEST a_INDICATION a_SUCCESS_RESPONSE a_ERROR_RESPONSE h0 n0 _ T2.heap _
  rw [e2]
  exact ⟨rfl, N0, rfl⟩
theorem d20_0 : decode prog_64_method_4_code 0 = .ok (.aload_n 0, 1) := by decide +kernel
theorem d20_1 : decode prog_64_method_4_code 1 = .ok (.getstatic 10, 3) := by decide +kernel
theorem d20_4 : decode prog_64_method_4_code 4 = .ok (.if_acmp .eq 10, 3) := by decide +kernel
theorem d20_7 : decode prog_64_method_4_code 7 = .ok (.aload_n 0, 1) := by decide +kernel
theorem d20_8 : decode prog_64_method_4_code 8 = .ok (.getstatic 13, 3) := by decide +kernel
theorem d20_11 : decode prog_64_method_4_code 11 = .ok (.if_acmp .ne 7, 3) := by decide +kernel
theorem d20_18 : decode prog_64_method_4_code 18 = .ok (.iconst 0, 1) := by decide +kernel
theorem d20_19 : decode prog_64_method_4_code 19 = .ok (.ireturn, 1) := by decide +kernel
theorem pn_1 : plainName "com/example/thawline/thawline/stun/StunClass" = true := by first | (simp [plainName, overriddenIn]; done) | decide +kernel
theorem ef_20 (mM : MethodId) (x0 : Addr) : entryFrame mM #[(.ref x0)] 1 = mkF mM 0 #[.val (.ref x0)] [] := by first | (simp [entryFrame, mkF, argsToLocals, Value.category]; done) | rfl
def Q20 (Z : State) (a_REQUEST : Addr) (a_INDICATION : Addr) (a_SUCCESS_RESPONSE : Addr) (a_ERROR_RESPONSE : Addr) (h0 : Heap) (n0 : Nat) (v : Option Value) (h : Heap) (L : List Loc) : Prop := v = some (.int (0 : Int32)) ∧ Fr n0 L ∧ h = h0
set_option maxRecDepth 65536 in
set_option maxHeartbeats 40000000 in
theorem rm20 (l : Launch) (Z : State) (a0 : Array Value) (hw : ∀ d ∈ tables_1, d.before a0 Z = true) (ws : List Jvm.Cond) (a_REQUEST : Addr) (a_INDICATION : Addr) (a_SUCCESS_RESPONSE : Addr) (a_ERROR_RESPONSE : Addr) (h0 : Heap) (n0 : Nat) (Z0 : n0 ≤ h0.size) (O : Old Z n0 h0) (S_REQUEST : Sta Z Z.heap "com/example/thawline/thawline/stun/StunClass" "REQUEST" "Lcom/example/thawline/thawline/stun/StunClass;" (.ref a_REQUEST)) (E_REQUEST : Exa Z Z.heap a_REQUEST "com/example/thawline/thawline/stun/StunClass") (S_INDICATION : Sta Z Z.heap "com/example/thawline/thawline/stun/StunClass" "INDICATION" "Lcom/example/thawline/thawline/stun/StunClass;" (.ref a_INDICATION)) (E_INDICATION : Exa Z Z.heap a_INDICATION "com/example/thawline/thawline/stun/StunClass") (S_SUCCESS_RESPONSE : Sta Z Z.heap "com/example/thawline/thawline/stun/StunClass" "SUCCESS_RESPONSE" "Lcom/example/thawline/thawline/stun/StunClass;" (.ref a_SUCCESS_RESPONSE)) (E_SUCCESS_RESPONSE : Exa Z Z.heap a_SUCCESS_RESPONSE "com/example/thawline/thawline/stun/StunClass") (S_ERROR_RESPONSE : Sta Z Z.heap "com/example/thawline/thawline/stun/StunClass" "ERROR_RESPONSE" "Lcom/example/thawline/thawline/stun/StunClass;" (.ref a_ERROR_RESPONSE)) (E_ERROR_RESPONSE : Exa Z Z.heap a_ERROR_RESPONSE "com/example/thawline/thawline/stun/StunClass") (F_REQUEST_ordinal : Fld Z Z.heap a_REQUEST "java/lang/Enum" "ordinal" "I" (.int (0 : Int32))) (F_SUCCESS_RESPONSE_ordinal : Fld Z Z.heap a_SUCCESS_RESPONSE "java/lang/Enum" "ordinal" "I" (.int (2 : Int32))) (F_ERROR_RESPONSE_ordinal : Fld Z Z.heap a_ERROR_RESPONSE "java/lang/Enum" "ordinal" "I" (.int (3 : Int32))) (F_REQUEST_bits : Fld Z Z.heap a_REQUEST "com/example/thawline/thawline/stun/StunClass" "bits" "I" (.int (0 : Int32))) (F_ERROR_RESPONSE_bits : Fld Z Z.heap a_ERROR_RESPONSE "com/example/thawline/thawline/stun/StunClass" "bits" "I" (.int (3 : Int32))) (F_SUCCESS_RESPONSE_bits : Fld Z Z.heap a_SUCCESS_RESPONSE "com/example/thawline/thawline/stun/StunClass" "bits" "I" (.int (2 : Int32))) (F_INDICATION_ordinal : Fld Z Z.heap a_INDICATION "java/lang/Enum" "ordinal" "I" (.int (1 : Int32))) (F_INDICATION_bits : Fld Z Z.heap a_INDICATION "com/example/thawline/thawline/stun/StunClass" "bits" "I" (.int (1 : Int32))) :
    MetFree l (⟨"com/example/thawline/thawline/stun/StunClass", "isResponse", "()Z"⟩ : MethodName) (head1 (Jvm.Cond.code (⟨"com/example/thawline/thawline/stun/StunClass", "isResponse", "()Z"⟩ : MethodName) prog_64_method_4_code 1 (some .boolean) :: ws) ({ frames := 0, cells := 0, slots := 0, locals := 0 } : Room)) (fun aA uU => aA = #[(.ref a_REQUEST)] ∧ Z.Warmed39 uU.vm ∧ uU.heap = h0) (fun _ _ _ _ _ => True) (fun _ uU oO uU' => ∃ vV lL, oO = .returned vV ∧ Q20 Z a_REQUEST a_INDICATION a_SUCCESS_RESPONSE a_ERROR_RESPONSE h0 n0 vV uU'.heap lL ∧ FrameEnd uU oO uU' lL ({ frames := 0, cells := 0, slots := 0, locals := 0 } : Room).cells ({ frames := 0, cells := 0, slots := 0, locals := 0 } : Room).slots) := by
  refine MetFree.of_bodySF (plainFor_of_name pn_1) hisR ?_
  intro pP eE sS mM args below meth cC s₁ Bd hml0 hP hK
  obtain ⟨rfl, hZ, hh⟩ := hP
  have hx := Bd.exec
  have hby := Bd.bytes
  have hml : cC.maxLocals = 1 := hml0
  have hown : sS.vm.findClass "com/example/thawline/thawline/stun/StunClass" = some mM.cls := findClass_of_methodNamed Bd.named
  have hnm := (name_of_methodNamed Bd.named Bd.method).1
  have X0 : Stand pP l eE ({ frames := 0, cells := 0, slots := 0, locals := 0 } : Room) sS mM #[(.ref a_REQUEST)] below meth cC s₁ [] 0 0 := Stand.of_body Bd
  have e0 : s₁.heap = h0 := by rw [← hh, Bd.state]; rfl
  have N0 := Fr.nil n0
  have pre0 : ∀ tg, Steps pP.tables eE below (s₁.setTop (mkF mM 0 #[.val (.ref a_REQUEST)] [])) tg → Steps pP.tables eE below (s₁.setTop (entryFrame mM #[(.ref a_REQUEST)] 1)) tg := fun tg kg => castTop (ef_20 mM a_REQUEST) kg
  have pr1 : ∀ tg, Steps pP.tables eE below (s₁.setTop (mkF mM 1 #[.val (.ref a_REQUEST)] [(.ref a_REQUEST)])) tg → Steps pP.tables eE below (s₁.setTop (entryFrame mM #[(.ref a_REQUEST)] 1)) tg := fun tg kg => pre0 _ (by
    show Steps pP.tables eE below (s₁.setTop (mkF mM 0 #[.val (.ref a_REQUEST)] [])) _
    refine XS.aloadN X0.here hx rfl (hb hby d20_0) rfl rfl ?_
    exact kg)
  obtain ⟨T2, X2, e2, st2⟩ := getS2 X0 hx hZ hown (host := "") (Or.inl (hw _ (List.mem_of_getElem? (i := 12) rfl))) Via.refl e0 (Sta.ext (O).2 S_SUCCESS_RESPONSE) (g := (mkF mM 1 #[.val (.ref a_REQUEST)] [(.ref a_REQUEST)])) rfl (hb hby d20_1)
  have pr3 : ∀ tg, Steps pP.tables eE below (T2.setTop (mkF mM 4 #[.val (.ref a_REQUEST)] [(.ref a_SUCCESS_RESPONSE), (.ref a_REQUEST)])) tg → Steps pP.tables eE below (s₁.setTop (entryFrame mM #[(.ref a_REQUEST)] 1)) tg := fun tg kg => pr1 _ (st2 _ kg)
  have pr4 : ∀ tg, Steps pP.tables eE below (T2.setTop (mkF mM 8 #[.val (.ref a_REQUEST)] [(.ref a_REQUEST)])) tg → Steps pP.tables eE below (s₁.setTop (entryFrame mM #[(.ref a_REQUEST)] 1)) tg := fun tg kg => pr3 _ (by
    show Steps pP.tables eE below (T2.setTop (mkF mM 4 #[.val (.ref a_REQUEST)] [(.ref a_SUCCESS_RESPONSE), (.ref a_REQUEST)])) _
    refine Jvm.RoadKit.acmp (g := (mkF mM 4 #[.val (.ref a_REQUEST)] [(.ref a_SUCCESS_RESPONSE), (.ref a_REQUEST)])) X2 hx rfl rfl rfl (pc0 := 4) (pc' := 7) (same := false) rfl (hb hby d20_4) rfl (decide_eq_false fun q => (Fld.ne F_REQUEST_ordinal F_SUCCESS_RESPONSE_ordinal (by decide)) (Value.ref.inj q)) (by decide) (by decide) ?_
    show Steps pP.tables eE below (T2.setTop (mkF mM 7 #[.val (.ref a_REQUEST)] [])) _
    refine XS.aloadN X2.here hx rfl (hb hby d20_7) rfl rfl ?_
    exact kg)
  obtain ⟨T5, X5, e5, st5⟩ := getS2 X2 hx hZ hown (host := "") (Or.inl (hw _ (List.mem_of_getElem? (i := 14) rfl))) Via.refl e2 (Sta.ext (O).2 S_ERROR_RESPONSE) (g := (mkF mM 8 #[.val (.ref a_REQUEST)] [(.ref a_REQUEST)])) rfl (hb hby d20_8)
  have pr6 : ∀ tg, Steps pP.tables eE below (T5.setTop (mkF mM 11 #[.val (.ref a_REQUEST)] [(.ref a_ERROR_RESPONSE), (.ref a_REQUEST)])) tg → Steps pP.tables eE below (s₁.setTop (entryFrame mM #[(.ref a_REQUEST)] 1)) tg := fun tg kg => pr4 _ (st5 _ kg)
  have pr7 : ∀ tg, Steps pP.tables eE below (T5.setTop (mkF mM 19 #[.val (.ref a_REQUEST)] [(.int (0 : Int32))])) tg → Steps pP.tables eE below (s₁.setTop (entryFrame mM #[(.ref a_REQUEST)] 1)) tg := fun tg kg => pr6 _ (by
    show Steps pP.tables eE below (T5.setTop (mkF mM 11 #[.val (.ref a_REQUEST)] [(.ref a_ERROR_RESPONSE), (.ref a_REQUEST)])) _
    refine Jvm.RoadKit.acmp (g := (mkF mM 11 #[.val (.ref a_REQUEST)] [(.ref a_ERROR_RESPONSE), (.ref a_REQUEST)])) X5 hx rfl rfl rfl (pc0 := 11) (pc' := 18) (same := false) rfl (hb hby d20_11) rfl (decide_eq_false fun q => (Fld.ne F_REQUEST_ordinal F_ERROR_RESPONSE_ordinal (by decide)) (Value.ref.inj q)) (by decide) (by decide) ?_
    show Steps pP.tables eE below (T5.setTop (mkF mM 18 #[.val (.ref a_REQUEST)] [])) _
    refine XS.iconst X5.here hx rfl (hb hby d20_18) ?_
    exact kg)
  obtain ⟨fs, hr, hrun, hended, hW, hsame⟩ := X5.leave (v := some (.int (0 : Int32))) (fun h => by rw [Bd.returns] at h; cases h)
  refine ⟨_, _, pr7 _ (retOut X5 hx (t := .boolean) Bd.returns rfl (Or.inl ⟨rfl, Or.inr (Or.inl rfl), _, rfl⟩) (hb hby d20_19) hr), hrun, hended, _, _, rfl, ?_, ⟨_, rfl⟩, hW, hsame.mono (by decide) (by decide)⟩
  show Q20 Z a_REQUEST a_INDICATION a_SUCCESS_RESPONSE a_ERROR_RESPONSE h0 n0 _ T5.heap _
  rw [e5]
  exact ⟨rfl, N0, rfl⟩
theorem d30_0 : decode prog_64_method_5_code 0 = .ok (.aload_n 0, 1) := by decide +kernel
theorem d30_1 : decode prog_64_method_5_code 1 = .ok (.getfield 35, 3) := by decide +kernel
theorem d30_4 : decode prog_64_method_5_code 4 = .ok (.ireturn, 1) := by decide +kernel
theorem ef_30 (mM : MethodId) (x0 : Addr) : entryFrame mM #[(.ref x0)] 1 = mkF mM 0 #[.val (.ref x0)] [] := by first | (simp [entryFrame, mkF, argsToLocals, Value.category]; done) | rfl
def Q30 (Z : State) (a_REQUEST : Addr) (a_INDICATION : Addr) (a_SUCCESS_RESPONSE : Addr) (a_ERROR_RESPONSE : Addr) (h0 : Heap) (n0 : Nat) (v : Option Value) (h : Heap) (L : List Loc) : Prop := v = some (.int (0 : Int32)) ∧ Fr n0 L ∧ h = h0
set_option maxRecDepth 65536 in
set_option maxHeartbeats 40000000 in
theorem rm30 (l : Launch) (Z : State) (a0 : Array Value) (hw : ∀ d ∈ tables_1, d.before a0 Z = true) (ws : List Jvm.Cond) (a_REQUEST : Addr) (a_INDICATION : Addr) (a_SUCCESS_RESPONSE : Addr) (a_ERROR_RESPONSE : Addr) (h0 : Heap) (n0 : Nat) (Z0 : n0 ≤ h0.size) (O : Old Z n0 h0) (S_REQUEST : Sta Z Z.heap "com/example/thawline/thawline/stun/StunClass" "REQUEST" "Lcom/example/thawline/thawline/stun/StunClass;" (.ref a_REQUEST)) (E_REQUEST : Exa Z Z.heap a_REQUEST "com/example/thawline/thawline/stun/StunClass") (S_INDICATION : Sta Z Z.heap "com/example/thawline/thawline/stun/StunClass" "INDICATION" "Lcom/example/thawline/thawline/stun/StunClass;" (.ref a_INDICATION)) (E_INDICATION : Exa Z Z.heap a_INDICATION "com/example/thawline/thawline/stun/StunClass") (S_SUCCESS_RESPONSE : Sta Z Z.heap "com/example/thawline/thawline/stun/StunClass" "SUCCESS_RESPONSE" "Lcom/example/thawline/thawline/stun/StunClass;" (.ref a_SUCCESS_RESPONSE)) (E_SUCCESS_RESPONSE : Exa Z Z.heap a_SUCCESS_RESPONSE "com/example/thawline/thawline/stun/StunClass") (S_ERROR_RESPONSE : Sta Z Z.heap "com/example/thawline/thawline/stun/StunClass" "ERROR_RESPONSE" "Lcom/example/thawline/thawline/stun/StunClass;" (.ref a_ERROR_RESPONSE)) (E_ERROR_RESPONSE : Exa Z Z.heap a_ERROR_RESPONSE "com/example/thawline/thawline/stun/StunClass") (F_REQUEST_ordinal : Fld Z Z.heap a_REQUEST "java/lang/Enum" "ordinal" "I" (.int (0 : Int32))) (F_SUCCESS_RESPONSE_ordinal : Fld Z Z.heap a_SUCCESS_RESPONSE "java/lang/Enum" "ordinal" "I" (.int (2 : Int32))) (F_ERROR_RESPONSE_ordinal : Fld Z Z.heap a_ERROR_RESPONSE "java/lang/Enum" "ordinal" "I" (.int (3 : Int32))) (F_REQUEST_bits : Fld Z Z.heap a_REQUEST "com/example/thawline/thawline/stun/StunClass" "bits" "I" (.int (0 : Int32))) (F_ERROR_RESPONSE_bits : Fld Z Z.heap a_ERROR_RESPONSE "com/example/thawline/thawline/stun/StunClass" "bits" "I" (.int (3 : Int32))) (F_SUCCESS_RESPONSE_bits : Fld Z Z.heap a_SUCCESS_RESPONSE "com/example/thawline/thawline/stun/StunClass" "bits" "I" (.int (2 : Int32))) (F_INDICATION_ordinal : Fld Z Z.heap a_INDICATION "java/lang/Enum" "ordinal" "I" (.int (1 : Int32))) (F_INDICATION_bits : Fld Z Z.heap a_INDICATION "com/example/thawline/thawline/stun/StunClass" "bits" "I" (.int (1 : Int32))) :
    MetFree l (⟨"com/example/thawline/thawline/stun/StunClass", "bits", "()I"⟩ : MethodName) (head1 (Jvm.Cond.code (⟨"com/example/thawline/thawline/stun/StunClass", "bits", "()I"⟩ : MethodName) prog_64_method_5_code 1 (some .int) :: ws) ({ frames := 0, cells := 0, slots := 0, locals := 0 } : Room)) (fun aA uU => aA = #[(.ref a_REQUEST)] ∧ Z.Warmed39 uU.vm ∧ uU.heap = h0) (fun _ _ _ _ _ => True) (fun _ uU oO uU' => ∃ vV lL, oO = .returned vV ∧ Q30 Z a_REQUEST a_INDICATION a_SUCCESS_RESPONSE a_ERROR_RESPONSE h0 n0 vV uU'.heap lL ∧ FrameEnd uU oO uU' lL ({ frames := 0, cells := 0, slots := 0, locals := 0 } : Room).cells ({ frames := 0, cells := 0, slots := 0, locals := 0 } : Room).slots) := by
  refine MetFree.of_bodySF (plainFor_of_name pn_1) hisR ?_
  intro pP eE sS mM args below meth cC s₁ Bd hml0 hP hK
  obtain ⟨rfl, hZ, hh⟩ := hP
  have hx := Bd.exec
  have hby := Bd.bytes
  have hml : cC.maxLocals = 1 := hml0
  have hown : sS.vm.findClass "com/example/thawline/thawline/stun/StunClass" = some mM.cls := findClass_of_methodNamed Bd.named
  have hnm := (name_of_methodNamed Bd.named Bd.method).1
  have X0 : Stand pP l eE ({ frames := 0, cells := 0, slots := 0, locals := 0 } : Room) sS mM #[(.ref a_REQUEST)] below meth cC s₁ [] 0 0 := Stand.of_body Bd
  have e0 : s₁.heap = h0 := by rw [← hh, Bd.state]; rfl
  have N0 := Fr.nil n0
  have pre0 : ∀ tg, Steps pP.tables eE below (s₁.setTop (mkF mM 0 #[.val (.ref a_REQUEST)] [])) tg → Steps pP.tables eE below (s₁.setTop (entryFrame mM #[(.ref a_REQUEST)] 1)) tg := fun tg kg => castTop (ef_30 mM a_REQUEST) kg
  have pr1 : ∀ tg, Steps pP.tables eE below (s₁.setTop (mkF mM 1 #[.val (.ref a_REQUEST)] [(.ref a_REQUEST)])) tg → Steps pP.tables eE below (s₁.setTop (entryFrame mM #[(.ref a_REQUEST)] 1)) tg := fun tg kg => pre0 _ (by
    show Steps pP.tables eE below (s₁.setTop (mkF mM 0 #[.val (.ref a_REQUEST)] [])) _
    refine XS.aloadN X0.here hx rfl (hb hby d30_0) rfl rfl ?_
    exact kg)
  obtain ⟨T2, X2, e2, st2⟩ := getF X0 hx hZ hown (host := "") (Or.inl (hw _ (List.mem_of_getElem? (i := 21) rfl))) Via.refl e0 (Fld.ext (O).2 F_REQUEST_bits) (g := (mkF mM 1 #[.val (.ref a_REQUEST)] [(.ref a_REQUEST)])) rfl rfl (hb hby d30_1)
  have pr3 : ∀ tg, Steps pP.tables eE below (T2.setTop (mkF mM 4 #[.val (.ref a_REQUEST)] [(.int (0 : Int32))])) tg → Steps pP.tables eE below (s₁.setTop (entryFrame mM #[(.ref a_REQUEST)] 1)) tg := fun tg kg => pr1 _ (st2 _ kg)
  obtain ⟨fs, hr, hrun, hended, hW, hsame⟩ := X2.leave (v := some (.int (0 : Int32))) (fun h => by rw [Bd.returns] at h; cases h)
  refine ⟨_, _, pr3 _ (retOut X2 hx (t := .int) Bd.returns rfl (Or.inl ⟨rfl, Or.inl rfl, _, rfl⟩) (hb hby d30_4) hr), hrun, hended, _, _, rfl, ?_, ⟨_, rfl⟩, hW, hsame.mono (by decide) (by decide)⟩
  show Q30 Z a_REQUEST a_INDICATION a_SUCCESS_RESPONSE a_ERROR_RESPONSE h0 n0 _ T2.heap _
  rw [e2]
  exact ⟨rfl, N0, rfl⟩
theorem d11_0 : decode method_2_code 0 = .ok (.iload_n 0, 1) := by decide +kernel
theorem d11_1 : decode method_2_code 1 = .ok (.ifCond .ne 7, 3) := by decide +kernel
theorem d11_8 : decode method_2_code 8 = .ok (.iload_n 0, 1) := by decide +kernel
theorem d11_9 : decode method_2_code 9 = .ok (.iconst 1, 1) := by decide +kernel
theorem d11_10 : decode method_2_code 10 = .ok (.if_icmp .ne 7, 3) := by decide +kernel
theorem d11_13 : decode method_2_code 13 = .ok (.getstatic 13, 3) := by decide +kernel
theorem d11_16 : decode method_2_code 16 = .ok (.areturn, 1) := by decide +kernel
theorem ef_11 (mM : MethodId) (x0 : Int32) : entryFrame mM #[(.int x0)] 1 = mkF mM 0 #[.val (.int x0)] [] := by first | (simp [entryFrame, mkF, argsToLocals, Value.category]; done) | rfl
def Q11 (Z : State) (a_REQUEST : Addr) (a_INDICATION : Addr) (a_SUCCESS_RESPONSE : Addr) (a_ERROR_RESPONSE : Addr) (h0 : Heap) (n0 : Nat) (v : Option Value) (h : Heap) (L : List Loc) : Prop := v = some (.ref a_INDICATION) ∧ Fr n0 L ∧ h = h0
set_option maxRecDepth 65536 in
set_option maxHeartbeats 40000000 in
theorem rm11 (l : Launch) (Z : State) (a0 : Array Value) (hw : ∀ d ∈ tables_1, d.before a0 Z = true) (ws : List Jvm.Cond) (a_REQUEST : Addr) (a_INDICATION : Addr) (a_SUCCESS_RESPONSE : Addr) (a_ERROR_RESPONSE : Addr) (h0 : Heap) (n0 : Nat) (Z0 : n0 ≤ h0.size) (O : Old Z n0 h0) (S_REQUEST : Sta Z Z.heap "com/example/thawline/thawline/stun/StunClass" "REQUEST" "Lcom/example/thawline/thawline/stun/StunClass;" (.ref a_REQUEST)) (E_REQUEST : Exa Z Z.heap a_REQUEST "com/example/thawline/thawline/stun/StunClass") (S_INDICATION : Sta Z Z.heap "com/example/thawline/thawline/stun/StunClass" "INDICATION" "Lcom/example/thawline/thawline/stun/StunClass;" (.ref a_INDICATION)) (E_INDICATION : Exa Z Z.heap a_INDICATION "com/example/thawline/thawline/stun/StunClass") (S_SUCCESS_RESPONSE : Sta Z Z.heap "com/example/thawline/thawline/stun/StunClass" "SUCCESS_RESPONSE" "Lcom/example/thawline/thawline/stun/StunClass;" (.ref a_SUCCESS_RESPONSE)) (E_SUCCESS_RESPONSE : Exa Z Z.heap a_SUCCESS_RESPONSE "com/example/thawline/thawline/stun/StunClass") (S_ERROR_RESPONSE : Sta Z Z.heap "com/example/thawline/thawline/stun/StunClass" "ERROR_RESPONSE" "Lcom/example/thawline/thawline/stun/StunClass;" (.ref a_ERROR_RESPONSE)) (E_ERROR_RESPONSE : Exa Z Z.heap a_ERROR_RESPONSE "com/example/thawline/thawline/stun/StunClass") (F_REQUEST_ordinal : Fld Z Z.heap a_REQUEST "java/lang/Enum" "ordinal" "I" (.int (0 : Int32))) (F_SUCCESS_RESPONSE_ordinal : Fld Z Z.heap a_SUCCESS_RESPONSE "java/lang/Enum" "ordinal" "I" (.int (2 : Int32))) (F_ERROR_RESPONSE_ordinal : Fld Z Z.heap a_ERROR_RESPONSE "java/lang/Enum" "ordinal" "I" (.int (3 : Int32))) (F_REQUEST_bits : Fld Z Z.heap a_REQUEST "com/example/thawline/thawline/stun/StunClass" "bits" "I" (.int (0 : Int32))) (F_ERROR_RESPONSE_bits : Fld Z Z.heap a_ERROR_RESPONSE "com/example/thawline/thawline/stun/StunClass" "bits" "I" (.int (3 : Int32))) (F_SUCCESS_RESPONSE_bits : Fld Z Z.heap a_SUCCESS_RESPONSE "com/example/thawline/thawline/stun/StunClass" "bits" "I" (.int (2 : Int32))) (F_INDICATION_ordinal : Fld Z Z.heap a_INDICATION "java/lang/Enum" "ordinal" "I" (.int (1 : Int32))) (F_INDICATION_bits : Fld Z Z.heap a_INDICATION "com/example/thawline/thawline/stun/StunClass" "bits" "I" (.int (1 : Int32))) :
    MetFree l (⟨"com/example/thawline/thawline/stun/StunClassIsResponsePinLaw", "pick", "(I)Lcom/example/thawline/thawline/stun/StunClass;"⟩ : MethodName) (head1 (Jvm.Cond.code (⟨"com/example/thawline/thawline/stun/StunClassIsResponsePinLaw", "pick", "(I)Lcom/example/thawline/thawline/stun/StunClass;"⟩ : MethodName) method_2_code 1 (some (.object "com/example/thawline/thawline/stun/StunClass")) :: ws) ({ frames := 0, cells := 0, slots := 0, locals := 0 } : Room)) (fun aA uU => aA = #[(.int (1 : Int32))] ∧ Z.Warmed39 uU.vm ∧ uU.heap = h0) (fun _ _ _ _ _ => True) (fun _ uU oO uU' => ∃ vV lL, oO = .returned vV ∧ Q11 Z a_REQUEST a_INDICATION a_SUCCESS_RESPONSE a_ERROR_RESPONSE h0 n0 vV uU'.heap lL ∧ FrameEnd uU oO uU' lL ({ frames := 0, cells := 0, slots := 0, locals := 0 } : Room).cells ({ frames := 0, cells := 0, slots := 0, locals := 0 } : Room).slots) := by
  refine MetFree.of_bodySF (plainFor_of_name pn_0) hisR ?_
  intro pP eE sS mM args below meth cC s₁ Bd hml0 hP hK
  obtain ⟨rfl, hZ, hh⟩ := hP
  have hx := Bd.exec
  have hby := Bd.bytes
  have hml : cC.maxLocals = 1 := hml0
  have hown : sS.vm.findClass "com/example/thawline/thawline/stun/StunClassIsResponsePinLaw" = some mM.cls := findClass_of_methodNamed Bd.named
  have hnm := (name_of_methodNamed Bd.named Bd.method).1
  have X0 : Stand pP l eE ({ frames := 0, cells := 0, slots := 0, locals := 0 } : Room) sS mM #[(.int (1 : Int32))] below meth cC s₁ [] 0 0 := Stand.of_body Bd
  have e0 : s₁.heap = h0 := by rw [← hh, Bd.state]; rfl
  have N0 := Fr.nil n0
  have pre0 : ∀ tg, Steps pP.tables eE below (s₁.setTop (mkF mM 0 #[.val (.int (1 : Int32))] [])) tg → Steps pP.tables eE below (s₁.setTop (entryFrame mM #[(.int (1 : Int32))] 1)) tg := fun tg kg => castTop (ef_11 mM (1 : Int32)) kg
  have pr1 : ∀ tg, Steps pP.tables eE below (s₁.setTop (mkF mM 13 #[.val (.int (1 : Int32))] [])) tg → Steps pP.tables eE below (s₁.setTop (entryFrame mM #[(.int (1 : Int32))] 1)) tg := fun tg kg => pre0 _ (by
    show Steps pP.tables eE below (s₁.setTop (mkF mM 0 #[.val (.int (1 : Int32))] [])) _
    refine XS.iloadN X0.here hx rfl (hb hby d11_0) rfl ?_
    show Steps pP.tables eE below (s₁.setTop (mkF mM 1 #[.val (.int (1 : Int32))] [(.int (1 : Int32))])) _
    refine XS.ifYes X0.here hx rfl (pc0 := 1) (pc' := 8) rfl (hb hby d11_1) rfl ((if0 _ _).trans (feq (by decide)).2) (by decide) (by decide) ?_
    show Steps pP.tables eE below (s₁.setTop (mkF mM 8 #[.val (.int (1 : Int32))] [])) _
    refine XS.iloadN X0.here hx rfl (hb hby d11_8) rfl ?_
    show Steps pP.tables eE below (s₁.setTop (mkF mM 9 #[.val (.int (1 : Int32))] [(.int (1 : Int32))])) _
    refine XS.iconst X0.here hx rfl (hb hby d11_9) ?_
    show Steps pP.tables eE below (s₁.setTop (mkF mM 10 #[.val (.int (1 : Int32))] [(.int (1 : Int32)), (.int (1 : Int32))])) _
    refine XS.icmpNo X0.here hx rfl (hb hby d11_10) rfl (teq (by decide)).2 ?_
    exact kg)
  obtain ⟨T2, X2, e2, st2⟩ := getS2 X0 hx hZ hown (host := "") (Or.inl (hw _ (List.mem_of_getElem? (i := 25) rfl))) Via.refl e0 (Sta.ext (O).2 S_INDICATION) (g := (mkF mM 13 #[.val (.int (1 : Int32))] [])) rfl (hb hby d11_13)
  have pr3 : ∀ tg, Steps pP.tables eE below (T2.setTop (mkF mM 16 #[.val (.int (1 : Int32))] [(.ref a_INDICATION)])) tg → Steps pP.tables eE below (s₁.setTop (entryFrame mM #[(.int (1 : Int32))] 1)) tg := fun tg kg => pr1 _ (st2 _ kg)
  obtain ⟨fs, hr, hrun, hended, hW, hsame⟩ := X2.leave (v := some (.ref a_INDICATION)) (fun h => by rw [Bd.returns] at h; cases h)
  refine ⟨_, _, pr3 _ (retOut X2 hx (t := (.object "com/example/thawline/thawline/stun/StunClass")) Bd.returns rfl (Or.inr (Or.inr (Or.inr (Or.inr ⟨rfl, rfl, rfl⟩)))) (hb hby d11_16) hr), hrun, hended, _, _, rfl, ?_, ⟨_, rfl⟩, hW, hsame.mono (by decide) (by decide)⟩
  show Q11 Z a_REQUEST a_INDICATION a_SUCCESS_RESPONSE a_ERROR_RESPONSE h0 n0 _ T2.heap _
  rw [e2]
  exact ⟨rfl, N0, rfl⟩
theorem d21_0 : decode prog_64_method_4_code 0 = .ok (.aload_n 0, 1) := by decide +kernel
theorem d21_1 : decode prog_64_method_4_code 1 = .ok (.getstatic 10, 3) := by decide +kernel
theorem d21_4 : decode prog_64_method_4_code 4 = .ok (.if_acmp .eq 10, 3) := by decide +kernel
theorem d21_7 : decode prog_64_method_4_code 7 = .ok (.aload_n 0, 1) := by decide +kernel
theorem d21_8 : decode prog_64_method_4_code 8 = .ok (.getstatic 13, 3) := by decide +kernel
theorem d21_11 : decode prog_64_method_4_code 11 = .ok (.if_acmp .ne 7, 3) := by decide +kernel
theorem d21_18 : decode prog_64_method_4_code 18 = .ok (.iconst 0, 1) := by decide +kernel
theorem d21_19 : decode prog_64_method_4_code 19 = .ok (.ireturn, 1) := by decide +kernel
theorem ef_21 (mM : MethodId) (x0 : Addr) : entryFrame mM #[(.ref x0)] 1 = mkF mM 0 #[.val (.ref x0)] [] := by first | (simp [entryFrame, mkF, argsToLocals, Value.category]; done) | rfl
def Q21 (Z : State) (a_REQUEST : Addr) (a_INDICATION : Addr) (a_SUCCESS_RESPONSE : Addr) (a_ERROR_RESPONSE : Addr) (h0 : Heap) (n0 : Nat) (v : Option Value) (h : Heap) (L : List Loc) : Prop := v = some (.int (0 : Int32)) ∧ Fr n0 L ∧ h = h0
set_option maxRecDepth 65536 in
set_option maxHeartbeats 40000000 in
theorem rm21 (l : Launch) (Z : State) (a0 : Array Value) (hw : ∀ d ∈ tables_1, d.before a0 Z = true) (ws : List Jvm.Cond) (a_REQUEST : Addr) (a_INDICATION : Addr) (a_SUCCESS_RESPONSE : Addr) (a_ERROR_RESPONSE : Addr) (h0 : Heap) (n0 : Nat) (Z0 : n0 ≤ h0.size) (O : Old Z n0 h0) (S_REQUEST : Sta Z Z.heap "com/example/thawline/thawline/stun/StunClass" "REQUEST" "Lcom/example/thawline/thawline/stun/StunClass;" (.ref a_REQUEST)) (E_REQUEST : Exa Z Z.heap a_REQUEST "com/example/thawline/thawline/stun/StunClass") (S_INDICATION : Sta Z Z.heap "com/example/thawline/thawline/stun/StunClass" "INDICATION" "Lcom/example/thawline/thawline/stun/StunClass;" (.ref a_INDICATION)) (E_INDICATION : Exa Z Z.heap a_INDICATION "com/example/thawline/thawline/stun/StunClass") (S_SUCCESS_RESPONSE : Sta Z Z.heap "com/example/thawline/thawline/stun/StunClass" "SUCCESS_RESPONSE" "Lcom/example/thawline/thawline/stun/StunClass;" (.ref a_SUCCESS_RESPONSE)) (E_SUCCESS_RESPONSE : Exa Z Z.heap a_SUCCESS_RESPONSE "com/example/thawline/thawline/stun/StunClass") (S_ERROR_RESPONSE : Sta Z Z.heap "com/example/thawline/thawline/stun/StunClass" "ERROR_RESPONSE" "Lcom/example/thawline/thawline/stun/StunClass;" (.ref a_ERROR_RESPONSE)) (E_ERROR_RESPONSE : Exa Z Z.heap a_ERROR_RESPONSE "com/example/thawline/thawline/stun/StunClass") (F_REQUEST_ordinal : Fld Z Z.heap a_REQUEST "java/lang/Enum" "ordinal" "I" (.int (0 : Int32))) (F_SUCCESS_RESPONSE_ordinal : Fld Z Z.heap a_SUCCESS_RESPONSE "java/lang/Enum" "ordinal" "I" (.int (2 : Int32))) (F_ERROR_RESPONSE_ordinal : Fld Z Z.heap a_ERROR_RESPONSE "java/lang/Enum" "ordinal" "I" (.int (3 : Int32))) (F_REQUEST_bits : Fld Z Z.heap a_REQUEST "com/example/thawline/thawline/stun/StunClass" "bits" "I" (.int (0 : Int32))) (F_ERROR_RESPONSE_bits : Fld Z Z.heap a_ERROR_RESPONSE "com/example/thawline/thawline/stun/StunClass" "bits" "I" (.int (3 : Int32))) (F_SUCCESS_RESPONSE_bits : Fld Z Z.heap a_SUCCESS_RESPONSE "com/example/thawline/thawline/stun/StunClass" "bits" "I" (.int (2 : Int32))) (F_INDICATION_ordinal : Fld Z Z.heap a_INDICATION "java/lang/Enum" "ordinal" "I" (.int (1 : Int32))) (F_INDICATION_bits : Fld Z Z.heap a_INDICATION "com/example/thawline/thawline/stun/StunClass" "bits" "I" (.int (1 : Int32))) :
    MetFree l (⟨"com/example/thawline/thawline/stun/StunClass", "isResponse", "()Z"⟩ : MethodName) (head1 (Jvm.Cond.code (⟨"com/example/thawline/thawline/stun/StunClass", "isResponse", "()Z"⟩ : MethodName) prog_64_method_4_code 1 (some .boolean) :: ws) ({ frames := 0, cells := 0, slots := 0, locals := 0 } : Room)) (fun aA uU => aA = #[(.ref a_INDICATION)] ∧ Z.Warmed39 uU.vm ∧ uU.heap = h0) (fun _ _ _ _ _ => True) (fun _ uU oO uU' => ∃ vV lL, oO = .returned vV ∧ Q21 Z a_REQUEST a_INDICATION a_SUCCESS_RESPONSE a_ERROR_RESPONSE h0 n0 vV uU'.heap lL ∧ FrameEnd uU oO uU' lL ({ frames := 0, cells := 0, slots := 0, locals := 0 } : Room).cells ({ frames := 0, cells := 0, slots := 0, locals := 0 } : Room).slots) := by
  refine MetFree.of_bodySF (plainFor_of_name pn_1) hisR ?_
  intro pP eE sS mM args below meth cC s₁ Bd hml0 hP hK
  obtain ⟨rfl, hZ, hh⟩ := hP
  have hx := Bd.exec
  have hby := Bd.bytes
  have hml : cC.maxLocals = 1 := hml0
  have hown : sS.vm.findClass "com/example/thawline/thawline/stun/StunClass" = some mM.cls := findClass_of_methodNamed Bd.named
  have hnm := (name_of_methodNamed Bd.named Bd.method).1
  have X0 : Stand pP l eE ({ frames := 0, cells := 0, slots := 0, locals := 0 } : Room) sS mM #[(.ref a_INDICATION)] below meth cC s₁ [] 0 0 := Stand.of_body Bd
  have e0 : s₁.heap = h0 := by rw [← hh, Bd.state]; rfl
  have N0 := Fr.nil n0
  have pre0 : ∀ tg, Steps pP.tables eE below (s₁.setTop (mkF mM 0 #[.val (.ref a_INDICATION)] [])) tg → Steps pP.tables eE below (s₁.setTop (entryFrame mM #[(.ref a_INDICATION)] 1)) tg := fun tg kg => castTop (ef_21 mM a_INDICATION) kg
  have pr1 : ∀ tg, Steps pP.tables eE below (s₁.setTop (mkF mM 1 #[.val (.ref a_INDICATION)] [(.ref a_INDICATION)])) tg → Steps pP.tables eE below (s₁.setTop (entryFrame mM #[(.ref a_INDICATION)] 1)) tg := fun tg kg => pre0 _ (by
    show Steps pP.tables eE below (s₁.setTop (mkF mM 0 #[.val (.ref a_INDICATION)] [])) _
    refine XS.aloadN X0.here hx rfl (hb hby d21_0) rfl rfl ?_
    exact kg)
  obtain ⟨T2, X2, e2, st2⟩ := getS2 X0 hx hZ hown (host := "") (Or.inl (hw _ (List.mem_of_getElem? (i := 12) rfl))) Via.refl e0 (Sta.ext (O).2 S_SUCCESS_RESPONSE) (g := (mkF mM 1 #[.val (.ref a_INDICATION)] [(.ref a_INDICATION)])) rfl (hb hby d21_1)
  have pr3 : ∀ tg, Steps pP.tables eE below (T2.setTop (mkF mM 4 #[.val (.ref a_INDICATION)] [(.ref a_SUCCESS_RESPONSE), (.ref a_INDICATION)])) tg → Steps pP.tables eE below (s₁.setTop (entryFrame mM #[(.ref a_INDICATION)] 1)) tg := fun tg kg => pr1 _ (st2 _ kg)
  have pr4 : ∀ tg, Steps pP.tables eE below (T2.setTop (mkF mM 8 #[.val (.ref a_INDICATION)] [(.ref a_INDICATION)])) tg → Steps pP.tables eE below (s₁.setTop (entryFrame mM #[(.ref a_INDICATION)] 1)) tg := fun tg kg => pr3 _ (by
    show Steps pP.tables eE below (T2.setTop (mkF mM 4 #[.val (.ref a_INDICATION)] [(.ref a_SUCCESS_RESPONSE), (.ref a_INDICATION)])) _
    refine Jvm.RoadKit.acmp (g := (mkF mM 4 #[.val (.ref a_INDICATION)] [(.ref a_SUCCESS_RESPONSE), (.ref a_INDICATION)])) X2 hx rfl rfl rfl (pc0 := 4) (pc' := 7) (same := false) rfl (hb hby d21_4) rfl (decide_eq_false fun q => (Fld.ne F_INDICATION_ordinal F_SUCCESS_RESPONSE_ordinal (by decide)) (Value.ref.inj q)) (by decide) (by decide) ?_
    show Steps pP.tables eE below (T2.setTop (mkF mM 7 #[.val (.ref a_INDICATION)] [])) _
    refine XS.aloadN X2.here hx rfl (hb hby d21_7) rfl rfl ?_
    exact kg)
  obtain ⟨T5, X5, e5, st5⟩ := getS2 X2 hx hZ hown (host := "") (Or.inl (hw _ (List.mem_of_getElem? (i := 14) rfl))) Via.refl e2 (Sta.ext (O).2 S_ERROR_RESPONSE) (g := (mkF mM 8 #[.val (.ref a_INDICATION)] [(.ref a_INDICATION)])) rfl (hb hby d21_8)
  have pr6 : ∀ tg, Steps pP.tables eE below (T5.setTop (mkF mM 11 #[.val (.ref a_INDICATION)] [(.ref a_ERROR_RESPONSE), (.ref a_INDICATION)])) tg → Steps pP.tables eE below (s₁.setTop (entryFrame mM #[(.ref a_INDICATION)] 1)) tg := fun tg kg => pr4 _ (st5 _ kg)
  have pr7 : ∀ tg, Steps pP.tables eE below (T5.setTop (mkF mM 19 #[.val (.ref a_INDICATION)] [(.int (0 : Int32))])) tg → Steps pP.tables eE below (s₁.setTop (entryFrame mM #[(.ref a_INDICATION)] 1)) tg := fun tg kg => pr6 _ (by
    show Steps pP.tables eE below (T5.setTop (mkF mM 11 #[.val (.ref a_INDICATION)] [(.ref a_ERROR_RESPONSE), (.ref a_INDICATION)])) _
    refine Jvm.RoadKit.acmp (g := (mkF mM 11 #[.val (.ref a_INDICATION)] [(.ref a_ERROR_RESPONSE), (.ref a_INDICATION)])) X5 hx rfl rfl rfl (pc0 := 11) (pc' := 18) (same := false) rfl (hb hby d21_11) rfl (decide_eq_false fun q => (Fld.ne F_INDICATION_ordinal F_ERROR_RESPONSE_ordinal (by decide)) (Value.ref.inj q)) (by decide) (by decide) ?_
    show Steps pP.tables eE below (T5.setTop (mkF mM 18 #[.val (.ref a_INDICATION)] [])) _
    refine XS.iconst X5.here hx rfl (hb hby d21_18) ?_
    exact kg)
  obtain ⟨fs, hr, hrun, hended, hW, hsame⟩ := X5.leave (v := some (.int (0 : Int32))) (fun h => by rw [Bd.returns] at h; cases h)
  refine ⟨_, _, pr7 _ (retOut X5 hx (t := .boolean) Bd.returns rfl (Or.inl ⟨rfl, Or.inr (Or.inl rfl), _, rfl⟩) (hb hby d21_19) hr), hrun, hended, _, _, rfl, ?_, ⟨_, rfl⟩, hW, hsame.mono (by decide) (by decide)⟩
  show Q21 Z a_REQUEST a_INDICATION a_SUCCESS_RESPONSE a_ERROR_RESPONSE h0 n0 _ T5.heap _
  rw [e5]
  exact ⟨rfl, N0, rfl⟩
theorem d31_0 : decode prog_64_method_5_code 0 = .ok (.aload_n 0, 1) := by decide +kernel
theorem d31_1 : decode prog_64_method_5_code 1 = .ok (.getfield 35, 3) := by decide +kernel
theorem d31_4 : decode prog_64_method_5_code 4 = .ok (.ireturn, 1) := by decide +kernel
theorem ef_31 (mM : MethodId) (x0 : Addr) : entryFrame mM #[(.ref x0)] 1 = mkF mM 0 #[.val (.ref x0)] [] := by first | (simp [entryFrame, mkF, argsToLocals, Value.category]; done) | rfl
def Q31 (Z : State) (a_REQUEST : Addr) (a_INDICATION : Addr) (a_SUCCESS_RESPONSE : Addr) (a_ERROR_RESPONSE : Addr) (h0 : Heap) (n0 : Nat) (v : Option Value) (h : Heap) (L : List Loc) : Prop := v = some (.int (1 : Int32)) ∧ Fr n0 L ∧ h = h0
set_option maxRecDepth 65536 in
set_option maxHeartbeats 40000000 in
theorem rm31 (l : Launch) (Z : State) (a0 : Array Value) (hw : ∀ d ∈ tables_1, d.before a0 Z = true) (ws : List Jvm.Cond) (a_REQUEST : Addr) (a_INDICATION : Addr) (a_SUCCESS_RESPONSE : Addr) (a_ERROR_RESPONSE : Addr) (h0 : Heap) (n0 : Nat) (Z0 : n0 ≤ h0.size) (O : Old Z n0 h0) (S_REQUEST : Sta Z Z.heap "com/example/thawline/thawline/stun/StunClass" "REQUEST" "Lcom/example/thawline/thawline/stun/StunClass;" (.ref a_REQUEST)) (E_REQUEST : Exa Z Z.heap a_REQUEST "com/example/thawline/thawline/stun/StunClass") (S_INDICATION : Sta Z Z.heap "com/example/thawline/thawline/stun/StunClass" "INDICATION" "Lcom/example/thawline/thawline/stun/StunClass;" (.ref a_INDICATION)) (E_INDICATION : Exa Z Z.heap a_INDICATION "com/example/thawline/thawline/stun/StunClass") (S_SUCCESS_RESPONSE : Sta Z Z.heap "com/example/thawline/thawline/stun/StunClass" "SUCCESS_RESPONSE" "Lcom/example/thawline/thawline/stun/StunClass;" (.ref a_SUCCESS_RESPONSE)) (E_SUCCESS_RESPONSE : Exa Z Z.heap a_SUCCESS_RESPONSE "com/example/thawline/thawline/stun/StunClass") (S_ERROR_RESPONSE : Sta Z Z.heap "com/example/thawline/thawline/stun/StunClass" "ERROR_RESPONSE" "Lcom/example/thawline/thawline/stun/StunClass;" (.ref a_ERROR_RESPONSE)) (E_ERROR_RESPONSE : Exa Z Z.heap a_ERROR_RESPONSE "com/example/thawline/thawline/stun/StunClass") (F_REQUEST_ordinal : Fld Z Z.heap a_REQUEST "java/lang/Enum" "ordinal" "I" (.int (0 : Int32))) (F_SUCCESS_RESPONSE_ordinal : Fld Z Z.heap a_SUCCESS_RESPONSE "java/lang/Enum" "ordinal" "I" (.int (2 : Int32))) (F_ERROR_RESPONSE_ordinal : Fld Z Z.heap a_ERROR_RESPONSE "java/lang/Enum" "ordinal" "I" (.int (3 : Int32))) (F_REQUEST_bits : Fld Z Z.heap a_REQUEST "com/example/thawline/thawline/stun/StunClass" "bits" "I" (.int (0 : Int32))) (F_ERROR_RESPONSE_bits : Fld Z Z.heap a_ERROR_RESPONSE "com/example/thawline/thawline/stun/StunClass" "bits" "I" (.int (3 : Int32))) (F_SUCCESS_RESPONSE_bits : Fld Z Z.heap a_SUCCESS_RESPONSE "com/example/thawline/thawline/stun/StunClass" "bits" "I" (.int (2 : Int32))) (F_INDICATION_ordinal : Fld Z Z.heap a_INDICATION "java/lang/Enum" "ordinal" "I" (.int (1 : Int32))) (F_INDICATION_bits : Fld Z Z.heap a_INDICATION "com/example/thawline/thawline/stun/StunClass" "bits" "I" (.int (1 : Int32))) :
    MetFree l (⟨"com/example/thawline/thawline/stun/StunClass", "bits", "()I"⟩ : MethodName) (head1 (Jvm.Cond.code (⟨"com/example/thawline/thawline/stun/StunClass", "bits", "()I"⟩ : MethodName) prog_64_method_5_code 1 (some .int) :: ws) ({ frames := 0, cells := 0, slots := 0, locals := 0 } : Room)) (fun aA uU => aA = #[(.ref a_INDICATION)] ∧ Z.Warmed39 uU.vm ∧ uU.heap = h0) (fun _ _ _ _ _ => True) (fun _ uU oO uU' => ∃ vV lL, oO = .returned vV ∧ Q31 Z a_REQUEST a_INDICATION a_SUCCESS_RESPONSE a_ERROR_RESPONSE h0 n0 vV uU'.heap lL ∧ FrameEnd uU oO uU' lL ({ frames := 0, cells := 0, slots := 0, locals := 0 } : Room).cells ({ frames := 0, cells := 0, slots := 0, locals := 0 } : Room).slots) := by
  refine MetFree.of_bodySF (plainFor_of_name pn_1) hisR ?_
  intro pP eE sS mM args below meth cC s₁ Bd hml0 hP hK
  obtain ⟨rfl, hZ, hh⟩ := hP
  have hx := Bd.exec
  have hby := Bd.bytes
  have hml : cC.maxLocals = 1 := hml0
  have hown : sS.vm.findClass "com/example/thawline/thawline/stun/StunClass" = some mM.cls := findClass_of_methodNamed Bd.named
  have hnm := (name_of_methodNamed Bd.named Bd.method).1
  have X0 : Stand pP l eE ({ frames := 0, cells := 0, slots := 0, locals := 0 } : Room) sS mM #[(.ref a_INDICATION)] below meth cC s₁ [] 0 0 := Stand.of_body Bd
  have e0 : s₁.heap = h0 := by rw [← hh, Bd.state]; rfl
  have N0 := Fr.nil n0
  have pre0 : ∀ tg, Steps pP.tables eE below (s₁.setTop (mkF mM 0 #[.val (.ref a_INDICATION)] [])) tg → Steps pP.tables eE below (s₁.setTop (entryFrame mM #[(.ref a_INDICATION)] 1)) tg := fun tg kg => castTop (ef_31 mM a_INDICATION) kg
  have pr1 : ∀ tg, Steps pP.tables eE below (s₁.setTop (mkF mM 1 #[.val (.ref a_INDICATION)] [(.ref a_INDICATION)])) tg → Steps pP.tables eE below (s₁.setTop (entryFrame mM #[(.ref a_INDICATION)] 1)) tg := fun tg kg => pre0 _ (by
    show Steps pP.tables eE below (s₁.setTop (mkF mM 0 #[.val (.ref a_INDICATION)] [])) _
    refine XS.aloadN X0.here hx rfl (hb hby d31_0) rfl rfl ?_
    exact kg)
  obtain ⟨T2, X2, e2, st2⟩ := getF X0 hx hZ hown (host := "") (Or.inl (hw _ (List.mem_of_getElem? (i := 21) rfl))) Via.refl e0 (Fld.ext (O).2 F_INDICATION_bits) (g := (mkF mM 1 #[.val (.ref a_INDICATION)] [(.ref a_INDICATION)])) rfl rfl (hb hby d31_1)
  have pr3 : ∀ tg, Steps pP.tables eE below (T2.setTop (mkF mM 4 #[.val (.ref a_INDICATION)] [(.int (1 : Int32))])) tg → Steps pP.tables eE below (s₁.setTop (entryFrame mM #[(.ref a_INDICATION)] 1)) tg := fun tg kg => pr1 _ (st2 _ kg)
  obtain ⟨fs, hr, hrun, hended, hW, hsame⟩ := X2.leave (v := some (.int (1 : Int32))) (fun h => by rw [Bd.returns] at h; cases h)
  refine ⟨_, _, pr3 _ (retOut X2 hx (t := .int) Bd.returns rfl (Or.inl ⟨rfl, Or.inl rfl, _, rfl⟩) (hb hby d31_4) hr), hrun, hended, _, _, rfl, ?_, ⟨_, rfl⟩, hW, hsame.mono (by decide) (by decide)⟩
  show Q31 Z a_REQUEST a_INDICATION a_SUCCESS_RESPONSE a_ERROR_RESPONSE h0 n0 _ T2.heap _
  rw [e2]
  exact ⟨rfl, N0, rfl⟩
theorem d12_0 : decode method_2_code 0 = .ok (.iload_n 0, 1) := by decide +kernel
theorem d12_1 : decode method_2_code 1 = .ok (.ifCond .ne 7, 3) := by decide +kernel
theorem d12_8 : decode method_2_code 8 = .ok (.iload_n 0, 1) := by decide +kernel
theorem d12_9 : decode method_2_code 9 = .ok (.iconst 1, 1) := by decide +kernel
theorem d12_10 : decode method_2_code 10 = .ok (.if_icmp .ne 7, 3) := by decide +kernel
theorem d12_17 : decode method_2_code 17 = .ok (.iload_n 0, 1) := by decide +kernel
theorem d12_18 : decode method_2_code 18 = .ok (.iconst 2, 1) := by decide +kernel
theorem d12_19 : decode method_2_code 19 = .ok (.if_icmp .ne 7, 3) := by decide +kernel
theorem d12_22 : decode method_2_code 22 = .ok (.getstatic 16, 3) := by decide +kernel
theorem d12_25 : decode method_2_code 25 = .ok (.areturn, 1) := by decide +kernel
theorem ef_12 (mM : MethodId) (x0 : Int32) : entryFrame mM #[(.int x0)] 1 = mkF mM 0 #[.val (.int x0)] [] := by first | (simp [entryFrame, mkF, argsToLocals, Value.category]; done) | rfl
def Q12 (Z : State) (a_REQUEST : Addr) (a_INDICATION : Addr) (a_SUCCESS_RESPONSE : Addr) (a_ERROR_RESPONSE : Addr) (h0 : Heap) (n0 : Nat) (v : Option Value) (h : Heap) (L : List Loc) : Prop := v = some (.ref a_SUCCESS_RESPONSE) ∧ Fr n0 L ∧ h = h0
set_option maxRecDepth 65536 in
set_option maxHeartbeats 40000000 in
theorem rm12 (l : Launch) (Z : State) (a0 : Array Value) (hw : ∀ d ∈ tables_1, d.before a0 Z = true) (ws : List Jvm.Cond) (a_REQUEST : Addr) (a_INDICATION : Addr) (a_SUCCESS_RESPONSE : Addr) (a_ERROR_RESPONSE : Addr) (h0 : Heap) (n0 : Nat) (Z0 : n0 ≤ h0.size) (O : Old Z n0 h0) (S_REQUEST : Sta Z Z.heap "com/example/thawline/thawline/stun/StunClass" "REQUEST" "Lcom/example/thawline/thawline/stun/StunClass;" (.ref a_REQUEST)) (E_REQUEST : Exa Z Z.heap a_REQUEST "com/example/thawline/thawline/stun/StunClass") (S_INDICATION : Sta Z Z.heap "com/example/thawline/thawline/stun/StunClass" "INDICATION" "Lcom/example/thawline/thawline/stun/StunClass;" (.ref a_INDICATION)) (E_INDICATION : Exa Z Z.heap a_INDICATION "com/example/thawline/thawline/stun/StunClass") (S_SUCCESS_RESPONSE : Sta Z Z.heap "com/example/thawline/thawline/stun/StunClass" "SUCCESS_RESPONSE" "Lcom/example/thawline/thawline/stun/StunClass;" (.ref a_SUCCESS_RESPONSE)) (E_SUCCESS_RESPONSE : Exa Z Z.heap a_SUCCESS_RESPONSE "com/example/thawline/thawline/stun/StunClass") (S_ERROR_RESPONSE : Sta Z Z.heap "com/example/thawline/thawline/stun/StunClass" "ERROR_RESPONSE" "Lcom/example/thawline/thawline/stun/StunClass;" (.ref a_ERROR_RESPONSE)) (E_ERROR_RESPONSE : Exa Z Z.heap a_ERROR_RESPONSE "com/example/thawline/thawline/stun/StunClass") (F_REQUEST_ordinal : Fld Z Z.heap a_REQUEST "java/lang/Enum" "ordinal" "I" (.int (0 : Int32))) (F_SUCCESS_RESPONSE_ordinal : Fld Z Z.heap a_SUCCESS_RESPONSE "java/lang/Enum" "ordinal" "I" (.int (2 : Int32))) (F_ERROR_RESPONSE_ordinal : Fld Z Z.heap a_ERROR_RESPONSE "java/lang/Enum" "ordinal" "I" (.int (3 : Int32))) (F_REQUEST_bits : Fld Z Z.heap a_REQUEST "com/example/thawline/thawline/stun/StunClass" "bits" "I" (.int (0 : Int32))) (F_ERROR_RESPONSE_bits : Fld Z Z.heap a_ERROR_RESPONSE "com/example/thawline/thawline/stun/StunClass" "bits" "I" (.int (3 : Int32))) (F_SUCCESS_RESPONSE_bits : Fld Z Z.heap a_SUCCESS_RESPONSE "com/example/thawline/thawline/stun/StunClass" "bits" "I" (.int (2 : Int32))) (F_INDICATION_ordinal : Fld Z Z.heap a_INDICATION "java/lang/Enum" "ordinal" "I" (.int (1 : Int32))) (F_INDICATION_bits : Fld Z Z.heap a_INDICATION "com/example/thawline/thawline/stun/StunClass" "bits" "I" (.int (1 : Int32))) :
    MetFree l (⟨"com/example/thawline/thawline/stun/StunClassIsResponsePinLaw", "pick", "(I)Lcom/example/thawline/thawline/stun/StunClass;"⟩ : MethodName) (head1 (Jvm.Cond.code (⟨"com/example/thawline/thawline/stun/StunClassIsResponsePinLaw", "pick", "(I)Lcom/example/thawline/thawline/stun/StunClass;"⟩ : MethodName) method_2_code 1 (some (.object "com/example/thawline/thawline/stun/StunClass")) :: ws) ({ frames := 0, cells := 0, slots := 0, locals := 0 } : Room)) (fun aA uU => aA = #[(.int (2 : Int32))] ∧ Z.Warmed39 uU.vm ∧ uU.heap = h0) (fun _ _ _ _ _ => True) (fun _ uU oO uU' => ∃ vV lL, oO = .returned vV ∧ Q12 Z a_REQUEST a_INDICATION a_SUCCESS_RESPONSE a_ERROR_RESPONSE h0 n0 vV uU'.heap lL ∧ FrameEnd uU oO uU' lL ({ frames := 0, cells := 0, slots := 0, locals := 0 } : Room).cells ({ frames := 0, cells := 0, slots := 0, locals := 0 } : Room).slots) := by
  refine MetFree.of_bodySF (plainFor_of_name pn_0) hisR ?_
  intro pP eE sS mM args below meth cC s₁ Bd hml0 hP hK
  obtain ⟨rfl, hZ, hh⟩ := hP
  have hx := Bd.exec
  have hby := Bd.bytes
  have hml : cC.maxLocals = 1 := hml0
  have hown : sS.vm.findClass "com/example/thawline/thawline/stun/StunClassIsResponsePinLaw" = some mM.cls := findClass_of_methodNamed Bd.named
  have hnm := (name_of_methodNamed Bd.named Bd.method).1
  have X0 : Stand pP l eE ({ frames := 0, cells := 0, slots := 0, locals := 0 } : Room) sS mM #[(.int (2 : Int32))] below meth cC s₁ [] 0 0 := Stand.of_body Bd
  have e0 : s₁.heap = h0 := by rw [← hh, Bd.state]; rfl
  have N0 := Fr.nil n0
  have pre0 : ∀ tg, Steps pP.tables eE below (s₁.setTop (mkF mM 0 #[.val (.int (2 : Int32))] [])) tg → Steps pP.tables eE below (s₁.setTop (entryFrame mM #[(.int (2 : Int32))] 1)) tg := fun tg kg => castTop (ef_12 mM (2 : Int32)) kg
  have pr1 : ∀ tg, Steps pP.tables eE below (s₁.setTop (mkF mM 22 #[.val (.int (2 : Int32))] [])) tg → Steps pP.tables eE below (s₁.setTop (entryFrame mM #[(.int (2 : Int32))] 1)) tg := fun tg kg => pre0 _ (by
    show Steps pP.tables eE below (s₁.setTop (mkF mM 0 #[.val (.int (2 : Int32))] [])) _
    refine XS.iloadN X0.here hx rfl (hb hby d12_0) rfl ?_
    show Steps pP.tables eE below (s₁.setTop (mkF mM 1 #[.val (.int (2 : Int32))] [(.int (2 : Int32))])) _
    refine XS.ifYes X0.here hx rfl (pc0 := 1) (pc' := 8) rfl (hb hby d12_1) rfl ((if0 _ _).trans (feq (by decide)).2) (by decide) (by decide) ?_
    show Steps pP.tables eE below (s₁.setTop (mkF mM 8 #[.val (.int (2 : Int32))] [])) _
    refine XS.iloadN X0.here hx rfl (hb hby d12_8) rfl ?_
    show Steps pP.tables eE below (s₁.setTop (mkF mM 9 #[.val (.int (2 : Int32))] [(.int (2 : Int32))])) _
    refine XS.iconst X0.here hx rfl (hb hby d12_9) ?_
    show Steps pP.tables eE below (s₁.setTop (mkF mM 10 #[.val (.int (2 : Int32))] [(.int (1 : Int32)), (.int (2 : Int32))])) _
    refine XS.icmpYes X0.here hx rfl (pc0 := 10) (pc' := 17) rfl (hb hby d12_10) rfl (feq (by decide)).2 (by decide) (by decide) ?_
    show Steps pP.tables eE below (s₁.setTop (mkF mM 17 #[.val (.int (2 : Int32))] [])) _
    refine XS.iloadN X0.here hx rfl (hb hby d12_17) rfl ?_
    show Steps pP.tables eE below (s₁.setTop (mkF mM 18 #[.val (.int (2 : Int32))] [(.int (2 : Int32))])) _
    refine XS.iconst X0.here hx rfl (hb hby d12_18) ?_
    show Steps pP.tables eE below (s₁.setTop (mkF mM 19 #[.val (.int (2 : Int32))] [(.int (2 : Int32)), (.int (2 : Int32))])) _
    refine XS.icmpNo X0.here hx rfl (hb hby d12_19) rfl (teq (by decide)).2 ?_
    exact kg)
  obtain ⟨T2, X2, e2, st2⟩ := getS2 X0 hx hZ hown (host := "") (Or.inl (hw _ (List.mem_of_getElem? (i := 24) rfl))) Via.refl e0 (Sta.ext (O).2 S_SUCCESS_RESPONSE) (g := (mkF mM 22 #[.val (.int (2 : Int32))] [])) rfl (hb hby d12_22)
  have pr3 : ∀ tg, Steps pP.tables eE below (T2.setTop (mkF mM 25 #[.val (.int (2 : Int32))] [(.ref a_SUCCESS_RESPONSE)])) tg → Steps pP.tables eE below (s₁.setTop (entryFrame mM #[(.int (2 : Int32))] 1)) tg := fun tg kg => pr1 _ (st2 _ kg)
  obtain ⟨fs, hr, hrun, hended, hW, hsame⟩ := X2.leave (v := some (.ref a_SUCCESS_RESPONSE)) (fun h => by rw [Bd.returns] at h; cases h)
  refine ⟨_, _, pr3 _ (retOut X2 hx (t := (.object "com/example/thawline/thawline/stun/StunClass")) Bd.returns rfl (Or.inr (Or.inr (Or.inr (Or.inr ⟨rfl, rfl, rfl⟩)))) (hb hby d12_25) hr), hrun, hended, _, _, rfl, ?_, ⟨_, rfl⟩, hW, hsame.mono (by decide) (by decide)⟩
  show Q12 Z a_REQUEST a_INDICATION a_SUCCESS_RESPONSE a_ERROR_RESPONSE h0 n0 _ T2.heap _
  rw [e2]
  exact ⟨rfl, N0, rfl⟩
theorem d22_0 : decode prog_64_method_4_code 0 = .ok (.aload_n 0, 1) := by decide +kernel
theorem d22_1 : decode prog_64_method_4_code 1 = .ok (.getstatic 10, 3) := by decide +kernel
theorem d22_4 : decode prog_64_method_4_code 4 = .ok (.if_acmp .eq 10, 3) := by decide +kernel
theorem d22_14 : decode prog_64_method_4_code 14 = .ok (.iconst 1, 1) := by decide +kernel
theorem d22_15 : decode prog_64_method_4_code 15 = .ok (.goto 4, 3) := by decide +kernel
theorem d22_19 : decode prog_64_method_4_code 19 = .ok (.ireturn, 1) := by decide +kernel
theorem ef_22 (mM : MethodId) (x0 : Addr) : entryFrame mM #[(.ref x0)] 1 = mkF mM 0 #[.val (.ref x0)] [] := by first | (simp [entryFrame, mkF, argsToLocals, Value.category]; done) | rfl
def Q22 (Z : State) (a_REQUEST : Addr) (a_INDICATION : Addr) (a_SUCCESS_RESPONSE : Addr) (a_ERROR_RESPONSE : Addr) (h0 : Heap) (n0 : Nat) (v : Option Value) (h : Heap) (L : List Loc) : Prop := v = some (.int (1 : Int32)) ∧ Fr n0 L ∧ h = h0
set_option maxRecDepth 65536 in
set_option maxHeartbeats 40000000 in
theorem rm22 (l : Launch) (Z : State) (a0 : Array Value) (hw : ∀ d ∈ tables_1, d.before a0 Z = true) (ws : List Jvm.Cond) (a_REQUEST : Addr) (a_INDICATION : Addr) (a_SUCCESS_RESPONSE : Addr) (a_ERROR_RESPONSE : Addr) (h0 : Heap) (n0 : Nat) (Z0 : n0 ≤ h0.size) (O : Old Z n0 h0) (S_REQUEST : Sta Z Z.heap "com/example/thawline/thawline/stun/StunClass" "REQUEST" "Lcom/example/thawline/thawline/stun/StunClass;" (.ref a_REQUEST)) (E_REQUEST : Exa Z Z.heap a_REQUEST "com/example/thawline/thawline/stun/StunClass") (S_INDICATION : Sta Z Z.heap "com/example/thawline/thawline/stun/StunClass" "INDICATION" "Lcom/example/thawline/thawline/stun/StunClass;" (.ref a_INDICATION)) (E_INDICATION : Exa Z Z.heap a_INDICATION "com/example/thawline/thawline/stun/StunClass") (S_SUCCESS_RESPONSE : Sta Z Z.heap "com/example/thawline/thawline/stun/StunClass" "SUCCESS_RESPONSE" "Lcom/example/thawline/thawline/stun/StunClass;" (.ref a_SUCCESS_RESPONSE)) (E_SUCCESS_RESPONSE : Exa Z Z.heap a_SUCCESS_RESPONSE "com/example/thawline/thawline/stun/StunClass") (S_ERROR_RESPONSE : Sta Z Z.heap "com/example/thawline/thawline/stun/StunClass" "ERROR_RESPONSE" "Lcom/example/thawline/thawline/stun/StunClass;" (.ref a_ERROR_RESPONSE)) (E_ERROR_RESPONSE : Exa Z Z.heap a_ERROR_RESPONSE "com/example/thawline/thawline/stun/StunClass") (F_REQUEST_ordinal : Fld Z Z.heap a_REQUEST "java/lang/Enum" "ordinal" "I" (.int (0 : Int32))) (F_SUCCESS_RESPONSE_ordinal : Fld Z Z.heap a_SUCCESS_RESPONSE "java/lang/Enum" "ordinal" "I" (.int (2 : Int32))) (F_ERROR_RESPONSE_ordinal : Fld Z Z.heap a_ERROR_RESPONSE "java/lang/Enum" "ordinal" "I" (.int (3 : Int32))) (F_REQUEST_bits : Fld Z Z.heap a_REQUEST "com/example/thawline/thawline/stun/StunClass" "bits" "I" (.int (0 : Int32))) (F_ERROR_RESPONSE_bits : Fld Z Z.heap a_ERROR_RESPONSE "com/example/thawline/thawline/stun/StunClass" "bits" "I" (.int (3 : Int32))) (F_SUCCESS_RESPONSE_bits : Fld Z Z.heap a_SUCCESS_RESPONSE "com/example/thawline/thawline/stun/StunClass" "bits" "I" (.int (2 : Int32))) (F_INDICATION_ordinal : Fld Z Z.heap a_INDICATION "java/lang/Enum" "ordinal" "I" (.int (1 : Int32))) (F_INDICATION_bits : Fld Z Z.heap a_INDICATION "com/example/thawline/thawline/stun/StunClass" "bits" "I" (.int (1 : Int32))) :
    MetFree l (⟨"com/example/thawline/thawline/stun/StunClass", "isResponse", "()Z"⟩ : MethodName) (head1 (Jvm.Cond.code (⟨"com/example/thawline/thawline/stun/StunClass", "isResponse", "()Z"⟩ : MethodName) prog_64_method_4_code 1 (some .boolean) :: ws) ({ frames := 0, cells := 0, slots := 0, locals := 0 } : Room)) (fun aA uU => aA = #[(.ref a_SUCCESS_RESPONSE)] ∧ Z.Warmed39 uU.vm ∧ uU.heap = h0) (fun _ _ _ _ _ => True) (fun _ uU oO uU' => ∃ vV lL, oO = .returned vV ∧ Q22 Z a_REQUEST a_INDICATION a_SUCCESS_RESPONSE a_ERROR_RESPONSE h0 n0 vV uU'.heap lL ∧ FrameEnd uU oO uU' lL ({ frames := 0, cells := 0, slots := 0, locals := 0 } : Room).cells ({ frames := 0, cells := 0, slots := 0, locals := 0 } : Room).slots) := by
  refine MetFree.of_bodySF (plainFor_of_name pn_1) hisR ?_
  intro pP eE sS mM args below meth cC s₁ Bd hml0 hP hK
  obtain ⟨rfl, hZ, hh⟩ := hP
  have hx := Bd.exec
  have hby := Bd.bytes
  have hml : cC.maxLocals = 1 := hml0
  have hown : sS.vm.findClass "com/example/thawline/thawline/stun/StunClass" = some mM.cls := findClass_of_methodNamed Bd.named
  have hnm := (name_of_methodNamed Bd.named Bd.method).1
  have X0 : Stand pP l eE ({ frames := 0, cells := 0, slots := 0, locals := 0 } : Room) sS mM #[(.ref a_SUCCESS_RESPONSE)] below meth cC s₁ [] 0 0 := Stand.of_body Bd
  have e0 : s₁.heap = h0 := by rw [← hh, Bd.state]; rfl
  have N0 := Fr.nil n0
  have pre0 : ∀ tg, Steps pP.tables eE below (s₁.setTop (mkF mM 0 #[.val (.ref a_SUCCESS_RESPONSE)] [])) tg → Steps pP.tables eE below (s₁.setTop (entryFrame mM #[(.ref a_SUCCESS_RESPONSE)] 1)) tg := fun tg kg => castTop (ef_22 mM a_SUCCESS_RESPONSE) kg
  have pr1 : ∀ tg, Steps pP.tables eE below (s₁.setTop (mkF mM 1 #[.val (.ref a_SUCCESS_RESPONSE)] [(.ref a_SUCCESS_RESPONSE)])) tg → Steps pP.tables eE below (s₁.setTop (entryFrame mM #[(.ref a_SUCCESS_RESPONSE)] 1)) tg := fun tg kg => pre0 _ (by
    show Steps pP.tables eE below (s₁.setTop (mkF mM 0 #[.val (.ref a_SUCCESS_RESPONSE)] [])) _
    refine XS.aloadN X0.here hx rfl (hb hby d22_0) rfl rfl ?_
    exact kg)
  obtain ⟨T2, X2, e2, st2⟩ := getS2 X0 hx hZ hown (host := "") (Or.inl (hw _ (List.mem_of_getElem? (i := 12) rfl))) Via.refl e0 (Sta.ext (O).2 S_SUCCESS_RESPONSE) (g := (mkF mM 1 #[.val (.ref a_SUCCESS_RESPONSE)] [(.ref a_SUCCESS_RESPONSE)])) rfl (hb hby d22_1)
  have pr3 : ∀ tg, Steps pP.tables eE below (T2.setTop (mkF mM 4 #[.val (.ref a_SUCCESS_RESPONSE)] [(.ref a_SUCCESS_RESPONSE), (.ref a_SUCCESS_RESPONSE)])) tg → Steps pP.tables eE below (s₁.setTop (entryFrame mM #[(.ref a_SUCCESS_RESPONSE)] 1)) tg := fun tg kg => pr1 _ (st2 _ kg)
  have pr4 : ∀ tg, Steps pP.tables eE below (T2.setTop (mkF mM 19 #[.val (.ref a_SUCCESS_RESPONSE)] [(.int (1 : Int32))])) tg → Steps pP.tables eE below (s₁.setTop (entryFrame mM #[(.ref a_SUCCESS_RESPONSE)] 1)) tg := fun tg kg => pr3 _ (by
    show Steps pP.tables eE below (T2.setTop (mkF mM 4 #[.val (.ref a_SUCCESS_RESPONSE)] [(.ref a_SUCCESS_RESPONSE), (.ref a_SUCCESS_RESPONSE)])) _
    refine Jvm.RoadKit.acmp (g := (mkF mM 4 #[.val (.ref a_SUCCESS_RESPONSE)] [(.ref a_SUCCESS_RESPONSE), (.ref a_SUCCESS_RESPONSE)])) X2 hx rfl rfl rfl (pc0 := 4) (pc' := 14) (same := true) rfl (hb hby d22_4) rfl (decide_eq_true rfl) (by decide) (by decide) ?_
    show Steps pP.tables eE below (T2.setTop (mkF mM 14 #[.val (.ref a_SUCCESS_RESPONSE)] [])) _
    refine XS.iconst X2.here hx rfl (hb hby d22_14) ?_
    show Steps pP.tables eE below (T2.setTop (mkF mM 15 #[.val (.ref a_SUCCESS_RESPONSE)] [(.int (1 : Int32))])) _
    refine XS.goto X2.here hx rfl (pc0 := 15) (pc' := 19) rfl (hb hby d22_15) (by decide) (by decide) ?_
    exact kg)
  obtain ⟨fs, hr, hrun, hended, hW, hsame⟩ := X2.leave (v := some (.int (1 : Int32))) (fun h => by rw [Bd.returns] at h; cases h)
  refine ⟨_, _, pr4 _ (retOut X2 hx (t := .boolean) Bd.returns rfl (Or.inl ⟨rfl, Or.inr (Or.inl rfl), _, rfl⟩) (hb hby d22_19) hr), hrun, hended, _, _, rfl, ?_, ⟨_, rfl⟩, hW, hsame.mono (by decide) (by decide)⟩
  show Q22 Z a_REQUEST a_INDICATION a_SUCCESS_RESPONSE a_ERROR_RESPONSE h0 n0 _ T2.heap _
  rw [e2]
  exact ⟨rfl, N0, rfl⟩
theorem d32_0 : decode prog_64_method_5_code 0 = .ok (.aload_n 0, 1) := by decide +kernel
theorem d32_1 : decode prog_64_method_5_code 1 = .ok (.getfield 35, 3) := by decide +kernel
theorem d32_4 : decode prog_64_method_5_code 4 = .ok (.ireturn, 1) := by decide +kernel
theorem ef_32 (mM : MethodId) (x0 : Addr) : entryFrame mM #[(.ref x0)] 1 = mkF mM 0 #[.val (.ref x0)] [] := by first | (simp [entryFrame, mkF, argsToLocals, Value.category]; done) | rfl
def Q32 (Z : State) (a_REQUEST : Addr) (a_INDICATION : Addr) (a_SUCCESS_RESPONSE : Addr) (a_ERROR_RESPONSE : Addr) (h0 : Heap) (n0 : Nat) (v : Option Value) (h : Heap) (L : List Loc) : Prop := v = some (.int (2 : Int32)) ∧ Fr n0 L ∧ h = h0
set_option maxRecDepth 65536 in
set_option maxHeartbeats 40000000 in
theorem rm32 (l : Launch) (Z : State) (a0 : Array Value) (hw : ∀ d ∈ tables_1, d.before a0 Z = true) (ws : List Jvm.Cond) (a_REQUEST : Addr) (a_INDICATION : Addr) (a_SUCCESS_RESPONSE : Addr) (a_ERROR_RESPONSE : Addr) (h0 : Heap) (n0 : Nat) (Z0 : n0 ≤ h0.size) (O : Old Z n0 h0) (S_REQUEST : Sta Z Z.heap "com/example/thawline/thawline/stun/StunClass" "REQUEST" "Lcom/example/thawline/thawline/stun/StunClass;" (.ref a_REQUEST)) (E_REQUEST : Exa Z Z.heap a_REQUEST "com/example/thawline/thawline/stun/StunClass") (S_INDICATION : Sta Z Z.heap "com/example/thawline/thawline/stun/StunClass" "INDICATION" "Lcom/example/thawline/thawline/stun/StunClass;" (.ref a_INDICATION)) (E_INDICATION : Exa Z Z.heap a_INDICATION "com/example/thawline/thawline/stun/StunClass") (S_SUCCESS_RESPONSE : Sta Z Z.heap "com/example/thawline/thawline/stun/StunClass" "SUCCESS_RESPONSE" "Lcom/example/thawline/thawline/stun/StunClass;" (.ref a_SUCCESS_RESPONSE)) (E_SUCCESS_RESPONSE : Exa Z Z.heap a_SUCCESS_RESPONSE "com/example/thawline/thawline/stun/StunClass") (S_ERROR_RESPONSE : Sta Z Z.heap "com/example/thawline/thawline/stun/StunClass" "ERROR_RESPONSE" "Lcom/example/thawline/thawline/stun/StunClass;" (.ref a_ERROR_RESPONSE)) (E_ERROR_RESPONSE : Exa Z Z.heap a_ERROR_RESPONSE "com/example/thawline/thawline/stun/StunClass") (F_REQUEST_ordinal : Fld Z Z.heap a_REQUEST "java/lang/Enum" "ordinal" "I" (.int (0 : Int32))) (F_SUCCESS_RESPONSE_ordinal : Fld Z Z.heap a_SUCCESS_RESPONSE "java/lang/Enum" "ordinal" "I" (.int (2 : Int32))) (F_ERROR_RESPONSE_ordinal : Fld Z Z.heap a_ERROR_RESPONSE "java/lang/Enum" "ordinal" "I" (.int (3 : Int32))) (F_REQUEST_bits : Fld Z Z.heap a_REQUEST "com/example/thawline/thawline/stun/StunClass" "bits" "I" (.int (0 : Int32))) (F_ERROR_RESPONSE_bits : Fld Z Z.heap a_ERROR_RESPONSE "com/example/thawline/thawline/stun/StunClass" "bits" "I" (.int (3 : Int32))) (F_SUCCESS_RESPONSE_bits : Fld Z Z.heap a_SUCCESS_RESPONSE "com/example/thawline/thawline/stun/StunClass" "bits" "I" (.int (2 : Int32))) (F_INDICATION_ordinal : Fld Z Z.heap a_INDICATION "java/lang/Enum" "ordinal" "I" (.int (1 : Int32))) (F_INDICATION_bits : Fld Z Z.heap a_INDICATION "com/example/thawline/thawline/stun/StunClass" "bits" "I" (.int (1 : Int32))) :
    MetFree l (⟨"com/example/thawline/thawline/stun/StunClass", "bits", "()I"⟩ : MethodName) (head1 (Jvm.Cond.code (⟨"com/example/thawline/thawline/stun/StunClass", "bits", "()I"⟩ : MethodName) prog_64_method_5_code 1 (some .int) :: ws) ({ frames := 0, cells := 0, slots := 0, locals := 0 } : Room)) (fun aA uU => aA = #[(.ref a_SUCCESS_RESPONSE)] ∧ Z.Warmed39 uU.vm ∧ uU.heap = h0) (fun _ _ _ _ _ => True) (fun _ uU oO uU' => ∃ vV lL, oO = .returned vV ∧ Q32 Z a_REQUEST a_INDICATION a_SUCCESS_RESPONSE a_ERROR_RESPONSE h0 n0 vV uU'.heap lL ∧ FrameEnd uU oO uU' lL ({ frames := 0, cells := 0, slots := 0, locals := 0 } : Room).cells ({ frames := 0, cells := 0, slots := 0, locals := 0 } : Room).slots) := by
  refine MetFree.of_bodySF (plainFor_of_name pn_1) hisR ?_
  intro pP eE sS mM args below meth cC s₁ Bd hml0 hP hK
  obtain ⟨rfl, hZ, hh⟩ := hP
  have hx := Bd.exec
  have hby := Bd.bytes
  have hml : cC.maxLocals = 1 := hml0
  have hown : sS.vm.findClass "com/example/thawline/thawline/stun/StunClass" = some mM.cls := findClass_of_methodNamed Bd.named
  have hnm := (name_of_methodNamed Bd.named Bd.method).1
  have X0 : Stand pP l eE ({ frames := 0, cells := 0, slots := 0, locals := 0 } : Room) sS mM #[(.ref a_SUCCESS_RESPONSE)] below meth cC s₁ [] 0 0 := Stand.of_body Bd
  have e0 : s₁.heap = h0 := by rw [← hh, Bd.state]; rfl
  have N0 := Fr.nil n0
  have pre0 : ∀ tg, Steps pP.tables eE below (s₁.setTop (mkF mM 0 #[.val (.ref a_SUCCESS_RESPONSE)] [])) tg → Steps pP.tables eE below (s₁.setTop (entryFrame mM #[(.ref a_SUCCESS_RESPONSE)] 1)) tg := fun tg kg => castTop (ef_32 mM a_SUCCESS_RESPONSE) kg
  have pr1 : ∀ tg, Steps pP.tables eE below (s₁.setTop (mkF mM 1 #[.val (.ref a_SUCCESS_RESPONSE)] [(.ref a_SUCCESS_RESPONSE)])) tg → Steps pP.tables eE below (s₁.setTop (entryFrame mM #[(.ref a_SUCCESS_RESPONSE)] 1)) tg := fun tg kg => pre0 _ (by
    show Steps pP.tables eE below (s₁.setTop (mkF mM 0 #[.val (.ref a_SUCCESS_RESPONSE)] [])) _
    refine XS.aloadN X0.here hx rfl (hb hby d32_0) rfl rfl ?_
    exact kg)
  obtain ⟨T2, X2, e2, st2⟩ := getF X0 hx hZ hown (host := "") (Or.inl (hw _ (List.mem_of_getElem? (i := 21) rfl))) Via.refl e0 (Fld.ext (O).2 F_SUCCESS_RESPONSE_bits) (g := (mkF mM 1 #[.val (.ref a_SUCCESS_RESPONSE)] [(.ref a_SUCCESS_RESPONSE)])) rfl rfl (hb hby d32_1)
  have pr3 : ∀ tg, Steps pP.tables eE below (T2.setTop (mkF mM 4 #[.val (.ref a_SUCCESS_RESPONSE)] [(.int (2 : Int32))])) tg → Steps pP.tables eE below (s₁.setTop (entryFrame mM #[(.ref a_SUCCESS_RESPONSE)] 1)) tg := fun tg kg => pr1 _ (st2 _ kg)
  obtain ⟨fs, hr, hrun, hended, hW, hsame⟩ := X2.leave (v := some (.int (2 : Int32))) (fun h => by rw [Bd.returns] at h; cases h)
  refine ⟨_, _, pr3 _ (retOut X2 hx (t := .int) Bd.returns rfl (Or.inl ⟨rfl, Or.inl rfl, _, rfl⟩) (hb hby d32_4) hr), hrun, hended, _, _, rfl, ?_, ⟨_, rfl⟩, hW, hsame.mono (by decide) (by decide)⟩
  show Q32 Z a_REQUEST a_INDICATION a_SUCCESS_RESPONSE a_ERROR_RESPONSE h0 n0 _ T2.heap _
  rw [e2]
  exact ⟨rfl, N0, rfl⟩
theorem d13_0 : decode method_2_code 0 = .ok (.iload_n 0, 1) := by decide +kernel
theorem d13_1 : decode method_2_code 1 = .ok (.ifCond .ne 7, 3) := by decide +kernel
theorem d13_8 : decode method_2_code 8 = .ok (.iload_n 0, 1) := by decide +kernel
theorem d13_9 : decode method_2_code 9 = .ok (.iconst 1, 1) := by decide +kernel
theorem d13_10 : decode method_2_code 10 = .ok (.if_icmp .ne 7, 3) := by decide +kernel
theorem d13_17 : decode method_2_code 17 = .ok (.iload_n 0, 1) := by decide +kernel
theorem d13_18 : decode method_2_code 18 = .ok (.iconst 2, 1) := by decide +kernel
theorem d13_19 : decode method_2_code 19 = .ok (.if_icmp .ne 7, 3) := by decide +kernel
theorem d13_26 : decode method_2_code 26 = .ok (.getstatic 19, 3) := by decide +kernel
theorem d13_29 : decode method_2_code 29 = .ok (.areturn, 1) := by decide +kernel
theorem ef_13 (mM : MethodId) (x0 : Int32) : entryFrame mM #[(.int x0)] 1 = mkF mM 0 #[.val (.int x0)] [] := by first | (simp [entryFrame, mkF, argsToLocals, Value.category]; done) | rfl
def Q13 (Z : State) (a_REQUEST : Addr) (a_INDICATION : Addr) (a_SUCCESS_RESPONSE : Addr) (a_ERROR_RESPONSE : Addr) (h0 : Heap) (n0 : Nat) (v : Option Value) (h : Heap) (L : List Loc) : Prop := v = some (.ref a_ERROR_RESPONSE) ∧ Fr n0 L ∧ h = h0
set_option maxRecDepth 65536 in
set_option maxHeartbeats 40000000 in
theorem rm13 (l : Launch) (Z : State) (a0 : Array Value) (hw : ∀ d ∈ tables_1, d.before a0 Z = true) (ws : List Jvm.Cond) (a_REQUEST : Addr) (a_INDICATION : Addr) (a_SUCCESS_RESPONSE : Addr) (a_ERROR_RESPONSE : Addr) (h0 : Heap) (n0 : Nat) (Z0 : n0 ≤ h0.size) (O : Old Z n0 h0) (S_REQUEST : Sta Z Z.heap "com/example/thawline/thawline/stun/StunClass" "REQUEST" "Lcom/example/thawline/thawline/stun/StunClass;" (.ref a_REQUEST)) (E_REQUEST : Exa Z Z.heap a_REQUEST "com/example/thawline/thawline/stun/StunClass") (S_INDICATION : Sta Z Z.heap "com/example/thawline/thawline/stun/StunClass" "INDICATION" "Lcom/example/thawline/thawline/stun/StunClass;" (.ref a_INDICATION)) (E_INDICATION : Exa Z Z.heap a_INDICATION "com/example/thawline/thawline/stun/StunClass") (S_SUCCESS_RESPONSE : Sta Z Z.heap "com/example/thawline/thawline/stun/StunClass" "SUCCESS_RESPONSE" "Lcom/example/thawline/thawline/stun/StunClass;" (.ref a_SUCCESS_RESPONSE)) (E_SUCCESS_RESPONSE : Exa Z Z.heap a_SUCCESS_RESPONSE "com/example/thawline/thawline/stun/StunClass") (S_ERROR_RESPONSE : Sta Z Z.heap "com/example/thawline/thawline/stun/StunClass" "ERROR_RESPONSE" "Lcom/example/thawline/thawline/stun/StunClass;" (.ref a_ERROR_RESPONSE)) (E_ERROR_RESPONSE : Exa Z Z.heap a_ERROR_RESPONSE "com/example/thawline/thawline/stun/StunClass") (F_REQUEST_ordinal : Fld Z Z.heap a_REQUEST "java/lang/Enum" "ordinal" "I" (.int (0 : Int32))) (F_SUCCESS_RESPONSE_ordinal : Fld Z Z.heap a_SUCCESS_RESPONSE "java/lang/Enum" "ordinal" "I" (.int (2 : Int32))) (F_ERROR_RESPONSE_ordinal : Fld Z Z.heap a_ERROR_RESPONSE "java/lang/Enum" "ordinal" "I" (.int (3 : Int32))) (F_REQUEST_bits : Fld Z Z.heap a_REQUEST "com/example/thawline/thawline/stun/StunClass" "bits" "I" (.int (0 : Int32))) (F_ERROR_RESPONSE_bits : Fld Z Z.heap a_ERROR_RESPONSE "com/example/thawline/thawline/stun/StunClass" "bits" "I" (.int (3 : Int32))) (F_SUCCESS_RESPONSE_bits : Fld Z Z.heap a_SUCCESS_RESPONSE "com/example/thawline/thawline/stun/StunClass" "bits" "I" (.int (2 : Int32))) (F_INDICATION_ordinal : Fld Z Z.heap a_INDICATION "java/lang/Enum" "ordinal" "I" (.int (1 : Int32))) (F_INDICATION_bits : Fld Z Z.heap a_INDICATION "com/example/thawline/thawline/stun/StunClass" "bits" "I" (.int (1 : Int32))) :
    MetFree l (⟨"com/example/thawline/thawline/stun/StunClassIsResponsePinLaw", "pick", "(I)Lcom/example/thawline/thawline/stun/StunClass;"⟩ : MethodName) (head1 (Jvm.Cond.code (⟨"com/example/thawline/thawline/stun/StunClassIsResponsePinLaw", "pick", "(I)Lcom/example/thawline/thawline/stun/StunClass;"⟩ : MethodName) method_2_code 1 (some (.object "com/example/thawline/thawline/stun/StunClass")) :: ws) ({ frames := 0, cells := 0, slots := 0, locals := 0 } : Room)) (fun aA uU => aA = #[(.int (3 : Int32))] ∧ Z.Warmed39 uU.vm ∧ uU.heap = h0) (fun _ _ _ _ _ => True) (fun _ uU oO uU' => ∃ vV lL, oO = .returned vV ∧ Q13 Z a_REQUEST a_INDICATION a_SUCCESS_RESPONSE a_ERROR_RESPONSE h0 n0 vV uU'.heap lL ∧ FrameEnd uU oO uU' lL ({ frames := 0, cells := 0, slots := 0, locals := 0 } : Room).cells ({ frames := 0, cells := 0, slots := 0, locals := 0 } : Room).slots) := by
  refine MetFree.of_bodySF (plainFor_of_name pn_0) hisR ?_
  intro pP eE sS mM args below meth cC s₁ Bd hml0 hP hK
  obtain ⟨rfl, hZ, hh⟩ := hP
  have hx := Bd.exec
  have hby := Bd.bytes
  have hml : cC.maxLocals = 1 := hml0
  have hown : sS.vm.findClass "com/example/thawline/thawline/stun/StunClassIsResponsePinLaw" = some mM.cls := findClass_of_methodNamed Bd.named
  have hnm := (name_of_methodNamed Bd.named Bd.method).1
  have X0 : Stand pP l eE ({ frames := 0, cells := 0, slots := 0, locals := 0 } : Room) sS mM #[(.int (3 : Int32))] below meth cC s₁ [] 0 0 := Stand.of_body Bd
  have e0 : s₁.heap = h0 := by rw [← hh, Bd.state]; rfl
  have N0 := Fr.nil n0
  have pre0 : ∀ tg, Steps pP.tables eE below (s₁.setTop (mkF mM 0 #[.val (.int (3 : Int32))] [])) tg → Steps pP.tables eE below (s₁.setTop (entryFrame mM #[(.int (3 : Int32))] 1)) tg := fun tg kg => castTop (ef_13 mM (3 : Int32)) kg
  have pr1 : ∀ tg, Steps pP.tables eE below (s₁.setTop (mkF mM 26 #[.val (.int (3 : Int32))] [])) tg → Steps pP.tables eE below (s₁.setTop (entryFrame mM #[(.int (3 : Int32))] 1)) tg := fun tg kg => pre0 _ (by
    show Steps pP.tables eE below (s₁.setTop (mkF mM 0 #[.val (.int (3 : Int32))] [])) _
    refine XS.iloadN X0.here hx rfl (hb hby d13_0) rfl ?_
    show Steps pP.tables eE below (s₁.setTop (mkF mM 1 #[.val (.int (3 : Int32))] [(.int (3 : Int32))])) _
    refine XS.ifYes X0.here hx rfl (pc0 := 1) (pc' := 8) rfl (hb hby d13_1) rfl ((if0 _ _).trans (feq (by decide)).2) (by decide) (by decide) ?_
    show Steps pP.tables eE below (s₁.setTop (mkF mM 8 #[.val (.int (3 : Int32))] [])) _
    refine XS.iloadN X0.here hx rfl (hb hby d13_8) rfl ?_
    show Steps pP.tables eE below (s₁.setTop (mkF mM 9 #[.val (.int (3 : Int32))] [(.int (3 : Int32))])) _
    refine XS.iconst X0.here hx rfl (hb hby d13_9) ?_
    show Steps pP.tables eE below (s₁.setTop (mkF mM 10 #[.val (.int (3 : Int32))] [(.int (1 : Int32)), (.int (3 : Int32))])) _
    refine XS.icmpYes X0.here hx rfl (pc0 := 10) (pc' := 17) rfl (hb hby d13_10) rfl (feq (by decide)).2 (by decide) (by decide) ?_
    show Steps pP.tables eE below (s₁.setTop (mkF mM 17 #[.val (.int (3 : Int32))] [])) _
    refine XS.iloadN X0.here hx rfl (hb hby d13_17) rfl ?_
    show Steps pP.tables eE below (s₁.setTop (mkF mM 18 #[.val (.int (3 : Int32))] [(.int (3 : Int32))])) _
    refine XS.iconst X0.here hx rfl (hb hby d13_18) ?_
    show Steps pP.tables eE below (s₁.setTop (mkF mM 19 #[.val (.int (3 : Int32))] [(.int (2 : Int32)), (.int (3 : Int32))])) _
    refine XS.icmpYes X0.here hx rfl (pc0 := 19) (pc' := 26) rfl (hb hby d13_19) rfl (feq (by decide)).2 (by decide) (by decide) ?_
    exact kg)
  obtain ⟨T2, X2, e2, st2⟩ := getS2 X0 hx hZ hown (host := "") (Or.inl (hw _ (List.mem_of_getElem? (i := 23) rfl))) Via.refl e0 (Sta.ext (O).2 S_ERROR_RESPONSE) (g := (mkF mM 26 #[.val (.int (3 : Int32))] [])) rfl (hb hby d13_26)
  have pr3 : ∀ tg, Steps pP.tables eE below (T2.setTop (mkF mM 29 #[.val (.int (3 : Int32))] [(.ref a_ERROR_RESPONSE)])) tg → Steps pP.tables eE below (s₁.setTop (entryFrame mM #[(.int (3 : Int32))] 1)) tg := fun tg kg => pr1 _ (st2 _ kg)
  obtain ⟨fs, hr, hrun, hended, hW, hsame⟩ := X2.leave (v := some (.ref a_ERROR_RESPONSE)) (fun h => by rw [Bd.returns] at h; cases h)
  refine ⟨_, _, pr3 _ (retOut X2 hx (t := (.object "com/example/thawline/thawline/stun/StunClass")) Bd.returns rfl (Or.inr (Or.inr (Or.inr (Or.inr ⟨rfl, rfl, rfl⟩)))) (hb hby d13_29) hr), hrun, hended, _, _, rfl, ?_, ⟨_, rfl⟩, hW, hsame.mono (by decide) (by decide)⟩
  show Q13 Z a_REQUEST a_INDICATION a_SUCCESS_RESPONSE a_ERROR_RESPONSE h0 n0 _ T2.heap _
  rw [e2]
  exact ⟨rfl, N0, rfl⟩
theorem d23_0 : decode prog_64_method_4_code 0 = .ok (.aload_n 0, 1) := by decide +kernel
theorem d23_1 : decode prog_64_method_4_code 1 = .ok (.getstatic 10, 3) := by decide +kernel
theorem d23_4 : decode prog_64_method_4_code 4 = .ok (.if_acmp .eq 10, 3) := by decide +kernel
theorem d23_7 : decode prog_64_method_4_code 7 = .ok (.aload_n 0, 1) := by decide +kernel
theorem d23_8 : decode prog_64_method_4_code 8 = .ok (.getstatic 13, 3) := by decide +kernel
theorem d23_11 : decode prog_64_method_4_code 11 = .ok (.if_acmp .ne 7, 3) := by decide +kernel
theorem d23_14 : decode prog_64_method_4_code 14 = .ok (.iconst 1, 1) := by decide +kernel
theorem d23_15 : decode prog_64_method_4_code 15 = .ok (.goto 4, 3) := by decide +kernel
theorem d23_19 : decode prog_64_method_4_code 19 = .ok (.ireturn, 1) := by decide +kernel
theorem ef_23 (mM : MethodId) (x0 : Addr) : entryFrame mM #[(.ref x0)] 1 = mkF mM 0 #[.val (.ref x0)] [] := by first | (simp [entryFrame, mkF, argsToLocals, Value.category]; done) | rfl
def Q23 (Z : State) (a_REQUEST : Addr) (a_INDICATION : Addr) (a_SUCCESS_RESPONSE : Addr) (a_ERROR_RESPONSE : Addr) (h0 : Heap) (n0 : Nat) (v : Option Value) (h : Heap) (L : List Loc) : Prop := v = some (.int (1 : Int32)) ∧ Fr n0 L ∧ h = h0
set_option maxRecDepth 65536 in
set_option maxHeartbeats 40000000 in
theorem rm23 (l : Launch) (Z : State) (a0 : Array Value) (hw : ∀ d ∈ tables_1, d.before a0 Z = true) (ws : List Jvm.Cond) (a_REQUEST : Addr) (a_INDICATION : Addr) (a_SUCCESS_RESPONSE : Addr) (a_ERROR_RESPONSE : Addr) (h0 : Heap) (n0 : Nat) (Z0 : n0 ≤ h0.size) (O : Old Z n0 h0) (S_REQUEST : Sta Z Z.heap "com/example/thawline/thawline/stun/StunClass" "REQUEST" "Lcom/example/thawline/thawline/stun/StunClass;" (.ref a_REQUEST)) (E_REQUEST : Exa Z Z.heap a_REQUEST "com/example/thawline/thawline/stun/StunClass") (S_INDICATION : Sta Z Z.heap "com/example/thawline/thawline/stun/StunClass" "INDICATION" "Lcom/example/thawline/thawline/stun/StunClass;" (.ref a_INDICATION)) (E_INDICATION : Exa Z Z.heap a_INDICATION "com/example/thawline/thawline/stun/StunClass") (S_SUCCESS_RESPONSE : Sta Z Z.heap "com/example/thawline/thawline/stun/StunClass" "SUCCESS_RESPONSE" "Lcom/example/thawline/thawline/stun/StunClass;" (.ref a_SUCCESS_RESPONSE)) (E_SUCCESS_RESPONSE : Exa Z Z.heap a_SUCCESS_RESPONSE "com/example/thawline/thawline/stun/StunClass") (S_ERROR_RESPONSE : Sta Z Z.heap "com/example/thawline/thawline/stun/StunClass" "ERROR_RESPONSE" "Lcom/example/thawline/thawline/stun/StunClass;" (.ref a_ERROR_RESPONSE)) (E_ERROR_RESPONSE : Exa Z Z.heap a_ERROR_RESPONSE "com/example/thawline/thawline/stun/StunClass") (F_REQUEST_ordinal : Fld Z Z.heap a_REQUEST "java/lang/Enum" "ordinal" "I" (.int (0 : Int32))) (F_SUCCESS_RESPONSE_ordinal : Fld Z Z.heap a_SUCCESS_RESPONSE "java/lang/Enum" "ordinal" "I" (.int (2 : Int32))) (F_ERROR_RESPONSE_ordinal : Fld Z Z.heap a_ERROR_RESPONSE "java/lang/Enum" "ordinal" "I" (.int (3 : Int32))) (F_REQUEST_bits : Fld Z Z.heap a_REQUEST "com/example/thawline/thawline/stun/StunClass" "bits" "I" (.int (0 : Int32))) (F_ERROR_RESPONSE_bits : Fld Z Z.heap a_ERROR_RESPONSE "com/example/thawline/thawline/stun/StunClass" "bits" "I" (.int (3 : Int32))) (F_SUCCESS_RESPONSE_bits : Fld Z Z.heap a_SUCCESS_RESPONSE "com/example/thawline/thawline/stun/StunClass" "bits" "I" (.int (2 : Int32))) (F_INDICATION_ordinal : Fld Z Z.heap a_INDICATION "java/lang/Enum" "ordinal" "I" (.int (1 : Int32))) (F_INDICATION_bits : Fld Z Z.heap a_INDICATION "com/example/thawline/thawline/stun/StunClass" "bits" "I" (.int (1 : Int32))) :
    MetFree l (⟨"com/example/thawline/thawline/stun/StunClass", "isResponse", "()Z"⟩ : MethodName) (head1 (Jvm.Cond.code (⟨"com/example/thawline/thawline/stun/StunClass", "isResponse", "()Z"⟩ : MethodName) prog_64_method_4_code 1 (some .boolean) :: ws) ({ frames := 0, cells := 0, slots := 0, locals := 0 } : Room)) (fun aA uU => aA = #[(.ref a_ERROR_RESPONSE)] ∧ Z.Warmed39 uU.vm ∧ uU.heap = h0) (fun _ _ _ _ _ => True) (fun _ uU oO uU' => ∃ vV lL, oO = .returned vV ∧ Q23 Z a_REQUEST a_INDICATION a_SUCCESS_RESPONSE a_ERROR_RESPONSE h0 n0 vV uU'.heap lL ∧ FrameEnd uU oO uU' lL ({ frames := 0, cells := 0, slots := 0, locals := 0 } : Room).cells ({ frames := 0, cells := 0, slots := 0, locals := 0 } : Room).slots) := by
  refine MetFree.of_bodySF (plainFor_of_name pn_1) hisR ?_
  intro pP eE sS mM args below meth cC s₁ Bd hml0 hP hK
  obtain ⟨rfl, hZ, hh⟩ := hP
  have hx := Bd.exec
  have hby := Bd.bytes
  have hml : cC.maxLocals = 1 := hml0
  have hown : sS.vm.findClass "com/example/thawline/thawline/stun/StunClass" = some mM.cls := findClass_of_methodNamed Bd.named
  have hnm := (name_of_methodNamed Bd.named Bd.method).1
  have X0 : Stand pP l eE ({ frames := 0, cells := 0, slots := 0, locals := 0 } : Room) sS mM #[(.ref a_ERROR_RESPONSE)] below meth cC s₁ [] 0 0 := Stand.of_body Bd
  have e0 : s₁.heap = h0 := by rw [← hh, Bd.state]; rfl
  have N0 := Fr.nil n0
  have pre0 : ∀ tg, Steps pP.tables eE below (s₁.setTop (mkF mM 0 #[.val (.ref a_ERROR_RESPONSE)] [])) tg → Steps pP.tables eE below (s₁.setTop (entryFrame mM #[(.ref a_ERROR_RESPONSE)] 1)) tg := fun tg kg => castTop (ef_23 mM a_ERROR_RESPONSE) kg
  have pr1 : ∀ tg, Steps pP.tables eE below (s₁.setTop (mkF mM 1 #[.val (.ref a_ERROR_RESPONSE)] [(.ref a_ERROR_RESPONSE)])) tg → Steps pP.tables eE below (s₁.setTop (entryFrame mM #[(.ref a_ERROR_RESPONSE)] 1)) tg := fun tg kg => pre0 _ (by
    show Steps pP.tables eE below (s₁.setTop (mkF mM 0 #[.val (.ref a_ERROR_RESPONSE)] [])) _
    refine XS.aloadN X0.here hx rfl (hb hby d23_0) rfl rfl ?_
    exact kg)
  obtain ⟨T2, X2, e2, st2⟩ := getS2 X0 hx hZ hown (host := "") (Or.inl (hw _ (List.mem_of_getElem? (i := 12) rfl))) Via.refl e0 (Sta.ext (O).2 S_SUCCESS_RESPONSE) (g := (mkF mM 1 #[.val (.ref a_ERROR_RESPONSE)] [(.ref a_ERROR_RESPONSE)])) rfl (hb hby d23_1)
  have pr3 : ∀ tg, Steps pP.tables eE below (T2.setTop (mkF mM 4 #[.val (.ref a_ERROR_RESPONSE)] [(.ref a_SUCCESS_RESPONSE), (.ref a_ERROR_RESPONSE)])) tg → Steps pP.tables eE below (s₁.setTop (entryFrame mM #[(.ref a_ERROR_RESPONSE)] 1)) tg := fun tg kg => pr1 _ (st2 _ kg)
  have pr4 : ∀ tg, Steps pP.tables eE below (T2.setTop (mkF mM 8 #[.val (.ref a_ERROR_RESPONSE)] [(.ref a_ERROR_RESPONSE)])) tg → Steps pP.tables eE below (s₁.setTop (entryFrame mM #[(.ref a_ERROR_RESPONSE)] 1)) tg := fun tg kg => pr3 _ (by
    show Steps pP.tables eE below (T2.setTop (mkF mM 4 #[.val (.ref a_ERROR_RESPONSE)] [(.ref a_SUCCESS_RESPONSE), (.ref a_ERROR_RESPONSE)])) _
    refine Jvm.RoadKit.acmp (g := (mkF mM 4 #[.val (.ref a_ERROR_RESPONSE)] [(.ref a_SUCCESS_RESPONSE), (.ref a_ERROR_RESPONSE)])) X2 hx rfl rfl rfl (pc0 := 4) (pc' := 7) (same := false) rfl (hb hby d23_4) rfl (decide_eq_false fun q => (Fld.ne F_ERROR_RESPONSE_ordinal F_SUCCESS_RESPONSE_ordinal (by decide)) (Value.ref.inj q)) (by decide) (by decide) ?_
    show Steps pP.tables eE below (T2.setTop (mkF mM 7 #[.val (.ref a_ERROR_RESPONSE)] [])) _
    refine XS.aloadN X2.here hx rfl (hb hby d23_7) rfl rfl ?_
    exact kg)
  obtain ⟨T5, X5, e5, st5⟩ := getS2 X2 hx hZ hown (host := "") (Or.inl (hw _ (List.mem_of_getElem? (i := 14) rfl))) Via.refl e2 (Sta.ext (O).2 S_ERROR_RESPONSE) (g := (mkF mM 8 #[.val (.ref a_ERROR_RESPONSE)] [(.ref a_ERROR_RESPONSE)])) rfl (hb hby d23_8)
  have pr6 : ∀ tg, Steps pP.tables eE below (T5.setTop (mkF mM 11 #[.val (.ref a_ERROR_RESPONSE)] [(.ref a_ERROR_RESPONSE), (.ref a_ERROR_RESPONSE)])) tg → Steps pP.tables eE below (s₁.setTop (entryFrame mM #[(.ref a_ERROR_RESPONSE)] 1)) tg := fun tg kg => pr4 _ (st5 _ kg)
  have pr7 : ∀ tg, Steps pP.tables eE below (T5.setTop (mkF mM 19 #[.val (.ref a_ERROR_RESPONSE)] [(.int (1 : Int32))])) tg → Steps pP.tables eE below (s₁.setTop (entryFrame mM #[(.ref a_ERROR_RESPONSE)] 1)) tg := fun tg kg => pr6 _ (by
    show Steps pP.tables eE below (T5.setTop (mkF mM 11 #[.val (.ref a_ERROR_RESPONSE)] [(.ref a_ERROR_RESPONSE), (.ref a_ERROR_RESPONSE)])) _
    refine Jvm.RoadKit.acmp (g := (mkF mM 11 #[.val (.ref a_ERROR_RESPONSE)] [(.ref a_ERROR_RESPONSE), (.ref a_ERROR_RESPONSE)])) X5 hx rfl rfl rfl (pc0 := 11) (pc' := 14) (same := true) rfl (hb hby d23_11) rfl (decide_eq_true rfl) (by decide) (by decide) ?_
    show Steps pP.tables eE below (T5.setTop (mkF mM 14 #[.val (.ref a_ERROR_RESPONSE)] [])) _
    refine XS.iconst X5.here hx rfl (hb hby d23_14) ?_
    show Steps pP.tables eE below (T5.setTop (mkF mM 15 #[.val (.ref a_ERROR_RESPONSE)] [(.int (1 : Int32))])) _
    refine XS.goto X5.here hx rfl (pc0 := 15) (pc' := 19) rfl (hb hby d23_15) (by decide) (by decide) ?_
    exact kg)
  obtain ⟨fs, hr, hrun, hended, hW, hsame⟩ := X5.leave (v := some (.int (1 : Int32))) (fun h => by rw [Bd.returns] at h; cases h)
  refine ⟨_, _, pr7 _ (retOut X5 hx (t := .boolean) Bd.returns rfl (Or.inl ⟨rfl, Or.inr (Or.inl rfl), _, rfl⟩) (hb hby d23_19) hr), hrun, hended, _, _, rfl, ?_, ⟨_, rfl⟩, hW, hsame.mono (by decide) (by decide)⟩
  show Q23 Z a_REQUEST a_INDICATION a_SUCCESS_RESPONSE a_ERROR_RESPONSE h0 n0 _ T5.heap _
  rw [e5]
  exact ⟨rfl, N0, rfl⟩
theorem d33_0 : decode prog_64_method_5_code 0 = .ok (.aload_n 0, 1) := by decide +kernel
theorem d33_1 : decode prog_64_method_5_code 1 = .ok (.getfield 35, 3) := by decide +kernel
theorem d33_4 : decode prog_64_method_5_code 4 = .ok (.ireturn, 1) := by decide +kernel
theorem ef_33 (mM : MethodId) (x0 : Addr) : entryFrame mM #[(.ref x0)] 1 = mkF mM 0 #[.val (.ref x0)] [] := by first | (simp [entryFrame, mkF, argsToLocals, Value.category]; done) | rfl
def Q33 (Z : State) (a_REQUEST : Addr) (a_INDICATION : Addr) (a_SUCCESS_RESPONSE : Addr) (a_ERROR_RESPONSE : Addr) (h0 : Heap) (n0 : Nat) (v : Option Value) (h : Heap) (L : List Loc) : Prop := v = some (.int (3 : Int32)) ∧ Fr n0 L ∧ h = h0
set_option maxRecDepth 65536 in
set_option maxHeartbeats 40000000 in
theorem rm33 (l : Launch) (Z : State) (a0 : Array Value) (hw : ∀ d ∈ tables_1, d.before a0 Z = true) (ws : List Jvm.Cond) (a_REQUEST : Addr) (a_INDICATION : Addr) (a_SUCCESS_RESPONSE : Addr) (a_ERROR_RESPONSE : Addr) (h0 : Heap) (n0 : Nat) (Z0 : n0 ≤ h0.size) (O : Old Z n0 h0) (S_REQUEST : Sta Z Z.heap "com/example/thawline/thawline/stun/StunClass" "REQUEST" "Lcom/example/thawline/thawline/stun/StunClass;" (.ref a_REQUEST)) (E_REQUEST : Exa Z Z.heap a_REQUEST "com/example/thawline/thawline/stun/StunClass") (S_INDICATION : Sta Z Z.heap "com/example/thawline/thawline/stun/StunClass" "INDICATION" "Lcom/example/thawline/thawline/stun/StunClass;" (.ref a_INDICATION)) (E_INDICATION : Exa Z Z.heap a_INDICATION "com/example/thawline/thawline/stun/StunClass") (S_SUCCESS_RESPONSE : Sta Z Z.heap "com/example/thawline/thawline/stun/StunClass" "SUCCESS_RESPONSE" "Lcom/example/thawline/thawline/stun/StunClass;" (.ref a_SUCCESS_RESPONSE)) (E_SUCCESS_RESPONSE : Exa Z Z.heap a_SUCCESS_RESPONSE "com/example/thawline/thawline/stun/StunClass") (S_ERROR_RESPONSE : Sta Z Z.heap "com/example/thawline/thawline/stun/StunClass" "ERROR_RESPONSE" "Lcom/example/thawline/thawline/stun/StunClass;" (.ref a_ERROR_RESPONSE)) (E_ERROR_RESPONSE : Exa Z Z.heap a_ERROR_RESPONSE "com/example/thawline/thawline/stun/StunClass") (F_REQUEST_ordinal : Fld Z Z.heap a_REQUEST "java/lang/Enum" "ordinal" "I" (.int (0 : Int32))) (F_SUCCESS_RESPONSE_ordinal : Fld Z Z.heap a_SUCCESS_RESPONSE "java/lang/Enum" "ordinal" "I" (.int (2 : Int32))) (F_ERROR_RESPONSE_ordinal : Fld Z Z.heap a_ERROR_RESPONSE "java/lang/Enum" "ordinal" "I" (.int (3 : Int32))) (F_REQUEST_bits : Fld Z Z.heap a_REQUEST "com/example/thawline/thawline/stun/StunClass" "bits" "I" (.int (0 : Int32))) (F_ERROR_RESPONSE_bits : Fld Z Z.heap a_ERROR_RESPONSE "com/example/thawline/thawline/stun/StunClass" "bits" "I" (.int (3 : Int32))) (F_SUCCESS_RESPONSE_bits : Fld Z Z.heap a_SUCCESS_RESPONSE "com/example/thawline/thawline/stun/StunClass" "bits" "I" (.int (2 : Int32))) (F_INDICATION_ordinal : Fld Z Z.heap a_INDICATION "java/lang/Enum" "ordinal" "I" (.int (1 : Int32))) (F_INDICATION_bits : Fld Z Z.heap a_INDICATION "com/example/thawline/thawline/stun/StunClass" "bits" "I" (.int (1 : Int32))) :
    MetFree l (⟨"com/example/thawline/thawline/stun/StunClass", "bits", "()I"⟩ : MethodName) (head1 (Jvm.Cond.code (⟨"com/example/thawline/thawline/stun/StunClass", "bits", "()I"⟩ : MethodName) prog_64_method_5_code 1 (some .int) :: ws) ({ frames := 0, cells := 0, slots := 0, locals := 0 } : Room)) (fun aA uU => aA = #[(.ref a_ERROR_RESPONSE)] ∧ Z.Warmed39 uU.vm ∧ uU.heap = h0) (fun _ _ _ _ _ => True) (fun _ uU oO uU' => ∃ vV lL, oO = .returned vV ∧ Q33 Z a_REQUEST a_INDICATION a_SUCCESS_RESPONSE a_ERROR_RESPONSE h0 n0 vV uU'.heap lL ∧ FrameEnd uU oO uU' lL ({ frames := 0, cells := 0, slots := 0, locals := 0 } : Room).cells ({ frames := 0, cells := 0, slots := 0, locals := 0 } : Room).slots) := by
  refine MetFree.of_bodySF (plainFor_of_name pn_1) hisR ?_
  intro pP eE sS mM args below meth cC s₁ Bd hml0 hP hK
  obtain ⟨rfl, hZ, hh⟩ := hP
  have hx := Bd.exec
  have hby := Bd.bytes
  have hml : cC.maxLocals = 1 := hml0
  have hown : sS.vm.findClass "com/example/thawline/thawline/stun/StunClass" = some mM.cls := findClass_of_methodNamed Bd.named
  have hnm := (name_of_methodNamed Bd.named Bd.method).1
  have X0 : Stand pP l eE ({ frames := 0, cells := 0, slots := 0, locals := 0 } : Room) sS mM #[(.ref a_ERROR_RESPONSE)] below meth cC s₁ [] 0 0 := Stand.of_body Bd
  have e0 : s₁.heap = h0 := by rw [← hh, Bd.state]; rfl
  have N0 := Fr.nil n0
  have pre0 : ∀ tg, Steps pP.tables eE below (s₁.setTop (mkF mM 0 #[.val (.ref a_ERROR_RESPONSE)] [])) tg → Steps pP.tables eE below (s₁.setTop (entryFrame mM #[(.ref a_ERROR_RESPONSE)] 1)) tg := fun tg kg => castTop (ef_33 mM a_ERROR_RESPONSE) kg
  have pr1 : ∀ tg, Steps pP.tables eE below (s₁.setTop (mkF mM 1 #[.val (.ref a_ERROR_RESPONSE)] [(.ref a_ERROR_RESPONSE)])) tg → Steps pP.tables eE below (s₁.setTop (entryFrame mM #[(.ref a_ERROR_RESPONSE)] 1)) tg := fun tg kg => pre0 _ (by
    show Steps pP.tables eE below (s₁.setTop (mkF mM 0 #[.val (.ref a_ERROR_RESPONSE)] [])) _
    refine XS.aloadN X0.here hx rfl (hb hby d33_0) rfl rfl ?_
    exact kg)
  obtain ⟨T2, X2, e2, st2⟩ := getF X0 hx hZ hown (host := "") (Or.inl (hw _ (List.mem_of_getElem? (i := 21) rfl))) Via.refl e0 (Fld.ext (O).2 F_ERROR_RESPONSE_bits) (g := (mkF mM 1 #[.val (.ref a_ERROR_RESPONSE)] [(.ref a_ERROR_RESPONSE)])) rfl rfl (hb hby d33_1)
  have pr3 : ∀ tg, Steps pP.tables eE below (T2.setTop (mkF mM 4 #[.val (.ref a_ERROR_RESPONSE)] [(.int (3 : Int32))])) tg → Steps pP.tables eE below (s₁.setTop (entryFrame mM #[(.ref a_ERROR_RESPONSE)] 1)) tg := fun tg kg => pr1 _ (st2 _ kg)
  obtain ⟨fs, hr, hrun, hended, hW, hsame⟩ := X2.leave (v := some (.int (3 : Int32))) (fun h => by rw [Bd.returns] at h; cases h)
  refine ⟨_, _, pr3 _ (retOut X2 hx (t := .int) Bd.returns rfl (Or.inl ⟨rfl, Or.inl rfl, _, rfl⟩) (hb hby d33_4) hr), hrun, hended, _, _, rfl, ?_, ⟨_, rfl⟩, hW, hsame.mono (by decide) (by decide)⟩
  show Q33 Z a_REQUEST a_INDICATION a_SUCCESS_RESPONSE a_ERROR_RESPONSE h0 n0 _ T2.heap _
  rw [e2]
  exact ⟨rfl, N0, rfl⟩
theorem own_4 {z : Int32} (h1 : 0 ≤ z.toInt) (h2 : z.toInt < 4) : z = (0 : Int32) ∨ z = (1 : Int32) ∨ z = (2 : Int32) ∨ z = (3 : Int32) := by
  have h : z.toInt = 0 ∨ z.toInt = 1 ∨ z.toInt = 2 ∨ z.toInt = 3 := by omega
  rcases h with h | h | h | h
  · exact Or.inl (Int32.toInt_inj.mp h)
  · exact Or.inr (Or.inl (Int32.toInt_inj.mp h))
  · exact Or.inr (Or.inr (Or.inl (Int32.toInt_inj.mp h)))
  · exact Or.inr (Or.inr (Or.inr (Int32.toInt_inj.mp h)))
theorem own_and3 (k : Int32) : 0 ≤ (k &&& (3 : Int32)).toInt ∧ (k &&& (3 : Int32)).toInt < 4 := by
  have e1 : (k &&& 3).toInt = k.toInt % 2 ^ 2 := Jvm.Kit.i32_mask k 3 (k := 2) (by decide) (by decide)
  omega
theorem pd_0 : parseMethodDescriptor "(I)Lcom/example/thawline/thawline/stun/StunClass;" = some ⟨[.int], some (.object "com/example/thawline/thawline/stun/StunClass")⟩ := by decide +kernel
theorem pd_1 : parseMethodDescriptor "()Z" = some ⟨[], some .boolean⟩ := by decide +kernel
theorem pd_2 : parseMethodDescriptor "()I" = some ⟨[], some .int⟩ := by decide +kernel
theorem ef_0 (mM : MethodId) (x0 : Int32) : entryFrame mM #[(.int x0)] maxLocals = mkF mM 0 #[.val (.int x0), .unset, .unset, .unset, .unset, .unset] [] := by first | (simp [entryFrame, mkF, argsToLocals, Value.category, maxLocals]; done) | rfl
def Q0 (Z : State) (p1 : Int32) (a_REQUEST : Addr) (a_INDICATION : Addr) (a_SUCCESS_RESPONSE : Addr) (a_ERROR_RESPONSE : Addr) (h0 : Heap) (n0 : Nat) (v : Option Value) (h : Heap) (L : List Loc) : Prop := v = some (.int (1 : Int32)) ∧ Fr n0 L
set_option maxRecDepth 65536 in
set_option maxHeartbeats 40000000 in
theorem rm0 (l : Launch) (Z : State) (a0 : Array Value) (hw : ∀ d ∈ tables_1, d.before a0 Z = true) (ws : List Jvm.Cond) (p1 : Int32) (a_REQUEST : Addr) (a_INDICATION : Addr) (a_SUCCESS_RESPONSE : Addr) (a_ERROR_RESPONSE : Addr) (h0 : Heap) (n0 : Nat) (Z0 : n0 ≤ h0.size) (O : Old Z n0 h0) (S_REQUEST : Sta Z Z.heap "com/example/thawline/thawline/stun/StunClass" "REQUEST" "Lcom/example/thawline/thawline/stun/StunClass;" (.ref a_REQUEST)) (E_REQUEST : Exa Z Z.heap a_REQUEST "com/example/thawline/thawline/stun/StunClass") (S_INDICATION : Sta Z Z.heap "com/example/thawline/thawline/stun/StunClass" "INDICATION" "Lcom/example/thawline/thawline/stun/StunClass;" (.ref a_INDICATION)) (E_INDICATION : Exa Z Z.heap a_INDICATION "com/example/thawline/thawline/stun/StunClass") (S_SUCCESS_RESPONSE : Sta Z Z.heap "com/example/thawline/thawline/stun/StunClass" "SUCCESS_RESPONSE" "Lcom/example/thawline/thawline/stun/StunClass;" (.ref a_SUCCESS_RESPONSE)) (E_SUCCESS_RESPONSE : Exa Z Z.heap a_SUCCESS_RESPONSE "com/example/thawline/thawline/stun/StunClass") (S_ERROR_RESPONSE : Sta Z Z.heap "com/example/thawline/thawline/stun/StunClass" "ERROR_RESPONSE" "Lcom/example/thawline/thawline/stun/StunClass;" (.ref a_ERROR_RESPONSE)) (E_ERROR_RESPONSE : Exa Z Z.heap a_ERROR_RESPONSE "com/example/thawline/thawline/stun/StunClass") (F_REQUEST_ordinal : Fld Z Z.heap a_REQUEST "java/lang/Enum" "ordinal" "I" (.int (0 : Int32))) (F_SUCCESS_RESPONSE_ordinal : Fld Z Z.heap a_SUCCESS_RESPONSE "java/lang/Enum" "ordinal" "I" (.int (2 : Int32))) (F_ERROR_RESPONSE_ordinal : Fld Z Z.heap a_ERROR_RESPONSE "java/lang/Enum" "ordinal" "I" (.int (3 : Int32))) (F_REQUEST_bits : Fld Z Z.heap a_REQUEST "com/example/thawline/thawline/stun/StunClass" "bits" "I" (.int (0 : Int32))) (F_ERROR_RESPONSE_bits : Fld Z Z.heap a_ERROR_RESPONSE "com/example/thawline/thawline/stun/StunClass" "bits" "I" (.int (3 : Int32))) (F_SUCCESS_RESPONSE_bits : Fld Z Z.heap a_SUCCESS_RESPONSE "com/example/thawline/thawline/stun/StunClass" "bits" "I" (.int (2 : Int32))) (F_INDICATION_ordinal : Fld Z Z.heap a_INDICATION "java/lang/Enum" "ordinal" "I" (.int (1 : Int32))) (F_INDICATION_bits : Fld Z Z.heap a_INDICATION "com/example/thawline/thawline/stun/StunClass" "bits" "I" (.int (1 : Int32))) :
    MetFree l x (head1 (Jvm.Cond.code x code maxLocals ret :: ws) room_1) (fun aA uU => aA = #[(.int p1)] ∧ Z.Warmed39 uU.vm ∧ uU.heap = h0) (fun _ _ _ _ _ => True) (fun _ uU oO uU' => ∃ vV lL, oO = .returned vV ∧ Q0 Z p1 a_REQUEST a_INDICATION a_SUCCESS_RESPONSE a_ERROR_RESPONSE h0 n0 vV uU'.heap lL ∧ FrameEnd uU oO uU' lL room_1.cells room_1.slots) := by
  refine MetFree.of_bodySF (plainFor_of_name pn_0) hisR ?_
  intro pP eE sS mM args below meth cC s₁ Bd hml0 hP hK
  obtain ⟨rfl, hZ, hh⟩ := hP
  have hx := Bd.exec
  have hby := Bd.bytes
  have hml : cC.maxLocals = 6 := hml0
  have hown : sS.vm.findClass "com/example/thawline/thawline/stun/StunClassIsResponsePinLaw" = some mM.cls := findClass_of_methodNamed Bd.named
  have hnm := (name_of_methodNamed Bd.named Bd.method).1
  have X0 : Stand pP l eE room_1 sS mM #[(.int p1)] below meth cC s₁ [] 0 0 := Stand.of_body Bd
  have e0 : s₁.heap = h0 := by rw [← hh, Bd.state]; rfl
  have N0 := Fr.nil n0
  have pre0 : ∀ tg, Steps pP.tables eE below (s₁.setTop (mkF mM 0 #[.val (.int p1), .unset, .unset, .unset, .unset, .unset] [])) tg → Steps pP.tables eE below (s₁.setTop (entryFrame mM #[(.int p1)] maxLocals)) tg := fun tg kg => castTop (ef_0 mM p1) kg
  have pr1 : ∀ tg, Steps pP.tables eE below (s₁.setTop (mkF mM 4 #[.val (.int p1), .val (.int (p1 &&& (3 : Int32))), .unset, .unset, .unset, .unset] [])) tg → Steps pP.tables eE below (s₁.setTop (entryFrame mM #[(.int p1)] maxLocals)) tg := fun tg kg => pre0 _ (by
    show Steps pP.tables eE below (s₁.setTop (mkF mM 0 #[.val (.int p1), .unset, .unset, .unset, .unset, .unset] [])) _
    refine XS.iloadN X0.here hx rfl (hb hby at_0) rfl ?_
    show Steps pP.tables eE below (s₁.setTop (mkF mM 1 #[.val (.int p1), .unset, .unset, .unset, .unset, .unset] [(.int p1)])) _
    refine XS.iconst X0.here hx rfl (hb hby at_1) ?_
    show Steps pP.tables eE below (s₁.setTop (mkF mM 2 #[.val (.int p1), .unset, .unset, .unset, .unset, .unset] [(.int (3 : Int32)), (.int p1)])) _
    refine XS.iand X0.here hx rfl (hb hby at_2) rfl ?_
    show Steps pP.tables eE below (s₁.setTop (mkF mM 3 #[.val (.int p1), .unset, .unset, .unset, .unset, .unset] [(.int (p1 &&& (3 : Int32)))])) _
    refine XS.istoreN X0.here hx rfl (hb hby at_3) rfl (l' := #[.val (.int p1), .val (.int (p1 &&& (3 : Int32))), .unset, .unset, .unset, .unset]) rfl ?_
    exact kg)
  obtain ⟨z2, hz2⟩ : ∃ z, z = (p1 &&& (3 : Int32)) := ⟨_, rfl⟩
  have pr3 : ∀ tg, Steps pP.tables eE below (s₁.setTop (mkF mM 4 #[.val (.int p1), .val (.int z2), .unset, .unset, .unset, .unset] [])) tg → Steps pP.tables eE below (s₁.setTop (entryFrame mM #[(.int p1)] maxLocals)) tg := by
    rw [hz2]; exact pr1
  have hb4 : 0 ≤ z2.toInt ∧ z2.toInt < 4 := by rw [hz2]; exact own_and3 _
  rcases (own_4 hb4.1 hb4.2) with rfl | rfl | rfl | rfl
  ·
    have pr4 : ∀ tg, Steps pP.tables eE below (s₁.setTop (mkF mM 5 #[.val (.int p1), .val (.int (0 : Int32)), .unset, .unset, .unset, .unset] [(.int (0 : Int32))])) tg → Steps pP.tables eE below (s₁.setTop (entryFrame mM #[(.int p1)] maxLocals)) tg := fun tg kg => pr3 _ (by
      show Steps pP.tables eE below (s₁.setTop (mkF mM 4 #[.val (.int p1), .val (.int (0 : Int32)), .unset, .unset, .unset, .unset] [])) _
      refine XS.iloadN X0.here hx rfl (hb hby at_4) rfl ?_
      exact kg)
    obtain ⟨_, _, ⟨T5, L5, kk5, nn5⟩, -, X5, ⟨Lc5, hQ5, l5, y5, z5⟩, st5⟩ := Jvm.LawKit.callS X0 hx (y := (⟨"com/example/thawline/thawline/stun/StunClassIsResponsePinLaw", "pick", "(I)Lcom/example/thawline/thawline/stun/StunClass;"⟩ : MethodName)) hown (mvT hZ (hw _ (List.mem_of_getElem? (i := 0) rfl))) (mvT hZ (hw _ (List.mem_of_getElem? (i := 1) rfl))) (mvT hZ (hw _ (List.mem_of_getElem? (i := 2) rfl))) (mvT hZ (hw _ (List.mem_of_getElem? (i := 3) rfl))) (by decide) (backOf (W := 0) (rm10 l Z a0 hw [] a_REQUEST a_INDICATION a_SUCCESS_RESPONSE a_ERROR_RESPONSE h0 n0 Z0 O S_REQUEST E_REQUEST S_INDICATION E_INDICATION S_SUCCESS_RESPONSE E_SUCCESS_RESPONSE S_ERROR_RESPONSE E_ERROR_RESPONSE F_REQUEST_ordinal F_SUCCESS_RESPONSE_ordinal F_ERROR_RESPONSE_ordinal F_REQUEST_bits F_ERROR_RESPONSE_bits F_SUCCESS_RESPONSE_bits F_INDICATION_ordinal F_INDICATION_bits) hZ (hw _ (List.mem_of_getElem? (i := 3) rfl)) (hw _ (List.mem_of_getElem? (i := 2) rfl)) (by decide) (by decide)) (g := (mkF mM 5 #[.val (.int p1), .val (.int (0 : Int32)), .unset, .unset, .unset, .unset] [(.int (0 : Int32))])) rfl (by rw [hml]; rfl) (argsL := [(.int (0 : Int32))]) (rest := []) (lenOf pd_0 rfl) rfl (by show 2 * 0 + _ ≤ _; exact Nat.le_of_eq rfl) (hb hby at_5) (fun _ _ => ⟨rfl, e0, (by decide : 0 + 0 ≤ _), (by decide : 0 + 0 ≤ _)⟩)
    dsimp only [Pt.U, Pt.locs, Pt.cells, Pt.slots] at X5 l5 y5 z5 st5 hQ5
    subst l5 y5 z5
    obtain ⟨rfl, Nq5, e5⟩ := hQ5
    have N5 := Fr.app N0 Nq5
    have pr6 : ∀ tg, Steps pP.tables eE below (T5.setTop (mkF mM 8 #[.val (.int p1), .val (.int (0 : Int32)), .unset, .unset, .unset, .unset] [(.ref a_REQUEST)])) tg → Steps pP.tables eE below (s₁.setTop (entryFrame mM #[(.int p1)] maxLocals)) tg := fun tg kg => pr4 _ (st5 _ kg)
    have pr7 : ∀ tg, Steps pP.tables eE below (T5.setTop (mkF mM 21 #[.val (.int p1), .val (.int (0 : Int32)), .val (.ref a_REQUEST), .val (.int (0 : Int32)), .unset, .unset] [(.ref a_REQUEST)])) tg → Steps pP.tables eE below (s₁.setTop (entryFrame mM #[(.int p1)] maxLocals)) tg := fun tg kg => pr6 _ (by
      show Steps pP.tables eE below (T5.setTop (mkF mM 8 #[.val (.int p1), .val (.int (0 : Int32)), .unset, .unset, .unset, .unset] [(.ref a_REQUEST)])) _
      refine XS.astoreN X5.here hx rfl (hb hby at_8) rfl rfl (l' := #[.val (.int p1), .val (.int (0 : Int32)), .val (.ref a_REQUEST), .unset, .unset, .unset]) rfl ?_
      show Steps pP.tables eE below (T5.setTop (mkF mM 9 #[.val (.int p1), .val (.int (0 : Int32)), .val (.ref a_REQUEST), .unset, .unset, .unset] [])) _
      refine XS.iloadN X5.here hx rfl (hb hby at_9) rfl ?_
      show Steps pP.tables eE below (T5.setTop (mkF mM 10 #[.val (.int p1), .val (.int (0 : Int32)), .val (.ref a_REQUEST), .unset, .unset, .unset] [(.int (0 : Int32))])) _
      refine XS.iconst X5.here hx rfl (hb hby at_10) ?_
      show Steps pP.tables eE below (T5.setTop (mkF mM 11 #[.val (.int p1), .val (.int (0 : Int32)), .val (.ref a_REQUEST), .unset, .unset, .unset] [(.int (2 : Int32)), (.int (0 : Int32))])) _
      refine XS.icmpYes X5.here hx rfl (pc0 := 11) (pc' := 18) rfl (hb hby at_11) rfl (tlt (by decide)).1 (by decide) (by decide) ?_
      show Steps pP.tables eE below (T5.setTop (mkF mM 18 #[.val (.int p1), .val (.int (0 : Int32)), .val (.ref a_REQUEST), .unset, .unset, .unset] [])) _
      refine XS.iconst X5.here hx rfl (hb hby at_18) ?_
      show Steps pP.tables eE below (T5.setTop (mkF mM 19 #[.val (.int p1), .val (.int (0 : Int32)), .val (.ref a_REQUEST), .unset, .unset, .unset] [(.int (0 : Int32))])) _
      refine XS.istoreN X5.here hx rfl (hb hby at_19) rfl (l' := #[.val (.int p1), .val (.int (0 : Int32)), .val (.ref a_REQUEST), .val (.int (0 : Int32)), .unset, .unset]) rfl ?_
      show Steps pP.tables eE below (T5.setTop (mkF mM 20 #[.val (.int p1), .val (.int (0 : Int32)), .val (.ref a_REQUEST), .val (.int (0 : Int32)), .unset, .unset] [])) _
      refine XS.aloadN X5.here hx rfl (hb hby at_20) rfl rfl ?_
      exact kg)
    obtain ⟨cq8, kq8, qa8, qb8, qc8⟩ := isOf hZ e5 (Exa.ext (O).2 E_REQUEST)
    obtain ⟨_, _, ⟨T8, L8, kk8, nn8⟩, -, X8, ⟨Lc8, hQ8, l8, y8, z8⟩, st8⟩ := X5.virtualBack hx (y := (⟨"com/example/thawline/thawline/stun/StunClass", "isResponse", "()Z"⟩ : MethodName)) (z := (⟨"com/example/thawline/thawline/stun/StunClass", "isResponse", "()Z"⟩ : MethodName)) hown (mvT hZ (hw _ (List.mem_of_getElem? (i := 7) rfl))) (mvT hZ (hw _ (List.mem_of_getElem? (i := 8) rfl))) (notFace_of_selects (args := #[]) (mvT hZ (hw _ (List.mem_of_getElem? (i := 10) rfl)))) (mvT hZ (hw _ (List.mem_of_getElem? (i := 10) rfl))) (mvT hZ (hw _ (List.mem_of_getElem? (i := 9) rfl))) (by decide) (backOf (W := 0) (rm20 l Z a0 hw [] a_REQUEST a_INDICATION a_SUCCESS_RESPONSE a_ERROR_RESPONSE h0 n0 Z0 O S_REQUEST E_REQUEST S_INDICATION E_INDICATION S_SUCCESS_RESPONSE E_SUCCESS_RESPONSE S_ERROR_RESPONSE E_ERROR_RESPONSE F_REQUEST_ordinal F_SUCCESS_RESPONSE_ordinal F_ERROR_RESPONSE_ordinal F_REQUEST_bits F_ERROR_RESPONSE_bits F_SUCCESS_RESPONSE_bits F_INDICATION_ordinal F_INDICATION_bits) hZ (hw _ (List.mem_of_getElem? (i := 11) rfl)) (hw _ (List.mem_of_getElem? (i := 5) rfl)) (by decide) (by decide)) qa8 qc8 (g := (mkF mM 21 #[.val (.int p1), .val (.int (0 : Int32)), .val (.ref a_REQUEST), .val (.int (0 : Int32)), .unset, .unset] [(.ref a_REQUEST)])) rfl (by rw [hml]; rfl) (Steps.refl _) (argsL := []) (rest := []) (lenOf pd_1 rfl) rfl (by show 2 * 0 + _ ≤ _; exact Nat.le_of_eq rfl) (hb hby at_21) (fun _ _ => ⟨rfl, e5, (by decide : 0 + 0 ≤ _), (by decide : 0 + 0 ≤ _)⟩)
    dsimp only [Pt.U, Pt.locs, Pt.cells, Pt.slots] at X8 l8 y8 z8 st8 hQ8
    subst l8 y8 z8
    obtain ⟨rfl, Nq8, e8⟩ := hQ8
    have N8 := Fr.app N5 Nq8
    have pr9 : ∀ tg, Steps pP.tables eE below (T8.setTop (mkF mM 24 #[.val (.int p1), .val (.int (0 : Int32)), .val (.ref a_REQUEST), .val (.int (0 : Int32)), .unset, .unset] [(.int (0 : Int32))])) tg → Steps pP.tables eE below (s₁.setTop (entryFrame mM #[(.int p1)] maxLocals)) tg := fun tg kg => pr7 _ (st8.trans kg)
    have pr10 : ∀ tg, Steps pP.tables eE below (T8.setTop (mkF mM 27 #[.val (.int p1), .val (.int (0 : Int32)), .val (.ref a_REQUEST), .val (.int (0 : Int32)), .val (.int (0 : Int32)), .unset] [(.ref a_REQUEST)])) tg → Steps pP.tables eE below (s₁.setTop (entryFrame mM #[(.int p1)] maxLocals)) tg := fun tg kg => pr9 _ (by
      show Steps pP.tables eE below (T8.setTop (mkF mM 24 #[.val (.int p1), .val (.int (0 : Int32)), .val (.ref a_REQUEST), .val (.int (0 : Int32)), .unset, .unset] [(.int (0 : Int32))])) _
      refine XS.istore X8.here hx rfl (hb hby at_24) rfl (l' := #[.val (.int p1), .val (.int (0 : Int32)), .val (.ref a_REQUEST), .val (.int (0 : Int32)), .val (.int (0 : Int32)), .unset]) rfl ?_
      show Steps pP.tables eE below (T8.setTop (mkF mM 26 #[.val (.int p1), .val (.int (0 : Int32)), .val (.ref a_REQUEST), .val (.int (0 : Int32)), .val (.int (0 : Int32)), .unset] [])) _
      refine XS.aloadN X8.here hx rfl (hb hby at_26) rfl rfl ?_
      exact kg)
    obtain ⟨cq11, kq11, qa11, qb11, qc11⟩ := isOf hZ e8 (Exa.ext (O).2 E_REQUEST)
    obtain ⟨_, _, ⟨T11, L11, kk11, nn11⟩, -, X11, ⟨Lc11, hQ11, l11, y11, z11⟩, st11⟩ := X8.virtualBack hx (y := (⟨"com/example/thawline/thawline/stun/StunClass", "bits", "()I"⟩ : MethodName)) (z := (⟨"com/example/thawline/thawline/stun/StunClass", "bits", "()I"⟩ : MethodName)) hown (mvT hZ (hw _ (List.mem_of_getElem? (i := 16) rfl))) (mvT hZ (hw _ (List.mem_of_getElem? (i := 17) rfl))) (notFace_of_selects (args := #[]) (mvT hZ (hw _ (List.mem_of_getElem? (i := 19) rfl)))) (mvT hZ (hw _ (List.mem_of_getElem? (i := 19) rfl))) (mvT hZ (hw _ (List.mem_of_getElem? (i := 18) rfl))) (by decide) (backOf (W := 0) (rm30 l Z a0 hw [] a_REQUEST a_INDICATION a_SUCCESS_RESPONSE a_ERROR_RESPONSE h0 n0 Z0 O S_REQUEST E_REQUEST S_INDICATION E_INDICATION S_SUCCESS_RESPONSE E_SUCCESS_RESPONSE S_ERROR_RESPONSE E_ERROR_RESPONSE F_REQUEST_ordinal F_SUCCESS_RESPONSE_ordinal F_ERROR_RESPONSE_ordinal F_REQUEST_bits F_ERROR_RESPONSE_bits F_SUCCESS_RESPONSE_bits F_INDICATION_ordinal F_INDICATION_bits) hZ (hw _ (List.mem_of_getElem? (i := 20) rfl)) (hw _ (List.mem_of_getElem? (i := 5) rfl)) (by decide) (by decide)) qa11 qc11 (g := (mkF mM 27 #[.val (.int p1), .val (.int (0 : Int32)), .val (.ref a_REQUEST), .val (.int (0 : Int32)), .val (.int (0 : Int32)), .unset] [(.ref a_REQUEST)])) rfl (by rw [hml]; rfl) (Steps.refl _) (argsL := []) (rest := []) (lenOf pd_2 rfl) rfl (by show 2 * 0 + _ ≤ _; exact Nat.le_of_eq rfl) (hb hby at_27) (fun _ _ => ⟨rfl, e8, (by decide : 0 + 0 ≤ _), (by decide : 0 + 0 ≤ _)⟩)
    dsimp only [Pt.U, Pt.locs, Pt.cells, Pt.slots] at X11 l11 y11 z11 st11 hQ11
    subst l11 y11 z11
    obtain ⟨rfl, Nq11, e11⟩ := hQ11
    have N11 := Fr.app N8 Nq11
    have pr12 : ∀ tg, Steps pP.tables eE below (T11.setTop (mkF mM 30 #[.val (.int p1), .val (.int (0 : Int32)), .val (.ref a_REQUEST), .val (.int (0 : Int32)), .val (.int (0 : Int32)), .unset] [(.int (0 : Int32))])) tg → Steps pP.tables eE below (s₁.setTop (entryFrame mM #[(.int p1)] maxLocals)) tg := fun tg kg => pr10 _ (st11.trans kg)
    have pr13 : ∀ tg, Steps pP.tables eE below (T11.setTop (mkF mM 60 #[.val (.int p1), .val (.int (0 : Int32)), .val (.ref a_REQUEST), .val (.int (0 : Int32)), .val (.int (0 : Int32)), .val (.int (0 : Int32))] [(.int (1 : Int32))])) tg → Steps pP.tables eE below (s₁.setTop (entryFrame mM #[(.int p1)] maxLocals)) tg := fun tg kg => pr12 _ (by
      show Steps pP.tables eE below (T11.setTop (mkF mM 30 #[.val (.int p1), .val (.int (0 : Int32)), .val (.ref a_REQUEST), .val (.int (0 : Int32)), .val (.int (0 : Int32)), .unset] [(.int (0 : Int32))])) _
      refine XS.iconst X11.here hx rfl (hb hby at_30) ?_
      show Steps pP.tables eE below (T11.setTop (mkF mM 31 #[.val (.int p1), .val (.int (0 : Int32)), .val (.ref a_REQUEST), .val (.int (0 : Int32)), .val (.int (0 : Int32)), .unset] [(.int (2 : Int32)), (.int (0 : Int32))])) _
      refine XS.iand X11.here hx rfl (hb hby at_31) rfl ?_
      show Steps pP.tables eE below (T11.setTop (mkF mM 32 #[.val (.int p1), .val (.int (0 : Int32)), .val (.ref a_REQUEST), .val (.int (0 : Int32)), .val (.int (0 : Int32)), .unset] [(.int (0 : Int32))])) _
      refine XS.ifYes X11.here hx rfl (pc0 := 32) (pc' := 39) rfl (hb hby at_32) rfl ((if0 _ _).trans (teq (by decide)).1) (by decide) (by decide) ?_
      show Steps pP.tables eE below (T11.setTop (mkF mM 39 #[.val (.int p1), .val (.int (0 : Int32)), .val (.ref a_REQUEST), .val (.int (0 : Int32)), .val (.int (0 : Int32)), .unset] [])) _
      refine XS.iconst X11.here hx rfl (hb hby at_39) ?_
      show Steps pP.tables eE below (T11.setTop (mkF mM 40 #[.val (.int p1), .val (.int (0 : Int32)), .val (.ref a_REQUEST), .val (.int (0 : Int32)), .val (.int (0 : Int32)), .unset] [(.int (0 : Int32))])) _
      refine XS.istore X11.here hx rfl (hb hby at_40) rfl (l' := #[.val (.int p1), .val (.int (0 : Int32)), .val (.ref a_REQUEST), .val (.int (0 : Int32)), .val (.int (0 : Int32)), .val (.int (0 : Int32))]) rfl ?_
      show Steps pP.tables eE below (T11.setTop (mkF mM 42 #[.val (.int p1), .val (.int (0 : Int32)), .val (.ref a_REQUEST), .val (.int (0 : Int32)), .val (.int (0 : Int32)), .val (.int (0 : Int32))] [])) _
      refine XS.iload X11.here hx rfl (hb hby at_42) rfl ?_
      show Steps pP.tables eE below (T11.setTop (mkF mM 44 #[.val (.int p1), .val (.int (0 : Int32)), .val (.ref a_REQUEST), .val (.int (0 : Int32)), .val (.int (0 : Int32)), .val (.int (0 : Int32))] [(.int (0 : Int32))])) _
      refine XS.iloadN X11.here hx rfl (hb hby at_44) rfl ?_
      show Steps pP.tables eE below (T11.setTop (mkF mM 45 #[.val (.int p1), .val (.int (0 : Int32)), .val (.ref a_REQUEST), .val (.int (0 : Int32)), .val (.int (0 : Int32)), .val (.int (0 : Int32))] [(.int (0 : Int32)), (.int (0 : Int32))])) _
      refine XS.icmpNo X11.here hx rfl (hb hby at_45) rfl (teq (by decide)).2 ?_
      show Steps pP.tables eE below (T11.setTop (mkF mM 48 #[.val (.int p1), .val (.int (0 : Int32)), .val (.ref a_REQUEST), .val (.int (0 : Int32)), .val (.int (0 : Int32)), .val (.int (0 : Int32))] [])) _
      refine XS.iload X11.here hx rfl (hb hby at_48) rfl ?_
      show Steps pP.tables eE below (T11.setTop (mkF mM 50 #[.val (.int p1), .val (.int (0 : Int32)), .val (.ref a_REQUEST), .val (.int (0 : Int32)), .val (.int (0 : Int32)), .val (.int (0 : Int32))] [(.int (0 : Int32))])) _
      refine XS.iload X11.here hx rfl (hb hby at_50) rfl ?_
      show Steps pP.tables eE below (T11.setTop (mkF mM 52 #[.val (.int p1), .val (.int (0 : Int32)), .val (.ref a_REQUEST), .val (.int (0 : Int32)), .val (.int (0 : Int32)), .val (.int (0 : Int32))] [(.int (0 : Int32)), (.int (0 : Int32))])) _
      refine XS.icmpNo X11.here hx rfl (hb hby at_52) rfl (teq (by decide)).2 ?_
      show Steps pP.tables eE below (T11.setTop (mkF mM 55 #[.val (.int p1), .val (.int (0 : Int32)), .val (.ref a_REQUEST), .val (.int (0 : Int32)), .val (.int (0 : Int32)), .val (.int (0 : Int32))] [])) _
      refine XS.iconst X11.here hx rfl (hb hby at_55) ?_
      show Steps pP.tables eE below (T11.setTop (mkF mM 56 #[.val (.int p1), .val (.int (0 : Int32)), .val (.ref a_REQUEST), .val (.int (0 : Int32)), .val (.int (0 : Int32)), .val (.int (0 : Int32))] [(.int (1 : Int32))])) _
      refine XS.goto X11.here hx rfl (pc0 := 56) (pc' := 60) rfl (hb hby at_56) (by decide) (by decide) ?_
      exact kg)
    obtain ⟨fs, hr, hrun, hended, hW, hsame⟩ := X11.leave (v := some (.int (1 : Int32))) (fun h => by rw [Bd.returns] at h; cases h)
    refine ⟨_, _, pr13 _ (retOut X11 hx (t := .boolean) Bd.returns rfl (Or.inl ⟨rfl, Or.inr (Or.inl rfl), _, rfl⟩) (hb hby at_60) hr), hrun, hended, _, _, rfl, ?_, ⟨_, rfl⟩, hW, hsame.mono (by decide) (by decide)⟩
    show Q0 Z p1 a_REQUEST a_INDICATION a_SUCCESS_RESPONSE a_ERROR_RESPONSE h0 n0 _ T11.heap _
    rw [e11]
    exact ⟨rfl, N11⟩
  ·
    have pr14 : ∀ tg, Steps pP.tables eE below (s₁.setTop (mkF mM 5 #[.val (.int p1), .val (.int (1 : Int32)), .unset, .unset, .unset, .unset] [(.int (1 : Int32))])) tg → Steps pP.tables eE below (s₁.setTop (entryFrame mM #[(.int p1)] maxLocals)) tg := fun tg kg => pr3 _ (by
      show Steps pP.tables eE below (s₁.setTop (mkF mM 4 #[.val (.int p1), .val (.int (1 : Int32)), .unset, .unset, .unset, .unset] [])) _
      refine XS.iloadN X0.here hx rfl (hb hby at_4) rfl ?_
      exact kg)
    obtain ⟨_, _, ⟨T15, L15, kk15, nn15⟩, -, X15, ⟨Lc15, hQ15, l15, y15, z15⟩, st15⟩ := Jvm.LawKit.callS X0 hx (y := (⟨"com/example/thawline/thawline/stun/StunClassIsResponsePinLaw", "pick", "(I)Lcom/example/thawline/thawline/stun/StunClass;"⟩ : MethodName)) hown (mvT hZ (hw _ (List.mem_of_getElem? (i := 0) rfl))) (mvT hZ (hw _ (List.mem_of_getElem? (i := 1) rfl))) (mvT hZ (hw _ (List.mem_of_getElem? (i := 2) rfl))) (mvT hZ (hw _ (List.mem_of_getElem? (i := 3) rfl))) (by decide) (backOf (W := 0) (rm11 l Z a0 hw [] a_REQUEST a_INDICATION a_SUCCESS_RESPONSE a_ERROR_RESPONSE h0 n0 Z0 O S_REQUEST E_REQUEST S_INDICATION E_INDICATION S_SUCCESS_RESPONSE E_SUCCESS_RESPONSE S_ERROR_RESPONSE E_ERROR_RESPONSE F_REQUEST_ordinal F_SUCCESS_RESPONSE_ordinal F_ERROR_RESPONSE_ordinal F_REQUEST_bits F_ERROR_RESPONSE_bits F_SUCCESS_RESPONSE_bits F_INDICATION_ordinal F_INDICATION_bits) hZ (hw _ (List.mem_of_getElem? (i := 3) rfl)) (hw _ (List.mem_of_getElem? (i := 2) rfl)) (by decide) (by decide)) (g := (mkF mM 5 #[.val (.int p1), .val (.int (1 : Int32)), .unset, .unset, .unset, .unset] [(.int (1 : Int32))])) rfl (by rw [hml]; rfl) (argsL := [(.int (1 : Int32))]) (rest := []) (lenOf pd_0 rfl) rfl (by show 2 * 0 + _ ≤ _; exact Nat.le_of_eq rfl) (hb hby at_5) (fun _ _ => ⟨rfl, e0, (by decide : 0 + 0 ≤ _), (by decide : 0 + 0 ≤ _)⟩)
    dsimp only [Pt.U, Pt.locs, Pt.cells, Pt.slots] at X15 l15 y15 z15 st15 hQ15
    subst l15 y15 z15
    obtain ⟨rfl, Nq15, e15⟩ := hQ15
    have N15 := Fr.app N0 Nq15
    have pr16 : ∀ tg, Steps pP.tables eE below (T15.setTop (mkF mM 8 #[.val (.int p1), .val (.int (1 : Int32)), .unset, .unset, .unset, .unset] [(.ref a_INDICATION)])) tg → Steps pP.tables eE below (s₁.setTop (entryFrame mM #[(.int p1)] maxLocals)) tg := fun tg kg => pr14 _ (st15 _ kg)
    have pr17 : ∀ tg, Steps pP.tables eE below (T15.setTop (mkF mM 21 #[.val (.int p1), .val (.int (1 : Int32)), .val (.ref a_INDICATION), .val (.int (0 : Int32)), .unset, .unset] [(.ref a_INDICATION)])) tg → Steps pP.tables eE below (s₁.setTop (entryFrame mM #[(.int p1)] maxLocals)) tg := fun tg kg => pr16 _ (by
      show Steps pP.tables eE below (T15.setTop (mkF mM 8 #[.val (.int p1), .val (.int (1 : Int32)), .unset, .unset, .unset, .unset] [(.ref a_INDICATION)])) _
      refine XS.astoreN X15.here hx rfl (hb hby at_8) rfl rfl (l' := #[.val (.int p1), .val (.int (1 : Int32)), .val (.ref a_INDICATION), .unset, .unset, .unset]) rfl ?_
      show Steps pP.tables eE below (T15.setTop (mkF mM 9 #[.val (.int p1), .val (.int (1 : Int32)), .val (.ref a_INDICATION), .unset, .unset, .unset] [])) _
      refine XS.iloadN X15.here hx rfl (hb hby at_9) rfl ?_
      show Steps pP.tables eE below (T15.setTop (mkF mM 10 #[.val (.int p1), .val (.int (1 : Int32)), .val (.ref a_INDICATION), .unset, .unset, .unset] [(.int (1 : Int32))])) _
      refine XS.iconst X15.here hx rfl (hb hby at_10) ?_
      show Steps pP.tables eE below (T15.setTop (mkF mM 11 #[.val (.int p1), .val (.int (1 : Int32)), .val (.ref a_INDICATION), .unset, .unset, .unset] [(.int (2 : Int32)), (.int (1 : Int32))])) _
      refine XS.icmpYes X15.here hx rfl (pc0 := 11) (pc' := 18) rfl (hb hby at_11) rfl (tlt (by decide)).1 (by decide) (by decide) ?_
      show Steps pP.tables eE below (T15.setTop (mkF mM 18 #[.val (.int p1), .val (.int (1 : Int32)), .val (.ref a_INDICATION), .unset, .unset, .unset] [])) _
      refine XS.iconst X15.here hx rfl (hb hby at_18) ?_
      show Steps pP.tables eE below (T15.setTop (mkF mM 19 #[.val (.int p1), .val (.int (1 : Int32)), .val (.ref a_INDICATION), .unset, .unset, .unset] [(.int (0 : Int32))])) _
      refine XS.istoreN X15.here hx rfl (hb hby at_19) rfl (l' := #[.val (.int p1), .val (.int (1 : Int32)), .val (.ref a_INDICATION), .val (.int (0 : Int32)), .unset, .unset]) rfl ?_
      show Steps pP.tables eE below (T15.setTop (mkF mM 20 #[.val (.int p1), .val (.int (1 : Int32)), .val (.ref a_INDICATION), .val (.int (0 : Int32)), .unset, .unset] [])) _
      refine XS.aloadN X15.here hx rfl (hb hby at_20) rfl rfl ?_
      exact kg)
    obtain ⟨cq18, kq18, qa18, qb18, qc18⟩ := isOf hZ e15 (Exa.ext (O).2 E_INDICATION)
    obtain ⟨_, _, ⟨T18, L18, kk18, nn18⟩, -, X18, ⟨Lc18, hQ18, l18, y18, z18⟩, st18⟩ := X15.virtualBack hx (y := (⟨"com/example/thawline/thawline/stun/StunClass", "isResponse", "()Z"⟩ : MethodName)) (z := (⟨"com/example/thawline/thawline/stun/StunClass", "isResponse", "()Z"⟩ : MethodName)) hown (mvT hZ (hw _ (List.mem_of_getElem? (i := 7) rfl))) (mvT hZ (hw _ (List.mem_of_getElem? (i := 8) rfl))) (notFace_of_selects (args := #[]) (mvT hZ (hw _ (List.mem_of_getElem? (i := 10) rfl)))) (mvT hZ (hw _ (List.mem_of_getElem? (i := 10) rfl))) (mvT hZ (hw _ (List.mem_of_getElem? (i := 9) rfl))) (by decide) (backOf (W := 0) (rm21 l Z a0 hw [] a_REQUEST a_INDICATION a_SUCCESS_RESPONSE a_ERROR_RESPONSE h0 n0 Z0 O S_REQUEST E_REQUEST S_INDICATION E_INDICATION S_SUCCESS_RESPONSE E_SUCCESS_RESPONSE S_ERROR_RESPONSE E_ERROR_RESPONSE F_REQUEST_ordinal F_SUCCESS_RESPONSE_ordinal F_ERROR_RESPONSE_ordinal F_REQUEST_bits F_ERROR_RESPONSE_bits F_SUCCESS_RESPONSE_bits F_INDICATION_ordinal F_INDICATION_bits) hZ (hw _ (List.mem_of_getElem? (i := 11) rfl)) (hw _ (List.mem_of_getElem? (i := 5) rfl)) (by decide) (by decide)) qa18 qc18 (g := (mkF mM 21 #[.val (.int p1), .val (.int (1 : Int32)), .val (.ref a_INDICATION), .val (.int (0 : Int32)), .unset, .unset] [(.ref a_INDICATION)])) rfl (by rw [hml]; rfl) (Steps.refl _) (argsL := []) (rest := []) (lenOf pd_1 rfl) rfl (by show 2 * 0 + _ ≤ _; exact Nat.le_of_eq rfl) (hb hby at_21) (fun _ _ => ⟨rfl, e15, (by decide : 0 + 0 ≤ _), (by decide : 0 + 0 ≤ _)⟩)
    dsimp only [Pt.U, Pt.locs, Pt.cells, Pt.slots] at X18 l18 y18 z18 st18 hQ18
    subst l18 y18 z18
    obtain ⟨rfl, Nq18, e18⟩ := hQ18
    have N18 := Fr.app N15 Nq18
    have pr19 : ∀ tg, Steps pP.tables eE below (T18.setTop (mkF mM 24 #[.val (.int p1), .val (.int (1 : Int32)), .val (.ref a_INDICATION), .val (.int (0 : Int32)), .unset, .unset] [(.int (0 : Int32))])) tg → Steps pP.tables eE below (s₁.setTop (entryFrame mM #[(.int p1)] maxLocals)) tg := fun tg kg => pr17 _ (st18.trans kg)
    have pr20 : ∀ tg, Steps pP.tables eE below (T18.setTop (mkF mM 27 #[.val (.int p1), .val (.int (1 : Int32)), .val (.ref a_INDICATION), .val (.int (0 : Int32)), .val (.int (0 : Int32)), .unset] [(.ref a_INDICATION)])) tg → Steps pP.tables eE below (s₁.setTop (entryFrame mM #[(.int p1)] maxLocals)) tg := fun tg kg => pr19 _ (by
      show Steps pP.tables eE below (T18.setTop (mkF mM 24 #[.val (.int p1), .val (.int (1 : Int32)), .val (.ref a_INDICATION), .val (.int (0 : Int32)), .unset, .unset] [(.int (0 : Int32))])) _
      refine XS.istore X18.here hx rfl (hb hby at_24) rfl (l' := #[.val (.int p1), .val (.int (1 : Int32)), .val (.ref a_INDICATION), .val (.int (0 : Int32)), .val (.int (0 : Int32)), .unset]) rfl ?_
      show Steps pP.tables eE below (T18.setTop (mkF mM 26 #[.val (.int p1), .val (.int (1 : Int32)), .val (.ref a_INDICATION), .val (.int (0 : Int32)), .val (.int (0 : Int32)), .unset] [])) _
      refine XS.aloadN X18.here hx rfl (hb hby at_26) rfl rfl ?_
      exact kg)
    obtain ⟨cq21, kq21, qa21, qb21, qc21⟩ := isOf hZ e18 (Exa.ext (O).2 E_INDICATION)
    obtain ⟨_, _, ⟨T21, L21, kk21, nn21⟩, -, X21, ⟨Lc21, hQ21, l21, y21, z21⟩, st21⟩ := X18.virtualBack hx (y := (⟨"com/example/thawline/thawline/stun/StunClass", "bits", "()I"⟩ : MethodName)) (z := (⟨"com/example/thawline/thawline/stun/StunClass", "bits", "()I"⟩ : MethodName)) hown (mvT hZ (hw _ (List.mem_of_getElem? (i := 16) rfl))) (mvT hZ (hw _ (List.mem_of_getElem? (i := 17) rfl))) (notFace_of_selects (args := #[]) (mvT hZ (hw _ (List.mem_of_getElem? (i := 19) rfl)))) (mvT hZ (hw _ (List.mem_of_getElem? (i := 19) rfl))) (mvT hZ (hw _ (List.mem_of_getElem? (i := 18) rfl))) (by decide) (backOf (W := 0) (rm31 l Z a0 hw [] a_REQUEST a_INDICATION a_SUCCESS_RESPONSE a_ERROR_RESPONSE h0 n0 Z0 O S_REQUEST E_REQUEST S_INDICATION E_INDICATION S_SUCCESS_RESPONSE E_SUCCESS_RESPONSE S_ERROR_RESPONSE E_ERROR_RESPONSE F_REQUEST_ordinal F_SUCCESS_RESPONSE_ordinal F_ERROR_RESPONSE_ordinal F_REQUEST_bits F_ERROR_RESPONSE_bits F_SUCCESS_RESPONSE_bits F_INDICATION_ordinal F_INDICATION_bits) hZ (hw _ (List.mem_of_getElem? (i := 20) rfl)) (hw _ (List.mem_of_getElem? (i := 5) rfl)) (by decide) (by decide)) qa21 qc21 (g := (mkF mM 27 #[.val (.int p1), .val (.int (1 : Int32)), .val (.ref a_INDICATION), .val (.int (0 : Int32)), .val (.int (0 : Int32)), .unset] [(.ref a_INDICATION)])) rfl (by rw [hml]; rfl) (Steps.refl _) (argsL := []) (rest := []) (lenOf pd_2 rfl) rfl (by show 2 * 0 + _ ≤ _; exact Nat.le_of_eq rfl) (hb hby at_27) (fun _ _ => ⟨rfl, e18, (by decide : 0 + 0 ≤ _), (by decide : 0 + 0 ≤ _)⟩)
    dsimp only [Pt.U, Pt.locs, Pt.cells, Pt.slots] at X21 l21 y21 z21 st21 hQ21
    subst l21 y21 z21
    obtain ⟨rfl, Nq21, e21⟩ := hQ21
    have N21 := Fr.app N18 Nq21
    have pr22 : ∀ tg, Steps pP.tables eE below (T21.setTop (mkF mM 30 #[.val (.int p1), .val (.int (1 : Int32)), .val (.ref a_INDICATION), .val (.int (0 : Int32)), .val (.int (0 : Int32)), .unset] [(.int (1 : Int32))])) tg → Steps pP.tables eE below (s₁.setTop (entryFrame mM #[(.int p1)] maxLocals)) tg := fun tg kg => pr20 _ (st21.trans kg)
    have pr23 : ∀ tg, Steps pP.tables eE below (T21.setTop (mkF mM 60 #[.val (.int p1), .val (.int (1 : Int32)), .val (.ref a_INDICATION), .val (.int (0 : Int32)), .val (.int (0 : Int32)), .val (.int (0 : Int32))] [(.int (1 : Int32))])) tg → Steps pP.tables eE below (s₁.setTop (entryFrame mM #[(.int p1)] maxLocals)) tg := fun tg kg => pr22 _ (by
      show Steps pP.tables eE below (T21.setTop (mkF mM 30 #[.val (.int p1), .val (.int (1 : Int32)), .val (.ref a_INDICATION), .val (.int (0 : Int32)), .val (.int (0 : Int32)), .unset] [(.int (1 : Int32))])) _
      refine XS.iconst X21.here hx rfl (hb hby at_30) ?_
      show Steps pP.tables eE below (T21.setTop (mkF mM 31 #[.val (.int p1), .val (.int (1 : Int32)), .val (.ref a_INDICATION), .val (.int (0 : Int32)), .val (.int (0 : Int32)), .unset] [(.int (2 : Int32)), (.int (1 : Int32))])) _
      refine XS.iand X21.here hx rfl (hb hby at_31) rfl ?_
      show Steps pP.tables eE below (T21.setTop (mkF mM 32 #[.val (.int p1), .val (.int (1 : Int32)), .val (.ref a_INDICATION), .val (.int (0 : Int32)), .val (.int (0 : Int32)), .unset] [(.int (0 : Int32))])) _
      refine XS.ifYes X21.here hx rfl (pc0 := 32) (pc' := 39) rfl (hb hby at_32) rfl ((if0 _ _).trans (teq (by decide)).1) (by decide) (by decide) ?_
      show Steps pP.tables eE below (T21.setTop (mkF mM 39 #[.val (.int p1), .val (.int (1 : Int32)), .val (.ref a_INDICATION), .val (.int (0 : Int32)), .val (.int (0 : Int32)), .unset] [])) _
      refine XS.iconst X21.here hx rfl (hb hby at_39) ?_
      show Steps pP.tables eE below (T21.setTop (mkF mM 40 #[.val (.int p1), .val (.int (1 : Int32)), .val (.ref a_INDICATION), .val (.int (0 : Int32)), .val (.int (0 : Int32)), .unset] [(.int (0 : Int32))])) _
      refine XS.istore X21.here hx rfl (hb hby at_40) rfl (l' := #[.val (.int p1), .val (.int (1 : Int32)), .val (.ref a_INDICATION), .val (.int (0 : Int32)), .val (.int (0 : Int32)), .val (.int (0 : Int32))]) rfl ?_
      show Steps pP.tables eE below (T21.setTop (mkF mM 42 #[.val (.int p1), .val (.int (1 : Int32)), .val (.ref a_INDICATION), .val (.int (0 : Int32)), .val (.int (0 : Int32)), .val (.int (0 : Int32))] [])) _
      refine XS.iload X21.here hx rfl (hb hby at_42) rfl ?_
      show Steps pP.tables eE below (T21.setTop (mkF mM 44 #[.val (.int p1), .val (.int (1 : Int32)), .val (.ref a_INDICATION), .val (.int (0 : Int32)), .val (.int (0 : Int32)), .val (.int (0 : Int32))] [(.int (0 : Int32))])) _
      refine XS.iloadN X21.here hx rfl (hb hby at_44) rfl ?_
      show Steps pP.tables eE below (T21.setTop (mkF mM 45 #[.val (.int p1), .val (.int (1 : Int32)), .val (.ref a_INDICATION), .val (.int (0 : Int32)), .val (.int (0 : Int32)), .val (.int (0 : Int32))] [(.int (0 : Int32)), (.int (0 : Int32))])) _
      refine XS.icmpNo X21.here hx rfl (hb hby at_45) rfl (teq (by decide)).2 ?_
      show Steps pP.tables eE below (T21.setTop (mkF mM 48 #[.val (.int p1), .val (.int (1 : Int32)), .val (.ref a_INDICATION), .val (.int (0 : Int32)), .val (.int (0 : Int32)), .val (.int (0 : Int32))] [])) _
      refine XS.iload X21.here hx rfl (hb hby at_48) rfl ?_
      show Steps pP.tables eE below (T21.setTop (mkF mM 50 #[.val (.int p1), .val (.int (1 : Int32)), .val (.ref a_INDICATION), .val (.int (0 : Int32)), .val (.int (0 : Int32)), .val (.int (0 : Int32))] [(.int (0 : Int32))])) _
      refine XS.iload X21.here hx rfl (hb hby at_50) rfl ?_
      show Steps pP.tables eE below (T21.setTop (mkF mM 52 #[.val (.int p1), .val (.int (1 : Int32)), .val (.ref a_INDICATION), .val (.int (0 : Int32)), .val (.int (0 : Int32)), .val (.int (0 : Int32))] [(.int (0 : Int32)), (.int (0 : Int32))])) _
      refine XS.icmpNo X21.here hx rfl (hb hby at_52) rfl (teq (by decide)).2 ?_
      show Steps pP.tables eE below (T21.setTop (mkF mM 55 #[.val (.int p1), .val (.int (1 : Int32)), .val (.ref a_INDICATION), .val (.int (0 : Int32)), .val (.int (0 : Int32)), .val (.int (0 : Int32))] [])) _
      refine XS.iconst X21.here hx rfl (hb hby at_55) ?_
      show Steps pP.tables eE below (T21.setTop (mkF mM 56 #[.val (.int p1), .val (.int (1 : Int32)), .val (.ref a_INDICATION), .val (.int (0 : Int32)), .val (.int (0 : Int32)), .val (.int (0 : Int32))] [(.int (1 : Int32))])) _
      refine XS.goto X21.here hx rfl (pc0 := 56) (pc' := 60) rfl (hb hby at_56) (by decide) (by decide) ?_
      exact kg)
    obtain ⟨fs, hr, hrun, hended, hW, hsame⟩ := X21.leave (v := some (.int (1 : Int32))) (fun h => by rw [Bd.returns] at h; cases h)
    refine ⟨_, _, pr23 _ (retOut X21 hx (t := .boolean) Bd.returns rfl (Or.inl ⟨rfl, Or.inr (Or.inl rfl), _, rfl⟩) (hb hby at_60) hr), hrun, hended, _, _, rfl, ?_, ⟨_, rfl⟩, hW, hsame.mono (by decide) (by decide)⟩
    show Q0 Z p1 a_REQUEST a_INDICATION a_SUCCESS_RESPONSE a_ERROR_RESPONSE h0 n0 _ T21.heap _
    rw [e21]
    exact ⟨rfl, N21⟩
  ·
    have pr24 : ∀ tg, Steps pP.tables eE below (s₁.setTop (mkF mM 5 #[.val (.int p1), .val (.int (2 : Int32)), .unset, .unset, .unset, .unset] [(.int (2 : Int32))])) tg → Steps pP.tables eE below (s₁.setTop (entryFrame mM #[(.int p1)] maxLocals)) tg := fun tg kg => pr3 _ (by
      show Steps pP.tables eE below (s₁.setTop (mkF mM 4 #[.val (.int p1), .val (.int (2 : Int32)), .unset, .unset, .unset, .unset] [])) _
      refine XS.iloadN X0.here hx rfl (hb hby at_4) rfl ?_
      exact kg)
    obtain ⟨_, _, ⟨T25, L25, kk25, nn25⟩, -, X25, ⟨Lc25, hQ25, l25, y25, z25⟩, st25⟩ := Jvm.LawKit.callS X0 hx (y := (⟨"com/example/thawline/thawline/stun/StunClassIsResponsePinLaw", "pick", "(I)Lcom/example/thawline/thawline/stun/StunClass;"⟩ : MethodName)) hown (mvT hZ (hw _ (List.mem_of_getElem? (i := 0) rfl))) (mvT hZ (hw _ (List.mem_of_getElem? (i := 1) rfl))) (mvT hZ (hw _ (List.mem_of_getElem? (i := 2) rfl))) (mvT hZ (hw _ (List.mem_of_getElem? (i := 3) rfl))) (by decide) (backOf (W := 0) (rm12 l Z a0 hw [] a_REQUEST a_INDICATION a_SUCCESS_RESPONSE a_ERROR_RESPONSE h0 n0 Z0 O S_REQUEST E_REQUEST S_INDICATION E_INDICATION S_SUCCESS_RESPONSE E_SUCCESS_RESPONSE S_ERROR_RESPONSE E_ERROR_RESPONSE F_REQUEST_ordinal F_SUCCESS_RESPONSE_ordinal F_ERROR_RESPONSE_ordinal F_REQUEST_bits F_ERROR_RESPONSE_bits F_SUCCESS_RESPONSE_bits F_INDICATION_ordinal F_INDICATION_bits) hZ (hw _ (List.mem_of_getElem? (i := 3) rfl)) (hw _ (List.mem_of_getElem? (i := 2) rfl)) (by decide) (by decide)) (g := (mkF mM 5 #[.val (.int p1), .val (.int (2 : Int32)), .unset, .unset, .unset, .unset] [(.int (2 : Int32))])) rfl (by rw [hml]; rfl) (argsL := [(.int (2 : Int32))]) (rest := []) (lenOf pd_0 rfl) rfl (by show 2 * 0 + _ ≤ _; exact Nat.le_of_eq rfl) (hb hby at_5) (fun _ _ => ⟨rfl, e0, (by decide : 0 + 0 ≤ _), (by decide : 0 + 0 ≤ _)⟩)
    dsimp only [Pt.U, Pt.locs, Pt.cells, Pt.slots] at X25 l25 y25 z25 st25 hQ25
    subst l25 y25 z25
    obtain ⟨rfl, Nq25, e25⟩ := hQ25
    have N25 := Fr.app N0 Nq25
    have pr26 : ∀ tg, Steps pP.tables eE below (T25.setTop (mkF mM 8 #[.val (.int p1), .val (.int (2 : Int32)), .unset, .unset, .unset, .unset] [(.ref a_SUCCESS_RESPONSE)])) tg → Steps pP.tables eE below (s₁.setTop (entryFrame mM #[(.int p1)] maxLocals)) tg := fun tg kg => pr24 _ (st25 _ kg)
    have pr27 : ∀ tg, Steps pP.tables eE below (T25.setTop (mkF mM 21 #[.val (.int p1), .val (.int (2 : Int32)), .val (.ref a_SUCCESS_RESPONSE), .val (.int (1 : Int32)), .unset, .unset] [(.ref a_SUCCESS_RESPONSE)])) tg → Steps pP.tables eE below (s₁.setTop (entryFrame mM #[(.int p1)] maxLocals)) tg := fun tg kg => pr26 _ (by
      show Steps pP.tables eE below (T25.setTop (mkF mM 8 #[.val (.int p1), .val (.int (2 : Int32)), .unset, .unset, .unset, .unset] [(.ref a_SUCCESS_RESPONSE)])) _
      refine XS.astoreN X25.here hx rfl (hb hby at_8) rfl rfl (l' := #[.val (.int p1), .val (.int (2 : Int32)), .val (.ref a_SUCCESS_RESPONSE), .unset, .unset, .unset]) rfl ?_
      show Steps pP.tables eE below (T25.setTop (mkF mM 9 #[.val (.int p1), .val (.int (2 : Int32)), .val (.ref a_SUCCESS_RESPONSE), .unset, .unset, .unset] [])) _
      refine XS.iloadN X25.here hx rfl (hb hby at_9) rfl ?_
      show Steps pP.tables eE below (T25.setTop (mkF mM 10 #[.val (.int p1), .val (.int (2 : Int32)), .val (.ref a_SUCCESS_RESPONSE), .unset, .unset, .unset] [(.int (2 : Int32))])) _
      refine XS.iconst X25.here hx rfl (hb hby at_10) ?_
      show Steps pP.tables eE below (T25.setTop (mkF mM 11 #[.val (.int p1), .val (.int (2 : Int32)), .val (.ref a_SUCCESS_RESPONSE), .unset, .unset, .unset] [(.int (2 : Int32)), (.int (2 : Int32))])) _
      refine XS.icmpNo X25.here hx rfl (hb hby at_11) rfl (flt (by decide)).1 ?_
      show Steps pP.tables eE below (T25.setTop (mkF mM 14 #[.val (.int p1), .val (.int (2 : Int32)), .val (.ref a_SUCCESS_RESPONSE), .unset, .unset, .unset] [])) _
      refine XS.iconst X25.here hx rfl (hb hby at_14) ?_
      show Steps pP.tables eE below (T25.setTop (mkF mM 15 #[.val (.int p1), .val (.int (2 : Int32)), .val (.ref a_SUCCESS_RESPONSE), .unset, .unset, .unset] [(.int (1 : Int32))])) _
      refine XS.goto X25.here hx rfl (pc0 := 15) (pc' := 19) rfl (hb hby at_15) (by decide) (by decide) ?_
      show Steps pP.tables eE below (T25.setTop (mkF mM 19 #[.val (.int p1), .val (.int (2 : Int32)), .val (.ref a_SUCCESS_RESPONSE), .unset, .unset, .unset] [(.int (1 : Int32))])) _
      refine XS.istoreN X25.here hx rfl (hb hby at_19) rfl (l' := #[.val (.int p1), .val (.int (2 : Int32)), .val (.ref a_SUCCESS_RESPONSE), .val (.int (1 : Int32)), .unset, .unset]) rfl ?_
      show Steps pP.tables eE below (T25.setTop (mkF mM 20 #[.val (.int p1), .val (.int (2 : Int32)), .val (.ref a_SUCCESS_RESPONSE), .val (.int (1 : Int32)), .unset, .unset] [])) _
      refine XS.aloadN X25.here hx rfl (hb hby at_20) rfl rfl ?_
      exact kg)
    obtain ⟨cq28, kq28, qa28, qb28, qc28⟩ := isOf hZ e25 (Exa.ext (O).2 E_SUCCESS_RESPONSE)
    obtain ⟨_, _, ⟨T28, L28, kk28, nn28⟩, -, X28, ⟨Lc28, hQ28, l28, y28, z28⟩, st28⟩ := X25.virtualBack hx (y := (⟨"com/example/thawline/thawline/stun/StunClass", "isResponse", "()Z"⟩ : MethodName)) (z := (⟨"com/example/thawline/thawline/stun/StunClass", "isResponse", "()Z"⟩ : MethodName)) hown (mvT hZ (hw _ (List.mem_of_getElem? (i := 7) rfl))) (mvT hZ (hw _ (List.mem_of_getElem? (i := 8) rfl))) (notFace_of_selects (args := #[]) (mvT hZ (hw _ (List.mem_of_getElem? (i := 10) rfl)))) (mvT hZ (hw _ (List.mem_of_getElem? (i := 10) rfl))) (mvT hZ (hw _ (List.mem_of_getElem? (i := 9) rfl))) (by decide) (backOf (W := 0) (rm22 l Z a0 hw [] a_REQUEST a_INDICATION a_SUCCESS_RESPONSE a_ERROR_RESPONSE h0 n0 Z0 O S_REQUEST E_REQUEST S_INDICATION E_INDICATION S_SUCCESS_RESPONSE E_SUCCESS_RESPONSE S_ERROR_RESPONSE E_ERROR_RESPONSE F_REQUEST_ordinal F_SUCCESS_RESPONSE_ordinal F_ERROR_RESPONSE_ordinal F_REQUEST_bits F_ERROR_RESPONSE_bits F_SUCCESS_RESPONSE_bits F_INDICATION_ordinal F_INDICATION_bits) hZ (hw _ (List.mem_of_getElem? (i := 11) rfl)) (hw _ (List.mem_of_getElem? (i := 5) rfl)) (by decide) (by decide)) qa28 qc28 (g := (mkF mM 21 #[.val (.int p1), .val (.int (2 : Int32)), .val (.ref a_SUCCESS_RESPONSE), .val (.int (1 : Int32)), .unset, .unset] [(.ref a_SUCCESS_RESPONSE)])) rfl (by rw [hml]; rfl) (Steps.refl _) (argsL := []) (rest := []) (lenOf pd_1 rfl) rfl (by show 2 * 0 + _ ≤ _; exact Nat.le_of_eq rfl) (hb hby at_21) (fun _ _ => ⟨rfl, e25, (by decide : 0 + 0 ≤ _), (by decide : 0 + 0 ≤ _)⟩)
    dsimp only [Pt.U, Pt.locs, Pt.cells, Pt.slots] at X28 l28 y28 z28 st28 hQ28
    subst l28 y28 z28
    obtain ⟨rfl, Nq28, e28⟩ := hQ28
    have N28 := Fr.app N25 Nq28
    have pr29 : ∀ tg, Steps pP.tables eE below (T28.setTop (mkF mM 24 #[.val (.int p1), .val (.int (2 : Int32)), .val (.ref a_SUCCESS_RESPONSE), .val (.int (1 : Int32)), .unset, .unset] [(.int (1 : Int32))])) tg → Steps pP.tables eE below (s₁.setTop (entryFrame mM #[(.int p1)] maxLocals)) tg := fun tg kg => pr27 _ (st28.trans kg)
    have pr30 : ∀ tg, Steps pP.tables eE below (T28.setTop (mkF mM 27 #[.val (.int p1), .val (.int (2 : Int32)), .val (.ref a_SUCCESS_RESPONSE), .val (.int (1 : Int32)), .val (.int (1 : Int32)), .unset] [(.ref a_SUCCESS_RESPONSE)])) tg → Steps pP.tables eE below (s₁.setTop (entryFrame mM #[(.int p1)] maxLocals)) tg := fun tg kg => pr29 _ (by
      show Steps pP.tables eE below (T28.setTop (mkF mM 24 #[.val (.int p1), .val (.int (2 : Int32)), .val (.ref a_SUCCESS_RESPONSE), .val (.int (1 : Int32)), .unset, .unset] [(.int (1 : Int32))])) _
      refine XS.istore X28.here hx rfl (hb hby at_24) rfl (l' := #[.val (.int p1), .val (.int (2 : Int32)), .val (.ref a_SUCCESS_RESPONSE), .val (.int (1 : Int32)), .val (.int (1 : Int32)), .unset]) rfl ?_
      show Steps pP.tables eE below (T28.setTop (mkF mM 26 #[.val (.int p1), .val (.int (2 : Int32)), .val (.ref a_SUCCESS_RESPONSE), .val (.int (1 : Int32)), .val (.int (1 : Int32)), .unset] [])) _
      refine XS.aloadN X28.here hx rfl (hb hby at_26) rfl rfl ?_
      exact kg)
    obtain ⟨cq31, kq31, qa31, qb31, qc31⟩ := isOf hZ e28 (Exa.ext (O).2 E_SUCCESS_RESPONSE)
    obtain ⟨_, _, ⟨T31, L31, kk31, nn31⟩, -, X31, ⟨Lc31, hQ31, l31, y31, z31⟩, st31⟩ := X28.virtualBack hx (y := (⟨"com/example/thawline/thawline/stun/StunClass", "bits", "()I"⟩ : MethodName)) (z := (⟨"com/example/thawline/thawline/stun/StunClass", "bits", "()I"⟩ : MethodName)) hown (mvT hZ (hw _ (List.mem_of_getElem? (i := 16) rfl))) (mvT hZ (hw _ (List.mem_of_getElem? (i := 17) rfl))) (notFace_of_selects (args := #[]) (mvT hZ (hw _ (List.mem_of_getElem? (i := 19) rfl)))) (mvT hZ (hw _ (List.mem_of_getElem? (i := 19) rfl))) (mvT hZ (hw _ (List.mem_of_getElem? (i := 18) rfl))) (by decide) (backOf (W := 0) (rm32 l Z a0 hw [] a_REQUEST a_INDICATION a_SUCCESS_RESPONSE a_ERROR_RESPONSE h0 n0 Z0 O S_REQUEST E_REQUEST S_INDICATION E_INDICATION S_SUCCESS_RESPONSE E_SUCCESS_RESPONSE S_ERROR_RESPONSE E_ERROR_RESPONSE F_REQUEST_ordinal F_SUCCESS_RESPONSE_ordinal F_ERROR_RESPONSE_ordinal F_REQUEST_bits F_ERROR_RESPONSE_bits F_SUCCESS_RESPONSE_bits F_INDICATION_ordinal F_INDICATION_bits) hZ (hw _ (List.mem_of_getElem? (i := 20) rfl)) (hw _ (List.mem_of_getElem? (i := 5) rfl)) (by decide) (by decide)) qa31 qc31 (g := (mkF mM 27 #[.val (.int p1), .val (.int (2 : Int32)), .val (.ref a_SUCCESS_RESPONSE), .val (.int (1 : Int32)), .val (.int (1 : Int32)), .unset] [(.ref a_SUCCESS_RESPONSE)])) rfl (by rw [hml]; rfl) (Steps.refl _) (argsL := []) (rest := []) (lenOf pd_2 rfl) rfl (by show 2 * 0 + _ ≤ _; exact Nat.le_of_eq rfl) (hb hby at_27) (fun _ _ => ⟨rfl, e28, (by decide : 0 + 0 ≤ _), (by decide : 0 + 0 ≤ _)⟩)
    dsimp only [Pt.U, Pt.locs, Pt.cells, Pt.slots] at X31 l31 y31 z31 st31 hQ31
    subst l31 y31 z31
    obtain ⟨rfl, Nq31, e31⟩ := hQ31
    have N31 := Fr.app N28 Nq31
    have pr32 : ∀ tg, Steps pP.tables eE below (T31.setTop (mkF mM 30 #[.val (.int p1), .val (.int (2 : Int32)), .val (.ref a_SUCCESS_RESPONSE), .val (.int (1 : Int32)), .val (.int (1 : Int32)), .unset] [(.int (2 : Int32))])) tg → Steps pP.tables eE below (s₁.setTop (entryFrame mM #[(.int p1)] maxLocals)) tg := fun tg kg => pr30 _ (st31.trans kg)
    have pr33 : ∀ tg, Steps pP.tables eE below (T31.setTop (mkF mM 60 #[.val (.int p1), .val (.int (2 : Int32)), .val (.ref a_SUCCESS_RESPONSE), .val (.int (1 : Int32)), .val (.int (1 : Int32)), .val (.int (1 : Int32))] [(.int (1 : Int32))])) tg → Steps pP.tables eE below (s₁.setTop (entryFrame mM #[(.int p1)] maxLocals)) tg := fun tg kg => pr32 _ (by
      show Steps pP.tables eE below (T31.setTop (mkF mM 30 #[.val (.int p1), .val (.int (2 : Int32)), .val (.ref a_SUCCESS_RESPONSE), .val (.int (1 : Int32)), .val (.int (1 : Int32)), .unset] [(.int (2 : Int32))])) _
      refine XS.iconst X31.here hx rfl (hb hby at_30) ?_
      show Steps pP.tables eE below (T31.setTop (mkF mM 31 #[.val (.int p1), .val (.int (2 : Int32)), .val (.ref a_SUCCESS_RESPONSE), .val (.int (1 : Int32)), .val (.int (1 : Int32)), .unset] [(.int (2 : Int32)), (.int (2 : Int32))])) _
      refine XS.iand X31.here hx rfl (hb hby at_31) rfl ?_
      show Steps pP.tables eE below (T31.setTop (mkF mM 32 #[.val (.int p1), .val (.int (2 : Int32)), .val (.ref a_SUCCESS_RESPONSE), .val (.int (1 : Int32)), .val (.int (1 : Int32)), .unset] [(.int (2 : Int32))])) _
      refine XS.ifNo X31.here hx rfl (hb hby at_32) rfl ((if0 _ _).trans (feq (by decide)).1) ?_
      show Steps pP.tables eE below (T31.setTop (mkF mM 35 #[.val (.int p1), .val (.int (2 : Int32)), .val (.ref a_SUCCESS_RESPONSE), .val (.int (1 : Int32)), .val (.int (1 : Int32)), .unset] [])) _
      refine XS.iconst X31.here hx rfl (hb hby at_35) ?_
      show Steps pP.tables eE below (T31.setTop (mkF mM 36 #[.val (.int p1), .val (.int (2 : Int32)), .val (.ref a_SUCCESS_RESPONSE), .val (.int (1 : Int32)), .val (.int (1 : Int32)), .unset] [(.int (1 : Int32))])) _
      refine XS.goto X31.here hx rfl (pc0 := 36) (pc' := 40) rfl (hb hby at_36) (by decide) (by decide) ?_
      show Steps pP.tables eE below (T31.setTop (mkF mM 40 #[.val (.int p1), .val (.int (2 : Int32)), .val (.ref a_SUCCESS_RESPONSE), .val (.int (1 : Int32)), .val (.int (1 : Int32)), .unset] [(.int (1 : Int32))])) _
      refine XS.istore X31.here hx rfl (hb hby at_40) rfl (l' := #[.val (.int p1), .val (.int (2 : Int32)), .val (.ref a_SUCCESS_RESPONSE), .val (.int (1 : Int32)), .val (.int (1 : Int32)), .val (.int (1 : Int32))]) rfl ?_
      show Steps pP.tables eE below (T31.setTop (mkF mM 42 #[.val (.int p1), .val (.int (2 : Int32)), .val (.ref a_SUCCESS_RESPONSE), .val (.int (1 : Int32)), .val (.int (1 : Int32)), .val (.int (1 : Int32))] [])) _
      refine XS.iload X31.here hx rfl (hb hby at_42) rfl ?_
      show Steps pP.tables eE below (T31.setTop (mkF mM 44 #[.val (.int p1), .val (.int (2 : Int32)), .val (.ref a_SUCCESS_RESPONSE), .val (.int (1 : Int32)), .val (.int (1 : Int32)), .val (.int (1 : Int32))] [(.int (1 : Int32))])) _
      refine XS.iloadN X31.here hx rfl (hb hby at_44) rfl ?_
      show Steps pP.tables eE below (T31.setTop (mkF mM 45 #[.val (.int p1), .val (.int (2 : Int32)), .val (.ref a_SUCCESS_RESPONSE), .val (.int (1 : Int32)), .val (.int (1 : Int32)), .val (.int (1 : Int32))] [(.int (1 : Int32)), (.int (1 : Int32))])) _
      refine XS.icmpNo X31.here hx rfl (hb hby at_45) rfl (teq (by decide)).2 ?_
      show Steps pP.tables eE below (T31.setTop (mkF mM 48 #[.val (.int p1), .val (.int (2 : Int32)), .val (.ref a_SUCCESS_RESPONSE), .val (.int (1 : Int32)), .val (.int (1 : Int32)), .val (.int (1 : Int32))] [])) _
      refine XS.iload X31.here hx rfl (hb hby at_48) rfl ?_
      show Steps pP.tables eE below (T31.setTop (mkF mM 50 #[.val (.int p1), .val (.int (2 : Int32)), .val (.ref a_SUCCESS_RESPONSE), .val (.int (1 : Int32)), .val (.int (1 : Int32)), .val (.int (1 : Int32))] [(.int (1 : Int32))])) _
      refine XS.iload X31.here hx rfl (hb hby at_50) rfl ?_
      show Steps pP.tables eE below (T31.setTop (mkF mM 52 #[.val (.int p1), .val (.int (2 : Int32)), .val (.ref a_SUCCESS_RESPONSE), .val (.int (1 : Int32)), .val (.int (1 : Int32)), .val (.int (1 : Int32))] [(.int (1 : Int32)), (.int (1 : Int32))])) _
      refine XS.icmpNo X31.here hx rfl (hb hby at_52) rfl (teq (by decide)).2 ?_
      show Steps pP.tables eE below (T31.setTop (mkF mM 55 #[.val (.int p1), .val (.int (2 : Int32)), .val (.ref a_SUCCESS_RESPONSE), .val (.int (1 : Int32)), .val (.int (1 : Int32)), .val (.int (1 : Int32))] [])) _
      refine XS.iconst X31.here hx rfl (hb hby at_55) ?_
      show Steps pP.tables eE below (T31.setTop (mkF mM 56 #[.val (.int p1), .val (.int (2 : Int32)), .val (.ref a_SUCCESS_RESPONSE), .val (.int (1 : Int32)), .val (.int (1 : Int32)), .val (.int (1 : Int32))] [(.int (1 : Int32))])) _
      refine XS.goto X31.here hx rfl (pc0 := 56) (pc' := 60) rfl (hb hby at_56) (by decide) (by decide) ?_
      exact kg)
    obtain ⟨fs, hr, hrun, hended, hW, hsame⟩ := X31.leave (v := some (.int (1 : Int32))) (fun h => by rw [Bd.returns] at h; cases h)
    refine ⟨_, _, pr33 _ (retOut X31 hx (t := .boolean) Bd.returns rfl (Or.inl ⟨rfl, Or.inr (Or.inl rfl), _, rfl⟩) (hb hby at_60) hr), hrun, hended, _, _, rfl, ?_, ⟨_, rfl⟩, hW, hsame.mono (by decide) (by decide)⟩
    show Q0 Z p1 a_REQUEST a_INDICATION a_SUCCESS_RESPONSE a_ERROR_RESPONSE h0 n0 _ T31.heap _
    rw [e31]
    exact ⟨rfl, N31⟩
  ·
    have pr34 : ∀ tg, Steps pP.tables eE below (s₁.setTop (mkF mM 5 #[.val (.int p1), .val (.int (3 : Int32)), .unset, .unset, .unset, .unset] [(.int (3 : Int32))])) tg → Steps pP.tables eE below (s₁.setTop (entryFrame mM #[(.int p1)] maxLocals)) tg := fun tg kg => pr3 _ (by
      show Steps pP.tables eE below (s₁.setTop (mkF mM 4 #[.val (.int p1), .val (.int (3 : Int32)), .unset, .unset, .unset, .unset] [])) _
      refine XS.iloadN X0.here hx rfl (hb hby at_4) rfl ?_
      exact kg)
    obtain ⟨_, _, ⟨T35, L35, kk35, nn35⟩, -, X35, ⟨Lc35, hQ35, l35, y35, z35⟩, st35⟩ := Jvm.LawKit.callS X0 hx (y := (⟨"com/example/thawline/thawline/stun/StunClassIsResponsePinLaw", "pick", "(I)Lcom/example/thawline/thawline/stun/StunClass;"⟩ : MethodName)) hown (mvT hZ (hw _ (List.mem_of_getElem? (i := 0) rfl))) (mvT hZ (hw _ (List.mem_of_getElem? (i := 1) rfl))) (mvT hZ (hw _ (List.mem_of_getElem? (i := 2) rfl))) (mvT hZ (hw _ (List.mem_of_getElem? (i := 3) rfl))) (by decide) (backOf (W := 0) (rm13 l Z a0 hw [] a_REQUEST a_INDICATION a_SUCCESS_RESPONSE a_ERROR_RESPONSE h0 n0 Z0 O S_REQUEST E_REQUEST S_INDICATION E_INDICATION S_SUCCESS_RESPONSE E_SUCCESS_RESPONSE S_ERROR_RESPONSE E_ERROR_RESPONSE F_REQUEST_ordinal F_SUCCESS_RESPONSE_ordinal F_ERROR_RESPONSE_ordinal F_REQUEST_bits F_ERROR_RESPONSE_bits F_SUCCESS_RESPONSE_bits F_INDICATION_ordinal F_INDICATION_bits) hZ (hw _ (List.mem_of_getElem? (i := 3) rfl)) (hw _ (List.mem_of_getElem? (i := 2) rfl)) (by decide) (by decide)) (g := (mkF mM 5 #[.val (.int p1), .val (.int (3 : Int32)), .unset, .unset, .unset, .unset] [(.int (3 : Int32))])) rfl (by rw [hml]; rfl) (argsL := [(.int (3 : Int32))]) (rest := []) (lenOf pd_0 rfl) rfl (by show 2 * 0 + _ ≤ _; exact Nat.le_of_eq rfl) (hb hby at_5) (fun _ _ => ⟨rfl, e0, (by decide : 0 + 0 ≤ _), (by decide : 0 + 0 ≤ _)⟩)
    dsimp only [Pt.U, Pt.locs, Pt.cells, Pt.slots] at X35 l35 y35 z35 st35 hQ35
    subst l35 y35 z35
    obtain ⟨rfl, Nq35, e35⟩ := hQ35
    have N35 := Fr.app N0 Nq35
    have pr36 : ∀ tg, Steps pP.tables eE below (T35.setTop (mkF mM 8 #[.val (.int p1), .val (.int (3 : Int32)), .unset, .unset, .unset, .unset] [(.ref a_ERROR_RESPONSE)])) tg → Steps pP.tables eE below (s₁.setTop (entryFrame mM #[(.int p1)] maxLocals)) tg := fun tg kg => pr34 _ (st35 _ kg)
    have pr37 : ∀ tg, Steps pP.tables eE below (T35.setTop (mkF mM 21 #[.val (.int p1), .val (.int (3 : Int32)), .val (.ref a_ERROR_RESPONSE), .val (.int (1 : Int32)), .unset, .unset] [(.ref a_ERROR_RESPONSE)])) tg → Steps pP.tables eE below (s₁.setTop (entryFrame mM #[(.int p1)] maxLocals)) tg := fun tg kg => pr36 _ (by
      show Steps pP.tables eE below (T35.setTop (mkF mM 8 #[.val (.int p1), .val (.int (3 : Int32)), .unset, .unset, .unset, .unset] [(.ref a_ERROR_RESPONSE)])) _
      refine XS.astoreN X35.here hx rfl (hb hby at_8) rfl rfl (l' := #[.val (.int p1), .val (.int (3 : Int32)), .val (.ref a_ERROR_RESPONSE), .unset, .unset, .unset]) rfl ?_
      show Steps pP.tables eE below (T35.setTop (mkF mM 9 #[.val (.int p1), .val (.int (3 : Int32)), .val (.ref a_ERROR_RESPONSE), .unset, .unset, .unset] [])) _
      refine XS.iloadN X35.here hx rfl (hb hby at_9) rfl ?_
      show Steps pP.tables eE below (T35.setTop (mkF mM 10 #[.val (.int p1), .val (.int (3 : Int32)), .val (.ref a_ERROR_RESPONSE), .unset, .unset, .unset] [(.int (3 : Int32))])) _
      refine XS.iconst X35.here hx rfl (hb hby at_10) ?_
      show Steps pP.tables eE below (T35.setTop (mkF mM 11 #[.val (.int p1), .val (.int (3 : Int32)), .val (.ref a_ERROR_RESPONSE), .unset, .unset, .unset] [(.int (2 : Int32)), (.int (3 : Int32))])) _
      refine XS.icmpNo X35.here hx rfl (hb hby at_11) rfl (flt (by decide)).1 ?_
      show Steps pP.tables eE below (T35.setTop (mkF mM 14 #[.val (.int p1), .val (.int (3 : Int32)), .val (.ref a_ERROR_RESPONSE), .unset, .unset, .unset] [])) _
      refine XS.iconst X35.here hx rfl (hb hby at_14) ?_
      show Steps pP.tables eE below (T35.setTop (mkF mM 15 #[.val (.int p1), .val (.int (3 : Int32)), .val (.ref a_ERROR_RESPONSE), .unset, .unset, .unset] [(.int (1 : Int32))])) _
      refine XS.goto X35.here hx rfl (pc0 := 15) (pc' := 19) rfl (hb hby at_15) (by decide) (by decide) ?_
      show Steps pP.tables eE below (T35.setTop (mkF mM 19 #[.val (.int p1), .val (.int (3 : Int32)), .val (.ref a_ERROR_RESPONSE), .unset, .unset, .unset] [(.int (1 : Int32))])) _
      refine XS.istoreN X35.here hx rfl (hb hby at_19) rfl (l' := #[.val (.int p1), .val (.int (3 : Int32)), .val (.ref a_ERROR_RESPONSE), .val (.int (1 : Int32)), .unset, .unset]) rfl ?_
      show Steps pP.tables eE below (T35.setTop (mkF mM 20 #[.val (.int p1), .val (.int (3 : Int32)), .val (.ref a_ERROR_RESPONSE), .val (.int (1 : Int32)), .unset, .unset] [])) _
      refine XS.aloadN X35.here hx rfl (hb hby at_20) rfl rfl ?_
      exact kg)
    obtain ⟨cq38, kq38, qa38, qb38, qc38⟩ := isOf hZ e35 (Exa.ext (O).2 E_ERROR_RESPONSE)
    obtain ⟨_, _, ⟨T38, L38, kk38, nn38⟩, -, X38, ⟨Lc38, hQ38, l38, y38, z38⟩, st38⟩ := X35.virtualBack hx (y := (⟨"com/example/thawline/thawline/stun/StunClass", "isResponse", "()Z"⟩ : MethodName)) (z := (⟨"com/example/thawline/thawline/stun/StunClass", "isResponse", "()Z"⟩ : MethodName)) hown (mvT hZ (hw _ (List.mem_of_getElem? (i := 7) rfl))) (mvT hZ (hw _ (List.mem_of_getElem? (i := 8) rfl))) (notFace_of_selects (args := #[]) (mvT hZ (hw _ (List.mem_of_getElem? (i := 10) rfl)))) (mvT hZ (hw _ (List.mem_of_getElem? (i := 10) rfl))) (mvT hZ (hw _ (List.mem_of_getElem? (i := 9) rfl))) (by decide) (backOf (W := 0) (rm23 l Z a0 hw [] a_REQUEST a_INDICATION a_SUCCESS_RESPONSE a_ERROR_RESPONSE h0 n0 Z0 O S_REQUEST E_REQUEST S_INDICATION E_INDICATION S_SUCCESS_RESPONSE E_SUCCESS_RESPONSE S_ERROR_RESPONSE E_ERROR_RESPONSE F_REQUEST_ordinal F_SUCCESS_RESPONSE_ordinal F_ERROR_RESPONSE_ordinal F_REQUEST_bits F_ERROR_RESPONSE_bits F_SUCCESS_RESPONSE_bits F_INDICATION_ordinal F_INDICATION_bits) hZ (hw _ (List.mem_of_getElem? (i := 11) rfl)) (hw _ (List.mem_of_getElem? (i := 5) rfl)) (by decide) (by decide)) qa38 qc38 (g := (mkF mM 21 #[.val (.int p1), .val (.int (3 : Int32)), .val (.ref a_ERROR_RESPONSE), .val (.int (1 : Int32)), .unset, .unset] [(.ref a_ERROR_RESPONSE)])) rfl (by rw [hml]; rfl) (Steps.refl _) (argsL := []) (rest := []) (lenOf pd_1 rfl) rfl (by show 2 * 0 + _ ≤ _; exact Nat.le_of_eq rfl) (hb hby at_21) (fun _ _ => ⟨rfl, e35, (by decide : 0 + 0 ≤ _), (by decide : 0 + 0 ≤ _)⟩)
    dsimp only [Pt.U, Pt.locs, Pt.cells, Pt.slots] at X38 l38 y38 z38 st38 hQ38
    subst l38 y38 z38
    obtain ⟨rfl, Nq38, e38⟩ := hQ38
    have N38 := Fr.app N35 Nq38
    have pr39 : ∀ tg, Steps pP.tables eE below (T38.setTop (mkF mM 24 #[.val (.int p1), .val (.int (3 : Int32)), .val (.ref a_ERROR_RESPONSE), .val (.int (1 : Int32)), .unset, .unset] [(.int (1 : Int32))])) tg → Steps pP.tables eE below (s₁.setTop (entryFrame mM #[(.int p1)] maxLocals)) tg := fun tg kg => pr37 _ (st38.trans kg)
    have pr40 : ∀ tg, Steps pP.tables eE below (T38.setTop (mkF mM 27 #[.val (.int p1), .val (.int (3 : Int32)), .val (.ref a_ERROR_RESPONSE), .val (.int (1 : Int32)), .val (.int (1 : Int32)), .unset] [(.ref a_ERROR_RESPONSE)])) tg → Steps pP.tables eE below (s₁.setTop (entryFrame mM #[(.int p1)] maxLocals)) tg := fun tg kg => pr39 _ (by
      show Steps pP.tables eE below (T38.setTop (mkF mM 24 #[.val (.int p1), .val (.int (3 : Int32)), .val (.ref a_ERROR_RESPONSE), .val (.int (1 : Int32)), .unset, .unset] [(.int (1 : Int32))])) _
      refine XS.istore X38.here hx rfl (hb hby at_24) rfl (l' := #[.val (.int p1), .val (.int (3 : Int32)), .val (.ref a_ERROR_RESPONSE), .val (.int (1 : Int32)), .val (.int (1 : Int32)), .unset]) rfl ?_
      show Steps pP.tables eE below (T38.setTop (mkF mM 26 #[.val (.int p1), .val (.int (3 : Int32)), .val (.ref a_ERROR_RESPONSE), .val (.int (1 : Int32)), .val (.int (1 : Int32)), .unset] [])) _
      refine XS.aloadN X38.here hx rfl (hb hby at_26) rfl rfl ?_
      exact kg)
    obtain ⟨cq41, kq41, qa41, qb41, qc41⟩ := isOf hZ e38 (Exa.ext (O).2 E_ERROR_RESPONSE)
    obtain ⟨_, _, ⟨T41, L41, kk41, nn41⟩, -, X41, ⟨Lc41, hQ41, l41, y41, z41⟩, st41⟩ := X38.virtualBack hx (y := (⟨"com/example/thawline/thawline/stun/StunClass", "bits", "()I"⟩ : MethodName)) (z := (⟨"com/example/thawline/thawline/stun/StunClass", "bits", "()I"⟩ : MethodName)) hown (mvT hZ (hw _ (List.mem_of_getElem? (i := 16) rfl))) (mvT hZ (hw _ (List.mem_of_getElem? (i := 17) rfl))) (notFace_of_selects (args := #[]) (mvT hZ (hw _ (List.mem_of_getElem? (i := 19) rfl)))) (mvT hZ (hw _ (List.mem_of_getElem? (i := 19) rfl))) (mvT hZ (hw _ (List.mem_of_getElem? (i := 18) rfl))) (by decide) (backOf (W := 0) (rm33 l Z a0 hw [] a_REQUEST a_INDICATION a_SUCCESS_RESPONSE a_ERROR_RESPONSE h0 n0 Z0 O S_REQUEST E_REQUEST S_INDICATION E_INDICATION S_SUCCESS_RESPONSE E_SUCCESS_RESPONSE S_ERROR_RESPONSE E_ERROR_RESPONSE F_REQUEST_ordinal F_SUCCESS_RESPONSE_ordinal F_ERROR_RESPONSE_ordinal F_REQUEST_bits F_ERROR_RESPONSE_bits F_SUCCESS_RESPONSE_bits F_INDICATION_ordinal F_INDICATION_bits) hZ (hw _ (List.mem_of_getElem? (i := 20) rfl)) (hw _ (List.mem_of_getElem? (i := 5) rfl)) (by decide) (by decide)) qa41 qc41 (g := (mkF mM 27 #[.val (.int p1), .val (.int (3 : Int32)), .val (.ref a_ERROR_RESPONSE), .val (.int (1 : Int32)), .val (.int (1 : Int32)), .unset] [(.ref a_ERROR_RESPONSE)])) rfl (by rw [hml]; rfl) (Steps.refl _) (argsL := []) (rest := []) (lenOf pd_2 rfl) rfl (by show 2 * 0 + _ ≤ _; exact Nat.le_of_eq rfl) (hb hby at_27) (fun _ _ => ⟨rfl, e38, (by decide : 0 + 0 ≤ _), (by decide : 0 + 0 ≤ _)⟩)
    dsimp only [Pt.U, Pt.locs, Pt.cells, Pt.slots] at X41 l41 y41 z41 st41 hQ41
    subst l41 y41 z41
    obtain ⟨rfl, Nq41, e41⟩ := hQ41
    have N41 := Fr.app N38 Nq41
    have pr42 : ∀ tg, Steps pP.tables eE below (T41.setTop (mkF mM 30 #[.val (.int p1), .val (.int (3 : Int32)), .val (.ref a_ERROR_RESPONSE), .val (.int (1 : Int32)), .val (.int (1 : Int32)), .unset] [(.int (3 : Int32))])) tg → Steps pP.tables eE below (s₁.setTop (entryFrame mM #[(.int p1)] maxLocals)) tg := fun tg kg => pr40 _ (st41.trans kg)
    have pr43 : ∀ tg, Steps pP.tables eE below (T41.setTop (mkF mM 60 #[.val (.int p1), .val (.int (3 : Int32)), .val (.ref a_ERROR_RESPONSE), .val (.int (1 : Int32)), .val (.int (1 : Int32)), .val (.int (1 : Int32))] [(.int (1 : Int32))])) tg → Steps pP.tables eE below (s₁.setTop (entryFrame mM #[(.int p1)] maxLocals)) tg := fun tg kg => pr42 _ (by
      show Steps pP.tables eE below (T41.setTop (mkF mM 30 #[.val (.int p1), .val (.int (3 : Int32)), .val (.ref a_ERROR_RESPONSE), .val (.int (1 : Int32)), .val (.int (1 : Int32)), .unset] [(.int (3 : Int32))])) _
      refine XS.iconst X41.here hx rfl (hb hby at_30) ?_
      show Steps pP.tables eE below (T41.setTop (mkF mM 31 #[.val (.int p1), .val (.int (3 : Int32)), .val (.ref a_ERROR_RESPONSE), .val (.int (1 : Int32)), .val (.int (1 : Int32)), .unset] [(.int (2 : Int32)), (.int (3 : Int32))])) _
      refine XS.iand X41.here hx rfl (hb hby at_31) rfl ?_
      show Steps pP.tables eE below (T41.setTop (mkF mM 32 #[.val (.int p1), .val (.int (3 : Int32)), .val (.ref a_ERROR_RESPONSE), .val (.int (1 : Int32)), .val (.int (1 : Int32)), .unset] [(.int (2 : Int32))])) _
      refine XS.ifNo X41.here hx rfl (hb hby at_32) rfl ((if0 _ _).trans (feq (by decide)).1) ?_
      show Steps pP.tables eE below (T41.setTop (mkF mM 35 #[.val (.int p1), .val (.int (3 : Int32)), .val (.ref a_ERROR_RESPONSE), .val (.int (1 : Int32)), .val (.int (1 : Int32)), .unset] [])) _
      refine XS.iconst X41.here hx rfl (hb hby at_35) ?_
      show Steps pP.tables eE below (T41.setTop (mkF mM 36 #[.val (.int p1), .val (.int (3 : Int32)), .val (.ref a_ERROR_RESPONSE), .val (.int (1 : Int32)), .val (.int (1 : Int32)), .unset] [(.int (1 : Int32))])) _
      refine XS.goto X41.here hx rfl (pc0 := 36) (pc' := 40) rfl (hb hby at_36) (by decide) (by decide) ?_
      show Steps pP.tables eE below (T41.setTop (mkF mM 40 #[.val (.int p1), .val (.int (3 : Int32)), .val (.ref a_ERROR_RESPONSE), .val (.int (1 : Int32)), .val (.int (1 : Int32)), .unset] [(.int (1 : Int32))])) _
      refine XS.istore X41.here hx rfl (hb hby at_40) rfl (l' := #[.val (.int p1), .val (.int (3 : Int32)), .val (.ref a_ERROR_RESPONSE), .val (.int (1 : Int32)), .val (.int (1 : Int32)), .val (.int (1 : Int32))]) rfl ?_
      show Steps pP.tables eE below (T41.setTop (mkF mM 42 #[.val (.int p1), .val (.int (3 : Int32)), .val (.ref a_ERROR_RESPONSE), .val (.int (1 : Int32)), .val (.int (1 : Int32)), .val (.int (1 : Int32))] [])) _
      refine XS.iload X41.here hx rfl (hb hby at_42) rfl ?_
      show Steps pP.tables eE below (T41.setTop (mkF mM 44 #[.val (.int p1), .val (.int (3 : Int32)), .val (.ref a_ERROR_RESPONSE), .val (.int (1 : Int32)), .val (.int (1 : Int32)), .val (.int (1 : Int32))] [(.int (1 : Int32))])) _
      refine XS.iloadN X41.here hx rfl (hb hby at_44) rfl ?_
      show Steps pP.tables eE below (T41.setTop (mkF mM 45 #[.val (.int p1), .val (.int (3 : Int32)), .val (.ref a_ERROR_RESPONSE), .val (.int (1 : Int32)), .val (.int (1 : Int32)), .val (.int (1 : Int32))] [(.int (1 : Int32)), (.int (1 : Int32))])) _
      refine XS.icmpNo X41.here hx rfl (hb hby at_45) rfl (teq (by decide)).2 ?_
      show Steps pP.tables eE below (T41.setTop (mkF mM 48 #[.val (.int p1), .val (.int (3 : Int32)), .val (.ref a_ERROR_RESPONSE), .val (.int (1 : Int32)), .val (.int (1 : Int32)), .val (.int (1 : Int32))] [])) _
      refine XS.iload X41.here hx rfl (hb hby at_48) rfl ?_
      show Steps pP.tables eE below (T41.setTop (mkF mM 50 #[.val (.int p1), .val (.int (3 : Int32)), .val (.ref a_ERROR_RESPONSE), .val (.int (1 : Int32)), .val (.int (1 : Int32)), .val (.int (1 : Int32))] [(.int (1 : Int32))])) _
      refine XS.iload X41.here hx rfl (hb hby at_50) rfl ?_
      show Steps pP.tables eE below (T41.setTop (mkF mM 52 #[.val (.int p1), .val (.int (3 : Int32)), .val (.ref a_ERROR_RESPONSE), .val (.int (1 : Int32)), .val (.int (1 : Int32)), .val (.int (1 : Int32))] [(.int (1 : Int32)), (.int (1 : Int32))])) _
      refine XS.icmpNo X41.here hx rfl (hb hby at_52) rfl (teq (by decide)).2 ?_
      show Steps pP.tables eE below (T41.setTop (mkF mM 55 #[.val (.int p1), .val (.int (3 : Int32)), .val (.ref a_ERROR_RESPONSE), .val (.int (1 : Int32)), .val (.int (1 : Int32)), .val (.int (1 : Int32))] [])) _
      refine XS.iconst X41.here hx rfl (hb hby at_55) ?_
      show Steps pP.tables eE below (T41.setTop (mkF mM 56 #[.val (.int p1), .val (.int (3 : Int32)), .val (.ref a_ERROR_RESPONSE), .val (.int (1 : Int32)), .val (.int (1 : Int32)), .val (.int (1 : Int32))] [(.int (1 : Int32))])) _
      refine XS.goto X41.here hx rfl (pc0 := 56) (pc' := 60) rfl (hb hby at_56) (by decide) (by decide) ?_
      exact kg)
    obtain ⟨fs, hr, hrun, hended, hW, hsame⟩ := X41.leave (v := some (.int (1 : Int32))) (fun h => by rw [Bd.returns] at h; cases h)
    refine ⟨_, _, pr43 _ (retOut X41 hx (t := .boolean) Bd.returns rfl (Or.inl ⟨rfl, Or.inr (Or.inl rfl), _, rfl⟩) (hb hby at_60) hr), hrun, hended, _, _, rfl, ?_, ⟨_, rfl⟩, hW, hsame.mono (by decide) (by decide)⟩
    show Q0 Z p1 a_REQUEST a_INDICATION a_SUCCESS_RESPONSE a_ERROR_RESPONSE h0 n0 _ T41.heap _
    rw [e41]
    exact ⟨rfl, N41⟩
set_option maxRecDepth 65536 in
set_option maxHeartbeats 40000000 in
theorem comes_1 {Post : Tables → Env → Array Value → State → Outcome → State → Prop} (hpost : ∀ tb e args s v u, (limb_1_1.after args s (.returned v) u = true ∧ limb_1_2.after args s (.returned v) u = true ∧ True) → FrameEnd s (.returned v) u (Jvm.fieldLocs frame_1_writes args s ++ Jvm.arrayLocs frame_1_arrays args s ++ Jvm.staticLocs frame_1_statics s) 0 0 → Post tb e args s (.returned v) u) :
    ArmFor flags0 classFile x code maxLocals ret World_1 tables_1 room_1 Calls_1 rest_1 Pre_1 Post := by
  intro l hfl _ _ p e ha hc hk s m args below hf hA hF happ hP
  obtain ⟨hcalls, hrest, hpre⟩ := hP
  obtain ⟨-, -, -, hnamed, -, -, -, hat⟩ := (Spec.applies_iff hf).mp happ
  obtain ⟨hg, hn⟩ := and_e (Cond.before_iff.mp (show (Jvm.Cond.and given_1 narrow_1).before args s = true from hpre))
  obtain ⟨n1, n2⟩ := and_e hg
  obtain ⟨w0, rfl⟩ : ∃ w0 : Value, args = #[w0] := by
    have hs : args.size = 1 := by simpa [Cond.value, given_1] using n1
    obtain ⟨L⟩ := args
    match L, hs with
    | [w0], _ => exact ⟨w0, rfl⟩
  have hw := fun d (hd : d ∈ tables_1) => atoms_spec (ws := Jvm.Cond.code x code maxLocals ret :: tables_1) hat d (List.mem_cons_of_mem _ hd)
  have hfit : Fit s := fun {y c} hc i hi => by
    obtain ⟨ha, rfl⟩ := Array.getElem?_eq_some_iff.mp hc
    have q := List.all_eq_true.mp ((Array.all_eq_true_iff_forall_mem.mp hF) _ (Array.getElem_mem ha)) i (List.mem_range.mpr hi)
    simpa [Array.getElem?_eq_getElem hi] using q
  obtain ⟨i0, ei0⟩ := is_v n2
  obtain rfl : w0 = (.int i0) := Option.some.inj ei0
  obtain ⟨n3, n4⟩ := and_e hn
  obtain ⟨n5, n6⟩ := and_e n4
  obtain ⟨n7, n8⟩ := and_e n6
  obtain ⟨n9, n10⟩ := and_e n8
  obtain ⟨n11, n12⟩ := and_e n10
  obtain ⟨n13, n14⟩ := and_e n12
  obtain ⟨n15, n16⟩ := and_e n14
  obtain ⟨n17, n18⟩ := and_e n16
  obtain ⟨n19, n20⟩ := and_e n18
  obtain ⟨n21, n22⟩ := and_e n20
  obtain ⟨n23, n24⟩ := and_e n22
  obtain ⟨a_REQUEST, ea_REQUEST⟩ := exa_v n3
  have S_REQUEST : Sta s s.heap "com/example/thawline/thawline/stun/StunClass" "REQUEST" "Lcom/example/thawline/thawline/stun/StunClass;" (.ref a_REQUEST) := Sta.start ea_REQUEST (Or.inr ⟨(hw _ (List.mem_of_getElem? (i := 5) rfl)), (hw _ (List.mem_of_getElem? (i := 6) rfl))⟩)
  have E_REQUEST : Exa s s.heap a_REQUEST "com/example/thawline/thawline/stun/StunClass" := Exa.start ea_REQUEST n3
  obtain ⟨a_SUCCESS_RESPONSE, ea_SUCCESS_RESPONSE⟩ := exa_v n5
  have S_SUCCESS_RESPONSE : Sta s s.heap "com/example/thawline/thawline/stun/StunClass" "SUCCESS_RESPONSE" "Lcom/example/thawline/thawline/stun/StunClass;" (.ref a_SUCCESS_RESPONSE) := Sta.start ea_SUCCESS_RESPONSE (Or.inr ⟨(hw _ (List.mem_of_getElem? (i := 5) rfl)), (hw _ (List.mem_of_getElem? (i := 13) rfl))⟩)
  have E_SUCCESS_RESPONSE : Exa s s.heap a_SUCCESS_RESPONSE "com/example/thawline/thawline/stun/StunClass" := Exa.start ea_SUCCESS_RESPONSE n5
  obtain ⟨a_ERROR_RESPONSE, ea_ERROR_RESPONSE⟩ := exa_v n11
  have S_ERROR_RESPONSE : Sta s s.heap "com/example/thawline/thawline/stun/StunClass" "ERROR_RESPONSE" "Lcom/example/thawline/thawline/stun/StunClass;" (.ref a_ERROR_RESPONSE) := Sta.start ea_ERROR_RESPONSE (Or.inr ⟨(hw _ (List.mem_of_getElem? (i := 5) rfl)), (hw _ (List.mem_of_getElem? (i := 15) rfl))⟩)
  have E_ERROR_RESPONSE : Exa s s.heap a_ERROR_RESPONSE "com/example/thawline/thawline/stun/StunClass" := Exa.start ea_ERROR_RESPONSE n11
  obtain ⟨a_INDICATION, ea_INDICATION⟩ := exa_v n21
  have S_INDICATION : Sta s s.heap "com/example/thawline/thawline/stun/StunClass" "INDICATION" "Lcom/example/thawline/thawline/stun/StunClass;" (.ref a_INDICATION) := Sta.start ea_INDICATION (Or.inr ⟨(hw _ (List.mem_of_getElem? (i := 5) rfl)), (hw _ (List.mem_of_getElem? (i := 26) rfl))⟩)
  have E_INDICATION : Exa s s.heap a_INDICATION "com/example/thawline/thawline/stun/StunClass" := Exa.start ea_INDICATION n21
  have F_REQUEST_ordinal : Fld s s.heap a_REQUEST "java/lang/Enum" "ordinal" "I" (.int (0 : Int32)) := Fld.start ((fld_at ea_REQUEST).symm.trans (eqv_i (Term.int_eval (0)) n7))
  have F_SUCCESS_RESPONSE_ordinal : Fld s s.heap a_SUCCESS_RESPONSE "java/lang/Enum" "ordinal" "I" (.int (2 : Int32)) := Fld.start ((fld_at ea_SUCCESS_RESPONSE).symm.trans (eqv_i (Term.int_eval (2)) n9))
  have F_ERROR_RESPONSE_ordinal : Fld s s.heap a_ERROR_RESPONSE "java/lang/Enum" "ordinal" "I" (.int (3 : Int32)) := Fld.start ((fld_at ea_ERROR_RESPONSE).symm.trans (eqv_i (Term.int_eval (3)) n13))
  have F_REQUEST_bits : Fld s s.heap a_REQUEST "com/example/thawline/thawline/stun/StunClass" "bits" "I" (.int (0 : Int32)) := Fld.start ((fld_at ea_REQUEST).symm.trans (eqv_i (Term.int_eval (0)) n15))
  have F_ERROR_RESPONSE_bits : Fld s s.heap a_ERROR_RESPONSE "com/example/thawline/thawline/stun/StunClass" "bits" "I" (.int (3 : Int32)) := Fld.start ((fld_at ea_ERROR_RESPONSE).symm.trans (eqv_i (Term.int_eval (3)) n17))
  have F_SUCCESS_RESPONSE_bits : Fld s s.heap a_SUCCESS_RESPONSE "com/example/thawline/thawline/stun/StunClass" "bits" "I" (.int (2 : Int32)) := Fld.start ((fld_at ea_SUCCESS_RESPONSE).symm.trans (eqv_i (Term.int_eval (2)) n19))
  have F_INDICATION_ordinal : Fld s s.heap a_INDICATION "java/lang/Enum" "ordinal" "I" (.int (1 : Int32)) := Fld.start ((fld_at ea_INDICATION).symm.trans (eqv_i (Term.int_eval (1)) n23))
  have F_INDICATION_bits : Fld s s.heap a_INDICATION "com/example/thawline/thawline/stun/StunClass" "bits" "I" (.int (1 : Int32)) := Fld.start ((fld_at ea_INDICATION).symm.trans (eqv_i (Term.int_eval (1)) n24))
  obtain ⟨n, o, h1, h2, h3, _, L, rfl, ⟨rfl, N⟩, hq⟩ := rm0 l s _ hw tables_1 i0 a_REQUEST a_INDICATION a_SUCCESS_RESPONSE a_ERROR_RESPONSE s.heap s.heap.size (Nat.le_refl _) (Old.start s) S_REQUEST E_REQUEST S_INDICATION E_INDICATION S_SUCCESS_RESPONSE E_SUCCESS_RESPONSE S_ERROR_RESPONSE E_ERROR_RESPONSE F_REQUEST_ordinal F_SUCCESS_RESPONSE_ordinal F_ERROR_RESPONSE_ordinal F_REQUEST_bits F_ERROR_RESPONSE_bits F_SUCCESS_RESPONSE_bits F_INDICATION_ordinal F_INDICATION_bits p e ha hc hk s m _ below hf ((Spec.applies_iff_loose hf).mp happ).1 ⟨rfl, State.Warmed39.refl s, rfl⟩ trivial
  refine ⟨n, _, h1, h2, h3, hpost _ _ _ _ _ _ ⟨Cond.after_iff.mpr rfl, Cond.after_iff.mpr (eq_i res_at (Term.int_eval (1)) rfl), trivial⟩ ⟨hq.1, hq.2.1, (hq.2.2.sift fun y hy => Or.inr (N y hy)).mono (by decide) (by decide)⟩⟩
theorem main_1_1 : Claimed_1_1 := comes_1 fun _ _ _ _ _ _ h hF => ⟨h.1, hF⟩
theorem main_1_2 : Claimed_1_2 := comes_1 fun _ _ _ _ _ _ h hF => ⟨h.2.1, hF⟩
end Jvm.Pilot.@@N@@
namespace Jvm.Pilot.@@N@@
open Jvm Jvm.ClassFile Sem Op Lib Jvm.Free Jvm.Stand Jvm.Pilot.@@N@@.Jvm.D
/-! MADE BY PROGRAM (witnessworld.py) out of the Statement's table words and the real class files: 12 classes; the members and pool entries that the words name. The judged class is class 1, her method 2. -/
namespace start1
open Jvm.ClassFile
def u (s : String) : CpInfo := .utf8 (stringToUtf16 s)
/-- a pool by its gaps: so many unusable entries, then the entry; so many at the end -/
def gap : Nat → List CpInfo → List CpInfo
  | 0, r => r
  | n + 1, r => .unusable :: gap n r
def poolList (es : List (Nat × CpInfo)) (last : Nat) : List CpInfo := es.foldr (fun e r => gap e.1 (e.2 :: r)) (gap last [])
def pool (es : List (Nat × CpInfo)) (last : Nat) : Array CpInfo := ⟨poolList es last⟩
def fileOf (pool : Array CpInfo) (this : Nat) (attrs : Array Attribute := #[]) (ms : Array MethodInfo := #[]) (fl : Nat := 33) (sup : Nat := 0) (ifs : Array Nat := #[]) (fds : Array FieldInfo := #[]) : ClassFile where
  minorVersion := 0
  majorVersion := 65
  constantPool := pool
  accessFlags := fl
  thisClass := this
  superClass := sup
  interfaces := ifs
  fields := fds
  methods := ms
  attributes := attrs
def plain (name : String) (sup : Option ClassId) : Class where
  name := name
  kind := .ordinary
  loader := none
  accessFlags := 33
  super := sup
  interfaces := #[]
  cf := none
  fields := #[]
  methods := #[]
  instanceTypes := #[]
  staticTypes := #[]
  resolved := #[]
  callSites := []
  init := .initialized
  statics := none
  mirror := none

def pool0 : Array CpInfo := pool [(5, u "<init>"), (0, u "()V"), (1, .class_ 10), (1, u "java/lang/Object")] 113

def k0m0 : Method := { name := "<init>", desc := "()V", sig := { parameters := [], returnType := none }, accessFlags := 1, code := none }
/-- java/lang/Object -/
def k0 : Class := { plain "java/lang/Object" none with
  accessFlags := 33
  interfaces := #[]
  cf := some (fileOf pool0 8 #[] #[{ accessFlags := 1, nameIndex := 5, descriptorIndex := 6, attributes := #[] }] 33 0 #[] #[])
  fields := #[]
  methods := #[k0m0]
  instanceTypes := #[]
  staticTypes := #[]
  resolved := Array.replicate 124 none
  statics := none }

def pool1 : Array CpInfo := pool [(2, .class_ 4), (1, u "java/lang/Object"), (0, u "<init>"), (0, u "()V"), (0, .fieldref 8 9), (0, .class_ 10), (0, .nameAndType 11 12), (0, u "com/example/thawline/thawline/stun/StunClass"), (0, u "REQUEST"), (0, u "Lcom/example/thawline/thawline/stun/StunClass;"), (0, .fieldref 8 14), (0, .nameAndType 15 12), (0, u "INDICATION"), (0, .fieldref 8 17), (0, .nameAndType 18 12), (0, u "SUCCESS_RESPONSE"), (0, .fieldref 8 20), (0, .nameAndType 21 12), (0, u "ERROR_RESPONSE"), (0, .methodref 23 24), (0, .class_ 25), (0, .nameAndType 26 27), (0, u "com/example/thawline/thawline/stun/StunClassIsResponsePinLaw"), (0, u "pick"), (0, u "(I)Lcom/example/thawline/thawline/stun/StunClass;"), (0, .methodref 8 29), (0, .nameAndType 30 31), (0, u "isResponse"), (0, u "()Z"), (0, .methodref 8 33), (0, .nameAndType 34 35), (0, u "bits"), (0, u "()I"), (3, u "law"), (0, u "(I)Z")] 2

def k1m0 : Method := { name := "<init>", desc := "()V", sig := { parameters := [], returnType := none }, accessFlags := 2, code := none }
def k1c1 : Code := { maxStack := 2, maxLocals := 1, code := method_2_code, exceptionTable := #[], attributes := #[] }
def k1m1 : Method := { name := "pick", desc := "(I)Lcom/example/thawline/thawline/stun/StunClass;", sig := { parameters := [.int], returnType := some (.object "com/example/thawline/thawline/stun/StunClass") }, accessFlags := 10, code := some k1c1 }
def k1c2 : Code := { maxStack := 2, maxLocals := 6, code := code, exceptionTable := #[], attributes := #[] }
def k1m2 : Method := { name := "law", desc := "(I)Z", sig := { parameters := [.int], returnType := some .boolean }, accessFlags := 9, code := some k1c2 }
/-- com/example/thawline/thawline/stun/StunClassIsResponsePinLaw -/
def k1 : Class := { plain "com/example/thawline/thawline/stun/StunClassIsResponsePinLaw" (some 0) with
  accessFlags := 49
  interfaces := #[]
  cf := some (fileOf pool1 23 #[] #[{ accessFlags := 2, nameIndex := 5, descriptorIndex := 6, attributes := #[] }, { accessFlags := 10, nameIndex := 26, descriptorIndex := 27, attributes := #[] }, { accessFlags := 9, nameIndex := 39, descriptorIndex := 40, attributes := #[] }] 49 2 #[] #[])
  fields := #[]
  methods := #[k1m0, k1m1, k1m2]
  instanceTypes := #[]
  staticTypes := #[]
  resolved := Array.replicate 43 none
  statics := none }

def pool2 : Array CpInfo := pool [(1, .class_ 2), (0, u "java/lang/constant/Constable"), (0, .class_ 4), (0, u "java/lang/Object")] 6

/-- java/lang/constant/Constable -/
def k2 : Class := { plain "java/lang/constant/Constable" (some 0) with
  accessFlags := 1537
  interfaces := #[]
  cf := some (fileOf pool2 1 #[] #[] 1537 3 #[] #[])
  fields := #[]
  methods := #[]
  instanceTypes := #[]
  staticTypes := #[]
  resolved := Array.replicate 11 none
  statics := none }

def pool3 : Array CpInfo := pool [(1, .class_ 2), (0, u "java/lang/Comparable"), (0, .class_ 4), (0, u "java/lang/Object")] 7

/-- java/lang/Comparable -/
def k3 : Class := { plain "java/lang/Comparable" (some 0) with
  accessFlags := 1537
  interfaces := #[]
  cf := some (fileOf pool3 1 #[] #[] 1537 3 #[] #[])
  fields := #[]
  methods := #[]
  instanceTypes := #[]
  staticTypes := #[]
  resolved := Array.replicate 12 none
  statics := none }

def pool4 : Array CpInfo := pool [(1, .class_ 2), (0, u "java/io/Serializable"), (0, .class_ 4), (0, u "java/lang/Object")] 2

/-- java/io/Serializable -/
def k4 : Class := { plain "java/io/Serializable" (some 0) with
  accessFlags := 1537
  interfaces := #[]
  cf := some (fileOf pool4 1 #[] #[] 1537 3 #[] #[])
  fields := #[]
  methods := #[]
  instanceTypes := #[]
  staticTypes := #[]
  resolved := Array.replicate 7 none
  statics := none }

def pool5 : Array CpInfo := pool [(2, .class_ 4), (1, u "java/lang/Enum"), (0, u "name"), (0, u "Ljava/lang/String;"), (2, u "ordinal"), (0, u "I"), (1, .class_ 14), (1, u "java/lang/Object"), (4, u "hash"), (86, .class_ 108), (1, u "java/lang/Enum$EnumDesc"), (2, .class_ 112), (0, u "java/lang/constant/Constable"), (0, .class_ 114), (0, u "java/lang/Comparable"), (0, .class_ 116), (0, u "java/io/Serializable")] 87

/-- java/lang/Enum -/
def k5 : Class := { plain "java/lang/Enum" (some 0) with
  accessFlags := 1057
  interfaces := #[2, 3, 4]
  cf := some (fileOf pool5 2 #[.nestMembers #[106]] #[] 1057 12 #[111, 113, 115] #[{ accessFlags := 18, nameIndex := 5, descriptorIndex := 6, attributes := #[] }, { accessFlags := 18, nameIndex := 9, descriptorIndex := 10, attributes := #[] }, { accessFlags := 2, nameIndex := 19, descriptorIndex := 10, attributes := #[] }])
  fields := #[{ name := "name", type := (.object "java/lang/String"), accessFlags := 18, slot := 0, constantValue := 0 }, { name := "ordinal", type := .int, accessFlags := 18, slot := 1, constantValue := 0 }, { name := "hash", type := .int, accessFlags := 2, slot := 2, constantValue := 0 }]
  methods := #[]
  instanceTypes := #[(.object "java/lang/String"), .int, .int]
  staticTypes := #[]
  resolved := Array.replicate 204 none
  statics := none }

def pool6 : Array CpInfo := pool [(1, .class_ 2), (0, u "com/example/thawline/thawline/stun/StunClass"), (2, u "REQUEST"), (0, u "Lcom/example/thawline/thawline/stun/StunClass;"), (2, u "INDICATION"), (0, .fieldref 1 11), (0, .nameAndType 12 6), (0, u "SUCCESS_RESPONSE"), (0, .fieldref 1 14), (0, .nameAndType 15 6), (0, u "ERROR_RESPONSE"), (2, u "$VALUES"), (0, u "[Lcom/example/thawline/thawline/stun/StunClass;"), (6, .class_ 28), (1, u "java/lang/Enum"), (6, .fieldref 1 36), (0, .nameAndType 37 38), (0, u "bits"), (0, u "I"), (2, u "BY_BITS"), (20, u "isResponse"), (0, u "()Z"), (1, u "()I")] 7

def k6c0 : Code := { maxStack := 2, maxLocals := 1, code := prog_64_method_4_code, exceptionTable := #[], attributes := #[] }
def k6m0 : Method := { name := "isResponse", desc := "()Z", sig := { parameters := [], returnType := some .boolean }, accessFlags := 1, code := some k6c0 }
def k6c1 : Code := { maxStack := 1, maxLocals := 1, code := prog_64_method_5_code, exceptionTable := #[], attributes := #[] }
def k6m1 : Method := { name := "bits", desc := "()I", sig := { parameters := [], returnType := some .int }, accessFlags := 0, code := some k6c1 }
/-- com/example/thawline/thawline/stun/StunClass -/
def k6 : Class := { plain "com/example/thawline/thawline/stun/StunClass" (some 5) with
  accessFlags := 16433
  interfaces := #[]
  cf := some (fileOf pool6 1 #[] #[{ accessFlags := 1, nameIndex := 62, descriptorIndex := 63, attributes := #[] }, { accessFlags := 0, nameIndex := 37, descriptorIndex := 65, attributes := #[] }] 16433 26 #[] #[{ accessFlags := 16409, nameIndex := 5, descriptorIndex := 6, attributes := #[] }, { accessFlags := 16409, nameIndex := 9, descriptorIndex := 6, attributes := #[] }, { accessFlags := 16409, nameIndex := 12, descriptorIndex := 6, attributes := #[] }, { accessFlags := 16409, nameIndex := 15, descriptorIndex := 6, attributes := #[] }, { accessFlags := 26, nameIndex := 41, descriptorIndex := 19, attributes := #[] }, { accessFlags := 18, nameIndex := 37, descriptorIndex := 38, attributes := #[] }, { accessFlags := 4122, nameIndex := 18, descriptorIndex := 19, attributes := #[] }])
  fields := #[{ name := "REQUEST", type := (.object "com/example/thawline/thawline/stun/StunClass"), accessFlags := 16409, slot := 0, constantValue := 0 }, { name := "INDICATION", type := (.object "com/example/thawline/thawline/stun/StunClass"), accessFlags := 16409, slot := 1, constantValue := 0 }, { name := "SUCCESS_RESPONSE", type := (.object "com/example/thawline/thawline/stun/StunClass"), accessFlags := 16409, slot := 2, constantValue := 0 }, { name := "ERROR_RESPONSE", type := (.object "com/example/thawline/thawline/stun/StunClass"), accessFlags := 16409, slot := 3, constantValue := 0 }, { name := "BY_BITS", type := (.array (.object "com/example/thawline/thawline/stun/StunClass")), accessFlags := 26, slot := 4, constantValue := 0 }, { name := "bits", type := .int, accessFlags := 18, slot := 3, constantValue := 0 }, { name := "$VALUES", type := (.array (.object "com/example/thawline/thawline/stun/StunClass")), accessFlags := 4122, slot := 5, constantValue := 0 }]
  methods := #[k6m0, k6m1]
  instanceTypes := #[(.object "java/lang/String"), .int, .int, .int]
  staticTypes := #[(.object "com/example/thawline/thawline/stun/StunClass"), (.object "com/example/thawline/thawline/stun/StunClass"), (.object "com/example/thawline/thawline/stun/StunClass"), (.object "com/example/thawline/thawline/stun/StunClass"), (.array (.object "com/example/thawline/thawline/stun/StunClass")), (.array (.object "com/example/thawline/thawline/stun/StunClass"))]
  resolved := Array.replicate 73 none
  statics := some 0 }

def pool7 : Array CpInfo := pool [(1, u "java/lang/Cloneable"), (0, .class_ 1), (0, u "java/lang/Object"), (0, .class_ 3)] 3

/-- java/lang/Cloneable -/
def k7 : Class := { plain "java/lang/Cloneable" (some 0) with
  accessFlags := 1537
  interfaces := #[]
  cf := some (fileOf pool7 2 #[] #[] 1537 4 #[] #[])
  fields := #[]
  methods := #[]
  instanceTypes := #[]
  staticTypes := #[]
  resolved := Array.replicate 8 none
  statics := none }

/-- the primitive byte -/
def k8 : Class := { plain "byte" none with kind := .primitive 'B', accessFlags := 0x411 }
/-- [B -/
def k9 : Class := { plain "[B" (some 0) with kind := .array 8 .byte, interfaces := #[7, 4], accessFlags := 1041 }

/-- the primitive int -/
def k10 : Class := { plain "int" none with kind := .primitive 'I', accessFlags := 0x411 }
/-- [I -/
def k11 : Class := { plain "[I" (some 0) with kind := .array 10 .int, interfaces := #[7, 4], accessFlags := 1041 }

def heap : Heap := #[{ cls := 6, slots := #[.ref 1, .ref 2, .ref 3, .ref 4, .null, .null], vm := .statics 6 },
  { cls := 6, slots := #[.null, .int 0, .int 0, .int 0], vm := .none },
  { cls := 6, slots := #[.null, .int 1, .int 0, .int 1], vm := .none },
  { cls := 6, slots := #[.null, .int 2, .int 0, .int 2], vm := .none },
  { cls := 6, slots := #[.null, .int 3, .int 0, .int 3], vm := .none }]
def classes : Array Class := #[k0, k1, k2, k3, k4, k5, k6, k7, k8, k9, k10, k11]
def interned : List (Array UInt16 × Addr) := []
def slotsUsed : Nat := 22
def theMethod : MethodId := ⟨1, 2⟩
def args0 : Array Value := #[.int 5]
def aboutOver (below : List Frame) : State where
  vm := { classes := classes, interned := interned.toArray }
  heap := heap
  slotsUsed := slotsUsed
  threads := #[{ frames := .invoking theMethod args0 :: below }]
def below0 : List Frame := [.native { method := ⟨0, 0⟩, args := #[] }]
def about1 : State := aboutOver below0
def p0 : Program := .bare "" "" ""
def e0 : Env := launch0.env 0 0 0
theorem w_frames : about1.frames = Frame.invoking theMethod args0 :: below0 := rfl
set_option maxRecDepth 65536 in
theorem w_args : argsFit about1.vm theMethod args0 = true := by decide +kernel
set_option maxRecDepth 65536 in
theorem w_heap : heapFits about1 = true := by decide +kernel
set_option maxRecDepth 65536 in
theorem w_runnable : about1.curStatus? = some .runnable := by decide +kernel
set_option maxRecDepth 65536 in
theorem w_alone : about1.alone = true := by decide +kernel
set_option maxRecDepth 65536 in
theorem w_named : about1.methodNamed? x = some theMethod := by decide +kernel
set_option maxRecDepth 65536 in
theorem w_hears : about1.hears theMethod below0 = true := by decide +kernel
set_option maxRecDepth 65536 in
theorem w_ripe : about1.ripe theMethod args0 below0 = true := by decide +kernel
theorem w_running : about1.status = .running := rfl
set_option maxRecDepth 65536 in
theorem w_room : about1.hasRoom e0.platform room_1 = true :=
  launch0.hasRoom_least _ room_1 (by decide +kernel) (by decide +kernel) (by decide +kernel) (by decide +kernel) (by decide +kernel) (by decide +kernel)
theorem allAtoms_all (ts : List Jvm.Cond) (a : Array Jvm.Value) (st : Jvm.State) : (allAtoms ts).before a st = ts.all (fun c => c.before a st) := by
  induction ts with
  | nil => rfl
  | cons c t ih =>
    show (Jvm.Cond.and c (allAtoms t)).before a st = _
    rw [Jvm.Cond.before_and, ih, List.all_cons]
def words1 : List Jvm.Cond := Jvm.Cond.code x code maxLocals ret :: tables_1
/-- a 'code' word, met by the world's own term for the bytes: nothing is compared byte by byte -/
theorem code_word {y : MethodName} {bytes : ByteArray} {mx : Nat} {rt : Option FieldType} {a : Array Value} {s : State} {m : MethodId} {meth : Method} {c : Code} (h1 : s.methodNamed? y = some m) (h2 : s.vm.method? m = some meth) (h3 : meth.code = some c) (h4 : c.code = bytes)
    (h5 : (c.maxLocals == mx && c.exceptionTable.isEmpty && decide (c.maxStack ≤ mostOperands) && decide (meth.sig.returnType = rt) && !meth.locks && decide (parseMethodDescriptor y.desc = some meth.sig)) = true) : (Jvm.Cond.code y bytes mx rt).before a s = true := by
  simp only [Bool.and_eq_true, beq_iff_eq, Bool.not_eq_true', decide_eq_true_eq] at h5
  obtain ⟨⟨⟨⟨⟨g1, g2⟩, g3⟩, g4⟩, g5⟩, g6⟩ := h5
  simp [Cond.before, Cond.holds, Cond.value, h1, h2, h3, h4, g1, g2, g3, g4, g5, g6]
def isCode : Jvm.Cond → Bool
  | .code _ _ _ _ => true
  | _ => false
theorem all_split {L : List Jvm.Cond} {P : Jvm.Cond → Bool} (h1 : L.all (fun c => isCode c || P c) = true) (h2 : ∀ c ∈ L.filter isCode, P c = true) : L.all P = true := by
  refine List.all_eq_true.mpr fun c hc => ?_
  have h := List.all_eq_true.mp h1 c hc
  rcases Bool.eq_false_or_eq_true (isCode c) with hi | hi
  · exact h2 c (List.mem_filter.mpr ⟨hc, hi⟩)
  · simpa [hi] using h
set_option maxRecDepth 65536 in
theorem w_c0 : (Jvm.Cond.code x code maxLocals ret).before args0 about1 = true := code_word (m := ⟨1, 2⟩) (meth := k1m2) (c := k1c2) (by decide +kernel) rfl rfl rfl (by decide +kernel)
set_option maxRecDepth 65536 in
theorem w_c1 : (Jvm.Cond.code ({ cls := "com/example/thawline/thawline/stun/StunClassIsResponsePinLaw", name := "pick", desc := "(I)Lcom/example/thawline/thawline/stun/StunClass;" } : Jvm.MethodName) method_2_code (1 : Nat) (Option.some (Jvm.ClassFile.FieldType.object "com/example/thawline/thawline/stun/StunClass"))).before args0 about1 = true := code_word (m := ⟨1, 1⟩) (meth := k1m1) (c := k1c1) (by decide +kernel) rfl rfl rfl (by decide +kernel)
set_option maxRecDepth 65536 in
theorem w_c2 : (Jvm.Cond.code ({ cls := "com/example/thawline/thawline/stun/StunClass", name := "isResponse", desc := "()Z" } : Jvm.MethodName) prog_64_method_4_code (1 : Nat) (Option.some Jvm.ClassFile.FieldType.boolean)).before args0 about1 = true := code_word (m := ⟨6, 0⟩) (meth := k6m0) (c := k6c0) (by decide +kernel) rfl rfl rfl (by decide +kernel)
set_option maxRecDepth 65536 in
theorem w_c3 : (Jvm.Cond.code ({ cls := "com/example/thawline/thawline/stun/StunClass", name := "bits", desc := "()I" } : Jvm.MethodName) prog_64_method_5_code (1 : Nat) (Option.some Jvm.ClassFile.FieldType.int)).before args0 about1 = true := code_word (m := ⟨6, 1⟩) (meth := k6m1) (c := k6c1) (by decide +kernel) rfl rfl rfl (by decide +kernel)
def codes1 : List Jvm.Cond := [Jvm.Cond.code x code maxLocals ret, Jvm.Cond.code ({ cls := "com/example/thawline/thawline/stun/StunClassIsResponsePinLaw", name := "pick", desc := "(I)Lcom/example/thawline/thawline/stun/StunClass;" } : Jvm.MethodName) method_2_code (1 : Nat) (Option.some (Jvm.ClassFile.FieldType.object "com/example/thawline/thawline/stun/StunClass")), Jvm.Cond.code ({ cls := "com/example/thawline/thawline/stun/StunClass", name := "isResponse", desc := "()Z" } : Jvm.MethodName) prog_64_method_4_code (1 : Nat) (Option.some Jvm.ClassFile.FieldType.boolean), Jvm.Cond.code ({ cls := "com/example/thawline/thawline/stun/StunClass", name := "bits", desc := "()I" } : Jvm.MethodName) prog_64_method_5_code (1 : Nat) (Option.some Jvm.ClassFile.FieldType.int)]
set_option maxRecDepth 65536 in
theorem codes_eq : words1.filter isCode = codes1 := rfl
theorem w_codes : ∀ c ∈ words1.filter isCode, c.before args0 about1 = true := by
  rw [codes_eq]
  intro c hc
  simp only [codes1, List.mem_cons, List.not_mem_nil, or_false] at hc
  rcases hc with rfl | rfl | rfl | rfl
  · exact w_c0
  · exact w_c1
  · exact w_c2
  · exact w_c3
set_option maxRecDepth 65536 in
theorem w_t1 : (words1.take 24).all (fun c => isCode c || c.before args0 about1) = true := by decide +kernel
set_option maxRecDepth 65536 in
theorem w_t2 : (words1.drop 24).all (fun c => isCode c || c.before args0 about1) = true := by decide +kernel
theorem w_tables : (allAtoms (Jvm.Cond.code x code maxLocals ret :: tables_1)).before args0 about1 = true := by
  rw [allAtoms_all]
  show words1.all (fun c => c.before args0 about1) = true
  refine all_split ?_ w_codes
  rw [← List.take_append_drop 24 words1, List.all_append, w_t1, w_t2]
  rfl
set_option maxRecDepth 65536 in
theorem w_case : (Jvm.Cond.and given_1 narrow_1).before args0 about1 = true := by decide +kernel
theorem w_applies : (headSpec (Jvm.Cond.code x code maxLocals ret :: tables_1) room_1).applies x e0.platform about1 = true :=
  (Spec.applies_iff w_frames).mpr ⟨w_running, w_runnable, w_alone, w_named, w_hears, w_ripe, w_room, w_tables⟩
theorem atStart : AtStart classFile x code maxLocals ret World_1 tables_1 room_1 Calls_1 rest_1 Pre_1 launch0 p0 e0 about1 theMethod args0 below0 :=
  ⟨lists_1, trivial, launch0.admits_env _ _ _, launch0.least_env, fairChoices_fair.cas, fairChoices_fair.clock, w_frames, w_args, w_heap, w_applies, trivial, trivial, w_case⟩
end start1
theorem witness_1 : WitnessClaimed_1 := ⟨start1.p0, start1.e0, start1.about1, start1.theMethod, start1.args0, start1.below0, start1.atStart⟩
end Jvm.Pilot.@@N@@
