import JvmDerived
import JvmDerived.Pilot.@@N@@Statement
import JvmDerived.Pilot.@@N@@Code
set_option linter.unusedVariables false
set_option linter.unusedSimpArgs false
@@BLOCK:NumsL.lean.txt@@
namespace Jvm.Pilot.@@N@@
open Jvm Jvm.ClassFile Sem Op Lib Jvm.Free Jvm.Stand Jvm.LawKit Jvm.RoadKit Bundle Jvm.Pilot.@@N@@.Jvm.D
theorem d1_0 : decode prog_4_method_3_code 0 = .ok (.iload_n 0, 1) := by decide +kernel
theorem d1_1 : decode prog_4_method_3_code 1 = .ok (.bipush 48, 2) := by decide +kernel
theorem d1_3 : decode prog_4_method_3_code 3 = .ok (.if_icmp .lt 13, 3) := by decide +kernel
theorem d1_6 : decode prog_4_method_3_code 6 = .ok (.iload_n 0, 1) := by decide +kernel
theorem d1_7 : decode prog_4_method_3_code 7 = .ok (.bipush 57, 2) := by decide +kernel
theorem d1_9 : decode prog_4_method_3_code 9 = .ok (.if_icmp .gt 7, 3) := by decide +kernel
theorem d1_12 : decode prog_4_method_3_code 12 = .ok (.iconst 1, 1) := by decide +kernel
theorem d1_13 : decode prog_4_method_3_code 13 = .ok (.goto 4, 3) := by decide +kernel
theorem d1_16 : decode prog_4_method_3_code 16 = .ok (.iconst 0, 1) := by decide +kernel
theorem d1_17 : decode prog_4_method_3_code 17 = .ok (.ireturn, 1) := by decide +kernel
theorem pn_0 : plainName "com/example/ledgerhall/ledgerhall/AccountLayout" = true := by first | (simp [plainName, overriddenIn]; done) | decide +kernel
theorem ef_1 (mM : MethodId) (x0 : Int32) : entryFrame mM #[(.int x0)] 1 = mkF mM 0 #[.val (.int x0)] [] := by first | (simp [entryFrame, mkF, argsToLocals, Value.category]; done) | rfl
def Q1 (Z : State) (dv : Int32) (h0 : Heap) (n0 : Nat) (v : Option Value) (h : Heap) (L : List Loc) : Prop := ∃ r : Int32, v = some (.int r) ∧ r = (if dv < (48 : Int32) then (0 : Int32) else (if (57 : Int32) < dv then (0 : Int32) else (1 : Int32))) ∧ Fr n0 L ∧ h = h0
set_option maxRecDepth 65536 in
set_option maxHeartbeats 40000000 in
theorem rm1 (l : Launch) (Z : State) (a0 : Array Value) (hw : ∀ d ∈ tables_1, d.before a0 Z = true) (ws : List Jvm.Cond) (dv : Int32) (h0 : Heap) (n0 : Nat) (Z0 : n0 ≤ h0.size) :
    MetFree l (⟨"com/example/ledgerhall/ledgerhall/AccountLayout", "isDigit", "(I)Z"⟩ : MethodName) (head1 (Jvm.Cond.code (⟨"com/example/ledgerhall/ledgerhall/AccountLayout", "isDigit", "(I)Z"⟩ : MethodName) prog_4_method_3_code 1 (some .boolean) :: ws) ({ frames := 0, cells := 0, slots := 0, locals := 0 } : Room)) (fun aA uU => aA = #[(.int dv)] ∧ Z.Warmed39 uU.vm ∧ uU.heap = h0) (fun _ _ _ _ _ => True) (fun _ uU oO uU' => ∃ vV lL, oO = .returned vV ∧ Q1 Z dv h0 n0 vV uU'.heap lL ∧ FrameEnd uU oO uU' lL ({ frames := 0, cells := 0, slots := 0, locals := 0 } : Room).cells ({ frames := 0, cells := 0, slots := 0, locals := 0 } : Room).slots) := by
  refine MetFree.of_bodySF (plainFor_of_name pn_0) hisR ?_
  intro pP eE sS mM args below meth cC s₁ Bd hml0 hP hK
  obtain ⟨rfl, hZ, hh⟩ := hP
  have hx := Bd.exec
  have hby := Bd.bytes
  have hml : cC.maxLocals = 1 := hml0
  have hown : sS.vm.findClass "com/example/ledgerhall/ledgerhall/AccountLayout" = some mM.cls := findClass_of_methodNamed Bd.named
  have hnm := (name_of_methodNamed Bd.named Bd.method).1
  have X0 : Stand pP l eE ({ frames := 0, cells := 0, slots := 0, locals := 0 } : Room) sS mM #[(.int dv)] below meth cC s₁ [] 0 0 := Stand.of_body Bd
  have e0 : s₁.heap = h0 := by rw [← hh, Bd.state]; rfl
  have N0 := Fr.nil n0
  have pre0 : ∀ tg, Steps pP.tables eE below (s₁.setTop (mkF mM 0 #[.val (.int dv)] [])) tg → Steps pP.tables eE below (s₁.setTop (entryFrame mM #[(.int dv)] 1)) tg := fun tg kg => castTop (ef_1 mM dv) kg
  have pr2 : ∀ tg, Steps pP.tables eE below (s₁.setTop (mkF mM 3 #[.val (.int dv)] [(.int (48 : Int32)), (.int dv)])) tg → Steps pP.tables eE below (s₁.setTop (entryFrame mM #[(.int dv)] 1)) tg := fun tg kg => pre0 _ (by
    show Steps pP.tables eE below (s₁.setTop (mkF mM 0 #[.val (.int dv)] [])) _
    refine XS.iloadN X0.here hx rfl (hb hby d1_0) rfl ?_
    show Steps pP.tables eE below (s₁.setTop (mkF mM 1 #[.val (.int dv)] [(.int dv)])) _
    refine XS.bipush X0.here hx rfl (hb hby d1_1) ?_
    exact kg)
  by_cases hc3_1 : dv < (48 : Int32)
  ·
    have pr3 : ∀ tg, Steps pP.tables eE below (s₁.setTop (mkF mM 17 #[.val (.int dv)] [(.int (0 : Int32))])) tg → Steps pP.tables eE below (s₁.setTop (entryFrame mM #[(.int dv)] 1)) tg := fun tg kg => pr2 _ (by
      show Steps pP.tables eE below (s₁.setTop (mkF mM 3 #[.val (.int dv)] [(.int (48 : Int32)), (.int dv)])) _
      refine XS.icmpYes X0.here hx rfl (pc0 := 3) (pc' := 16) rfl (hb hby d1_3) rfl (tlt hc3_1).1 (by decide) (by decide) ?_
      show Steps pP.tables eE below (s₁.setTop (mkF mM 16 #[.val (.int dv)] [])) _
      refine XS.iconst X0.here hx rfl (hb hby d1_16) ?_
      exact kg)
    obtain ⟨fs, hr, hrun, hended, hW, hsame⟩ := X0.leave (v := some (.int (0 : Int32))) (fun h => by rw [Bd.returns] at h; cases h)
    refine ⟨_, _, pr3 _ (retOut X0 hx (t := .boolean) Bd.returns rfl (Or.inl ⟨rfl, Or.inr (Or.inl rfl), _, rfl⟩) (hb hby d1_17) hr), hrun, hended, _, _, rfl, ?_, ⟨_, rfl⟩, hW, hsame.mono (by decide) (by decide)⟩
    show Q1 Z dv h0 n0 _ s₁.heap _
    rw [e0]
    exact ⟨_, rfl, by rw [if_pos hc3_1], N0, rfl⟩
  ·
    have pr5 : ∀ tg, Steps pP.tables eE below (s₁.setTop (mkF mM 9 #[.val (.int dv)] [(.int (57 : Int32)), (.int dv)])) tg → Steps pP.tables eE below (s₁.setTop (entryFrame mM #[(.int dv)] 1)) tg := fun tg kg => pr2 _ (by
      show Steps pP.tables eE below (s₁.setTop (mkF mM 3 #[.val (.int dv)] [(.int (48 : Int32)), (.int dv)])) _
      refine XS.icmpNo X0.here hx rfl (hb hby d1_3) rfl (flt hc3_1).1 ?_
      show Steps pP.tables eE below (s₁.setTop (mkF mM 6 #[.val (.int dv)] [])) _
      refine XS.iloadN X0.here hx rfl (hb hby d1_6) rfl ?_
      show Steps pP.tables eE below (s₁.setTop (mkF mM 7 #[.val (.int dv)] [(.int dv)])) _
      refine XS.bipush X0.here hx rfl (hb hby d1_7) ?_
      exact kg)
    by_cases hc9_4 : (57 : Int32) < dv
    ·
      have pr6 : ∀ tg, Steps pP.tables eE below (s₁.setTop (mkF mM 17 #[.val (.int dv)] [(.int (0 : Int32))])) tg → Steps pP.tables eE below (s₁.setTop (entryFrame mM #[(.int dv)] 1)) tg := fun tg kg => pr5 _ (by
        show Steps pP.tables eE below (s₁.setTop (mkF mM 9 #[.val (.int dv)] [(.int (57 : Int32)), (.int dv)])) _
        refine XS.icmpYes X0.here hx rfl (pc0 := 9) (pc' := 16) rfl (hb hby d1_9) rfl (tlt hc9_4).2.2.1 (by decide) (by decide) ?_
        show Steps pP.tables eE below (s₁.setTop (mkF mM 16 #[.val (.int dv)] [])) _
        refine XS.iconst X0.here hx rfl (hb hby d1_16) ?_
        exact kg)
      obtain ⟨fs, hr, hrun, hended, hW, hsame⟩ := X0.leave (v := some (.int (0 : Int32))) (fun h => by rw [Bd.returns] at h; cases h)
      refine ⟨_, _, pr6 _ (retOut X0 hx (t := .boolean) Bd.returns rfl (Or.inl ⟨rfl, Or.inr (Or.inl rfl), _, rfl⟩) (hb hby d1_17) hr), hrun, hended, _, _, rfl, ?_, ⟨_, rfl⟩, hW, hsame.mono (by decide) (by decide)⟩
      show Q1 Z dv h0 n0 _ s₁.heap _
      rw [e0]
      exact ⟨_, rfl, by rw [if_neg hc3_1, if_pos hc9_4], N0, rfl⟩
    ·
      have pr7 : ∀ tg, Steps pP.tables eE below (s₁.setTop (mkF mM 17 #[.val (.int dv)] [(.int (1 : Int32))])) tg → Steps pP.tables eE below (s₁.setTop (entryFrame mM #[(.int dv)] 1)) tg := fun tg kg => pr5 _ (by
        show Steps pP.tables eE below (s₁.setTop (mkF mM 9 #[.val (.int dv)] [(.int (57 : Int32)), (.int dv)])) _
        refine XS.icmpNo X0.here hx rfl (hb hby d1_9) rfl (flt hc9_4).2.2.1 ?_
        show Steps pP.tables eE below (s₁.setTop (mkF mM 12 #[.val (.int dv)] [])) _
        refine XS.iconst X0.here hx rfl (hb hby d1_12) ?_
        show Steps pP.tables eE below (s₁.setTop (mkF mM 13 #[.val (.int dv)] [(.int (1 : Int32))])) _
        refine XS.goto X0.here hx rfl (pc0 := 13) (pc' := 17) rfl (hb hby d1_13) (by decide) (by decide) ?_
        exact kg)
      obtain ⟨fs, hr, hrun, hended, hW, hsame⟩ := X0.leave (v := some (.int (1 : Int32))) (fun h => by rw [Bd.returns] at h; cases h)
      refine ⟨_, _, pr7 _ (retOut X0 hx (t := .boolean) Bd.returns rfl (Or.inl ⟨rfl, Or.inr (Or.inl rfl), _, rfl⟩) (hb hby d1_17) hr), hrun, hended, _, _, rfl, ?_, ⟨_, rfl⟩, hW, hsame.mono (by decide) (by decide)⟩
      show Q1 Z dv h0 n0 _ s₁.heap _
      rw [e0]
      exact ⟨_, rfl, by rw [if_neg hc3_1, if_neg hc9_4], N0, rfl⟩
theorem ds1_0 : decode jdk_42_method_154_code 0 = .ok (.getstatic 38, 3) := by decide +kernel
theorem ds1_3 : decode jdk_42_method_154_code 3 = .ok (.ifCond .eq 14, 3) := by decide +kernel
theorem ds1_6 : decode jdk_42_method_154_code 6 = .ok (.aload_n 0, 1) := by decide +kernel
theorem ds1_7 : decode jdk_42_method_154_code 7 = .ok (.getfield 15, 3) := by decide +kernel
theorem ds1_10 : decode jdk_42_method_154_code 10 = .ok (.ifCond .ne 7, 3) := by decide +kernel
theorem ds1_13 : decode jdk_42_method_154_code 13 = .ok (.iconst 1, 1) := by decide +kernel
theorem ds1_14 : decode jdk_42_method_154_code 14 = .ok (.goto 4, 3) := by decide +kernel
theorem ds1_18 : decode jdk_42_method_154_code 18 = .ok (.ireturn, 1) := by decide +kernel
theorem pn_1 : plainName "java/lang/String" = true := by first | (simp [plainName, overriddenIn]; done) | decide +kernel
theorem ef_s1 (mM : MethodId) (x0 : Addr) : entryFrame mM #[(.ref x0)] 1 = mkF mM 0 #[.val (.ref x0)] [] := by first | (simp [entryFrame, mkF, argsToLocals, Value.category]; done) | rfl
def Qs1 (Z : State) (cs : Int32) (sf : Value) (a : Addr) (h0 : Heap) (n0 : Nat) (v : Option Value) (h : Heap) (L : List Loc) : Prop := v = some (.int (1 : Int32)) ∧ Fr n0 L ∧ h = h0
set_option maxRecDepth 65536 in
set_option maxHeartbeats 40000000 in
theorem rms1 (l : Launch) (Z : State) (a0 : Array Value) (hw : ∀ d ∈ tables_1, d.before a0 Z = true) (ws : List Jvm.Cond) (cs : Int32) (sf : Value) (a : Addr) (h0 : Heap) (n0 : Nat) (Z0 : n0 ≤ h0.size) (O : Old Z n0 h0) (S_cs : Sta Z Z.heap "java/lang/String" "COMPACT_STRINGS" "Z" (.int cs)) (hcs : ¬ cs = (0 : Int32)) (S_sf : Sta Z Z.heap "jdk/internal/util/Preconditions" "SIOOBE_FORMATTER" "Ljava/util/function/BiFunction;" sf) (rsf : sf.isRef = true) (E_a : Exa Z h0 a "java/lang/String") (F_c : Fld Z h0 a "java/lang/String" "coder" "B" (.int (0 : Int32))) :
    MetFree l (⟨"java/lang/String", "isLatin1", "()Z"⟩ : MethodName) (head1 (Jvm.Cond.code (⟨"java/lang/String", "isLatin1", "()Z"⟩ : MethodName) jdk_42_method_154_code 1 (some .boolean) :: ws) ({ frames := 0, cells := 0, slots := 0, locals := 0 } : Room)) (fun aA uU => aA = #[(.ref a)] ∧ Z.Warmed39 uU.vm ∧ uU.heap = h0) (fun _ _ _ _ _ => True) (fun _ uU oO uU' => ∃ vV lL, oO = .returned vV ∧ Qs1 Z cs sf a h0 n0 vV uU'.heap lL ∧ FrameEnd uU oO uU' lL ({ frames := 0, cells := 0, slots := 0, locals := 0 } : Room).cells ({ frames := 0, cells := 0, slots := 0, locals := 0 } : Room).slots) := by
  refine MetFree.of_bodySF (plainFor_of_name pn_1) hisR ?_
  intro pP eE sS mM args below meth cC s₁ Bd hml0 hP hK
  obtain ⟨rfl, hZ, hh⟩ := hP
  have hx := Bd.exec
  have hby := Bd.bytes
  have hml : cC.maxLocals = 1 := hml0
  have hown : sS.vm.findClass "java/lang/String" = some mM.cls := findClass_of_methodNamed Bd.named
  have hnm := (name_of_methodNamed Bd.named Bd.method).1
  have X0 : Stand pP l eE ({ frames := 0, cells := 0, slots := 0, locals := 0 } : Room) sS mM #[(.ref a)] below meth cC s₁ [] 0 0 := Stand.of_body Bd
  have e0 : s₁.heap = h0 := by rw [← hh, Bd.state]; rfl
  have N0 := Fr.nil n0
  have pre0 : ∀ tg, Steps pP.tables eE below (s₁.setTop (mkF mM 0 #[.val (.ref a)] [])) tg → Steps pP.tables eE below (s₁.setTop (entryFrame mM #[(.ref a)] 1)) tg := fun tg kg => castTop (ef_s1 mM a) kg
  obtain ⟨T1, X1, e1, st1⟩ := getS2 X0 hx hZ hown (host := "") (Or.inl (hw _ (List.mem_of_getElem? (i := 24) rfl))) Via.refl e0 (Sta.ext (O).2 S_cs) (g := (mkF mM 0 #[.val (.ref a)] [])) rfl (hb hby ds1_0)
  have pr2 : ∀ tg, Steps pP.tables eE below (T1.setTop (mkF mM 3 #[.val (.ref a)] [(.int cs)])) tg → Steps pP.tables eE below (s₁.setTop (entryFrame mM #[(.ref a)] 1)) tg := fun tg kg => pre0 _ (st1 _ kg)
  have pr3 : ∀ tg, Steps pP.tables eE below (T1.setTop (mkF mM 7 #[.val (.ref a)] [(.ref a)])) tg → Steps pP.tables eE below (s₁.setTop (entryFrame mM #[(.ref a)] 1)) tg := fun tg kg => pr2 _ (by
    show Steps pP.tables eE below (T1.setTop (mkF mM 3 #[.val (.ref a)] [(.int cs)])) _
    refine XS.ifNo X1.here hx rfl (hb hby ds1_3) rfl ((if0 _ _).trans (feq hcs).1) ?_
    show Steps pP.tables eE below (T1.setTop (mkF mM 6 #[.val (.ref a)] [])) _
    refine XS.aloadN X1.here hx rfl (hb hby ds1_6) rfl rfl ?_
    exact kg)
  obtain ⟨T4, X4, e4, st4⟩ := getF X1 hx hZ hown (host := "") (Or.inl (hw _ (List.mem_of_getElem? (i := 25) rfl))) Via.refl e1 F_c (g := (mkF mM 7 #[.val (.ref a)] [(.ref a)])) rfl rfl (hb hby ds1_7)
  have pr5 : ∀ tg, Steps pP.tables eE below (T4.setTop (mkF mM 10 #[.val (.ref a)] [(.int (0 : Int32))])) tg → Steps pP.tables eE below (s₁.setTop (entryFrame mM #[(.ref a)] 1)) tg := fun tg kg => pr3 _ (st4 _ kg)
  have pr6 : ∀ tg, Steps pP.tables eE below (T4.setTop (mkF mM 18 #[.val (.ref a)] [(.int (1 : Int32))])) tg → Steps pP.tables eE below (s₁.setTop (entryFrame mM #[(.ref a)] 1)) tg := fun tg kg => pr5 _ (by
    show Steps pP.tables eE below (T4.setTop (mkF mM 10 #[.val (.ref a)] [(.int (0 : Int32))])) _
    refine XS.ifNo X4.here hx rfl (hb hby ds1_10) rfl ((if0 _ _).trans (teq (by decide)).2) ?_
    show Steps pP.tables eE below (T4.setTop (mkF mM 13 #[.val (.ref a)] [])) _
    refine XS.iconst X4.here hx rfl (hb hby ds1_13) ?_
    show Steps pP.tables eE below (T4.setTop (mkF mM 14 #[.val (.ref a)] [(.int (1 : Int32))])) _
    refine XS.goto X4.here hx rfl (pc0 := 14) (pc' := 18) rfl (hb hby ds1_14) (by decide) (by decide) ?_
    exact kg)
  obtain ⟨fs, hr, hrun, hended, hW, hsame⟩ := X4.leave (v := some (.int (1 : Int32))) (fun h => by rw [Bd.returns] at h; cases h)
  refine ⟨_, _, pr6 _ (retOut X4 hx (t := .boolean) Bd.returns rfl (Or.inl ⟨rfl, Or.inr (Or.inl rfl), _, rfl⟩) (hb hby ds1_18) hr), hrun, hended, _, _, rfl, ?_, ⟨_, rfl⟩, hW, hsame.mono (by decide) (by decide)⟩
  show Qs1 Z cs sf a h0 n0 _ T4.heap _
  rw [e4]
  exact ⟨rfl, N0, rfl⟩
theorem ds2_0 : decode jdk_41_method_11_code 0 = .ok (.iload_n 0, 1) := by decide +kernel
theorem ds2_1 : decode jdk_41_method_11_code 1 = .ok (.ifCond .lt 8, 3) := by decide +kernel
theorem ds2_4 : decode jdk_41_method_11_code 4 = .ok (.iload_n 0, 1) := by decide +kernel
theorem ds2_5 : decode jdk_41_method_11_code 5 = .ok (.iload_n 1, 1) := by decide +kernel
theorem ds2_6 : decode jdk_41_method_11_code 6 = .ok (.if_icmp .lt 10, 3) := by decide +kernel
theorem ds2_16 : decode jdk_41_method_11_code 16 = .ok (.iload_n 0, 1) := by decide +kernel
theorem ds2_17 : decode jdk_41_method_11_code 17 = .ok (.ireturn, 1) := by decide +kernel
theorem pn_2 : plainName "jdk/internal/util/Preconditions" = true := by first | (simp [plainName, overriddenIn]; done) | decide +kernel
theorem ef_s2 (mM : MethodId) (x0 : Int32) (x1 : Int32) (x2 : Value) (hx2 : x2.isRef = true) : entryFrame mM #[(.int x0), (.int x1), x2] 3 = mkF mM 0 #[.val (.int x0), .val (.int x1), .val x2] [] := by rcases ref_cases hx2 with rfl | ⟨_, rfl⟩ <;> first | (simp [entryFrame, mkF, argsToLocals, Value.category]; done) | rfl
def Qs2 (Z : State) (iv : Int32) (nv : Int32) (sf : Value) (h0 : Heap) (n0 : Nat) (v : Option Value) (h : Heap) (L : List Loc) : Prop := v = some (.int iv) ∧ Fr n0 L ∧ h = h0
set_option maxRecDepth 65536 in
set_option maxHeartbeats 40000000 in
theorem rms2 (l : Launch) (Z : State) (a0 : Array Value) (hw : ∀ d ∈ tables_1, d.before a0 Z = true) (ws : List Jvm.Cond) (iv : Int32) (nv : Int32) (sf : Value) (h0 : Heap) (n0 : Nat) (Z0 : n0 ≤ h0.size) (rsf : sf.isRef = true) (h1 : ¬ iv < (0 : Int32)) (h2 : iv < nv) :
    MetFree l (⟨"jdk/internal/util/Preconditions", "checkIndex", "(IILjava/util/function/BiFunction;)I"⟩ : MethodName) (head1 (Jvm.Cond.code (⟨"jdk/internal/util/Preconditions", "checkIndex", "(IILjava/util/function/BiFunction;)I"⟩ : MethodName) jdk_41_method_11_code 3 (some .int) :: ws) ({ frames := 0, cells := 0, slots := 0, locals := 0 } : Room)) (fun aA uU => aA = #[(.int iv), (.int nv), sf] ∧ Z.Warmed39 uU.vm ∧ uU.heap = h0) (fun _ _ _ _ _ => True) (fun _ uU oO uU' => ∃ vV lL, oO = .returned vV ∧ Qs2 Z iv nv sf h0 n0 vV uU'.heap lL ∧ FrameEnd uU oO uU' lL ({ frames := 0, cells := 0, slots := 0, locals := 0 } : Room).cells ({ frames := 0, cells := 0, slots := 0, locals := 0 } : Room).slots) := by
  refine MetFree.of_bodySF (plainFor_of_name pn_2) hisR ?_
  intro pP eE sS mM args below meth cC s₁ Bd hml0 hP hK
  obtain ⟨rfl, hZ, hh⟩ := hP
  have hx := Bd.exec
  have hby := Bd.bytes
  have hml : cC.maxLocals = 3 := hml0
  have hown : sS.vm.findClass "jdk/internal/util/Preconditions" = some mM.cls := findClass_of_methodNamed Bd.named
  have hnm := (name_of_methodNamed Bd.named Bd.method).1
  have X0 : Stand pP l eE ({ frames := 0, cells := 0, slots := 0, locals := 0 } : Room) sS mM #[(.int iv), (.int nv), sf] below meth cC s₁ [] 0 0 := Stand.of_body Bd
  have e0 : s₁.heap = h0 := by rw [← hh, Bd.state]; rfl
  have N0 := Fr.nil n0
  have pre0 : ∀ tg, Steps pP.tables eE below (s₁.setTop (mkF mM 0 #[.val (.int iv), .val (.int nv), .val sf] [])) tg → Steps pP.tables eE below (s₁.setTop (entryFrame mM #[(.int iv), (.int nv), sf] 3)) tg := fun tg kg => castTop (ef_s2 mM iv nv sf rsf) kg
  have pr1 : ∀ tg, Steps pP.tables eE below (s₁.setTop (mkF mM 17 #[.val (.int iv), .val (.int nv), .val sf] [(.int iv)])) tg → Steps pP.tables eE below (s₁.setTop (entryFrame mM #[(.int iv), (.int nv), sf] 3)) tg := fun tg kg => pre0 _ (by
    show Steps pP.tables eE below (s₁.setTop (mkF mM 0 #[.val (.int iv), .val (.int nv), .val sf] [])) _
    refine XS.iloadN X0.here hx rfl (hb hby ds2_0) rfl ?_
    show Steps pP.tables eE below (s₁.setTop (mkF mM 1 #[.val (.int iv), .val (.int nv), .val sf] [(.int iv)])) _
    refine XS.ifNo X0.here hx rfl (hb hby ds2_1) rfl ((if0 _ _).trans (flt h1).1) ?_
    show Steps pP.tables eE below (s₁.setTop (mkF mM 4 #[.val (.int iv), .val (.int nv), .val sf] [])) _
    refine XS.iloadN X0.here hx rfl (hb hby ds2_4) rfl ?_
    show Steps pP.tables eE below (s₁.setTop (mkF mM 5 #[.val (.int iv), .val (.int nv), .val sf] [(.int iv)])) _
    refine XS.iloadN X0.here hx rfl (hb hby ds2_5) rfl ?_
    show Steps pP.tables eE below (s₁.setTop (mkF mM 6 #[.val (.int iv), .val (.int nv), .val sf] [(.int nv), (.int iv)])) _
    refine XS.icmpYes X0.here hx rfl (pc0 := 6) (pc' := 16) rfl (hb hby ds2_6) rfl (tlt h2).1 (by decide) (by decide) ?_
    show Steps pP.tables eE below (s₁.setTop (mkF mM 16 #[.val (.int iv), .val (.int nv), .val sf] [])) _
    refine XS.iloadN X0.here hx rfl (hb hby ds2_16) rfl ?_
    exact kg)
  obtain ⟨fs, hr, hrun, hended, hW, hsame⟩ := X0.leave (v := some (.int iv)) (fun h => by rw [Bd.returns] at h; cases h)
  refine ⟨_, _, pr1 _ (retOut X0 hx (t := .int) Bd.returns rfl (Or.inl ⟨rfl, Or.inl rfl, _, rfl⟩) (hb hby ds2_17) hr), hrun, hended, _, _, rfl, ?_, ⟨_, rfl⟩, hW, hsame.mono (by decide) (by decide)⟩
  show Qs2 Z iv nv sf h0 n0 _ s₁.heap _
  rw [e0]
  exact ⟨rfl, N0, rfl⟩
theorem pd_0 : parseMethodDescriptor "(IILjava/util/function/BiFunction;)I" = some ⟨[.int, .int, (.object "java/util/function/BiFunction")], some .int⟩ := by decide +kernel
theorem ds3_0 : decode jdk_42_method_155_code 0 = .ok (.iload_n 0, 1) := by decide +kernel
theorem ds3_1 : decode jdk_42_method_155_code 1 = .ok (.iload_n 1, 1) := by decide +kernel
theorem ds3_2 : decode jdk_42_method_155_code 2 = .ok (.getstatic 1053, 3) := by decide +kernel
theorem ds3_5 : decode jdk_42_method_155_code 5 = .ok (.invokestatic 1059, 3) := by decide +kernel
theorem ds3_8 : decode jdk_42_method_155_code 8 = .ok (.pop, 1) := by decide +kernel
theorem ds3_9 : decode jdk_42_method_155_code 9 = .ok (.return_, 1) := by decide +kernel
theorem ef_s3 (mM : MethodId) (x0 : Int32) (x1 : Int32) : entryFrame mM #[(.int x0), (.int x1)] 2 = mkF mM 0 #[.val (.int x0), .val (.int x1)] [] := by first | (simp [entryFrame, mkF, argsToLocals, Value.category]; done) | rfl
def Qs3 (Z : State) (cs : Int32) (sf : Value) (iv : Int32) (nv : Int32) (h0 : Heap) (n0 : Nat) (v : Option Value) (h : Heap) (L : List Loc) : Prop := v = none ∧ Fr n0 L ∧ h = h0
set_option maxRecDepth 65536 in
set_option maxHeartbeats 40000000 in
theorem rms3 (l : Launch) (Z : State) (a0 : Array Value) (hw : ∀ d ∈ tables_1, d.before a0 Z = true) (ws : List Jvm.Cond) (cs : Int32) (sf : Value) (iv : Int32) (nv : Int32) (h0 : Heap) (n0 : Nat) (Z0 : n0 ≤ h0.size) (O : Old Z n0 h0) (S_cs : Sta Z Z.heap "java/lang/String" "COMPACT_STRINGS" "Z" (.int cs)) (hcs : ¬ cs = (0 : Int32)) (S_sf : Sta Z Z.heap "jdk/internal/util/Preconditions" "SIOOBE_FORMATTER" "Ljava/util/function/BiFunction;" sf) (rsf : sf.isRef = true) (h1 : ¬ iv < (0 : Int32)) (h2 : iv < nv) :
    MetFree l (⟨"java/lang/String", "checkIndex", "(II)V"⟩ : MethodName) (head1 (Jvm.Cond.code (⟨"java/lang/String", "checkIndex", "(II)V"⟩ : MethodName) jdk_42_method_155_code 2 none :: ws) ({ frames := 1, cells := 0, slots := 0, locals := 14 } : Room)) (fun aA uU => aA = #[(.int iv), (.int nv)] ∧ Z.Warmed39 uU.vm ∧ uU.heap = h0) (fun _ _ _ _ _ => True) (fun _ uU oO uU' => ∃ vV lL, oO = .returned vV ∧ Qs3 Z cs sf iv nv h0 n0 vV uU'.heap lL ∧ FrameEnd uU oO uU' lL ({ frames := 1, cells := 0, slots := 0, locals := 14 } : Room).cells ({ frames := 1, cells := 0, slots := 0, locals := 14 } : Room).slots) := by
  refine MetFree.of_bodySF (plainFor_of_name pn_1) hisR ?_
  intro pP eE sS mM args below meth cC s₁ Bd hml0 hP hK
  obtain ⟨rfl, hZ, hh⟩ := hP
  have hx := Bd.exec
  have hby := Bd.bytes
  have hml : cC.maxLocals = 2 := hml0
  have hown : sS.vm.findClass "java/lang/String" = some mM.cls := findClass_of_methodNamed Bd.named
  have hnm := (name_of_methodNamed Bd.named Bd.method).1
  have X0 : Stand pP l eE ({ frames := 1, cells := 0, slots := 0, locals := 14 } : Room) sS mM #[(.int iv), (.int nv)] below meth cC s₁ [] 0 0 := Stand.of_body Bd
  have e0 : s₁.heap = h0 := by rw [← hh, Bd.state]; rfl
  have N0 := Fr.nil n0
  have pre0 : ∀ tg, Steps pP.tables eE below (s₁.setTop (mkF mM 0 #[.val (.int iv), .val (.int nv)] [])) tg → Steps pP.tables eE below (s₁.setTop (entryFrame mM #[(.int iv), (.int nv)] 2)) tg := fun tg kg => castTop (ef_s3 mM iv nv) kg
  have pr1 : ∀ tg, Steps pP.tables eE below (s₁.setTop (mkF mM 2 #[.val (.int iv), .val (.int nv)] [(.int nv), (.int iv)])) tg → Steps pP.tables eE below (s₁.setTop (entryFrame mM #[(.int iv), (.int nv)] 2)) tg := fun tg kg => pre0 _ (by
    show Steps pP.tables eE below (s₁.setTop (mkF mM 0 #[.val (.int iv), .val (.int nv)] [])) _
    refine XS.iloadN X0.here hx rfl (hb hby ds3_0) rfl ?_
    show Steps pP.tables eE below (s₁.setTop (mkF mM 1 #[.val (.int iv), .val (.int nv)] [(.int iv)])) _
    refine XS.iloadN X0.here hx rfl (hb hby ds3_1) rfl ?_
    exact kg)
  obtain ⟨T2, X2, e2, st2⟩ := getS2 X0 hx hZ hown (host := "") (Or.inl (hw _ (List.mem_of_getElem? (i := 34) rfl))) Via.refl e0 (Sta.ext (O).2 S_sf) (g := (mkF mM 2 #[.val (.int iv), .val (.int nv)] [(.int nv), (.int iv)])) rfl (hb hby ds3_2)
  have pr3 : ∀ tg, Steps pP.tables eE below (T2.setTop (mkF mM 5 #[.val (.int iv), .val (.int nv)] [sf, (.int nv), (.int iv)])) tg → Steps pP.tables eE below (s₁.setTop (entryFrame mM #[(.int iv), (.int nv)] 2)) tg := fun tg kg => pr1 _ (st2 _ kg)
  obtain ⟨_, _, ⟨T4, L4, kk4, nn4⟩, -, X4, ⟨Lc4, hQ4, l4, y4, z4⟩, st4⟩ := Jvm.LawKit.callS X2 hx (y := (⟨"jdk/internal/util/Preconditions", "checkIndex", "(IILjava/util/function/BiFunction;)I"⟩ : MethodName)) hown (mvT hZ (hw _ (List.mem_of_getElem? (i := 36) rfl))) (mvT hZ (hw _ (List.mem_of_getElem? (i := 37) rfl))) (mvT hZ (hw _ (List.mem_of_getElem? (i := 35) rfl))) (mvT hZ (hw _ (List.mem_of_getElem? (i := 38) rfl))) (by decide) (backOf (W := 0) (rms2 l Z a0 hw [] iv nv sf h0 n0 Z0 rsf h1 h2) hZ (hw _ (List.mem_of_getElem? (i := 38) rfl)) (hw _ (List.mem_of_getElem? (i := 35) rfl)) (by decide) (by decide)) (g := (mkF mM 5 #[.val (.int iv), .val (.int nv)] [sf, (.int nv), (.int iv)])) rfl (by rw [hml]; rfl) (argsL := [(.int iv), (.int nv), sf]) (rest := []) (lenOf pd_0 rfl) rfl (by show 2 * 0 + _ ≤ _; exact Nat.le_of_eq rfl) (hb hby ds3_5) (fun _ _ => ⟨rfl, e2, (by decide : 0 + 0 ≤ _), (by decide : 0 + 0 ≤ _)⟩)
  dsimp only [Pt.U, Pt.locs, Pt.cells, Pt.slots] at X4 l4 y4 z4 st4 hQ4
  subst l4 y4 z4
  obtain ⟨rfl, Nq4, e4⟩ := hQ4
  have N4 := Fr.app N0 Nq4
  have pr5 : ∀ tg, Steps pP.tables eE below (T4.setTop (mkF mM 8 #[.val (.int iv), .val (.int nv)] [(.int iv)])) tg → Steps pP.tables eE below (s₁.setTop (entryFrame mM #[(.int iv), (.int nv)] 2)) tg := fun tg kg => pr3 _ (st4 _ kg)
  have pr6 : ∀ tg, Steps pP.tables eE below (T4.setTop (mkF mM 9 #[.val (.int iv), .val (.int nv)] [])) tg → Steps pP.tables eE below (s₁.setTop (entryFrame mM #[(.int iv), (.int nv)] 2)) tg := fun tg kg => pr5 _ (by
    show Steps pP.tables eE below (T4.setTop (mkF mM 8 #[.val (.int iv), .val (.int nv)] [(.int iv)])) _
    refine XS.pop X4.here hx rfl (hb hby ds3_8) rfl rfl ?_
    exact kg)
  obtain ⟨fs, hr, hrun, hended, hW, hsame⟩ := X4.leave (v := none) (fun _ => rfl)
  refine ⟨_, _, pr6 _ (X4.returnOut hx Bd.returns (hb hby ds3_9) hr), hrun, hended, _, _, rfl, ?_, ⟨_, rfl⟩, hW, hsame.mono (by decide) (by decide)⟩
  show Qs3 Z cs sf iv nv h0 n0 _ T4.heap _
  rw [e4]
  exact ⟨rfl, N4, rfl⟩
theorem pd_1 : parseMethodDescriptor "(II)V" = some ⟨[.int, .int], none⟩ := by decide +kernel
theorem ds4_0 : decode jdk_43_method_2_code 0 = .ok (.iload_n 1, 1) := by decide +kernel
theorem ds4_1 : decode jdk_43_method_2_code 1 = .ok (.aload_n 0, 1) := by decide +kernel
theorem ds4_2 : decode jdk_43_method_2_code 2 = .ok (.arraylength, 1) := by decide +kernel
theorem ds4_3 : decode jdk_43_method_2_code 3 = .ok (.invokestatic 9, 3) := by decide +kernel
theorem ds4_6 : decode jdk_43_method_2_code 6 = .ok (.aload_n 0, 1) := by decide +kernel
theorem ds4_7 : decode jdk_43_method_2_code 7 = .ok (.iload_n 1, 1) := by decide +kernel
theorem ds4_8 : decode jdk_43_method_2_code 8 = .ok (.baload, 1) := by decide +kernel
theorem ds4_9 : decode jdk_43_method_2_code 9 = .ok (.sipush 255, 3) := by decide +kernel
theorem ds4_12 : decode jdk_43_method_2_code 12 = .ok (.iand, 1) := by decide +kernel
theorem ds4_13 : decode jdk_43_method_2_code 13 = .ok (.i2c, 1) := by decide +kernel
theorem ds4_14 : decode jdk_43_method_2_code 14 = .ok (.ireturn, 1) := by decide +kernel
theorem pn_3 : plainName "java/lang/StringLatin1" = true := by first | (simp [plainName, overriddenIn]; done) | decide +kernel
theorem ef_s4 (mM : MethodId) (x0 : Addr) (x1 : Int32) : entryFrame mM #[(.ref x0), (.int x1)] 2 = mkF mM 0 #[.val (.ref x0), .val (.int x1)] [] := by first | (simp [entryFrame, mkF, argsToLocals, Value.category]; done) | rfl
def Qs4 (Z : State) (cs : Int32) (sf : Value) (b : Addr) (cl : Cell) (nv : Int32) (iv : Int32) (uv : Int32) (h0 : Heap) (n0 : Nat) (v : Option Value) (h : Heap) (L : List Loc) : Prop := v = some (.int (uv &&& (255 : Int32)).toUInt32.toUInt16.toUInt32.toInt32) ∧ Fr n0 L ∧ h = h0
set_option maxRecDepth 65536 in
set_option maxHeartbeats 40000000 in
theorem rms4 (l : Launch) (Z : State) (a0 : Array Value) (hw : ∀ d ∈ tables_1, d.before a0 Z = true) (ws : List Jvm.Cond) (cs : Int32) (sf : Value) (b : Addr) (cl : Cell) (nv : Int32) (iv : Int32) (uv : Int32) (h0 : Heap) (n0 : Nat) (Z0 : n0 ≤ h0.size) (O : Old Z n0 h0) (S_cs : Sta Z Z.heap "java/lang/String" "COMPACT_STRINGS" "Z" (.int cs)) (hcs : ¬ cs = (0 : Int32)) (S_sf : Sta Z Z.heap "jdk/internal/util/Preconditions" "SIOOBE_FORMATTER" "Ljava/util/function/BiFunction;" sf) (rsf : sf.isRef = true) (Ar : Arr Z h0 b cl .byte) (Sz : cl.slots.size = nv.toNatClampNeg) (Mz : ¬ nv < 0) (h1 : ¬ iv < (0 : Int32)) (h2 : iv < nv) (hat : cl.slots[iv.toNatClampNeg]? = some (.int uv)) :
    MetFree l (⟨"java/lang/StringLatin1", "charAt", "([BI)C"⟩ : MethodName) (head1 (Jvm.Cond.code (⟨"java/lang/StringLatin1", "charAt", "([BI)C"⟩ : MethodName) jdk_43_method_2_code 2 (some .char) :: ws) ({ frames := 2, cells := 0, slots := 0, locals := 27 } : Room)) (fun aA uU => aA = #[(.ref b), (.int iv)] ∧ Z.Warmed39 uU.vm ∧ uU.heap = h0) (fun _ _ _ _ _ => True) (fun _ uU oO uU' => ∃ vV lL, oO = .returned vV ∧ Qs4 Z cs sf b cl nv iv uv h0 n0 vV uU'.heap lL ∧ FrameEnd uU oO uU' lL ({ frames := 2, cells := 0, slots := 0, locals := 27 } : Room).cells ({ frames := 2, cells := 0, slots := 0, locals := 27 } : Room).slots) := by
  refine MetFree.of_bodySF (plainFor_of_name pn_3) hisR ?_
  intro pP eE sS mM args below meth cC s₁ Bd hml0 hP hK
  obtain ⟨rfl, hZ, hh⟩ := hP
  have hx := Bd.exec
  have hby := Bd.bytes
  have hml : cC.maxLocals = 2 := hml0
  have hown : sS.vm.findClass "java/lang/StringLatin1" = some mM.cls := findClass_of_methodNamed Bd.named
  have hnm := (name_of_methodNamed Bd.named Bd.method).1
  have X0 : Stand pP l eE ({ frames := 2, cells := 0, slots := 0, locals := 27 } : Room) sS mM #[(.ref b), (.int iv)] below meth cC s₁ [] 0 0 := Stand.of_body Bd
  have e0 : s₁.heap = h0 := by rw [← hh, Bd.state]; rfl
  have N0 := Fr.nil n0
  have pre0 : ∀ tg, Steps pP.tables eE below (s₁.setTop (mkF mM 0 #[.val (.ref b), .val (.int iv)] [])) tg → Steps pP.tables eE below (s₁.setTop (entryFrame mM #[(.ref b), (.int iv)] 2)) tg := fun tg kg => castTop (ef_s4 mM b iv) kg
  have pr1 : ∀ tg, Steps pP.tables eE below (s₁.setTop (mkF mM 3 #[.val (.ref b), .val (.int iv)] [(.int nv), (.int iv)])) tg → Steps pP.tables eE below (s₁.setTop (entryFrame mM #[(.ref b), (.int iv)] 2)) tg := fun tg kg => pre0 _ (by
    show Steps pP.tables eE below (s₁.setTop (mkF mM 0 #[.val (.ref b), .val (.int iv)] [])) _
    refine XS.iloadN X0.here hx rfl (hb hby ds4_0) rfl ?_
    show Steps pP.tables eE below (s₁.setTop (mkF mM 1 #[.val (.ref b), .val (.int iv)] [(.int iv)])) _
    refine XS.aloadN X0.here hx rfl (hb hby ds4_1) rfl rfl ?_
    show Steps pP.tables eE below (s₁.setTop (mkF mM 2 #[.val (.ref b), .val (.int iv)] [(.ref b), (.int iv)])) _
    refine X0.arraylength hx (by rw [e0]; exact Ar.1) (State.isArrayOf_alike hZ.alike Ar.2.1) (g := (mkF mM 2 #[.val (.ref b), .val (.int iv)] [(.ref b), (.int iv)])) rfl rfl (hb hby ds4_2) _ ?_
    rw [len_of Sz Mz]
    exact kg)
  obtain ⟨_, _, ⟨T2, L2, kk2, nn2⟩, -, X2, ⟨Lc2, hQ2, l2, y2, z2⟩, st2⟩ := Jvm.LawKit.callS X0 hx (y := (⟨"java/lang/String", "checkIndex", "(II)V"⟩ : MethodName)) hown (mvT hZ (hw _ (List.mem_of_getElem? (i := 31) rfl))) (mvT hZ (hw _ (List.mem_of_getElem? (i := 32) rfl))) (mvT hZ (hw _ (List.mem_of_getElem? (i := 7) rfl))) (mvT hZ (hw _ (List.mem_of_getElem? (i := 33) rfl))) (by decide) (backOf (W := 0) (rms3 l Z a0 hw [] cs sf iv nv h0 n0 Z0 O S_cs hcs S_sf rsf h1 h2) hZ (hw _ (List.mem_of_getElem? (i := 33) rfl)) (hw _ (List.mem_of_getElem? (i := 7) rfl)) (by decide) (by decide)) (g := (mkF mM 3 #[.val (.ref b), .val (.int iv)] [(.int nv), (.int iv)])) rfl (by rw [hml]; rfl) (argsL := [(.int iv), (.int nv)]) (rest := []) (lenOf pd_1 rfl) rfl (by show 2 * 0 + _ ≤ _; exact Nat.le_of_eq rfl) (hb hby ds4_3) (fun _ _ => ⟨rfl, e0, (by decide : 0 + 0 ≤ _), (by decide : 0 + 0 ≤ _)⟩)
  dsimp only [Pt.U, Pt.locs, Pt.cells, Pt.slots] at X2 l2 y2 z2 st2 hQ2
  subst l2 y2 z2
  obtain ⟨rfl, Nq2, e2⟩ := hQ2
  have N2 := Fr.app N0 Nq2
  have pr3 : ∀ tg, Steps pP.tables eE below (T2.setTop (mkF mM 6 #[.val (.ref b), .val (.int iv)] [])) tg → Steps pP.tables eE below (s₁.setTop (entryFrame mM #[(.ref b), (.int iv)] 2)) tg := fun tg kg => pr1 _ (st2 _ kg)
  have pr4 : ∀ tg, Steps pP.tables eE below (T2.setTop (mkF mM 14 #[.val (.ref b), .val (.int iv)] [(.int (uv &&& (255 : Int32)).toUInt32.toUInt16.toUInt32.toInt32)])) tg → Steps pP.tables eE below (s₁.setTop (entryFrame mM #[(.ref b), (.int iv)] 2)) tg := fun tg kg => pr3 _ (by
    show Steps pP.tables eE below (T2.setTop (mkF mM 6 #[.val (.ref b), .val (.int iv)] [])) _
    refine XS.aloadN X2.here hx rfl (hb hby ds4_6) rfl rfl ?_
    show Steps pP.tables eE below (T2.setTop (mkF mM 7 #[.val (.ref b), .val (.int iv)] [(.ref b)])) _
    refine XS.iloadN X2.here hx rfl (hb hby ds4_7) rfl ?_
    show Steps pP.tables eE below (T2.setTop (mkF mM 8 #[.val (.ref b), .val (.int iv)] [(.int iv), (.ref b)])) _
    refine X2.baloadBytes hx (j := iv) (v := (.int uv)) (by rw [e2]; exact Ar.1) (State.isArrayOf_alike hZ.alike Ar.2.1) Ar.2.2 (inb_of Sz ⟨h1, h2⟩) hat (g := (mkF mM 8 #[.val (.ref b), .val (.int iv)] [(.int iv), (.ref b)])) rfl rfl (hb hby ds4_8) _ ?_
    show Steps pP.tables eE below (T2.setTop (mkF mM 9 #[.val (.ref b), .val (.int iv)] [(.int uv)])) _
    refine XS.sipush X2.here hx rfl (hb hby ds4_9) ?_
    show Steps pP.tables eE below (T2.setTop (mkF mM 12 #[.val (.ref b), .val (.int iv)] [(.int (255 : Int32)), (.int uv)])) _
    refine XS.iand X2.here hx rfl (hb hby ds4_12) rfl ?_
    show Steps pP.tables eE below (T2.setTop (mkF mM 13 #[.val (.ref b), .val (.int iv)] [(.int (uv &&& (255 : Int32)))])) _
    refine XS.i2c X2.here hx rfl (hb hby ds4_13) rfl ?_
    exact kg)
  obtain ⟨fs, hr, hrun, hended, hW, hsame⟩ := X2.leave (v := some (.int (uv &&& (255 : Int32)).toUInt32.toUInt16.toUInt32.toInt32)) (fun h => by rw [Bd.returns] at h; cases h)
  refine ⟨_, _, pr4 _ (retOut X2 hx (t := .char) Bd.returns (Jvm.Free.XT.narrow_c _) (Or.inl ⟨rfl, Or.inr (Or.inr (Or.inr (Or.inl rfl))), _, rfl⟩) (hb hby ds4_14) hr), hrun, hended, _, _, rfl, ?_, ⟨_, rfl⟩, hW, hsame.mono (by decide) (by decide)⟩
  show Qs4 Z cs sf b cl nv iv uv h0 n0 _ T2.heap _
  rw [e2]
  exact ⟨rfl, N2, rfl⟩
theorem pd_2 : parseMethodDescriptor "()Z" = some ⟨[], some .boolean⟩ := by decide +kernel
theorem pd_3 : parseMethodDescriptor "([BI)C" = some ⟨[(.array .byte), .int], some .char⟩ := by decide +kernel
theorem ds5_0 : decode jdk_42_method_56_code 0 = .ok (.aload_n 0, 1) := by decide +kernel
theorem ds5_1 : decode jdk_42_method_56_code 1 = .ok (.invokevirtual 492, 3) := by decide +kernel
theorem ds5_4 : decode jdk_42_method_56_code 4 = .ok (.ifCond .eq 12, 3) := by decide +kernel
theorem ds5_7 : decode jdk_42_method_56_code 7 = .ok (.aload_n 0, 1) := by decide +kernel
theorem ds5_8 : decode jdk_42_method_56_code 8 = .ok (.getfield 9, 3) := by decide +kernel
theorem ds5_11 : decode jdk_42_method_56_code 11 = .ok (.iload_n 1, 1) := by decide +kernel
theorem ds5_12 : decode jdk_42_method_56_code 12 = .ok (.invokestatic 495, 3) := by decide +kernel
theorem ds5_15 : decode jdk_42_method_56_code 15 = .ok (.ireturn, 1) := by decide +kernel
theorem ef_s5 (mM : MethodId) (x0 : Addr) (x1 : Int32) : entryFrame mM #[(.ref x0), (.int x1)] 2 = mkF mM 0 #[.val (.ref x0), .val (.int x1)] [] := by first | (simp [entryFrame, mkF, argsToLocals, Value.category]; done) | rfl
def Qs5 (Z : State) (cs : Int32) (sf : Value) (a : Addr) (b : Addr) (cl : Cell) (nv : Int32) (iv : Int32) (uv : Int32) (h0 : Heap) (n0 : Nat) (v : Option Value) (h : Heap) (L : List Loc) : Prop := v = some (.int (uv &&& (255 : Int32)).toUInt32.toUInt16.toUInt32.toInt32) ∧ Fr n0 L ∧ h = h0
set_option maxRecDepth 65536 in
set_option maxHeartbeats 40000000 in
theorem rms5 (l : Launch) (Z : State) (a0 : Array Value) (hw : ∀ d ∈ tables_1, d.before a0 Z = true) (ws : List Jvm.Cond) (cs : Int32) (sf : Value) (a : Addr) (b : Addr) (cl : Cell) (nv : Int32) (iv : Int32) (uv : Int32) (h0 : Heap) (n0 : Nat) (Z0 : n0 ≤ h0.size) (O : Old Z n0 h0) (S_cs : Sta Z Z.heap "java/lang/String" "COMPACT_STRINGS" "Z" (.int cs)) (hcs : ¬ cs = (0 : Int32)) (S_sf : Sta Z Z.heap "jdk/internal/util/Preconditions" "SIOOBE_FORMATTER" "Ljava/util/function/BiFunction;" sf) (rsf : sf.isRef = true) (E_a : Exa Z h0 a "java/lang/String") (F_c : Fld Z h0 a "java/lang/String" "coder" "B" (.int (0 : Int32))) (F_v : Fld Z h0 a "java/lang/String" "value" "[B" (.ref b)) (Ar : Arr Z h0 b cl .byte) (Sz : cl.slots.size = nv.toNatClampNeg) (Mz : ¬ nv < 0) (h1 : ¬ iv < (0 : Int32)) (h2 : iv < nv) (hat : cl.slots[iv.toNatClampNeg]? = some (.int uv)) :
    MetFree l (⟨"java/lang/String", "charAt", "(I)C"⟩ : MethodName) (head1 (Jvm.Cond.code (⟨"java/lang/String", "charAt", "(I)C"⟩ : MethodName) jdk_42_method_56_code 2 (some .char) :: ws) ({ frames := 3, cells := 0, slots := 0, locals := 40 } : Room)) (fun aA uU => aA = #[(.ref a), (.int iv)] ∧ Z.Warmed39 uU.vm ∧ uU.heap = h0) (fun _ _ _ _ _ => True) (fun _ uU oO uU' => ∃ vV lL, oO = .returned vV ∧ Qs5 Z cs sf a b cl nv iv uv h0 n0 vV uU'.heap lL ∧ FrameEnd uU oO uU' lL ({ frames := 3, cells := 0, slots := 0, locals := 40 } : Room).cells ({ frames := 3, cells := 0, slots := 0, locals := 40 } : Room).slots) := by
  refine MetFree.of_bodySF (plainFor_of_name pn_1) hisR ?_
  intro pP eE sS mM args below meth cC s₁ Bd hml0 hP hK
  obtain ⟨rfl, hZ, hh⟩ := hP
  have hx := Bd.exec
  have hby := Bd.bytes
  have hml : cC.maxLocals = 2 := hml0
  have hown : sS.vm.findClass "java/lang/String" = some mM.cls := findClass_of_methodNamed Bd.named
  have hnm := (name_of_methodNamed Bd.named Bd.method).1
  have X0 : Stand pP l eE ({ frames := 3, cells := 0, slots := 0, locals := 40 } : Room) sS mM #[(.ref a), (.int iv)] below meth cC s₁ [] 0 0 := Stand.of_body Bd
  have e0 : s₁.heap = h0 := by rw [← hh, Bd.state]; rfl
  have N0 := Fr.nil n0
  have pre0 : ∀ tg, Steps pP.tables eE below (s₁.setTop (mkF mM 0 #[.val (.ref a), .val (.int iv)] [])) tg → Steps pP.tables eE below (s₁.setTop (entryFrame mM #[(.ref a), (.int iv)] 2)) tg := fun tg kg => castTop (ef_s5 mM a iv) kg
  have pr1 : ∀ tg, Steps pP.tables eE below (s₁.setTop (mkF mM 1 #[.val (.ref a), .val (.int iv)] [(.ref a)])) tg → Steps pP.tables eE below (s₁.setTop (entryFrame mM #[(.ref a), (.int iv)] 2)) tg := fun tg kg => pre0 _ (by
    show Steps pP.tables eE below (s₁.setTop (mkF mM 0 #[.val (.ref a), .val (.int iv)] [])) _
    refine XS.aloadN X0.here hx rfl (hb hby ds5_0) rfl rfl ?_
    exact kg)
  obtain ⟨cq2, kq2, qa2, qb2, qc2⟩ := isOf hZ e0 E_a
  obtain ⟨_, _, ⟨T2, L2, kk2, nn2⟩, -, X2, ⟨Lc2, hQ2, l2, y2, z2⟩, st2⟩ := X0.virtualBack hx (y := (⟨"java/lang/String", "isLatin1", "()Z"⟩ : MethodName)) (z := (⟨"java/lang/String", "isLatin1", "()Z"⟩ : MethodName)) hown (mvT hZ (hw _ (List.mem_of_getElem? (i := 19) rfl))) (mvT hZ (hw _ (List.mem_of_getElem? (i := 20) rfl))) (notFace_of_selects (args := #[]) (mvT hZ (hw _ (List.mem_of_getElem? (i := 22) rfl)))) (mvT hZ (hw _ (List.mem_of_getElem? (i := 22) rfl))) (mvT hZ (hw _ (List.mem_of_getElem? (i := 21) rfl))) (by decide) (backOf (W := 0) (rms1 l Z a0 hw [] cs sf a h0 n0 Z0 O S_cs hcs S_sf rsf E_a F_c) hZ (hw _ (List.mem_of_getElem? (i := 23) rfl)) (hw _ (List.mem_of_getElem? (i := 7) rfl)) (by decide) (by decide)) qa2 qc2 (g := (mkF mM 1 #[.val (.ref a), .val (.int iv)] [(.ref a)])) rfl (by rw [hml]; rfl) (Steps.refl _) (argsL := []) (rest := []) (lenOf pd_2 rfl) rfl (by show 2 * 0 + _ ≤ _; exact Nat.le_of_eq rfl) (hb hby ds5_1) (fun _ _ => ⟨rfl, e0, (by decide : 0 + 0 ≤ _), (by decide : 0 + 0 ≤ _)⟩)
  dsimp only [Pt.U, Pt.locs, Pt.cells, Pt.slots] at X2 l2 y2 z2 st2 hQ2
  subst l2 y2 z2
  obtain ⟨rfl, Nq2, e2⟩ := hQ2
  have N2 := Fr.app N0 Nq2
  have pr3 : ∀ tg, Steps pP.tables eE below (T2.setTop (mkF mM 4 #[.val (.ref a), .val (.int iv)] [(.int (1 : Int32))])) tg → Steps pP.tables eE below (s₁.setTop (entryFrame mM #[(.ref a), (.int iv)] 2)) tg := fun tg kg => pr1 _ (st2.trans kg)
  have pr4 : ∀ tg, Steps pP.tables eE below (T2.setTop (mkF mM 8 #[.val (.ref a), .val (.int iv)] [(.ref a)])) tg → Steps pP.tables eE below (s₁.setTop (entryFrame mM #[(.ref a), (.int iv)] 2)) tg := fun tg kg => pr3 _ (by
    show Steps pP.tables eE below (T2.setTop (mkF mM 4 #[.val (.ref a), .val (.int iv)] [(.int (1 : Int32))])) _
    refine XS.ifNo X2.here hx rfl (hb hby ds5_4) rfl ((if0 _ _).trans (feq (by decide)).1) ?_
    show Steps pP.tables eE below (T2.setTop (mkF mM 7 #[.val (.ref a), .val (.int iv)] [])) _
    refine XS.aloadN X2.here hx rfl (hb hby ds5_7) rfl rfl ?_
    exact kg)
  obtain ⟨T5, X5, e5, st5⟩ := getF X2 hx hZ hown (host := "") (Or.inl (hw _ (List.mem_of_getElem? (i := 26) rfl))) Via.refl e2 F_v (g := (mkF mM 8 #[.val (.ref a), .val (.int iv)] [(.ref a)])) rfl rfl (hb hby ds5_8)
  have pr6 : ∀ tg, Steps pP.tables eE below (T5.setTop (mkF mM 11 #[.val (.ref a), .val (.int iv)] [(.ref b)])) tg → Steps pP.tables eE below (s₁.setTop (entryFrame mM #[(.ref a), (.int iv)] 2)) tg := fun tg kg => pr4 _ (st5 _ kg)
  have pr7 : ∀ tg, Steps pP.tables eE below (T5.setTop (mkF mM 12 #[.val (.ref a), .val (.int iv)] [(.int iv), (.ref b)])) tg → Steps pP.tables eE below (s₁.setTop (entryFrame mM #[(.ref a), (.int iv)] 2)) tg := fun tg kg => pr6 _ (by
    show Steps pP.tables eE below (T5.setTop (mkF mM 11 #[.val (.ref a), .val (.int iv)] [(.ref b)])) _
    refine XS.iloadN X5.here hx rfl (hb hby ds5_11) rfl ?_
    exact kg)
  obtain ⟨_, _, ⟨T8, L8, kk8, nn8⟩, -, X8, ⟨Lc8, hQ8, l8, y8, z8⟩, st8⟩ := Jvm.LawKit.callS X5 hx (y := (⟨"java/lang/StringLatin1", "charAt", "([BI)C"⟩ : MethodName)) hown (mvT hZ (hw _ (List.mem_of_getElem? (i := 27) rfl))) (mvT hZ (hw _ (List.mem_of_getElem? (i := 28) rfl))) (mvT hZ (hw _ (List.mem_of_getElem? (i := 29) rfl))) (mvT hZ (hw _ (List.mem_of_getElem? (i := 30) rfl))) (by decide) (backOf (W := 0) (rms4 l Z a0 hw [] cs sf b cl nv iv uv h0 n0 Z0 O S_cs hcs S_sf rsf Ar Sz Mz h1 h2 hat) hZ (hw _ (List.mem_of_getElem? (i := 30) rfl)) (hw _ (List.mem_of_getElem? (i := 29) rfl)) (by decide) (by decide)) (g := (mkF mM 12 #[.val (.ref a), .val (.int iv)] [(.int iv), (.ref b)])) rfl (by rw [hml]; rfl) (argsL := [(.ref b), (.int iv)]) (rest := []) (lenOf pd_3 rfl) rfl (by show 2 * 0 + _ ≤ _; exact Nat.le_of_eq rfl) (hb hby ds5_12) (fun _ _ => ⟨rfl, e5, (by decide : 0 + 0 ≤ _), (by decide : 0 + 0 ≤ _)⟩)
  dsimp only [Pt.U, Pt.locs, Pt.cells, Pt.slots] at X8 l8 y8 z8 st8 hQ8
  subst l8 y8 z8
  obtain ⟨rfl, Nq8, e8⟩ := hQ8
  have N8 := Fr.app N2 Nq8
  have pr9 : ∀ tg, Steps pP.tables eE below (T8.setTop (mkF mM 15 #[.val (.ref a), .val (.int iv)] [(.int (uv &&& (255 : Int32)).toUInt32.toUInt16.toUInt32.toInt32)])) tg → Steps pP.tables eE below (s₁.setTop (entryFrame mM #[(.ref a), (.int iv)] 2)) tg := fun tg kg => pr7 _ (st8 _ kg)
  obtain ⟨fs, hr, hrun, hended, hW, hsame⟩ := X8.leave (v := some (.int (uv &&& (255 : Int32)).toUInt32.toUInt16.toUInt32.toInt32)) (fun h => by rw [Bd.returns] at h; cases h)
  refine ⟨_, _, pr9 _ (retOut X8 hx (t := .char) Bd.returns (Jvm.Free.XT.narrow_c _) (Or.inl ⟨rfl, Or.inr (Or.inr (Or.inr (Or.inl rfl))), _, rfl⟩) (hb hby ds5_15) hr), hrun, hended, _, _, rfl, ?_, ⟨_, rfl⟩, hW, hsame.mono (by decide) (by decide)⟩
  show Qs5 Z cs sf a b cl nv iv uv h0 n0 _ T8.heap _
  rw [e8]
  exact ⟨rfl, N8, rfl⟩
theorem own_10 {z : Int32} (h1 : 0 ≤ z.toInt) (h2 : z.toInt < 10) : z = (0 : Int32) ∨ z = (1 : Int32) ∨ z = (2 : Int32) ∨ z = (3 : Int32) ∨ z = (4 : Int32) ∨ z = (5 : Int32) ∨ z = (6 : Int32) ∨ z = (7 : Int32) ∨ z = (8 : Int32) ∨ z = (9 : Int32) := by
  have h : z.toInt = 0 ∨ z.toInt = 1 ∨ z.toInt = 2 ∨ z.toInt = 3 ∨ z.toInt = 4 ∨ z.toInt = 5 ∨ z.toInt = 6 ∨ z.toInt = 7 ∨ z.toInt = 8 ∨ z.toInt = 9 := by omega
  rcases h with h | h | h | h | h | h | h | h | h | h
  · exact Or.inl (Int32.toInt_inj.mp h)
  · exact Or.inr (Or.inl (Int32.toInt_inj.mp h))
  · exact Or.inr (Or.inr (Or.inl (Int32.toInt_inj.mp h)))
  · exact Or.inr (Or.inr (Or.inr (Or.inl (Int32.toInt_inj.mp h))))
  · exact Or.inr (Or.inr (Or.inr (Or.inr (Or.inl (Int32.toInt_inj.mp h)))))
  · exact Or.inr (Or.inr (Or.inr (Or.inr (Or.inr (Or.inl (Int32.toInt_inj.mp h))))))
  · exact Or.inr (Or.inr (Or.inr (Or.inr (Or.inr (Or.inr (Or.inl (Int32.toInt_inj.mp h)))))))
  · exact Or.inr (Or.inr (Or.inr (Or.inr (Or.inr (Or.inr (Or.inr (Or.inl (Int32.toInt_inj.mp h))))))))
  · exact Or.inr (Or.inr (Or.inr (Or.inr (Or.inr (Or.inr (Or.inr (Or.inr (Or.inl (Int32.toInt_inj.mp h)))))))))
  · exact Or.inr (Or.inr (Or.inr (Or.inr (Or.inr (Or.inr (Or.inr (Or.inr (Or.inr (Int32.toInt_inj.mp h)))))))))
theorem own_whole (cv : Int32) : (if cv < (48 : Int32) then (0 : Int32) else (if (57 : Int32) < cv then (0 : Int32) else (1 : Int32))) = (if (cv.toInt64 - (48 : Int64)) < (0 : Int64) then (0 : Int32) else (if (cv.toInt64 - (48 : Int64)) < (10 : Int64) then (1 : Int32) else (0 : Int32))) := by
  have a1 := cv.toInt_lt; have a2 := cv.le_toInt
  have e0 : cv.toInt64.toInt = cv.toInt := Jvm.Kit.i64_of_i32 cv
  have e48 : (48 : Int64).toInt = 48 := rfl
  have e1 := Jvm.Kit.i64_sub (x := cv.toInt64) (y := 48) (by omega) (by omega)
  have c48 : (48 : Int32).toInt = 48 := rfl
  have c57 : (57 : Int32).toInt = 57 := rfl
  have c0 : (0 : Int64).toInt = 0 := rfl
  have c10 : (10 : Int64).toInt = 10 := rfl
  simp only [Int32.lt_iff_toInt_lt, Int64.lt_iff_toInt_lt]
  rw [e1, e0, e48, c48, c57, c0, c10]
  by_cases h1 : cv.toInt < 48
  · rw [if_pos h1, if_pos (by omega)]
  · by_cases h2 : (57 : Int) < cv.toInt
    · rw [if_neg h1, if_pos h2, if_neg (by omega), if_neg (by omega)]
    · rw [if_neg h1, if_neg h2, if_neg (by omega), if_pos (by omega)]
theorem own_rem10 (k : Int32) : 0 ≤ ((k &&& (2147483647 : Int32)) % (10 : Int32)).toInt ∧ ((k &&& (2147483647 : Int32)) % (10 : Int32)).toInt < 10 := by
  have e1 : (k &&& 2147483647).toInt = k.toInt % 2 ^ 31 := Jvm.Kit.i32_mask k 2147483647 (k := 31) (by decide) (by decide)
  have e5 : (10 : Int32).toInt = 10 := rfl
  have e2 := Jvm.Kit.i32_rem_nonneg (x := k &&& 2147483647) (y := 10) (by omega)
  rw [e5] at e2
  omega
theorem own_in {z n : Int32} (h1 : 0 ≤ z.toInt) (h2 : z.toInt < n.toInt) : ¬ z < 0 ∧ z < n := by
  rw [Int32.lt_iff_toInt_lt, Int32.lt_iff_toInt_lt]
  exact ⟨by rw [show (0 : Int32).toInt = 0 from rfl]; omega, h2⟩
theorem own_far {z b : Int32} (h1 : 0 ≤ z.toInt) (h2 : z.toInt < 10) (hb1 : 100 ≤ b.toInt) (hb2 : b.toInt < 100000) : ¬ (b + z) < (48 : Int32) ∧ (57 : Int32) < (b + z) := by
  have e := Jvm.Kit.i32_add (p := b) (q := z) (by omega) (by omega)
  have c48 : (48 : Int32).toInt = 48 := rfl
  have c57 : (57 : Int32).toInt = 57 := rfl
  rw [Int32.lt_iff_toInt_lt, Int32.lt_iff_toInt_lt]; omega
theorem pd_4 : parseMethodDescriptor "(I)Z" = some ⟨[.int], some .boolean⟩ := by decide +kernel
theorem pd_5 : parseMethodDescriptor "(I)C" = some ⟨[.int], some .char⟩ := by decide +kernel
theorem pn_4 : plainName "com/example/ledgerhall/ledgerhall/AccountLayoutIsDigitPinLaw" = true := by first | (simp [plainName, overriddenIn]; done) | decide +kernel
theorem ef_0 (mM : MethodId) (x0 : Int32) (x1 : Int32) : entryFrame mM #[(.int x0), (.int x1)] maxLocals = mkF mM 0 #[.val (.int x0), .val (.int x1), .unset, .unset, .unset, .unset, .unset, .unset, .unset, .unset, .unset, .unset, .unset] [] := by first | (simp [entryFrame, mkF, argsToLocals, Value.category, maxLocals]; done) | rfl
def Q0 (Z : State) (cv : Int32) (kv : Int32) (cs : Int32) (sf : Value) (h0 : Heap) (n0 : Nat) (v : Option Value) (h : Heap) (L : List Loc) : Prop := v = some (.int (1 : Int32)) ∧ Fr n0 L
set_option maxRecDepth 65536 in
set_option maxHeartbeats 40000000 in
theorem rm0 (l : Launch) (Z : State) (a0 : Array Value) (hw : ∀ d ∈ tables_1, d.before a0 Z = true) (ws : List Jvm.Cond) (cv : Int32) (kv : Int32) (cs : Int32) (sf : Value) (h0 : Heap) (n0 : Nat) (Z0 : n0 ≤ h0.size) (O : Old Z n0 h0) (HH : ∀ p ∈ consts_1, Jvm.Lit.constHeld Z p.1 p.2) (hcw : Jvm.Lit.compactW.before a0 Z = true) (S_cs : Sta Z Z.heap "java/lang/String" "COMPACT_STRINGS" "Z" (.int cs)) (hcs : ¬ cs = (0 : Int32)) (S_sf : Sta Z Z.heap "jdk/internal/util/Preconditions" "SIOOBE_FORMATTER" "Ljava/util/function/BiFunction;" sf) (rsf : sf.isRef = true) :
    MetFree l x (head1 (Jvm.Cond.code x code maxLocals ret :: ws) room_1) (fun aA uU => aA = #[(.int cv), (.int kv)] ∧ uU = Z ∧ uU.heap = h0) (fun _ _ _ _ _ => True) (fun _ uU oO uU' => ∃ vV lL, oO = .returned vV ∧ Q0 Z cv kv cs sf h0 n0 vV uU'.heap lL ∧ ReturnedEndW uU oO uU' lL room_1.cells room_1.slots) := by
  refine MetFree.of_bodySF (plainFor_of_name pn_4) hisR ?_
  intro pP eE sS mM args below meth cC s₁ Bd hml0 hP hK
  obtain ⟨rfl, hUZ, hh⟩ := hP
  have hZ : Z.Warmed39 sS.vm := by rw [hUZ]; exact State.Warmed39.refl _
  have hn0 : n0 = sS.heap.size := by rw [hUZ]; exact O.1.symm
  have hkeep : ∀ (b : Addr) (cl : Cell), Z.heap[b]? = some cl → sS.heap[b]? = some cl := fun b cl q => by rw [hUZ]; exact q
  have hS : sS.Since sS.vm 0 := (State.WarmedH.refl sS).since 0
  have IB0 : IB Z sS.vm [] := by rw [hUZ]; exact IB.start
  have wS : ∀ a ∈ Bundle.stringAtoms, a.before a0 Z = true := fun a ha => hw a ((by decide +kernel : ∀ a ∈ Bundle.stringAtoms, a ∈ tables_1) a ha)
  have hx := Bd.exec
  have hby := Bd.bytes
  have hml : cC.maxLocals = 13 := hml0
  have hown : sS.vm.findClass "com/example/ledgerhall/ledgerhall/AccountLayoutIsDigitPinLaw" = some mM.cls := findClass_of_methodNamed Bd.named
  have hnm := (name_of_methodNamed Bd.named Bd.method).1
  have X0 : Stand pP l eE room_1 sS mM #[(.int cv), (.int kv)] below meth cC s₁ [] 0 0 := Stand.of_body Bd
  have e0 : s₁.heap = h0 := by rw [← hh, Bd.state]; rfl
  have N0 := Fr.nil n0
  have pre0 : ∀ tg, Steps pP.tables eE below (s₁.setTop (mkF mM 0 #[.val (.int cv), .val (.int kv), .unset, .unset, .unset, .unset, .unset, .unset, .unset, .unset, .unset, .unset, .unset] [])) tg → Steps pP.tables eE below (s₁.setTop (entryFrame mM #[(.int cv), (.int kv)] maxLocals)) tg := fun tg kg => castTop (ef_0 mM cv kv) kg
  have pr1 : ∀ tg, Steps pP.tables eE below (s₁.setTop (mkF mM 10 #[.val (.int cv), .val (.int kv), .val (.long (cv.toInt64 - (48 : Int64))), .second, .unset, .unset, .unset, .unset, .unset, .unset, .unset, .unset, .unset] [(.int (lcmpW (cv.toInt64 - (48 : Int64)) (0 : Int64)))])) tg → Steps pP.tables eE below (s₁.setTop (entryFrame mM #[(.int cv), (.int kv)] maxLocals)) tg := fun tg kg => pre0 _ (by
    show Steps pP.tables eE below (s₁.setTop (mkF mM 0 #[.val (.int cv), .val (.int kv), .unset, .unset, .unset, .unset, .unset, .unset, .unset, .unset, .unset, .unset, .unset] [])) _
    refine XS.iloadN X0.here hx rfl (hb hby at_0) rfl ?_
    show Steps pP.tables eE below (s₁.setTop (mkF mM 1 #[.val (.int cv), .val (.int kv), .unset, .unset, .unset, .unset, .unset, .unset, .unset, .unset, .unset, .unset, .unset] [(.int cv)])) _
    refine XS.i2l X0.here hx rfl (hb hby at_1) rfl ?_
    show Steps pP.tables eE below (s₁.setTop (mkF mM 2 #[.val (.int cv), .val (.int kv), .unset, .unset, .unset, .unset, .unset, .unset, .unset, .unset, .unset, .unset, .unset] [(.long cv.toInt64)])) _
    refine Jvm.Stand.ldc2J X0 hx hown (v := (48 : Int64)) (mvT hZ (hw _ (List.mem_of_getElem? (i := 0) rfl))) rfl (hb hby at_2) ?_
    show Steps pP.tables eE below (s₁.setTop (mkF mM 5 #[.val (.int cv), .val (.int kv), .unset, .unset, .unset, .unset, .unset, .unset, .unset, .unset, .unset, .unset, .unset] [(.long (48 : Int64)), (.long cv.toInt64)])) _
    refine XS.lsub X0.here hx rfl (hb hby at_5) rfl ?_
    show Steps pP.tables eE below (s₁.setTop (mkF mM 6 #[.val (.int cv), .val (.int kv), .unset, .unset, .unset, .unset, .unset, .unset, .unset, .unset, .unset, .unset, .unset] [(.long (cv.toInt64 - (48 : Int64)))])) _
    refine XS.lstoreN X0.here hx rfl (hb hby at_6) rfl (l' := #[.val (.int cv), .val (.int kv), .val (.long (cv.toInt64 - (48 : Int64))), .second, .unset, .unset, .unset, .unset, .unset, .unset, .unset, .unset, .unset]) rfl ?_
    show Steps pP.tables eE below (s₁.setTop (mkF mM 7 #[.val (.int cv), .val (.int kv), .val (.long (cv.toInt64 - (48 : Int64))), .second, .unset, .unset, .unset, .unset, .unset, .unset, .unset, .unset, .unset] [])) _
    refine XS.lloadN X0.here hx rfl (hb hby at_7) rfl ?_
    show Steps pP.tables eE below (s₁.setTop (mkF mM 8 #[.val (.int cv), .val (.int kv), .val (.long (cv.toInt64 - (48 : Int64))), .second, .unset, .unset, .unset, .unset, .unset, .unset, .unset, .unset, .unset] [(.long (cv.toInt64 - (48 : Int64)))])) _
    refine XS.lconst X0.here hx rfl (hb hby at_8) ?_
    show Steps pP.tables eE below (s₁.setTop (mkF mM 9 #[.val (.int cv), .val (.int kv), .val (.long (cv.toInt64 - (48 : Int64))), .second, .unset, .unset, .unset, .unset, .unset, .unset, .unset, .unset, .unset] [(.long (0 : Int64)), (.long (cv.toInt64 - (48 : Int64)))])) _
    refine XS.lcmp X0.here hx rfl (hb hby at_9) rfl ?_
    exact kg)
  obtain ⟨j4, hj4, st5⟩ : ∃ (j4 : Int32), j4 = (if (cv.toInt64 - (48 : Int64)) < (0 : Int64) then (0 : Int32) else (if (cv.toInt64 - (48 : Int64)) < (10 : Int64) then (1 : Int32) else (0 : Int32))) ∧ ∀ tg, Steps pP.tables eE below (s₁.setTop (mkF mM 26 #[.val (.int cv), .val (.int kv), .val (.long (cv.toInt64 - (48 : Int64))), .second, .unset, .unset, .unset, .unset, .unset, .unset, .unset, .unset, .unset] [(.int j4)])) tg → Steps pP.tables eE below (s₁.setTop (mkF mM 10 #[.val (.int cv), .val (.int kv), .val (.long (cv.toInt64 - (48 : Int64))), .second, .unset, .unset, .unset, .unset, .unset, .unset, .unset, .unset, .unset] [(.int (lcmpW (cv.toInt64 - (48 : Int64)) (0 : Int64)))])) tg := by
    by_cases hj10_2 : (cv.toInt64 - (48 : Int64)) < (0 : Int64)
    ·
      refine ⟨(0 : Int32), (by rw [if_pos hj10_2]), fun tg kg => ?_⟩
      show Steps pP.tables eE below (s₁.setTop (mkF mM 10 #[.val (.int cv), .val (.int kv), .val (.long (cv.toInt64 - (48 : Int64))), .second, .unset, .unset, .unset, .unset, .unset, .unset, .unset, .unset, .unset] [(.int (lcmpW (cv.toInt64 - (48 : Int64)) (0 : Int64)))])) _
      refine XS.ifYes X0.here hx rfl (pc0 := 10) (pc' := 25) rfl (hb hby at_10) rfl ((if0 _ _).trans (tlt ((lw_lt _ _).mpr hj10_2)).1) (by decide) (by decide) ?_
      show Steps pP.tables eE below (s₁.setTop (mkF mM 25 #[.val (.int cv), .val (.int kv), .val (.long (cv.toInt64 - (48 : Int64))), .second, .unset, .unset, .unset, .unset, .unset, .unset, .unset, .unset, .unset] [])) _
      refine XS.iconst X0.here hx rfl (hb hby at_25) ?_
      exact kg
    ·
      by_cases hj18_3 : (cv.toInt64 - (48 : Int64)) < (10 : Int64)
      ·
        refine ⟨(1 : Int32), (by rw [if_neg hj10_2, if_pos hj18_3]), fun tg kg => ?_⟩
        show Steps pP.tables eE below (s₁.setTop (mkF mM 10 #[.val (.int cv), .val (.int kv), .val (.long (cv.toInt64 - (48 : Int64))), .second, .unset, .unset, .unset, .unset, .unset, .unset, .unset, .unset, .unset] [(.int (lcmpW (cv.toInt64 - (48 : Int64)) (0 : Int64)))])) _
        refine XS.ifNo X0.here hx rfl (hb hby at_10) rfl ((if0 _ _).trans (flt (fun q => hj10_2 ((lw_lt _ _).mp q))).1) ?_
        show Steps pP.tables eE below (s₁.setTop (mkF mM 13 #[.val (.int cv), .val (.int kv), .val (.long (cv.toInt64 - (48 : Int64))), .second, .unset, .unset, .unset, .unset, .unset, .unset, .unset, .unset, .unset] [])) _
        refine XS.lloadN X0.here hx rfl (hb hby at_13) rfl ?_
        show Steps pP.tables eE below (s₁.setTop (mkF mM 14 #[.val (.int cv), .val (.int kv), .val (.long (cv.toInt64 - (48 : Int64))), .second, .unset, .unset, .unset, .unset, .unset, .unset, .unset, .unset, .unset] [(.long (cv.toInt64 - (48 : Int64)))])) _
        refine Jvm.Stand.ldc2J X0 hx hown (v := (10 : Int64)) (mvT hZ (hw _ (List.mem_of_getElem? (i := 40) rfl))) rfl (hb hby at_14) ?_
        show Steps pP.tables eE below (s₁.setTop (mkF mM 17 #[.val (.int cv), .val (.int kv), .val (.long (cv.toInt64 - (48 : Int64))), .second, .unset, .unset, .unset, .unset, .unset, .unset, .unset, .unset, .unset] [(.long (10 : Int64)), (.long (cv.toInt64 - (48 : Int64)))])) _
        refine XS.lcmp X0.here hx rfl (hb hby at_17) rfl ?_
        show Steps pP.tables eE below (s₁.setTop (mkF mM 18 #[.val (.int cv), .val (.int kv), .val (.long (cv.toInt64 - (48 : Int64))), .second, .unset, .unset, .unset, .unset, .unset, .unset, .unset, .unset, .unset] [(.int (lcmpW (cv.toInt64 - (48 : Int64)) (10 : Int64)))])) _
        refine XS.ifNo X0.here hx rfl (hb hby at_18) rfl ((if0 _ _).trans (tlt ((lw_lt _ _).mpr hj18_3)).2.1) ?_
        show Steps pP.tables eE below (s₁.setTop (mkF mM 21 #[.val (.int cv), .val (.int kv), .val (.long (cv.toInt64 - (48 : Int64))), .second, .unset, .unset, .unset, .unset, .unset, .unset, .unset, .unset, .unset] [])) _
        refine XS.iconst X0.here hx rfl (hb hby at_21) ?_
        show Steps pP.tables eE below (s₁.setTop (mkF mM 22 #[.val (.int cv), .val (.int kv), .val (.long (cv.toInt64 - (48 : Int64))), .second, .unset, .unset, .unset, .unset, .unset, .unset, .unset, .unset, .unset] [(.int (1 : Int32))])) _
        refine XS.goto X0.here hx rfl (pc0 := 22) (pc' := 26) rfl (hb hby at_22) (by decide) (by decide) ?_
        exact kg
      ·
        refine ⟨(0 : Int32), (by rw [if_neg hj10_2, if_neg hj18_3]), fun tg kg => ?_⟩
        show Steps pP.tables eE below (s₁.setTop (mkF mM 10 #[.val (.int cv), .val (.int kv), .val (.long (cv.toInt64 - (48 : Int64))), .second, .unset, .unset, .unset, .unset, .unset, .unset, .unset, .unset, .unset] [(.int (lcmpW (cv.toInt64 - (48 : Int64)) (0 : Int64)))])) _
        refine XS.ifNo X0.here hx rfl (hb hby at_10) rfl ((if0 _ _).trans (flt (fun q => hj10_2 ((lw_lt _ _).mp q))).1) ?_
        show Steps pP.tables eE below (s₁.setTop (mkF mM 13 #[.val (.int cv), .val (.int kv), .val (.long (cv.toInt64 - (48 : Int64))), .second, .unset, .unset, .unset, .unset, .unset, .unset, .unset, .unset, .unset] [])) _
        refine XS.lloadN X0.here hx rfl (hb hby at_13) rfl ?_
        show Steps pP.tables eE below (s₁.setTop (mkF mM 14 #[.val (.int cv), .val (.int kv), .val (.long (cv.toInt64 - (48 : Int64))), .second, .unset, .unset, .unset, .unset, .unset, .unset, .unset, .unset, .unset] [(.long (cv.toInt64 - (48 : Int64)))])) _
        refine Jvm.Stand.ldc2J X0 hx hown (v := (10 : Int64)) (mvT hZ (hw _ (List.mem_of_getElem? (i := 40) rfl))) rfl (hb hby at_14) ?_
        show Steps pP.tables eE below (s₁.setTop (mkF mM 17 #[.val (.int cv), .val (.int kv), .val (.long (cv.toInt64 - (48 : Int64))), .second, .unset, .unset, .unset, .unset, .unset, .unset, .unset, .unset, .unset] [(.long (10 : Int64)), (.long (cv.toInt64 - (48 : Int64)))])) _
        refine XS.lcmp X0.here hx rfl (hb hby at_17) rfl ?_
        show Steps pP.tables eE below (s₁.setTop (mkF mM 18 #[.val (.int cv), .val (.int kv), .val (.long (cv.toInt64 - (48 : Int64))), .second, .unset, .unset, .unset, .unset, .unset, .unset, .unset, .unset, .unset] [(.int (lcmpW (cv.toInt64 - (48 : Int64)) (10 : Int64)))])) _
        refine XS.ifYes X0.here hx rfl (pc0 := 18) (pc' := 25) rfl (hb hby at_18) rfl ((if0 _ _).trans (flt (fun q => hj18_3 ((lw_lt _ _).mp q))).2.1) (by decide) (by decide) ?_
        show Steps pP.tables eE below (s₁.setTop (mkF mM 25 #[.val (.int cv), .val (.int kv), .val (.long (cv.toInt64 - (48 : Int64))), .second, .unset, .unset, .unset, .unset, .unset, .unset, .unset, .unset, .unset] [])) _
        refine XS.iconst X0.here hx rfl (hb hby at_25) ?_
        exact kg
  have pr6 : ∀ tg, Steps pP.tables eE below (s₁.setTop (mkF mM 26 #[.val (.int cv), .val (.int kv), .val (.long (cv.toInt64 - (48 : Int64))), .second, .unset, .unset, .unset, .unset, .unset, .unset, .unset, .unset, .unset] [(.int j4)])) tg → Steps pP.tables eE below (s₁.setTop (entryFrame mM #[(.int cv), (.int kv)] maxLocals)) tg := fun tg kg => pr1 _ (st5 _ kg)
  have pr7 : ∀ tg, Steps pP.tables eE below (s₁.setTop (mkF mM 29 #[.val (.int cv), .val (.int kv), .val (.long (cv.toInt64 - (48 : Int64))), .second, .val (.int j4), .unset, .unset, .unset, .unset, .unset, .unset, .unset, .unset] [(.int cv)])) tg → Steps pP.tables eE below (s₁.setTop (entryFrame mM #[(.int cv), (.int kv)] maxLocals)) tg := fun tg kg => pr6 _ (by
    show Steps pP.tables eE below (s₁.setTop (mkF mM 26 #[.val (.int cv), .val (.int kv), .val (.long (cv.toInt64 - (48 : Int64))), .second, .unset, .unset, .unset, .unset, .unset, .unset, .unset, .unset, .unset] [(.int j4)])) _
    refine XS.istore X0.here hx rfl (hb hby at_26) rfl (l' := #[.val (.int cv), .val (.int kv), .val (.long (cv.toInt64 - (48 : Int64))), .second, .val (.int j4), .unset, .unset, .unset, .unset, .unset, .unset, .unset, .unset]) rfl ?_
    show Steps pP.tables eE below (s₁.setTop (mkF mM 28 #[.val (.int cv), .val (.int kv), .val (.long (cv.toInt64 - (48 : Int64))), .second, .val (.int j4), .unset, .unset, .unset, .unset, .unset, .unset, .unset, .unset] [])) _
    refine XS.iloadN X0.here hx rfl (hb hby at_28) rfl ?_
    exact kg)
  obtain ⟨_, _, ⟨T8, L8, kk8, nn8⟩, -, X8, ⟨Lc8, hQ8, l8, y8, z8⟩, st8⟩ := Jvm.LawKit.callS X0 hx (y := (⟨"com/example/ledgerhall/ledgerhall/AccountLayout", "isDigit", "(I)Z"⟩ : MethodName)) hown (mvT hZ (hw _ (List.mem_of_getElem? (i := 1) rfl))) (mvT hZ (hw _ (List.mem_of_getElem? (i := 2) rfl))) (mvT hZ (hw _ (List.mem_of_getElem? (i := 3) rfl))) (mvT hZ (hw _ (List.mem_of_getElem? (i := 4) rfl))) (by decide) (backOf (W := 0) (rm1 l Z a0 hw [] cv h0 n0 Z0) hZ (hw _ (List.mem_of_getElem? (i := 4) rfl)) (hw _ (List.mem_of_getElem? (i := 3) rfl)) (by decide) (by decide)) (g := (mkF mM 29 #[.val (.int cv), .val (.int kv), .val (.long (cv.toInt64 - (48 : Int64))), .second, .val (.int j4), .unset, .unset, .unset, .unset, .unset, .unset, .unset, .unset] [(.int cv)])) rfl (by rw [hml]; rfl) (argsL := [(.int cv)]) (rest := []) (lenOf pd_4 rfl) rfl (by show 2 * 0 + _ ≤ _; exact Nat.le_of_eq rfl) (hb hby at_29) (fun _ _ => ⟨rfl, e0, (by decide : 0 + 0 ≤ _), (by decide : 0 + 0 ≤ _)⟩)
  dsimp only [Pt.U, Pt.locs, Pt.cells, Pt.slots] at X8 l8 y8 z8 st8 hQ8
  subst l8 y8 z8
  obtain ⟨r8, rfl, hr8, Nq8, e8⟩ := hQ8
  have N8 := Fr.app N0 Nq8
  have pr9 : ∀ tg, Steps pP.tables eE below (T8.setTop (mkF mM 32 #[.val (.int cv), .val (.int kv), .val (.long (cv.toInt64 - (48 : Int64))), .second, .val (.int j4), .unset, .unset, .unset, .unset, .unset, .unset, .unset, .unset] [(.int r8)])) tg → Steps pP.tables eE below (s₁.setTop (entryFrame mM #[(.int cv), (.int kv)] maxLocals)) tg := fun tg kg => pr7 _ (st8 _ kg)
  have pr10 : ∀ tg, Steps pP.tables eE below (T8.setTop (mkF mM 53 #[.val (.int cv), .val (.int kv), .val (.long (cv.toInt64 - (48 : Int64))), .second, .val (.int j4), .val (.int (1 : Int32)), .val (.int ((kv &&& (2147483647 : Int32)) % (10 : Int32))), .unset, .unset, .unset, .unset, .unset, .unset] [])) tg → Steps pP.tables eE below (s₁.setTop (entryFrame mM #[(.int cv), (.int kv)] maxLocals)) tg := fun tg kg => pr9 _ (by
    show Steps pP.tables eE below (T8.setTop (mkF mM 32 #[.val (.int cv), .val (.int kv), .val (.long (cv.toInt64 - (48 : Int64))), .second, .val (.int j4), .unset, .unset, .unset, .unset, .unset, .unset, .unset, .unset] [(.int r8)])) _
    refine XS.iload X8.here hx rfl (hb hby at_32) rfl ?_
    show Steps pP.tables eE below (T8.setTop (mkF mM 34 #[.val (.int cv), .val (.int kv), .val (.long (cv.toInt64 - (48 : Int64))), .second, .val (.int j4), .unset, .unset, .unset, .unset, .unset, .unset, .unset, .unset] [(.int j4), (.int r8)])) _
    refine XS.icmpNo X8.here hx rfl (hb hby at_34) rfl (teq (hr8.trans ((own_whole cv).trans hj4.symm))).2 ?_
    show Steps pP.tables eE below (T8.setTop (mkF mM 37 #[.val (.int cv), .val (.int kv), .val (.long (cv.toInt64 - (48 : Int64))), .second, .val (.int j4), .unset, .unset, .unset, .unset, .unset, .unset, .unset, .unset] [])) _
    refine XS.iconst X8.here hx rfl (hb hby at_37) ?_
    show Steps pP.tables eE below (T8.setTop (mkF mM 38 #[.val (.int cv), .val (.int kv), .val (.long (cv.toInt64 - (48 : Int64))), .second, .val (.int j4), .unset, .unset, .unset, .unset, .unset, .unset, .unset, .unset] [(.int (1 : Int32))])) _
    refine XS.goto X8.here hx rfl (pc0 := 38) (pc' := 42) rfl (hb hby at_38) (by decide) (by decide) ?_
    show Steps pP.tables eE below (T8.setTop (mkF mM 42 #[.val (.int cv), .val (.int kv), .val (.long (cv.toInt64 - (48 : Int64))), .second, .val (.int j4), .unset, .unset, .unset, .unset, .unset, .unset, .unset, .unset] [(.int (1 : Int32))])) _
    refine XS.istore X8.here hx rfl (hb hby at_42) rfl (l' := #[.val (.int cv), .val (.int kv), .val (.long (cv.toInt64 - (48 : Int64))), .second, .val (.int j4), .val (.int (1 : Int32)), .unset, .unset, .unset, .unset, .unset, .unset, .unset]) rfl ?_
    show Steps pP.tables eE below (T8.setTop (mkF mM 44 #[.val (.int cv), .val (.int kv), .val (.long (cv.toInt64 - (48 : Int64))), .second, .val (.int j4), .val (.int (1 : Int32)), .unset, .unset, .unset, .unset, .unset, .unset, .unset] [])) _
    refine XS.iloadN X8.here hx rfl (hb hby at_44) rfl ?_
    show Steps pP.tables eE below (T8.setTop (mkF mM 45 #[.val (.int cv), .val (.int kv), .val (.long (cv.toInt64 - (48 : Int64))), .second, .val (.int j4), .val (.int (1 : Int32)), .unset, .unset, .unset, .unset, .unset, .unset, .unset] [(.int kv)])) _
    refine Jvm.Stand.ldcI X8 hx hown (v := (2147483647 : Int32)) (mvT hZ (hw _ (List.mem_of_getElem? (i := 5) rfl))) rfl (hb hby at_45) ?_
    show Steps pP.tables eE below (T8.setTop (mkF mM 47 #[.val (.int cv), .val (.int kv), .val (.long (cv.toInt64 - (48 : Int64))), .second, .val (.int j4), .val (.int (1 : Int32)), .unset, .unset, .unset, .unset, .unset, .unset, .unset] [(.int (2147483647 : Int32)), (.int kv)])) _
    refine XS.iand X8.here hx rfl (hb hby at_47) rfl ?_
    show Steps pP.tables eE below (T8.setTop (mkF mM 48 #[.val (.int cv), .val (.int kv), .val (.long (cv.toInt64 - (48 : Int64))), .second, .val (.int j4), .val (.int (1 : Int32)), .unset, .unset, .unset, .unset, .unset, .unset, .unset] [(.int (kv &&& (2147483647 : Int32)))])) _
    refine XS.bipush X8.here hx rfl (hb hby at_48) ?_
    show Steps pP.tables eE below (T8.setTop (mkF mM 50 #[.val (.int cv), .val (.int kv), .val (.long (cv.toInt64 - (48 : Int64))), .second, .val (.int j4), .val (.int (1 : Int32)), .unset, .unset, .unset, .unset, .unset, .unset, .unset] [(.int (10 : Int32)), (.int (kv &&& (2147483647 : Int32)))])) _
    refine iremM (g := (mkF mM 50 #[.val (.int cv), .val (.int kv), .val (.long (cv.toInt64 - (48 : Int64))), .second, .val (.int j4), .val (.int (1 : Int32)), .unset, .unset, .unset, .unset, .unset, .unset, .unset] [(.int (10 : Int32)), (.int (kv &&& (2147483647 : Int32)))])) X8 hx rfl (hb hby at_50) rfl (by decide) ?_
    show Steps pP.tables eE below (T8.setTop (mkF mM 51 #[.val (.int cv), .val (.int kv), .val (.long (cv.toInt64 - (48 : Int64))), .second, .val (.int j4), .val (.int (1 : Int32)), .unset, .unset, .unset, .unset, .unset, .unset, .unset] [(.int ((kv &&& (2147483647 : Int32)) % (10 : Int32)))])) _
    refine XS.istore X8.here hx rfl (hb hby at_51) rfl (l' := #[.val (.int cv), .val (.int kv), .val (.long (cv.toInt64 - (48 : Int64))), .second, .val (.int j4), .val (.int (1 : Int32)), .val (.int ((kv &&& (2147483647 : Int32)) % (10 : Int32))), .unset, .unset, .unset, .unset, .unset, .unset]) rfl ?_
    exact kg)
  obtain ⟨z11, hz11⟩ : ∃ z, z = ((kv &&& (2147483647 : Int32)) % (10 : Int32)) := ⟨_, rfl⟩
  have pr12 : ∀ tg, Steps pP.tables eE below (T8.setTop (mkF mM 53 #[.val (.int cv), .val (.int kv), .val (.long (cv.toInt64 - (48 : Int64))), .second, .val (.int j4), .val (.int (1 : Int32)), .val (.int z11), .unset, .unset, .unset, .unset, .unset, .unset] [])) tg → Steps pP.tables eE below (s₁.setTop (entryFrame mM #[(.int cv), (.int kv)] maxLocals)) tg := by
    rw [hz11]; exact pr10
  have hbd : 0 ≤ z11.toInt ∧ z11.toInt < 10 := by rw [hz11]; exact own_rem10 _
  obtain ⟨a13, T13, h13, kk13, b13, kc13, X13, e13, E13, hS, hk13, hZ, hown, Es13, Fc13, Fv13, V13, la13, lb13, IB13, st13⟩ := ldcSV (s := sS) (vm0 := sS.vm) X8 hx hZ hown (hw _ (List.mem_of_getElem? (i := 6) rfl)) wS e8 hS (Nat.zero_le _) (by rw [← hn0]; exact N8) hkeep IB0 (by decide) (HH _ (List.mem_of_getElem? (i := 0) rfl)) hcw (vs := [(.int (48 : Int32)), (.int (49 : Int32)), (.int (50 : Int32)), (.int (51 : Int32)), (.int (52 : Int32)), (.int (53 : Int32)), (.int (54 : Int32)), (.int (55 : Int32)), (.int (56 : Int32)), (.int (57 : Int32))]) (z := (10 : Int32)) ⟨by decide, rfl⟩ (by decide) rfl (g := (mkF mM 53 #[.val (.int cv), .val (.int kv), .val (.long (cv.toInt64 - (48 : Int64))), .second, .val (.int j4), .val (.int (1 : Int32)), .val (.int z11), .unset, .unset, .unset, .unset, .unset, .unset] [])) rfl (hb hby at_53) (n := 40) (by decide) (by decide) (by decide) (by decide)
  have pr14 : ∀ tg, Steps pP.tables eE below (T13.setTop (mkF mM 55 #[.val (.int cv), .val (.int kv), .val (.long (cv.toInt64 - (48 : Int64))), .second, .val (.int j4), .val (.int (1 : Int32)), .val (.int z11), .unset, .unset, .unset, .unset, .unset, .unset] [(.ref a13)])) tg → Steps pP.tables eE below (s₁.setTop (entryFrame mM #[(.int cv), (.int kv)] maxLocals)) tg := fun tg kg => pr12 _ (st13 _ kg)
  have pr15 : ∀ tg, Steps pP.tables eE below (T13.setTop (mkF mM 57 #[.val (.int cv), .val (.int kv), .val (.long (cv.toInt64 - (48 : Int64))), .second, .val (.int j4), .val (.int (1 : Int32)), .val (.int z11), .unset, .unset, .unset, .unset, .unset, .unset] [(.int z11), (.ref a13)])) tg → Steps pP.tables eE below (s₁.setTop (entryFrame mM #[(.int cv), (.int kv)] maxLocals)) tg := fun tg kg => pr14 _ (by
    show Steps pP.tables eE below (T13.setTop (mkF mM 55 #[.val (.int cv), .val (.int kv), .val (.long (cv.toInt64 - (48 : Int64))), .second, .val (.int j4), .val (.int (1 : Int32)), .val (.int z11), .unset, .unset, .unset, .unset, .unset, .unset] [(.ref a13)])) _
    refine XS.iload X13.here hx rfl (hb hby at_55) rfl ?_
    exact kg)
  obtain ⟨uv, hu1, hu2, hu3⟩ : ∃ uv : Int32, ([(.int (48 : Int32)), (.int (49 : Int32)), (.int (50 : Int32)), (.int (51 : Int32)), (.int (52 : Int32)), (.int (53 : Int32)), (.int (54 : Int32)), (.int (55 : Int32)), (.int (56 : Int32)), (.int (57 : Int32))] : List Value).getD (z11).toNatClampNeg (.int (0 : Int32)) = .int uv ∧ ¬ (uv &&& (255 : Int32)).toUInt32.toUInt16.toUInt32.toInt32 < (48 : Int32) ∧ ¬ (57 : Int32) < (uv &&& (255 : Int32)).toUInt32.toUInt16.toUInt32.toInt32 := by
    rcases own_10 hbd.1 hbd.2 with rfl | rfl | rfl | rfl | rfl | rfl | rfl | rfl | rfl | rfl
    · exact ⟨_, rfl, by decide, by decide⟩
    · exact ⟨_, rfl, by decide, by decide⟩
    · exact ⟨_, rfl, by decide, by decide⟩
    · exact ⟨_, rfl, by decide, by decide⟩
    · exact ⟨_, rfl, by decide, by decide⟩
    · exact ⟨_, rfl, by decide, by decide⟩
    · exact ⟨_, rfl, by decide, by decide⟩
    · exact ⟨_, rfl, by decide, by decide⟩
    · exact ⟨_, rfl, by decide, by decide⟩
    · exact ⟨_, rfl, by decide, by decide⟩
  have c16 := (Old.ext O E13)
  obtain ⟨cla17, Ara17, qa17, Sa17, Ma17, Ha17, Ga17⟩ := id V13
  have c18 := (Nat.le_trans Z0 E13.1)
  obtain ⟨cq19, kq19, qa19, qb19, qc19⟩ := isOf hZ e13 Es13
  obtain ⟨_, _, ⟨T19, L19, kk19, nn19⟩, -, X19, ⟨Lc19, hQ19, l19, y19, z19⟩, st19⟩ := X13.virtualBack hx (y := (⟨"java/lang/String", "charAt", "(I)C"⟩ : MethodName)) (z := (⟨"java/lang/String", "charAt", "(I)C"⟩ : MethodName)) hown (mvT hZ (hw _ (List.mem_of_getElem? (i := 14) rfl))) (mvT hZ (hw _ (List.mem_of_getElem? (i := 15) rfl))) (notFace_of_selects (args := #[]) (mvT hZ (hw _ (List.mem_of_getElem? (i := 17) rfl)))) (mvT hZ (hw _ (List.mem_of_getElem? (i := 17) rfl))) (mvT hZ (hw _ (List.mem_of_getElem? (i := 16) rfl))) (by decide) (backOf (W := 0) (rms5 l Z a0 hw [] cs sf a13 b13 cla17 (10 : Int32) z11 uv h13 n0 c18 c16 S_cs hcs S_sf rsf Es13 Fc13 Fv13 Ara17 Sa17 Ma17 (own_in (n := (10 : Int32)) hbd.1 hbd.2).1 (own_in (n := (10 : Int32)) hbd.1 hbd.2).2 (Has.at Ha17 (inb_of Sa17 (own_in (n := (10 : Int32)) hbd.1 hbd.2)) hu1)) hZ (hw _ (List.mem_of_getElem? (i := 18) rfl)) (hw _ (List.mem_of_getElem? (i := 7) rfl)) (by decide) (by decide)) qa19 qc19 (g := (mkF mM 57 #[.val (.int cv), .val (.int kv), .val (.long (cv.toInt64 - (48 : Int64))), .second, .val (.int j4), .val (.int (1 : Int32)), .val (.int z11), .unset, .unset, .unset, .unset, .unset, .unset] [(.int z11), (.ref a13)])) rfl (by rw [hml]; rfl) (Steps.refl _) (argsL := [(.int z11)]) (rest := []) (lenOf pd_5 rfl) rfl (by show 2 * 0 + _ ≤ _; exact Nat.le_of_eq rfl) (hb hby at_57) (fun _ _ => ⟨rfl, e13, (by decide : 2 + 0 ≤ _), (by decide : 44 + 0 ≤ _)⟩)
  dsimp only [Pt.U, Pt.locs, Pt.cells, Pt.slots] at X19 l19 y19 z19 st19 hQ19
  subst l19 y19 z19
  obtain ⟨rfl, Nq19, e19⟩ := hQ19
  have N19 := Fr.app N8 Nq19
  have pr20 : ∀ tg, Steps pP.tables eE below (T19.setTop (mkF mM 60 #[.val (.int cv), .val (.int kv), .val (.long (cv.toInt64 - (48 : Int64))), .second, .val (.int j4), .val (.int (1 : Int32)), .val (.int z11), .unset, .unset, .unset, .unset, .unset, .unset] [(.int (uv &&& (255 : Int32)).toUInt32.toUInt16.toUInt32.toInt32)])) tg → Steps pP.tables eE below (s₁.setTop (entryFrame mM #[(.int cv), (.int kv)] maxLocals)) tg := fun tg kg => pr15 _ (st19.trans kg)
  have pr21 : ∀ tg, Steps pP.tables eE below (T19.setTop (mkF mM 64 #[.val (.int cv), .val (.int kv), .val (.long (cv.toInt64 - (48 : Int64))), .second, .val (.int j4), .val (.int (1 : Int32)), .val (.int z11), .val (.int (uv &&& (255 : Int32)).toUInt32.toUInt16.toUInt32.toInt32), .unset, .unset, .unset, .unset, .unset] [(.int (uv &&& (255 : Int32)).toUInt32.toUInt16.toUInt32.toInt32)])) tg → Steps pP.tables eE below (s₁.setTop (entryFrame mM #[(.int cv), (.int kv)] maxLocals)) tg := fun tg kg => pr20 _ (by
    show Steps pP.tables eE below (T19.setTop (mkF mM 60 #[.val (.int cv), .val (.int kv), .val (.long (cv.toInt64 - (48 : Int64))), .second, .val (.int j4), .val (.int (1 : Int32)), .val (.int z11), .unset, .unset, .unset, .unset, .unset, .unset] [(.int (uv &&& (255 : Int32)).toUInt32.toUInt16.toUInt32.toInt32)])) _
    refine XS.istore X19.here hx rfl (hb hby at_60) rfl (l' := #[.val (.int cv), .val (.int kv), .val (.long (cv.toInt64 - (48 : Int64))), .second, .val (.int j4), .val (.int (1 : Int32)), .val (.int z11), .val (.int (uv &&& (255 : Int32)).toUInt32.toUInt16.toUInt32.toInt32), .unset, .unset, .unset, .unset, .unset]) rfl ?_
    show Steps pP.tables eE below (T19.setTop (mkF mM 62 #[.val (.int cv), .val (.int kv), .val (.long (cv.toInt64 - (48 : Int64))), .second, .val (.int j4), .val (.int (1 : Int32)), .val (.int z11), .val (.int (uv &&& (255 : Int32)).toUInt32.toUInt16.toUInt32.toInt32), .unset, .unset, .unset, .unset, .unset] [])) _
    refine XS.iload X19.here hx rfl (hb hby at_62) rfl ?_
    exact kg)
  obtain ⟨_, _, ⟨T22, L22, kk22, nn22⟩, -, X22, ⟨Lc22, hQ22, l22, y22, z22⟩, st22⟩ := Jvm.LawKit.callS X19 hx (y := (⟨"com/example/ledgerhall/ledgerhall/AccountLayout", "isDigit", "(I)Z"⟩ : MethodName)) hown (mvT hZ (hw _ (List.mem_of_getElem? (i := 1) rfl))) (mvT hZ (hw _ (List.mem_of_getElem? (i := 2) rfl))) (mvT hZ (hw _ (List.mem_of_getElem? (i := 3) rfl))) (mvT hZ (hw _ (List.mem_of_getElem? (i := 4) rfl))) (by decide) (backOf (W := 0) (rm1 l Z a0 hw [] (uv &&& (255 : Int32)).toUInt32.toUInt16.toUInt32.toInt32 h13 n0 c18) hZ (hw _ (List.mem_of_getElem? (i := 4) rfl)) (hw _ (List.mem_of_getElem? (i := 3) rfl)) (by decide) (by decide)) (g := (mkF mM 64 #[.val (.int cv), .val (.int kv), .val (.long (cv.toInt64 - (48 : Int64))), .second, .val (.int j4), .val (.int (1 : Int32)), .val (.int z11), .val (.int (uv &&& (255 : Int32)).toUInt32.toUInt16.toUInt32.toInt32), .unset, .unset, .unset, .unset, .unset] [(.int (uv &&& (255 : Int32)).toUInt32.toUInt16.toUInt32.toInt32)])) rfl (by rw [hml]; rfl) (argsL := [(.int (uv &&& (255 : Int32)).toUInt32.toUInt16.toUInt32.toInt32)]) (rest := []) (lenOf pd_4 rfl) rfl (by show 2 * 0 + _ ≤ _; exact Nat.le_of_eq rfl) (hb hby at_64) (fun _ _ => ⟨rfl, e19, (by decide : 2 + 0 ≤ _), (by decide : 44 + 0 ≤ _)⟩)
  dsimp only [Pt.U, Pt.locs, Pt.cells, Pt.slots] at X22 l22 y22 z22 st22 hQ22
  subst l22 y22 z22
  obtain ⟨r22, rfl, hr22, Nq22, e22⟩ := hQ22
  have N22 := Fr.app N19 Nq22
  have pr23 : ∀ tg, Steps pP.tables eE below (T22.setTop (mkF mM 67 #[.val (.int cv), .val (.int kv), .val (.long (cv.toInt64 - (48 : Int64))), .second, .val (.int j4), .val (.int (1 : Int32)), .val (.int z11), .val (.int (uv &&& (255 : Int32)).toUInt32.toUInt16.toUInt32.toInt32), .unset, .unset, .unset, .unset, .unset] [(.int r22)])) tg → Steps pP.tables eE below (s₁.setTop (entryFrame mM #[(.int cv), (.int kv)] maxLocals)) tg := fun tg kg => pr21 _ (st22 _ kg)
  have pr24 : ∀ tg, Steps pP.tables eE below (T22.setTop (mkF mM 75 #[.val (.int cv), .val (.int kv), .val (.long (cv.toInt64 - (48 : Int64))), .second, .val (.int j4), .val (.int (1 : Int32)), .val (.int z11), .val (.int (uv &&& (255 : Int32)).toUInt32.toUInt16.toUInt32.toInt32), .val (.int r22), .unset, .unset, .unset, .unset] [(.int ((1632 : Int32) + z11))])) tg → Steps pP.tables eE below (s₁.setTop (entryFrame mM #[(.int cv), (.int kv)] maxLocals)) tg := fun tg kg => pr23 _ (by
    show Steps pP.tables eE below (T22.setTop (mkF mM 67 #[.val (.int cv), .val (.int kv), .val (.long (cv.toInt64 - (48 : Int64))), .second, .val (.int j4), .val (.int (1 : Int32)), .val (.int z11), .val (.int (uv &&& (255 : Int32)).toUInt32.toUInt16.toUInt32.toInt32), .unset, .unset, .unset, .unset, .unset] [(.int r22)])) _
    refine XS.istore X22.here hx rfl (hb hby at_67) rfl (l' := #[.val (.int cv), .val (.int kv), .val (.long (cv.toInt64 - (48 : Int64))), .second, .val (.int j4), .val (.int (1 : Int32)), .val (.int z11), .val (.int (uv &&& (255 : Int32)).toUInt32.toUInt16.toUInt32.toInt32), .val (.int r22), .unset, .unset, .unset, .unset]) rfl ?_
    show Steps pP.tables eE below (T22.setTop (mkF mM 69 #[.val (.int cv), .val (.int kv), .val (.long (cv.toInt64 - (48 : Int64))), .second, .val (.int j4), .val (.int (1 : Int32)), .val (.int z11), .val (.int (uv &&& (255 : Int32)).toUInt32.toUInt16.toUInt32.toInt32), .val (.int r22), .unset, .unset, .unset, .unset] [])) _
    refine XS.sipush X22.here hx rfl (hb hby at_69) ?_
    show Steps pP.tables eE below (T22.setTop (mkF mM 72 #[.val (.int cv), .val (.int kv), .val (.long (cv.toInt64 - (48 : Int64))), .second, .val (.int j4), .val (.int (1 : Int32)), .val (.int z11), .val (.int (uv &&& (255 : Int32)).toUInt32.toUInt16.toUInt32.toInt32), .val (.int r22), .unset, .unset, .unset, .unset] [(.int (1632 : Int32))])) _
    refine XS.iload X22.here hx rfl (hb hby at_72) rfl ?_
    show Steps pP.tables eE below (T22.setTop (mkF mM 74 #[.val (.int cv), .val (.int kv), .val (.long (cv.toInt64 - (48 : Int64))), .second, .val (.int j4), .val (.int (1 : Int32)), .val (.int z11), .val (.int (uv &&& (255 : Int32)).toUInt32.toUInt16.toUInt32.toInt32), .val (.int r22), .unset, .unset, .unset, .unset] [(.int z11), (.int (1632 : Int32))])) _
    refine XS.iadd X22.here hx rfl (hb hby at_74) rfl ?_
    exact kg)
  obtain ⟨_, _, ⟨T25, L25, kk25, nn25⟩, -, X25, ⟨Lc25, hQ25, l25, y25, z25⟩, st25⟩ := Jvm.LawKit.callS X22 hx (y := (⟨"com/example/ledgerhall/ledgerhall/AccountLayout", "isDigit", "(I)Z"⟩ : MethodName)) hown (mvT hZ (hw _ (List.mem_of_getElem? (i := 1) rfl))) (mvT hZ (hw _ (List.mem_of_getElem? (i := 2) rfl))) (mvT hZ (hw _ (List.mem_of_getElem? (i := 3) rfl))) (mvT hZ (hw _ (List.mem_of_getElem? (i := 4) rfl))) (by decide) (backOf (W := 0) (rm1 l Z a0 hw [] ((1632 : Int32) + z11) h13 n0 c18) hZ (hw _ (List.mem_of_getElem? (i := 4) rfl)) (hw _ (List.mem_of_getElem? (i := 3) rfl)) (by decide) (by decide)) (g := (mkF mM 75 #[.val (.int cv), .val (.int kv), .val (.long (cv.toInt64 - (48 : Int64))), .second, .val (.int j4), .val (.int (1 : Int32)), .val (.int z11), .val (.int (uv &&& (255 : Int32)).toUInt32.toUInt16.toUInt32.toInt32), .val (.int r22), .unset, .unset, .unset, .unset] [(.int ((1632 : Int32) + z11))])) rfl (by rw [hml]; rfl) (argsL := [(.int ((1632 : Int32) + z11))]) (rest := []) (lenOf pd_4 rfl) rfl (by show 2 * 0 + _ ≤ _; exact Nat.le_of_eq rfl) (hb hby at_75) (fun _ _ => ⟨rfl, e22, (by decide : 2 + 0 ≤ _), (by decide : 44 + 0 ≤ _)⟩)
  dsimp only [Pt.U, Pt.locs, Pt.cells, Pt.slots] at X25 l25 y25 z25 st25 hQ25
  subst l25 y25 z25
  obtain ⟨r25, rfl, hr25, Nq25, e25⟩ := hQ25
  have N25 := Fr.app N22 Nq25
  have pr26 : ∀ tg, Steps pP.tables eE below (T25.setTop (mkF mM 78 #[.val (.int cv), .val (.int kv), .val (.long (cv.toInt64 - (48 : Int64))), .second, .val (.int j4), .val (.int (1 : Int32)), .val (.int z11), .val (.int (uv &&& (255 : Int32)).toUInt32.toUInt16.toUInt32.toInt32), .val (.int r22), .unset, .unset, .unset, .unset] [(.int r25)])) tg → Steps pP.tables eE below (s₁.setTop (entryFrame mM #[(.int cv), (.int kv)] maxLocals)) tg := fun tg kg => pr24 _ (st25 _ kg)
  rw [if_neg (own_far (b := (1632 : Int32)) hbd.1 hbd.2 (by decide) (by decide)).1] at hr25
  rw [if_pos (own_far (b := (1632 : Int32)) hbd.1 hbd.2 (by decide) (by decide)).2] at hr25
  subst hr25
  have pr27 : ∀ tg, Steps pP.tables eE below (T25.setTop (mkF mM 93 #[.val (.int cv), .val (.int kv), .val (.long (cv.toInt64 - (48 : Int64))), .second, .val (.int j4), .val (.int (1 : Int32)), .val (.int z11), .val (.int (uv &&& (255 : Int32)).toUInt32.toUInt16.toUInt32.toInt32), .val (.int r22), .val (.int (1 : Int32)), .unset, .unset, .unset] [(.int ((65296 : Int32) + z11))])) tg → Steps pP.tables eE below (s₁.setTop (entryFrame mM #[(.int cv), (.int kv)] maxLocals)) tg := fun tg kg => pr26 _ (by
    show Steps pP.tables eE below (T25.setTop (mkF mM 78 #[.val (.int cv), .val (.int kv), .val (.long (cv.toInt64 - (48 : Int64))), .second, .val (.int j4), .val (.int (1 : Int32)), .val (.int z11), .val (.int (uv &&& (255 : Int32)).toUInt32.toUInt16.toUInt32.toInt32), .val (.int r22), .unset, .unset, .unset, .unset] [(.int (0 : Int32))])) _
    refine XS.ifNo X25.here hx rfl (hb hby at_78) rfl ((if0 _ _).trans (teq (by decide)).2) ?_
    show Steps pP.tables eE below (T25.setTop (mkF mM 81 #[.val (.int cv), .val (.int kv), .val (.long (cv.toInt64 - (48 : Int64))), .second, .val (.int j4), .val (.int (1 : Int32)), .val (.int z11), .val (.int (uv &&& (255 : Int32)).toUInt32.toUInt16.toUInt32.toInt32), .val (.int r22), .unset, .unset, .unset, .unset] [])) _
    refine XS.iconst X25.here hx rfl (hb hby at_81) ?_
    show Steps pP.tables eE below (T25.setTop (mkF mM 82 #[.val (.int cv), .val (.int kv), .val (.long (cv.toInt64 - (48 : Int64))), .second, .val (.int j4), .val (.int (1 : Int32)), .val (.int z11), .val (.int (uv &&& (255 : Int32)).toUInt32.toUInt16.toUInt32.toInt32), .val (.int r22), .unset, .unset, .unset, .unset] [(.int (1 : Int32))])) _
    refine XS.goto X25.here hx rfl (pc0 := 82) (pc' := 86) rfl (hb hby at_82) (by decide) (by decide) ?_
    show Steps pP.tables eE below (T25.setTop (mkF mM 86 #[.val (.int cv), .val (.int kv), .val (.long (cv.toInt64 - (48 : Int64))), .second, .val (.int j4), .val (.int (1 : Int32)), .val (.int z11), .val (.int (uv &&& (255 : Int32)).toUInt32.toUInt16.toUInt32.toInt32), .val (.int r22), .unset, .unset, .unset, .unset] [(.int (1 : Int32))])) _
    refine XS.istore X25.here hx rfl (hb hby at_86) rfl (l' := #[.val (.int cv), .val (.int kv), .val (.long (cv.toInt64 - (48 : Int64))), .second, .val (.int j4), .val (.int (1 : Int32)), .val (.int z11), .val (.int (uv &&& (255 : Int32)).toUInt32.toUInt16.toUInt32.toInt32), .val (.int r22), .val (.int (1 : Int32)), .unset, .unset, .unset]) rfl ?_
    show Steps pP.tables eE below (T25.setTop (mkF mM 88 #[.val (.int cv), .val (.int kv), .val (.long (cv.toInt64 - (48 : Int64))), .second, .val (.int j4), .val (.int (1 : Int32)), .val (.int z11), .val (.int (uv &&& (255 : Int32)).toUInt32.toUInt16.toUInt32.toInt32), .val (.int r22), .val (.int (1 : Int32)), .unset, .unset, .unset] [])) _
    refine Jvm.Stand.ldcI X25 hx hown (v := (65296 : Int32)) (mvT hZ (hw _ (List.mem_of_getElem? (i := 39) rfl))) rfl (hb hby at_88) ?_
    show Steps pP.tables eE below (T25.setTop (mkF mM 90 #[.val (.int cv), .val (.int kv), .val (.long (cv.toInt64 - (48 : Int64))), .second, .val (.int j4), .val (.int (1 : Int32)), .val (.int z11), .val (.int (uv &&& (255 : Int32)).toUInt32.toUInt16.toUInt32.toInt32), .val (.int r22), .val (.int (1 : Int32)), .unset, .unset, .unset] [(.int (65296 : Int32))])) _
    refine XS.iload X25.here hx rfl (hb hby at_90) rfl ?_
    show Steps pP.tables eE below (T25.setTop (mkF mM 92 #[.val (.int cv), .val (.int kv), .val (.long (cv.toInt64 - (48 : Int64))), .second, .val (.int j4), .val (.int (1 : Int32)), .val (.int z11), .val (.int (uv &&& (255 : Int32)).toUInt32.toUInt16.toUInt32.toInt32), .val (.int r22), .val (.int (1 : Int32)), .unset, .unset, .unset] [(.int z11), (.int (65296 : Int32))])) _
    refine XS.iadd X25.here hx rfl (hb hby at_92) rfl ?_
    exact kg)
  obtain ⟨_, _, ⟨T28, L28, kk28, nn28⟩, -, X28, ⟨Lc28, hQ28, l28, y28, z28⟩, st28⟩ := Jvm.LawKit.callS X25 hx (y := (⟨"com/example/ledgerhall/ledgerhall/AccountLayout", "isDigit", "(I)Z"⟩ : MethodName)) hown (mvT hZ (hw _ (List.mem_of_getElem? (i := 1) rfl))) (mvT hZ (hw _ (List.mem_of_getElem? (i := 2) rfl))) (mvT hZ (hw _ (List.mem_of_getElem? (i := 3) rfl))) (mvT hZ (hw _ (List.mem_of_getElem? (i := 4) rfl))) (by decide) (backOf (W := 0) (rm1 l Z a0 hw [] ((65296 : Int32) + z11) h13 n0 c18) hZ (hw _ (List.mem_of_getElem? (i := 4) rfl)) (hw _ (List.mem_of_getElem? (i := 3) rfl)) (by decide) (by decide)) (g := (mkF mM 93 #[.val (.int cv), .val (.int kv), .val (.long (cv.toInt64 - (48 : Int64))), .second, .val (.int j4), .val (.int (1 : Int32)), .val (.int z11), .val (.int (uv &&& (255 : Int32)).toUInt32.toUInt16.toUInt32.toInt32), .val (.int r22), .val (.int (1 : Int32)), .unset, .unset, .unset] [(.int ((65296 : Int32) + z11))])) rfl (by rw [hml]; rfl) (argsL := [(.int ((65296 : Int32) + z11))]) (rest := []) (lenOf pd_4 rfl) rfl (by show 2 * 0 + _ ≤ _; exact Nat.le_of_eq rfl) (hb hby at_93) (fun _ _ => ⟨rfl, e25, (by decide : 2 + 0 ≤ _), (by decide : 44 + 0 ≤ _)⟩)
  dsimp only [Pt.U, Pt.locs, Pt.cells, Pt.slots] at X28 l28 y28 z28 st28 hQ28
  subst l28 y28 z28
  obtain ⟨r28, rfl, hr28, Nq28, e28⟩ := hQ28
  have N28 := Fr.app N25 Nq28
  have pr29 : ∀ tg, Steps pP.tables eE below (T28.setTop (mkF mM 96 #[.val (.int cv), .val (.int kv), .val (.long (cv.toInt64 - (48 : Int64))), .second, .val (.int j4), .val (.int (1 : Int32)), .val (.int z11), .val (.int (uv &&& (255 : Int32)).toUInt32.toUInt16.toUInt32.toInt32), .val (.int r22), .val (.int (1 : Int32)), .unset, .unset, .unset] [(.int r28)])) tg → Steps pP.tables eE below (s₁.setTop (entryFrame mM #[(.int cv), (.int kv)] maxLocals)) tg := fun tg kg => pr27 _ (st28 _ kg)
  rw [if_neg (own_far (b := (65296 : Int32)) hbd.1 hbd.2 (by decide) (by decide)).1] at hr28
  rw [if_pos (own_far (b := (65296 : Int32)) hbd.1 hbd.2 (by decide) (by decide)).2] at hr28
  subst hr28
  have pr30 : ∀ tg, Steps pP.tables eE below (T28.setTop (mkF mM 108 #[.val (.int cv), .val (.int kv), .val (.long (cv.toInt64 - (48 : Int64))), .second, .val (.int j4), .val (.int (1 : Int32)), .val (.int z11), .val (.int (uv &&& (255 : Int32)).toUInt32.toUInt16.toUInt32.toInt32), .val (.int r22), .val (.int (1 : Int32)), .val (.int (1 : Int32)), .unset, .unset] [(.int (47 : Int32))])) tg → Steps pP.tables eE below (s₁.setTop (entryFrame mM #[(.int cv), (.int kv)] maxLocals)) tg := fun tg kg => pr29 _ (by
    show Steps pP.tables eE below (T28.setTop (mkF mM 96 #[.val (.int cv), .val (.int kv), .val (.long (cv.toInt64 - (48 : Int64))), .second, .val (.int j4), .val (.int (1 : Int32)), .val (.int z11), .val (.int (uv &&& (255 : Int32)).toUInt32.toUInt16.toUInt32.toInt32), .val (.int r22), .val (.int (1 : Int32)), .unset, .unset, .unset] [(.int (0 : Int32))])) _
    refine XS.ifNo X28.here hx rfl (hb hby at_96) rfl ((if0 _ _).trans (teq (by decide)).2) ?_
    show Steps pP.tables eE below (T28.setTop (mkF mM 99 #[.val (.int cv), .val (.int kv), .val (.long (cv.toInt64 - (48 : Int64))), .second, .val (.int j4), .val (.int (1 : Int32)), .val (.int z11), .val (.int (uv &&& (255 : Int32)).toUInt32.toUInt16.toUInt32.toInt32), .val (.int r22), .val (.int (1 : Int32)), .unset, .unset, .unset] [])) _
    refine XS.iconst X28.here hx rfl (hb hby at_99) ?_
    show Steps pP.tables eE below (T28.setTop (mkF mM 100 #[.val (.int cv), .val (.int kv), .val (.long (cv.toInt64 - (48 : Int64))), .second, .val (.int j4), .val (.int (1 : Int32)), .val (.int z11), .val (.int (uv &&& (255 : Int32)).toUInt32.toUInt16.toUInt32.toInt32), .val (.int r22), .val (.int (1 : Int32)), .unset, .unset, .unset] [(.int (1 : Int32))])) _
    refine XS.goto X28.here hx rfl (pc0 := 100) (pc' := 104) rfl (hb hby at_100) (by decide) (by decide) ?_
    show Steps pP.tables eE below (T28.setTop (mkF mM 104 #[.val (.int cv), .val (.int kv), .val (.long (cv.toInt64 - (48 : Int64))), .second, .val (.int j4), .val (.int (1 : Int32)), .val (.int z11), .val (.int (uv &&& (255 : Int32)).toUInt32.toUInt16.toUInt32.toInt32), .val (.int r22), .val (.int (1 : Int32)), .unset, .unset, .unset] [(.int (1 : Int32))])) _
    refine XS.istore X28.here hx rfl (hb hby at_104) rfl (l' := #[.val (.int cv), .val (.int kv), .val (.long (cv.toInt64 - (48 : Int64))), .second, .val (.int j4), .val (.int (1 : Int32)), .val (.int z11), .val (.int (uv &&& (255 : Int32)).toUInt32.toUInt16.toUInt32.toInt32), .val (.int r22), .val (.int (1 : Int32)), .val (.int (1 : Int32)), .unset, .unset]) rfl ?_
    show Steps pP.tables eE below (T28.setTop (mkF mM 106 #[.val (.int cv), .val (.int kv), .val (.long (cv.toInt64 - (48 : Int64))), .second, .val (.int j4), .val (.int (1 : Int32)), .val (.int z11), .val (.int (uv &&& (255 : Int32)).toUInt32.toUInt16.toUInt32.toInt32), .val (.int r22), .val (.int (1 : Int32)), .val (.int (1 : Int32)), .unset, .unset] [])) _
    refine XS.bipush X28.here hx rfl (hb hby at_106) ?_
    exact kg)
  obtain ⟨_, _, ⟨T31, L31, kk31, nn31⟩, -, X31, ⟨Lc31, hQ31, l31, y31, z31⟩, st31⟩ := Jvm.LawKit.callS X28 hx (y := (⟨"com/example/ledgerhall/ledgerhall/AccountLayout", "isDigit", "(I)Z"⟩ : MethodName)) hown (mvT hZ (hw _ (List.mem_of_getElem? (i := 1) rfl))) (mvT hZ (hw _ (List.mem_of_getElem? (i := 2) rfl))) (mvT hZ (hw _ (List.mem_of_getElem? (i := 3) rfl))) (mvT hZ (hw _ (List.mem_of_getElem? (i := 4) rfl))) (by decide) (backOf (W := 0) (rm1 l Z a0 hw [] (47 : Int32) h13 n0 c18) hZ (hw _ (List.mem_of_getElem? (i := 4) rfl)) (hw _ (List.mem_of_getElem? (i := 3) rfl)) (by decide) (by decide)) (g := (mkF mM 108 #[.val (.int cv), .val (.int kv), .val (.long (cv.toInt64 - (48 : Int64))), .second, .val (.int j4), .val (.int (1 : Int32)), .val (.int z11), .val (.int (uv &&& (255 : Int32)).toUInt32.toUInt16.toUInt32.toInt32), .val (.int r22), .val (.int (1 : Int32)), .val (.int (1 : Int32)), .unset, .unset] [(.int (47 : Int32))])) rfl (by rw [hml]; rfl) (argsL := [(.int (47 : Int32))]) (rest := []) (lenOf pd_4 rfl) rfl (by show 2 * 0 + _ ≤ _; exact Nat.le_of_eq rfl) (hb hby at_108) (fun _ _ => ⟨rfl, e28, (by decide : 2 + 0 ≤ _), (by decide : 44 + 0 ≤ _)⟩)
  dsimp only [Pt.U, Pt.locs, Pt.cells, Pt.slots] at X31 l31 y31 z31 st31 hQ31
  subst l31 y31 z31
  obtain ⟨r31, rfl, hr31, Nq31, e31⟩ := hQ31
  have N31 := Fr.app N28 Nq31
  have pr32 : ∀ tg, Steps pP.tables eE below (T31.setTop (mkF mM 111 #[.val (.int cv), .val (.int kv), .val (.long (cv.toInt64 - (48 : Int64))), .second, .val (.int j4), .val (.int (1 : Int32)), .val (.int z11), .val (.int (uv &&& (255 : Int32)).toUInt32.toUInt16.toUInt32.toInt32), .val (.int r22), .val (.int (1 : Int32)), .val (.int (1 : Int32)), .unset, .unset] [(.int r31)])) tg → Steps pP.tables eE below (s₁.setTop (entryFrame mM #[(.int cv), (.int kv)] maxLocals)) tg := fun tg kg => pr30 _ (st31 _ kg)
  rw [if_pos (by decide : ((47 : Int32) < (48 : Int32)))] at hr31
  subst hr31
  have pr33 : ∀ tg, Steps pP.tables eE below (T31.setTop (mkF mM 123 #[.val (.int cv), .val (.int kv), .val (.long (cv.toInt64 - (48 : Int64))), .second, .val (.int j4), .val (.int (1 : Int32)), .val (.int z11), .val (.int (uv &&& (255 : Int32)).toUInt32.toUInt16.toUInt32.toInt32), .val (.int r22), .val (.int (1 : Int32)), .val (.int (1 : Int32)), .val (.int (1 : Int32)), .unset] [(.int (58 : Int32))])) tg → Steps pP.tables eE below (s₁.setTop (entryFrame mM #[(.int cv), (.int kv)] maxLocals)) tg := fun tg kg => pr32 _ (by
    show Steps pP.tables eE below (T31.setTop (mkF mM 111 #[.val (.int cv), .val (.int kv), .val (.long (cv.toInt64 - (48 : Int64))), .second, .val (.int j4), .val (.int (1 : Int32)), .val (.int z11), .val (.int (uv &&& (255 : Int32)).toUInt32.toUInt16.toUInt32.toInt32), .val (.int r22), .val (.int (1 : Int32)), .val (.int (1 : Int32)), .unset, .unset] [(.int (0 : Int32))])) _
    refine XS.ifNo X31.here hx rfl (hb hby at_111) rfl ((if0 _ _).trans (teq (by decide)).2) ?_
    show Steps pP.tables eE below (T31.setTop (mkF mM 114 #[.val (.int cv), .val (.int kv), .val (.long (cv.toInt64 - (48 : Int64))), .second, .val (.int j4), .val (.int (1 : Int32)), .val (.int z11), .val (.int (uv &&& (255 : Int32)).toUInt32.toUInt16.toUInt32.toInt32), .val (.int r22), .val (.int (1 : Int32)), .val (.int (1 : Int32)), .unset, .unset] [])) _
    refine XS.iconst X31.here hx rfl (hb hby at_114) ?_
    show Steps pP.tables eE below (T31.setTop (mkF mM 115 #[.val (.int cv), .val (.int kv), .val (.long (cv.toInt64 - (48 : Int64))), .second, .val (.int j4), .val (.int (1 : Int32)), .val (.int z11), .val (.int (uv &&& (255 : Int32)).toUInt32.toUInt16.toUInt32.toInt32), .val (.int r22), .val (.int (1 : Int32)), .val (.int (1 : Int32)), .unset, .unset] [(.int (1 : Int32))])) _
    refine XS.goto X31.here hx rfl (pc0 := 115) (pc' := 119) rfl (hb hby at_115) (by decide) (by decide) ?_
    show Steps pP.tables eE below (T31.setTop (mkF mM 119 #[.val (.int cv), .val (.int kv), .val (.long (cv.toInt64 - (48 : Int64))), .second, .val (.int j4), .val (.int (1 : Int32)), .val (.int z11), .val (.int (uv &&& (255 : Int32)).toUInt32.toUInt16.toUInt32.toInt32), .val (.int r22), .val (.int (1 : Int32)), .val (.int (1 : Int32)), .unset, .unset] [(.int (1 : Int32))])) _
    refine XS.istore X31.here hx rfl (hb hby at_119) rfl (l' := #[.val (.int cv), .val (.int kv), .val (.long (cv.toInt64 - (48 : Int64))), .second, .val (.int j4), .val (.int (1 : Int32)), .val (.int z11), .val (.int (uv &&& (255 : Int32)).toUInt32.toUInt16.toUInt32.toInt32), .val (.int r22), .val (.int (1 : Int32)), .val (.int (1 : Int32)), .val (.int (1 : Int32)), .unset]) rfl ?_
    show Steps pP.tables eE below (T31.setTop (mkF mM 121 #[.val (.int cv), .val (.int kv), .val (.long (cv.toInt64 - (48 : Int64))), .second, .val (.int j4), .val (.int (1 : Int32)), .val (.int z11), .val (.int (uv &&& (255 : Int32)).toUInt32.toUInt16.toUInt32.toInt32), .val (.int r22), .val (.int (1 : Int32)), .val (.int (1 : Int32)), .val (.int (1 : Int32)), .unset] [])) _
    refine XS.bipush X31.here hx rfl (hb hby at_121) ?_
    exact kg)
  obtain ⟨_, _, ⟨T34, L34, kk34, nn34⟩, -, X34, ⟨Lc34, hQ34, l34, y34, z34⟩, st34⟩ := Jvm.LawKit.callS X31 hx (y := (⟨"com/example/ledgerhall/ledgerhall/AccountLayout", "isDigit", "(I)Z"⟩ : MethodName)) hown (mvT hZ (hw _ (List.mem_of_getElem? (i := 1) rfl))) (mvT hZ (hw _ (List.mem_of_getElem? (i := 2) rfl))) (mvT hZ (hw _ (List.mem_of_getElem? (i := 3) rfl))) (mvT hZ (hw _ (List.mem_of_getElem? (i := 4) rfl))) (by decide) (backOf (W := 0) (rm1 l Z a0 hw [] (58 : Int32) h13 n0 c18) hZ (hw _ (List.mem_of_getElem? (i := 4) rfl)) (hw _ (List.mem_of_getElem? (i := 3) rfl)) (by decide) (by decide)) (g := (mkF mM 123 #[.val (.int cv), .val (.int kv), .val (.long (cv.toInt64 - (48 : Int64))), .second, .val (.int j4), .val (.int (1 : Int32)), .val (.int z11), .val (.int (uv &&& (255 : Int32)).toUInt32.toUInt16.toUInt32.toInt32), .val (.int r22), .val (.int (1 : Int32)), .val (.int (1 : Int32)), .val (.int (1 : Int32)), .unset] [(.int (58 : Int32))])) rfl (by rw [hml]; rfl) (argsL := [(.int (58 : Int32))]) (rest := []) (lenOf pd_4 rfl) rfl (by show 2 * 0 + _ ≤ _; exact Nat.le_of_eq rfl) (hb hby at_123) (fun _ _ => ⟨rfl, e31, (by decide : 2 + 0 ≤ _), (by decide : 44 + 0 ≤ _)⟩)
  dsimp only [Pt.U, Pt.locs, Pt.cells, Pt.slots] at X34 l34 y34 z34 st34 hQ34
  subst l34 y34 z34
  obtain ⟨r34, rfl, hr34, Nq34, e34⟩ := hQ34
  have N34 := Fr.app N31 Nq34
  have pr35 : ∀ tg, Steps pP.tables eE below (T34.setTop (mkF mM 126 #[.val (.int cv), .val (.int kv), .val (.long (cv.toInt64 - (48 : Int64))), .second, .val (.int j4), .val (.int (1 : Int32)), .val (.int z11), .val (.int (uv &&& (255 : Int32)).toUInt32.toUInt16.toUInt32.toInt32), .val (.int r22), .val (.int (1 : Int32)), .val (.int (1 : Int32)), .val (.int (1 : Int32)), .unset] [(.int r34)])) tg → Steps pP.tables eE below (s₁.setTop (entryFrame mM #[(.int cv), (.int kv)] maxLocals)) tg := fun tg kg => pr33 _ (st34 _ kg)
  rw [if_neg (by decide : ¬ ((58 : Int32) < (48 : Int32)))] at hr34
  rw [if_pos (by decide : ((57 : Int32) < (58 : Int32)))] at hr34
  subst hr34
  have pr36 : ∀ tg, Steps pP.tables eE below (T34.setTop (mkF mM 143 #[.val (.int cv), .val (.int kv), .val (.long (cv.toInt64 - (48 : Int64))), .second, .val (.int j4), .val (.int (1 : Int32)), .val (.int z11), .val (.int (uv &&& (255 : Int32)).toUInt32.toUInt16.toUInt32.toInt32), .val (.int r22), .val (.int (1 : Int32)), .val (.int (1 : Int32)), .val (.int (1 : Int32)), .val (.int (1 : Int32))] [(.int r22)])) tg → Steps pP.tables eE below (s₁.setTop (entryFrame mM #[(.int cv), (.int kv)] maxLocals)) tg := fun tg kg => pr35 _ (by
    show Steps pP.tables eE below (T34.setTop (mkF mM 126 #[.val (.int cv), .val (.int kv), .val (.long (cv.toInt64 - (48 : Int64))), .second, .val (.int j4), .val (.int (1 : Int32)), .val (.int z11), .val (.int (uv &&& (255 : Int32)).toUInt32.toUInt16.toUInt32.toInt32), .val (.int r22), .val (.int (1 : Int32)), .val (.int (1 : Int32)), .val (.int (1 : Int32)), .unset] [(.int (0 : Int32))])) _
    refine XS.ifNo X34.here hx rfl (hb hby at_126) rfl ((if0 _ _).trans (teq (by decide)).2) ?_
    show Steps pP.tables eE below (T34.setTop (mkF mM 129 #[.val (.int cv), .val (.int kv), .val (.long (cv.toInt64 - (48 : Int64))), .second, .val (.int j4), .val (.int (1 : Int32)), .val (.int z11), .val (.int (uv &&& (255 : Int32)).toUInt32.toUInt16.toUInt32.toInt32), .val (.int r22), .val (.int (1 : Int32)), .val (.int (1 : Int32)), .val (.int (1 : Int32)), .unset] [])) _
    refine XS.iconst X34.here hx rfl (hb hby at_129) ?_
    show Steps pP.tables eE below (T34.setTop (mkF mM 130 #[.val (.int cv), .val (.int kv), .val (.long (cv.toInt64 - (48 : Int64))), .second, .val (.int j4), .val (.int (1 : Int32)), .val (.int z11), .val (.int (uv &&& (255 : Int32)).toUInt32.toUInt16.toUInt32.toInt32), .val (.int r22), .val (.int (1 : Int32)), .val (.int (1 : Int32)), .val (.int (1 : Int32)), .unset] [(.int (1 : Int32))])) _
    refine XS.goto X34.here hx rfl (pc0 := 130) (pc' := 134) rfl (hb hby at_130) (by decide) (by decide) ?_
    show Steps pP.tables eE below (T34.setTop (mkF mM 134 #[.val (.int cv), .val (.int kv), .val (.long (cv.toInt64 - (48 : Int64))), .second, .val (.int j4), .val (.int (1 : Int32)), .val (.int z11), .val (.int (uv &&& (255 : Int32)).toUInt32.toUInt16.toUInt32.toInt32), .val (.int r22), .val (.int (1 : Int32)), .val (.int (1 : Int32)), .val (.int (1 : Int32)), .unset] [(.int (1 : Int32))])) _
    refine XS.istore X34.here hx rfl (hb hby at_134) rfl (l' := #[.val (.int cv), .val (.int kv), .val (.long (cv.toInt64 - (48 : Int64))), .second, .val (.int j4), .val (.int (1 : Int32)), .val (.int z11), .val (.int (uv &&& (255 : Int32)).toUInt32.toUInt16.toUInt32.toInt32), .val (.int r22), .val (.int (1 : Int32)), .val (.int (1 : Int32)), .val (.int (1 : Int32)), .val (.int (1 : Int32))]) rfl ?_
    show Steps pP.tables eE below (T34.setTop (mkF mM 136 #[.val (.int cv), .val (.int kv), .val (.long (cv.toInt64 - (48 : Int64))), .second, .val (.int j4), .val (.int (1 : Int32)), .val (.int z11), .val (.int (uv &&& (255 : Int32)).toUInt32.toUInt16.toUInt32.toInt32), .val (.int r22), .val (.int (1 : Int32)), .val (.int (1 : Int32)), .val (.int (1 : Int32)), .val (.int (1 : Int32))] [])) _
    refine XS.iload X34.here hx rfl (hb hby at_136) rfl ?_
    show Steps pP.tables eE below (T34.setTop (mkF mM 138 #[.val (.int cv), .val (.int kv), .val (.long (cv.toInt64 - (48 : Int64))), .second, .val (.int j4), .val (.int (1 : Int32)), .val (.int z11), .val (.int (uv &&& (255 : Int32)).toUInt32.toUInt16.toUInt32.toInt32), .val (.int r22), .val (.int (1 : Int32)), .val (.int (1 : Int32)), .val (.int (1 : Int32)), .val (.int (1 : Int32))] [(.int (1 : Int32))])) _
    refine XS.ifNo X34.here hx rfl (hb hby at_138) rfl ((if0 _ _).trans (feq (by decide)).1) ?_
    show Steps pP.tables eE below (T34.setTop (mkF mM 141 #[.val (.int cv), .val (.int kv), .val (.long (cv.toInt64 - (48 : Int64))), .second, .val (.int j4), .val (.int (1 : Int32)), .val (.int z11), .val (.int (uv &&& (255 : Int32)).toUInt32.toUInt16.toUInt32.toInt32), .val (.int r22), .val (.int (1 : Int32)), .val (.int (1 : Int32)), .val (.int (1 : Int32)), .val (.int (1 : Int32))] [])) _
    refine XS.iload X34.here hx rfl (hb hby at_141) rfl ?_
    exact kg)
  rw [if_neg hu2] at hr22
  rw [if_neg hu3] at hr22
  subst hr22
  have pr37 : ∀ tg, Steps pP.tables eE below (T34.setTop (mkF mM 171 #[.val (.int cv), .val (.int kv), .val (.long (cv.toInt64 - (48 : Int64))), .second, .val (.int j4), .val (.int (1 : Int32)), .val (.int z11), .val (.int (uv &&& (255 : Int32)).toUInt32.toUInt16.toUInt32.toInt32), .val (.int (1 : Int32)), .val (.int (1 : Int32)), .val (.int (1 : Int32)), .val (.int (1 : Int32)), .val (.int (1 : Int32))] [(.int (1 : Int32))])) tg → Steps pP.tables eE below (s₁.setTop (entryFrame mM #[(.int cv), (.int kv)] maxLocals)) tg := fun tg kg => pr36 _ (by
    show Steps pP.tables eE below (T34.setTop (mkF mM 143 #[.val (.int cv), .val (.int kv), .val (.long (cv.toInt64 - (48 : Int64))), .second, .val (.int j4), .val (.int (1 : Int32)), .val (.int z11), .val (.int (uv &&& (255 : Int32)).toUInt32.toUInt16.toUInt32.toInt32), .val (.int (1 : Int32)), .val (.int (1 : Int32)), .val (.int (1 : Int32)), .val (.int (1 : Int32)), .val (.int (1 : Int32))] [(.int (1 : Int32))])) _
    refine XS.ifNo X34.here hx rfl (hb hby at_143) rfl ((if0 _ _).trans (feq (by decide)).1) ?_
    show Steps pP.tables eE below (T34.setTop (mkF mM 146 #[.val (.int cv), .val (.int kv), .val (.long (cv.toInt64 - (48 : Int64))), .second, .val (.int j4), .val (.int (1 : Int32)), .val (.int z11), .val (.int (uv &&& (255 : Int32)).toUInt32.toUInt16.toUInt32.toInt32), .val (.int (1 : Int32)), .val (.int (1 : Int32)), .val (.int (1 : Int32)), .val (.int (1 : Int32)), .val (.int (1 : Int32))] [])) _
    refine XS.iload X34.here hx rfl (hb hby at_146) rfl ?_
    show Steps pP.tables eE below (T34.setTop (mkF mM 148 #[.val (.int cv), .val (.int kv), .val (.long (cv.toInt64 - (48 : Int64))), .second, .val (.int j4), .val (.int (1 : Int32)), .val (.int z11), .val (.int (uv &&& (255 : Int32)).toUInt32.toUInt16.toUInt32.toInt32), .val (.int (1 : Int32)), .val (.int (1 : Int32)), .val (.int (1 : Int32)), .val (.int (1 : Int32)), .val (.int (1 : Int32))] [(.int (1 : Int32))])) _
    refine XS.ifNo X34.here hx rfl (hb hby at_148) rfl ((if0 _ _).trans (feq (by decide)).1) ?_
    show Steps pP.tables eE below (T34.setTop (mkF mM 151 #[.val (.int cv), .val (.int kv), .val (.long (cv.toInt64 - (48 : Int64))), .second, .val (.int j4), .val (.int (1 : Int32)), .val (.int z11), .val (.int (uv &&& (255 : Int32)).toUInt32.toUInt16.toUInt32.toInt32), .val (.int (1 : Int32)), .val (.int (1 : Int32)), .val (.int (1 : Int32)), .val (.int (1 : Int32)), .val (.int (1 : Int32))] [])) _
    refine XS.iload X34.here hx rfl (hb hby at_151) rfl ?_
    show Steps pP.tables eE below (T34.setTop (mkF mM 153 #[.val (.int cv), .val (.int kv), .val (.long (cv.toInt64 - (48 : Int64))), .second, .val (.int j4), .val (.int (1 : Int32)), .val (.int z11), .val (.int (uv &&& (255 : Int32)).toUInt32.toUInt16.toUInt32.toInt32), .val (.int (1 : Int32)), .val (.int (1 : Int32)), .val (.int (1 : Int32)), .val (.int (1 : Int32)), .val (.int (1 : Int32))] [(.int (1 : Int32))])) _
    refine XS.ifNo X34.here hx rfl (hb hby at_153) rfl ((if0 _ _).trans (feq (by decide)).1) ?_
    show Steps pP.tables eE below (T34.setTop (mkF mM 156 #[.val (.int cv), .val (.int kv), .val (.long (cv.toInt64 - (48 : Int64))), .second, .val (.int j4), .val (.int (1 : Int32)), .val (.int z11), .val (.int (uv &&& (255 : Int32)).toUInt32.toUInt16.toUInt32.toInt32), .val (.int (1 : Int32)), .val (.int (1 : Int32)), .val (.int (1 : Int32)), .val (.int (1 : Int32)), .val (.int (1 : Int32))] [])) _
    refine XS.iload X34.here hx rfl (hb hby at_156) rfl ?_
    show Steps pP.tables eE below (T34.setTop (mkF mM 158 #[.val (.int cv), .val (.int kv), .val (.long (cv.toInt64 - (48 : Int64))), .second, .val (.int j4), .val (.int (1 : Int32)), .val (.int z11), .val (.int (uv &&& (255 : Int32)).toUInt32.toUInt16.toUInt32.toInt32), .val (.int (1 : Int32)), .val (.int (1 : Int32)), .val (.int (1 : Int32)), .val (.int (1 : Int32)), .val (.int (1 : Int32))] [(.int (1 : Int32))])) _
    refine XS.ifNo X34.here hx rfl (hb hby at_158) rfl ((if0 _ _).trans (feq (by decide)).1) ?_
    show Steps pP.tables eE below (T34.setTop (mkF mM 161 #[.val (.int cv), .val (.int kv), .val (.long (cv.toInt64 - (48 : Int64))), .second, .val (.int j4), .val (.int (1 : Int32)), .val (.int z11), .val (.int (uv &&& (255 : Int32)).toUInt32.toUInt16.toUInt32.toInt32), .val (.int (1 : Int32)), .val (.int (1 : Int32)), .val (.int (1 : Int32)), .val (.int (1 : Int32)), .val (.int (1 : Int32))] [])) _
    refine XS.iload X34.here hx rfl (hb hby at_161) rfl ?_
    show Steps pP.tables eE below (T34.setTop (mkF mM 163 #[.val (.int cv), .val (.int kv), .val (.long (cv.toInt64 - (48 : Int64))), .second, .val (.int j4), .val (.int (1 : Int32)), .val (.int z11), .val (.int (uv &&& (255 : Int32)).toUInt32.toUInt16.toUInt32.toInt32), .val (.int (1 : Int32)), .val (.int (1 : Int32)), .val (.int (1 : Int32)), .val (.int (1 : Int32)), .val (.int (1 : Int32))] [(.int (1 : Int32))])) _
    refine XS.ifNo X34.here hx rfl (hb hby at_163) rfl ((if0 _ _).trans (feq (by decide)).1) ?_
    show Steps pP.tables eE below (T34.setTop (mkF mM 166 #[.val (.int cv), .val (.int kv), .val (.long (cv.toInt64 - (48 : Int64))), .second, .val (.int j4), .val (.int (1 : Int32)), .val (.int z11), .val (.int (uv &&& (255 : Int32)).toUInt32.toUInt16.toUInt32.toInt32), .val (.int (1 : Int32)), .val (.int (1 : Int32)), .val (.int (1 : Int32)), .val (.int (1 : Int32)), .val (.int (1 : Int32))] [])) _
    refine XS.iconst X34.here hx rfl (hb hby at_166) ?_
    show Steps pP.tables eE below (T34.setTop (mkF mM 167 #[.val (.int cv), .val (.int kv), .val (.long (cv.toInt64 - (48 : Int64))), .second, .val (.int j4), .val (.int (1 : Int32)), .val (.int z11), .val (.int (uv &&& (255 : Int32)).toUInt32.toUInt16.toUInt32.toInt32), .val (.int (1 : Int32)), .val (.int (1 : Int32)), .val (.int (1 : Int32)), .val (.int (1 : Int32)), .val (.int (1 : Int32))] [(.int (1 : Int32))])) _
    refine XS.goto X34.here hx rfl (pc0 := 167) (pc' := 171) rfl (hb hby at_167) (by decide) (by decide) ?_
    exact kg)
  obtain ⟨fs, hr, hrun, hended, hW⟩ := Jvm.Stand.leaveW (s := sS) (vm₁ := T13.vm) X34 hS (Nat.le_trans hk13 (Nat.le_of_eq (congrArg Array.size e34.symm))) (v := some (.int (1 : Int32))) (fun h => by rw [Bd.returns] at h; cases h)
  refine ⟨_, _, pr37 _ (retOut X34 hx (t := .boolean) Bd.returns rfl (Or.inl ⟨rfl, Or.inr (Or.inl rfl), _, rfl⟩) (hb hby at_171) hr), hrun, hended, _, _, rfl, ?_, hW.1, hW.2.1, hW.2.2.1, hW.2.2.2.mono (by decide) (by decide)⟩
  show Q0 Z cv kv cs sf h0 n0 _ T34.heap _
  rw [e34]
  exact ⟨rfl, N34⟩
set_option maxRecDepth 65536 in
set_option maxHeartbeats 40000000 in
theorem comes_1 {Post : Tables → Env → Array Value → State → Outcome → State → Prop} (hpost : ∀ tb e args s v u, (limb_1_1.after args s (.returned v) u = true ∧ limb_1_2.after args s (.returned v) u = true ∧ True) → ReturnedEndW s (.returned v) u (Jvm.fieldLocs frame_1_writes args s ++ Jvm.arrayLocs frame_1_arrays args s ++ Jvm.staticLocs frame_1_statics s) 8 1088 → Post tb e args s (.returned v) u) :
    ArmFor flags0 classFile x code maxLocals ret World_1 tables_1 room_1 Calls_1 rest_1 Pre_1 Post := by
  intro l hfl _ _ p e ha hc hk s m args below hf hA hF happ hP
  obtain ⟨hcalls, hrest, hpre⟩ := hP
  obtain ⟨-, -, -, hnamed, -, -, -, hat⟩ := (Spec.applies_iff hf).mp happ
  obtain ⟨hg, hn⟩ := and_e (Cond.before_iff.mp (show (Jvm.Cond.and given_1 narrow_1).before args s = true from hpre))
  obtain ⟨n1, n2⟩ := and_e hg
  obtain ⟨n3, n4⟩ := and_e n2
  obtain ⟨w0, w1, rfl⟩ : ∃ w0 w1 : Value, args = #[w0, w1] := by
    have hs : args.size = 2 := by simpa [Cond.value, given_1] using n1
    obtain ⟨L⟩ := args
    match L, hs with
    | [w0, w1], _ => exact ⟨w0, w1, rfl⟩
  have hw := fun d (hd : d ∈ tables_1) => atoms_spec (ws := Jvm.Cond.code x code maxLocals ret :: tables_1) hat d (List.mem_cons_of_mem _ hd)
  have hfit : Fit s := fun {y c} hc i hi => by
    obtain ⟨ha, rfl⟩ := Array.getElem?_eq_some_iff.mp hc
    have q := List.all_eq_true.mp ((Array.all_eq_true_iff_forall_mem.mp hF) _ (Array.getElem_mem ha)) i (List.mem_range.mpr hi)
    simpa [Array.getElem?_eq_getElem hi] using q
  obtain ⟨hsets, hown0⟩ := atoms_of _ (rest_1_c_eq ▸ (show rest_1_c.before _ s = true from hrest))
  have hr0 := Cond.before_iff.mp hown0
  obtain ⟨i0, ei0⟩ := is_v n3
  obtain rfl : w0 = (.int i0) := Option.some.inj ei0
  obtain ⟨i1, ei1⟩ := is_v n4
  obtain rfl : w1 = (.int i1) := Option.some.inj ei1
  obtain ⟨cs, ecs⟩ := is_v (Cond.before_iff.mp (hsets _ (List.mem_of_getElem? (i := 1) rfl)))
  have S_cs : Sta s s.heap "java/lang/String" "COMPACT_STRINGS" "Z" (.int cs) := Sta.start ecs (Or.inl (hsets _ (List.mem_of_getElem? (i := 0) rfl)))
  have hcw0 := (hsets _ (List.mem_of_getElem? (i := 2) rfl))
  have hcs : ¬ (cs = (0 : Int32)) := gotF (Cond.eq_ints ecs (Term.int_eval (0))) (not_v (Cond.before_iff.mp hcw0))
  obtain ⟨sf, esf, rsf⟩ := isR_v (Cond.before_iff.mp (hsets _ (List.mem_of_getElem? (i := 8) rfl)))
  have S_sf : Sta s s.heap "jdk/internal/util/Preconditions" "SIOOBE_FORMATTER" "Ljava/util/function/BiFunction;" sf := Sta.start esf (Or.inl (hsets _ (List.mem_of_getElem? (i := 7) rfl)))
  obtain ⟨n, o, h1, h2, h3, _, L, rfl, ⟨rfl, N⟩, hq⟩ := rm0 l s _ hw tables_1 i0 i1 cs sf s.heap s.heap.size (Nat.le_refl _) (Old.start s) hcalls.1 hcw0 S_cs hcs S_sf rsf p e ha hc hk s m _ below hf ((Spec.applies_iff_loose hf).mp happ).1 ⟨rfl, rfl, rfl⟩ trivial
  refine ⟨n, _, h1, h2, h3, hpost _ _ _ _ _ _ ⟨Cond.after_iff.mpr rfl, Cond.after_iff.mpr (eq_i res_at (Term.int_eval (1)) rfl), trivial⟩ ⟨hq.1, hq.2.1, hq.2.2.1, (hq.2.2.2.sift fun y hy => Or.inr (N y hy)).mono (by decide) (by decide)⟩⟩
theorem main_1_1 : Claimed_1_1 := comes_1 fun _ _ _ _ _ _ h hF => ⟨h.1, hF⟩
theorem main_1_2 : Claimed_1_2 := comes_1 fun _ _ _ _ _ _ h hF => ⟨h.2.1, hF⟩
end Jvm.Pilot.@@N@@
namespace Jvm.Pilot.@@N@@
open Jvm Jvm.ClassFile Sem Op Lib Jvm.Free Jvm.Stand Jvm.Pilot.@@N@@.Jvm.D
/-! MADE BY PROGRAM (witnessworld.py) out of the Statement's table words and the real class files: 17 classes; the members and pool entries that the words name. The judged class is class 1, her method 1. -/
namespace start1
open Jvm.ClassFile
def u (s : String) : CpInfo := .utf8 (stringToUtf16 s)
/-- a pool by its gaps: so many unusable entries, then the entry; so many at the end -/
def gap : Nat → List CpInfo → List CpInfo
  | 0, r => r
  | n + 1, r => .unusable :: gap n r
def poolList (es : List (Nat × CpInfo)) (last : Nat) : List CpInfo := es.foldr (fun e r => gap e.1 (e.2 :: r)) (gap last [])
def pool (es : List (Nat × CpInfo)) (last : Nat) : Array CpInfo := ⟨poolList es last⟩
def fileOf (pool : Array CpInfo) (this : Nat) (attrs : Array Attribute := #[]) (ms : Array MethodInfo := #[]) (fl : Nat := 33) (sup : Nat := 0) (ifs : Array Nat := #[]) (fds : Array FieldInfo := #[]) : ClassFile where
  minorVersion := 0
  majorVersion := 65
  constantPool := pool
  accessFlags := fl
  thisClass := this
  superClass := sup
  interfaces := ifs
  fields := fds
  methods := ms
  attributes := attrs
def plain (name : String) (sup : Option ClassId) : Class where
  name := name
  kind := .ordinary
  loader := none
  accessFlags := 33
  super := sup
  interfaces := #[]
  cf := none
  fields := #[]
  methods := #[]
  instanceTypes := #[]
  staticTypes := #[]
  resolved := #[]
  callSites := []
  init := .initialized
  statics := none
  mirror := none

def pool0 : Array CpInfo := pool [(5, u "<init>"), (0, u "()V"), (1, .class_ 10), (1, u "java/lang/Object")] 113

def k0m0 : Method := { name := "<init>", desc := "()V", sig := { parameters := [], returnType := none }, accessFlags := 1, code := none }
/-- java/lang/Object -/
def k0 : Class := { plain "java/lang/Object" none with
  accessFlags := 33
  interfaces := #[]
  cf := some (fileOf pool0 8 #[] #[{ accessFlags := 1, nameIndex := 5, descriptorIndex := 6, attributes := #[] }] 33 0 #[] #[])
  fields := #[]
  methods := #[k0m0]
  instanceTypes := #[]
  staticTypes := #[]
  resolved := Array.replicate 124 none
  statics := none }

def pool1 : Array CpInfo := pool [(2, .class_ 4), (1, u "java/lang/Object"), (0, u "<init>"), (0, u "()V"), (0, .long 48), (1, .long 10), (1, .methodref 12 13), (0, .class_ 14), (0, .nameAndType 15 16), (0, u "com/example/ledgerhall/ledgerhall/AccountLayout"), (0, u "isDigit"), (0, u "(I)Z"), (0, .integer 2147483647), (0, .string 19), (0, u "0123456789"), (0, .methodref 21 22), (0, .class_ 23), (0, .nameAndType 24 25), (0, u "java/lang/String"), (0, u "charAt"), (0, u "(I)C"), (0, .integer 65296), (0, .class_ 28), (0, u "com/example/ledgerhall/ledgerhall/AccountLayoutIsDigitPinLaw"), (2, u "law"), (0, u "(II)Z")] 3

def k1m0 : Method := { name := "<init>", desc := "()V", sig := { parameters := [], returnType := none }, accessFlags := 2, code := none }
def k1c1 : Code := { maxStack := 4, maxLocals := 13, code := code, exceptionTable := #[], attributes := #[] }
def k1m1 : Method := { name := "law", desc := "(II)Z", sig := { parameters := [.int, .int], returnType := some .boolean }, accessFlags := 9, code := some k1c1 }
/-- com/example/ledgerhall/ledgerhall/AccountLayoutIsDigitPinLaw -/
def k1 : Class := { plain "com/example/ledgerhall/ledgerhall/AccountLayoutIsDigitPinLaw" (some 0) with
  accessFlags := 49
  interfaces := #[]
  cf := some (fileOf pool1 27 #[] #[{ accessFlags := 2, nameIndex := 5, descriptorIndex := 6, attributes := #[] }, { accessFlags := 9, nameIndex := 31, descriptorIndex := 32, attributes := #[] }] 49 2 #[] #[])
  fields := #[]
  methods := #[k1m0, k1m1]
  instanceTypes := #[]
  staticTypes := #[]
  resolved := Array.replicate 36 none
  statics := none }

def pool2 : Array CpInfo := pool [(2, .class_ 4), (1, u "java/lang/Object"), (0, u "<init>"), (0, u "()V"), (6, .class_ 14), (0, u "com/example/ledgerhall/ledgerhall/AccountLayout"), (28, u "(I)Z"), (0, u "WRITTEN"), (0, u "Ljava/lang/String;"), (1, u "POSITIONS"), (0, u "I"), (6, u "isDigit")] 4

def k2m0 : Method := { name := "<init>", desc := "()V", sig := { parameters := [], returnType := none }, accessFlags := 2, code := none }
def k2c1 : Code := { maxStack := 2, maxLocals := 1, code := prog_4_method_3_code, exceptionTable := #[], attributes := #[] }
def k2m1 : Method := { name := "isDigit", desc := "(I)Z", sig := { parameters := [.int], returnType := some .boolean }, accessFlags := 8, code := some k2c1 }
/-- com/example/ledgerhall/ledgerhall/AccountLayout -/
def k2 : Class := { plain "com/example/ledgerhall/ledgerhall/AccountLayout" (some 0) with
  accessFlags := 48
  interfaces := #[]
  cf := some (fileOf pool2 13 #[] #[{ accessFlags := 2, nameIndex := 5, descriptorIndex := 6, attributes := #[] }, { accessFlags := 8, nameIndex := 55, descriptorIndex := 43, attributes := #[] }] 48 2 #[] #[{ accessFlags := 24, nameIndex := 44, descriptorIndex := 45, attributes := #[] }, { accessFlags := 24, nameIndex := 47, descriptorIndex := 48, attributes := #[] }])
  fields := #[{ name := "WRITTEN", type := (.object "java/lang/String"), accessFlags := 24, slot := 0, constantValue := 0 }, { name := "POSITIONS", type := .int, accessFlags := 24, slot := 1, constantValue := 0 }]
  methods := #[k2m0, k2m1]
  instanceTypes := #[]
  staticTypes := #[(.object "java/lang/String"), .int]
  resolved := Array.replicate 60 none
  statics := none }

def pool3 : Array CpInfo := pool [(1, .class_ 2), (0, u "java/io/Serializable"), (0, .class_ 4), (0, u "java/lang/Object")] 2

/-- java/io/Serializable -/
def k3 : Class := { plain "java/io/Serializable" (some 0) with
  accessFlags := 1537
  interfaces := #[]
  cf := some (fileOf pool3 1 #[] #[] 1537 3 #[] #[])
  fields := #[]
  methods := #[]
  instanceTypes := #[]
  staticTypes := #[]
  resolved := Array.replicate 7 none
  statics := none }

def pool4 : Array CpInfo := pool [(1, .class_ 2), (0, u "java/lang/Comparable"), (0, .class_ 4), (0, u "java/lang/Object")] 7

/-- java/lang/Comparable -/
def k4 : Class := { plain "java/lang/Comparable" (some 0) with
  accessFlags := 1537
  interfaces := #[]
  cf := some (fileOf pool4 1 #[] #[] 1537 3 #[] #[])
  fields := #[]
  methods := #[]
  instanceTypes := #[]
  staticTypes := #[]
  resolved := Array.replicate 12 none
  statics := none }

def pool5 : Array CpInfo := pool [(2, .class_ 4), (1, u "java/lang/CharSequence"), (42, .class_ 48), (0, u "java/lang/CharSequence$1CodePointIterator"), (10, .class_ 60), (0, u "java/lang/CharSequence$1CharIterator"), (5, .class_ 67), (0, u "java/lang/Object")] 63

/-- java/lang/CharSequence -/
def k5 : Class := { plain "java/lang/CharSequence" (some 0) with
  accessFlags := 1537
  interfaces := #[]
  cf := some (fileOf pool5 2 #[.nestMembers #[47, 59]] #[] 1537 66 #[] #[])
  fields := #[]
  methods := #[]
  instanceTypes := #[]
  staticTypes := #[]
  resolved := Array.replicate 131 none
  statics := none }

def pool6 : Array CpInfo := pool [(1, .class_ 2), (0, u "java/lang/constant/Constable"), (0, .class_ 4), (0, u "java/lang/Object")] 6

/-- java/lang/constant/Constable -/
def k6 : Class := { plain "java/lang/constant/Constable" (some 0) with
  accessFlags := 1537
  interfaces := #[]
  cf := some (fileOf pool6 1 #[] #[] 1537 3 #[] #[])
  fields := #[]
  methods := #[]
  instanceTypes := #[]
  staticTypes := #[]
  resolved := Array.replicate 11 none
  statics := none }

def pool7 : Array CpInfo := pool [(1, .class_ 2), (0, u "java/lang/constant/ConstantDesc"), (0, .class_ 4), (0, u "java/lang/Object")] 32

/-- java/lang/constant/ConstantDesc -/
def k7 : Class := { plain "java/lang/constant/ConstantDesc" (some 0) with
  accessFlags := 1537
  interfaces := #[]
  cf := some (fileOf pool7 1 #[] #[] 1537 3 #[] #[])
  fields := #[]
  methods := #[]
  instanceTypes := #[]
  staticTypes := #[]
  resolved := Array.replicate 37 none
  statics := none }

def pool8 : Array CpInfo := pool [(2, .class_ 4), (1, u "java/lang/Object"), (0, u "<init>"), (0, u "()V"), (2, .fieldref 10 11), (0, .class_ 12), (0, .nameAndType 13 14), (0, u "java/lang/String"), (0, u "value"), (0, u "[B"), (0, .fieldref 10 16), (0, .nameAndType 17 18), (0, u "coder"), (0, u "B"), (2, u "hash"), (0, u "I"), (2, u "hashIsZero"), (0, u "Z"), (11, .fieldref 10 39), (0, .nameAndType 40 26), (0, u "COMPACT_STRINGS"), (66, .class_ 109), (1, u "java/lang/StringLatin1"), (32, u "()Z"), (220, u "([BI)C"), (27, u "(II)V"), (35, u "(I)C"), (64, .methodref 10 493), (0, .nameAndType 494 142), (0, u "isLatin1"), (0, .methodref 107 496), (0, .nameAndType 497 363), (0, u "charAt"), (3, u "checkIndex"), (73, .class_ 576), (0, u "java/lang/CharSequence"), (22, u "CASE_INSENSITIVE_ORDER"), (0, u "Ljava/util/Comparator;"), (452, .fieldref 1054 1055), (0, .class_ 1056), (0, .nameAndType 1057 1058), (0, u "jdk/internal/util/Preconditions"), (0, u "SIOOBE_FORMATTER"), (0, u "Ljava/util/function/BiFunction;"), (0, .methodref 1054 1060), (0, .nameAndType 501 1061), (0, u "(IILjava/util/function/BiFunction;)I"), (39, u "serialPersistentFields"), (0, u "[Ljava/io/ObjectStreamField;"), (0, .class_ 1104), (0, u "java/lang/String$CaseInsensitiveComparator"), (1, .class_ 1107), (0, u "java/io/Serializable"), (0, .class_ 1109), (0, u "java/lang/Comparable"), (0, .class_ 1111), (0, u "java/lang/constant/Constable"), (0, .class_ 1113), (0, u "java/lang/constant/ConstantDesc"), (2, u "serialVersionUID"), (0, u "J"), (3, u "REPL"), (0, u "C"), (2, u "LATIN1"), (1, u "UTF16")] 323

def k8m0 : Method := { name := "<init>", desc := "()V", sig := { parameters := [], returnType := none }, accessFlags := 1, code := none }
def k8c1 : Code := { maxStack := 2, maxLocals := 2, code := jdk_42_method_56_code, exceptionTable := #[], attributes := #[] }
def k8m1 : Method := { name := "charAt", desc := "(I)C", sig := { parameters := [.int], returnType := some .char }, accessFlags := 1, code := some k8c1 }
def k8c2 : Code := { maxStack := 1, maxLocals := 1, code := jdk_42_method_154_code, exceptionTable := #[], attributes := #[] }
def k8m2 : Method := { name := "isLatin1", desc := "()Z", sig := { parameters := [], returnType := some .boolean }, accessFlags := 0, code := some k8c2 }
def k8c3 : Code := { maxStack := 3, maxLocals := 2, code := jdk_42_method_155_code, exceptionTable := #[], attributes := #[] }
def k8m3 : Method := { name := "checkIndex", desc := "(II)V", sig := { parameters := [.int, .int], returnType := none }, accessFlags := 8, code := some k8c3 }
/-- java/lang/String -/
def k8 : Class := { plain "java/lang/String" (some 0) with
  accessFlags := 49
  interfaces := #[3, 4, 5, 6, 7]
  cf := some (fileOf pool8 10 #[.nestMembers #[1103]] #[{ accessFlags := 1, nameIndex := 5, descriptorIndex := 6, attributes := #[] }, { accessFlags := 1, nameIndex := 497, descriptorIndex := 427, attributes := #[] }, { accessFlags := 0, nameIndex := 494, descriptorIndex := 142, attributes := #[] }, { accessFlags := 8, nameIndex := 501, descriptorIndex := 391, attributes := #[] }] 49 2 #[1106, 1108, 575, 1110, 1112] #[{ accessFlags := 18, nameIndex := 13, descriptorIndex := 14, attributes := #[] }, { accessFlags := 18, nameIndex := 17, descriptorIndex := 18, attributes := #[] }, { accessFlags := 2, nameIndex := 21, descriptorIndex := 22, attributes := #[] }, { accessFlags := 2, nameIndex := 25, descriptorIndex := 26, attributes := #[] }, { accessFlags := 26, nameIndex := 1116, descriptorIndex := 1117, attributes := #[] }, { accessFlags := 24, nameIndex := 40, descriptorIndex := 26, attributes := #[] }, { accessFlags := 26, nameIndex := 1101, descriptorIndex := 1102, attributes := #[] }, { accessFlags := 26, nameIndex := 1121, descriptorIndex := 1122, attributes := #[] }, { accessFlags := 25, nameIndex := 599, descriptorIndex := 600, attributes := #[] }, { accessFlags := 24, nameIndex := 1125, descriptorIndex := 18, attributes := #[] }, { accessFlags := 24, nameIndex := 1127, descriptorIndex := 18, attributes := #[] }])
  fields := #[{ name := "value", type := (.array .byte), accessFlags := 18, slot := 0, constantValue := 0 }, { name := "coder", type := .byte, accessFlags := 18, slot := 1, constantValue := 0 }, { name := "hash", type := .int, accessFlags := 2, slot := 2, constantValue := 0 }, { name := "hashIsZero", type := .boolean, accessFlags := 2, slot := 3, constantValue := 0 }, { name := "serialVersionUID", type := .long, accessFlags := 26, slot := 0, constantValue := 0 }, { name := "COMPACT_STRINGS", type := .boolean, accessFlags := 24, slot := 1, constantValue := 0 }, { name := "serialPersistentFields", type := (.array (.object "java/io/ObjectStreamField")), accessFlags := 26, slot := 2, constantValue := 0 }, { name := "REPL", type := .char, accessFlags := 26, slot := 3, constantValue := 0 }, { name := "CASE_INSENSITIVE_ORDER", type := (.object "java/util/Comparator"), accessFlags := 25, slot := 4, constantValue := 0 }, { name := "LATIN1", type := .byte, accessFlags := 24, slot := 5, constantValue := 0 }, { name := "UTF16", type := .byte, accessFlags := 24, slot := 6, constantValue := 0 }]
  methods := #[k8m0, k8m1, k8m2, k8m3]
  instanceTypes := #[(.array .byte), .byte, .int, .boolean]
  staticTypes := #[.long, .boolean, (.array (.object "java/io/ObjectStreamField")), .char, (.object "java/util/Comparator"), .byte, .byte]
  resolved := Array.replicate 1451 none
  statics := some 0 }

def pool9 : Array CpInfo := pool [(1, .class_ 2), (0, u "java/lang/String"), (1, .class_ 6), (1, u "java/lang/Object"), (0, u "<init>"), (0, u "()V"), (0, .methodref 1 10), (0, .nameAndType 11 12), (0, u "checkIndex"), (0, u "(II)V"), (1, .class_ 16), (1, u "java/lang/StringLatin1"), (36, u "([BI)C"), (67, u "$assertionsDisabled"), (0, u "Z"), (98, .class_ 223), (1, u "java/lang/StringLatin1$LinesSpliterator"), (28, u "charAt"), (137, .class_ 391), (0, u "java/lang/StringLatin1$CharsSpliterator")] 3

def k9m0 : Method := { name := "<init>", desc := "()V", sig := { parameters := [], returnType := none }, accessFlags := 0, code := none }
def k9c1 : Code := { maxStack := 2, maxLocals := 2, code := jdk_43_method_2_code, exceptionTable := #[], attributes := #[] }
def k9m1 : Method := { name := "charAt", desc := "([BI)C", sig := { parameters := [(.array .byte), .int], returnType := some .char }, accessFlags := 9, code := some k9c1 }
/-- java/lang/StringLatin1 -/
def k9 : Class := { plain "java/lang/StringLatin1" (some 0) with
  accessFlags := 48
  interfaces := #[]
  cf := some (fileOf pool9 14 #[.nestMembers #[390, 221]] #[{ accessFlags := 0, nameIndex := 7, descriptorIndex := 8, attributes := #[] }, { accessFlags := 9, nameIndex := 252, descriptorIndex := 53, attributes := #[] }] 48 4 #[] #[{ accessFlags := 4120, nameIndex := 121, descriptorIndex := 122, attributes := #[] }])
  fields := #[{ name := "$assertionsDisabled", type := .boolean, accessFlags := 4120, slot := 0, constantValue := 0 }]
  methods := #[k9m0, k9m1]
  instanceTypes := #[]
  staticTypes := #[.boolean]
  resolved := Array.replicate 395 none
  statics := none }

def pool10 : Array CpInfo := pool [(2, .class_ 4), (1, u "java/lang/Object"), (0, u "<init>"), (0, u "()V"), (17, .class_ 26), (1, u "jdk/internal/util/Preconditions"), (6, u "checkIndex"), (21, .class_ 56), (0, u "jdk/internal/util/Preconditions$4"), (57, .class_ 115), (0, u "jdk/internal/util/Preconditions$1"), (7, u "SIOOBE_FORMATTER"), (0, u "Ljava/util/function/BiFunction;"), (0, .class_ 126), (0, u "jdk/internal/util/Preconditions$2"), (3, u "AIOOBE_FORMATTER"), (0, .class_ 132), (0, u "jdk/internal/util/Preconditions$3"), (3, u "IOOBE_FORMATTER"), (41, u "(IILjava/util/function/BiFunction;)I")] 15

def k10m0 : Method := { name := "<init>", desc := "()V", sig := { parameters := [], returnType := none }, accessFlags := 1, code := none }
def k10c1 : Code := { maxStack := 3, maxLocals := 3, code := jdk_41_method_11_code, exceptionTable := #[], attributes := #[] }
def k10m1 : Method := { name := "checkIndex", desc := "(IILjava/util/function/BiFunction;)I", sig := { parameters := [.int, .int, (.object "java/util/function/BiFunction")], returnType := some .int }, accessFlags := 9, code := some k10c1 }
/-- jdk/internal/util/Preconditions -/
def k10 : Class := { plain "jdk/internal/util/Preconditions" (some 0) with
  accessFlags := 33
  interfaces := #[]
  cf := some (fileOf pool10 24 #[.nestMembers #[55, 131, 125, 114]] #[{ accessFlags := 1, nameIndex := 5, descriptorIndex := 6, attributes := #[] }, { accessFlags := 9, nameIndex := 33, descriptorIndex := 178, attributes := #[] }] 33 2 #[] #[{ accessFlags := 25, nameIndex := 123, descriptorIndex := 124, attributes := #[] }, { accessFlags := 25, nameIndex := 130, descriptorIndex := 124, attributes := #[] }, { accessFlags := 25, nameIndex := 136, descriptorIndex := 124, attributes := #[] }])
  fields := #[{ name := "SIOOBE_FORMATTER", type := (.object "java/util/function/BiFunction"), accessFlags := 25, slot := 0, constantValue := 0 }, { name := "AIOOBE_FORMATTER", type := (.object "java/util/function/BiFunction"), accessFlags := 25, slot := 1, constantValue := 0 }, { name := "IOOBE_FORMATTER", type := (.object "java/util/function/BiFunction"), accessFlags := 25, slot := 2, constantValue := 0 }]
  methods := #[k10m0, k10m1]
  instanceTypes := #[]
  staticTypes := #[(.object "java/util/function/BiFunction"), (.object "java/util/function/BiFunction"), (.object "java/util/function/BiFunction")]
  resolved := Array.replicate 194 none
  statics := some 1 }

def pool11 : Array CpInfo := pool [(9, u "<init>"), (6, .class_ 18), (1, u "java/lang/Object"), (0, u "()V"), (1, .class_ 23), (1, u "jdk/internal/util/ArraysSupport"), (0, u "LOG2_ARRAY_LONG_INDEX_SCALE"), (0, u "I"), (2, u "U"), (0, u "Ljdk/internal/misc/Unsafe;"), (8, u "BIG_ENDIAN"), (0, u "Z"), (8, u "LOG2_BYTE_BIT_SIZE"), (4, u "LOG2_ARRAY_INT_INDEX_SCALE"), (54, u "JLA"), (0, u "Ljdk/internal/access/JavaLangAccess;"), (11, u "LOG2_ARRAY_BOOLEAN_INDEX_SCALE"), (9, u "LOG2_ARRAY_BYTE_INDEX_SCALE"), (5, u "LOG2_ARRAY_CHAR_INDEX_SCALE"), (5, u "LOG2_ARRAY_SHORT_INDEX_SCALE"), (18, u "LOG2_ARRAY_FLOAT_INDEX_SCALE"), (24, u "LOG2_ARRAY_DOUBLE_INDEX_SCALE"), (89, u "T_BOOLEAN"), (2, u "T_CHAR"), (1, u "T_FLOAT"), (1, u "T_DOUBLE"), (1, u "T_BYTE"), (1, u "T_SHORT"), (1, u "T_INT"), (1, u "T_LONG"), (1, u "SOFT_MAX_ARRAY_LENGTH")] 83

def k11m0 : Method := { name := "<init>", desc := "()V", sig := { parameters := [], returnType := none }, accessFlags := 2, code := none }
/-- jdk/internal/util/ArraysSupport -/
def k11 : Class := { plain "jdk/internal/util/ArraysSupport" (some 0) with
  accessFlags := 33
  interfaces := #[]
  cf := some (fileOf pool11 21 #[] #[{ accessFlags := 2, nameIndex := 9, descriptorIndex := 19, attributes := #[] }] 33 16 #[] #[{ accessFlags := 24, nameIndex := 28, descriptorIndex := 29, attributes := #[] }, { accessFlags := 26, nameIndex := 38, descriptorIndex := 39, attributes := #[] }, { accessFlags := 25, nameIndex := 121, descriptorIndex := 25, attributes := #[] }, { accessFlags := 25, nameIndex := 131, descriptorIndex := 25, attributes := #[] }, { accessFlags := 25, nameIndex := 137, descriptorIndex := 25, attributes := #[] }, { accessFlags := 25, nameIndex := 143, descriptorIndex := 25, attributes := #[] }, { accessFlags := 25, nameIndex := 53, descriptorIndex := 25, attributes := #[] }, { accessFlags := 25, nameIndex := 24, descriptorIndex := 25, attributes := #[] }, { accessFlags := 25, nameIndex := 162, descriptorIndex := 25, attributes := #[] }, { accessFlags := 25, nameIndex := 187, descriptorIndex := 25, attributes := #[] }, { accessFlags := 26, nameIndex := 48, descriptorIndex := 25, attributes := #[] }, { accessFlags := 25, nameIndex := 277, descriptorIndex := 25, attributes := #[] }, { accessFlags := 25, nameIndex := 280, descriptorIndex := 25, attributes := #[] }, { accessFlags := 25, nameIndex := 282, descriptorIndex := 25, attributes := #[] }, { accessFlags := 25, nameIndex := 284, descriptorIndex := 25, attributes := #[] }, { accessFlags := 25, nameIndex := 286, descriptorIndex := 25, attributes := #[] }, { accessFlags := 25, nameIndex := 288, descriptorIndex := 25, attributes := #[] }, { accessFlags := 25, nameIndex := 290, descriptorIndex := 25, attributes := #[] }, { accessFlags := 25, nameIndex := 292, descriptorIndex := 25, attributes := #[] }, { accessFlags := 26, nameIndex := 108, descriptorIndex := 109, attributes := #[] }, { accessFlags := 25, nameIndex := 294, descriptorIndex := 25, attributes := #[] }])
  fields := #[{ name := "U", type := (.object "jdk/internal/misc/Unsafe"), accessFlags := 24, slot := 0, constantValue := 0 }, { name := "BIG_ENDIAN", type := .boolean, accessFlags := 26, slot := 1, constantValue := 0 }, { name := "LOG2_ARRAY_BOOLEAN_INDEX_SCALE", type := .int, accessFlags := 25, slot := 2, constantValue := 0 }, { name := "LOG2_ARRAY_BYTE_INDEX_SCALE", type := .int, accessFlags := 25, slot := 3, constantValue := 0 }, { name := "LOG2_ARRAY_CHAR_INDEX_SCALE", type := .int, accessFlags := 25, slot := 4, constantValue := 0 }, { name := "LOG2_ARRAY_SHORT_INDEX_SCALE", type := .int, accessFlags := 25, slot := 5, constantValue := 0 }, { name := "LOG2_ARRAY_INT_INDEX_SCALE", type := .int, accessFlags := 25, slot := 6, constantValue := 0 }, { name := "LOG2_ARRAY_LONG_INDEX_SCALE", type := .int, accessFlags := 25, slot := 7, constantValue := 0 }, { name := "LOG2_ARRAY_FLOAT_INDEX_SCALE", type := .int, accessFlags := 25, slot := 8, constantValue := 0 }, { name := "LOG2_ARRAY_DOUBLE_INDEX_SCALE", type := .int, accessFlags := 25, slot := 9, constantValue := 0 }, { name := "LOG2_BYTE_BIT_SIZE", type := .int, accessFlags := 26, slot := 10, constantValue := 0 }, { name := "T_BOOLEAN", type := .int, accessFlags := 25, slot := 11, constantValue := 0 }, { name := "T_CHAR", type := .int, accessFlags := 25, slot := 12, constantValue := 0 }, { name := "T_FLOAT", type := .int, accessFlags := 25, slot := 13, constantValue := 0 }, { name := "T_DOUBLE", type := .int, accessFlags := 25, slot := 14, constantValue := 0 }, { name := "T_BYTE", type := .int, accessFlags := 25, slot := 15, constantValue := 0 }, { name := "T_SHORT", type := .int, accessFlags := 25, slot := 16, constantValue := 0 }, { name := "T_INT", type := .int, accessFlags := 25, slot := 17, constantValue := 0 }, { name := "T_LONG", type := .int, accessFlags := 25, slot := 18, constantValue := 0 }, { name := "JLA", type := (.object "jdk/internal/access/JavaLangAccess"), accessFlags := 26, slot := 19, constantValue := 0 }, { name := "SOFT_MAX_ARRAY_LENGTH", type := .int, accessFlags := 25, slot := 20, constantValue := 0 }]
  methods := #[k11m0]
  instanceTypes := #[]
  staticTypes := #[(.object "jdk/internal/misc/Unsafe"), .boolean, .int, .int, .int, .int, .int, .int, .int, .int, .int, .int, .int, .int, .int, .int, .int, .int, .int, (.object "jdk/internal/access/JavaLangAccess"), .int]
  resolved := Array.replicate 378 none
  statics := none }

def pool12 : Array CpInfo := pool [(1, u "java/lang/Cloneable"), (0, .class_ 1), (0, u "java/lang/Object"), (0, .class_ 3)] 3

/-- java/lang/Cloneable -/
def k12 : Class := { plain "java/lang/Cloneable" (some 0) with
  accessFlags := 1537
  interfaces := #[]
  cf := some (fileOf pool12 2 #[] #[] 1537 4 #[] #[])
  fields := #[]
  methods := #[]
  instanceTypes := #[]
  staticTypes := #[]
  resolved := Array.replicate 8 none
  statics := none }

/-- the primitive byte -/
def k13 : Class := { plain "byte" none with kind := .primitive 'B', accessFlags := 0x411 }
/-- [B -/
def k14 : Class := { plain "[B" (some 0) with kind := .array 13 .byte, interfaces := #[12, 3], accessFlags := 1041 }

/-- the primitive int -/
def k15 : Class := { plain "int" none with kind := .primitive 'I', accessFlags := 0x411 }
/-- [I -/
def k16 : Class := { plain "[I" (some 0) with kind := .array 15 .int, interfaces := #[12, 3], accessFlags := 1041 }

def heap : Heap := #[{ cls := 8, slots := #[.long 0, .int 1, .null, .int 0, .null, .int 0, .int 0], vm := .statics 8 },
  { cls := 10, slots := #[.null, .null, .null], vm := .statics 10 }]
def classes : Array Class := #[k0, k1, k2, k3, k4, k5, k6, k7, k8, k9, k10, k11, k12, k13, k14, k15, k16]
def interned : List (Array UInt16 × Addr) := []
def slotsUsed : Nat := 10
def theMethod : MethodId := ⟨1, 1⟩
def args0 : Array Value := #[.int 49, .int 3]
def aboutOver (below : List Frame) : State where
  vm := { classes := classes, interned := interned.toArray }
  heap := heap
  slotsUsed := slotsUsed
  threads := #[{ frames := .invoking theMethod args0 :: below }]
def below0 : List Frame := [.native { method := ⟨0, 0⟩, args := #[] }]
def about1 : State := aboutOver below0
def p0 : Program := .bare "" "" ""
def e0 : Env := launch0.env 0 0 0
theorem w_frames : about1.frames = Frame.invoking theMethod args0 :: below0 := rfl
set_option maxRecDepth 65536 in
theorem w_args : argsFit about1.vm theMethod args0 = true := by decide +kernel
set_option maxRecDepth 65536 in
theorem w_heap : heapFits about1 = true := by decide +kernel
set_option maxRecDepth 65536 in
theorem w_runnable : about1.curStatus? = some .runnable := by decide +kernel
set_option maxRecDepth 65536 in
theorem w_alone : about1.alone = true := by decide +kernel
set_option maxRecDepth 65536 in
theorem w_named : about1.methodNamed? x = some theMethod := by decide +kernel
set_option maxRecDepth 65536 in
theorem w_hears : about1.hears theMethod below0 = true := by decide +kernel
set_option maxRecDepth 65536 in
theorem w_ripe : about1.ripe theMethod args0 below0 = true := by decide +kernel
theorem w_running : about1.status = .running := rfl
set_option maxRecDepth 65536 in
theorem w_room : about1.hasRoom e0.platform room_1 = true :=
  launch0.hasRoom_least _ room_1 (by decide +kernel) (by decide +kernel) (by decide +kernel) (by decide +kernel) (by decide +kernel) (by decide +kernel)
theorem allAtoms_all (ts : List Jvm.Cond) (a : Array Jvm.Value) (st : Jvm.State) : (allAtoms ts).before a st = ts.all (fun c => c.before a st) := by
  induction ts with
  | nil => rfl
  | cons c t ih =>
    show (Jvm.Cond.and c (allAtoms t)).before a st = _
    rw [Jvm.Cond.before_and, ih, List.all_cons]
def words1 : List Jvm.Cond := Jvm.Cond.code x code maxLocals ret :: tables_1
/-- a 'code' word, met by the world's own term for the bytes: nothing is compared byte by byte -/
theorem code_word {y : MethodName} {bytes : ByteArray} {mx : Nat} {rt : Option FieldType} {a : Array Value} {s : State} {m : MethodId} {meth : Method} {c : Code} (h1 : s.methodNamed? y = some m) (h2 : s.vm.method? m = some meth) (h3 : meth.code = some c) (h4 : c.code = bytes)
    (h5 : (c.maxLocals == mx && c.exceptionTable.isEmpty && decide (c.maxStack ≤ mostOperands) && decide (meth.sig.returnType = rt) && !meth.locks && decide (parseMethodDescriptor y.desc = some meth.sig)) = true) : (Jvm.Cond.code y bytes mx rt).before a s = true := by
  simp only [Bool.and_eq_true, beq_iff_eq, Bool.not_eq_true', decide_eq_true_eq] at h5
  obtain ⟨⟨⟨⟨⟨g1, g2⟩, g3⟩, g4⟩, g5⟩, g6⟩ := h5
  simp [Cond.before, Cond.holds, Cond.value, h1, h2, h3, h4, g1, g2, g3, g4, g5, g6]
def isCode : Jvm.Cond → Bool
  | .code _ _ _ _ => true
  | _ => false
theorem all_split {L : List Jvm.Cond} {P : Jvm.Cond → Bool} (h1 : L.all (fun c => isCode c || P c) = true) (h2 : ∀ c ∈ L.filter isCode, P c = true) : L.all P = true := by
  refine List.all_eq_true.mpr fun c hc => ?_
  have h := List.all_eq_true.mp h1 c hc
  rcases Bool.eq_false_or_eq_true (isCode c) with hi | hi
  · exact h2 c (List.mem_filter.mpr ⟨hc, hi⟩)
  · simpa [hi] using h
set_option maxRecDepth 65536 in
theorem w_c0 : (Jvm.Cond.code x code maxLocals ret).before args0 about1 = true := code_word (m := ⟨1, 1⟩) (meth := k1m1) (c := k1c1) (by decide +kernel) rfl rfl rfl (by decide +kernel)
set_option maxRecDepth 65536 in
theorem w_c1 : (Jvm.Cond.code ({ cls := "com/example/ledgerhall/ledgerhall/AccountLayout", name := "isDigit", desc := "(I)Z" } : Jvm.MethodName) prog_4_method_3_code (1 : Nat) (Option.some Jvm.ClassFile.FieldType.boolean)).before args0 about1 = true := code_word (m := ⟨2, 1⟩) (meth := k2m1) (c := k2c1) (by decide +kernel) rfl rfl rfl (by decide +kernel)
set_option maxRecDepth 65536 in
theorem w_c2 : (Jvm.Cond.code ({ cls := "java/lang/String", name := "charAt", desc := "(I)C" } : Jvm.MethodName) jdk_42_method_56_code (2 : Nat) (Option.some Jvm.ClassFile.FieldType.char)).before args0 about1 = true := code_word (m := ⟨8, 1⟩) (meth := k8m1) (c := k8c1) (by decide +kernel) rfl rfl rfl (by decide +kernel)
set_option maxRecDepth 65536 in
theorem w_c3 : (Jvm.Cond.code ({ cls := "java/lang/String", name := "isLatin1", desc := "()Z" } : Jvm.MethodName) jdk_42_method_154_code (1 : Nat) (Option.some Jvm.ClassFile.FieldType.boolean)).before args0 about1 = true := code_word (m := ⟨8, 2⟩) (meth := k8m2) (c := k8c2) (by decide +kernel) rfl rfl rfl (by decide +kernel)
set_option maxRecDepth 65536 in
theorem w_c4 : (Jvm.Cond.code ({ cls := "java/lang/StringLatin1", name := "charAt", desc := "([BI)C" } : Jvm.MethodName) jdk_43_method_2_code (2 : Nat) (Option.some Jvm.ClassFile.FieldType.char)).before args0 about1 = true := code_word (m := ⟨9, 1⟩) (meth := k9m1) (c := k9c1) (by decide +kernel) rfl rfl rfl (by decide +kernel)
set_option maxRecDepth 65536 in
theorem w_c5 : (Jvm.Cond.code ({ cls := "java/lang/String", name := "checkIndex", desc := "(II)V" } : Jvm.MethodName) jdk_42_method_155_code (2 : Nat) (Option.none : Option Jvm.ClassFile.FieldType)).before args0 about1 = true := code_word (m := ⟨8, 3⟩) (meth := k8m3) (c := k8c3) (by decide +kernel) rfl rfl rfl (by decide +kernel)
set_option maxRecDepth 65536 in
theorem w_c6 : (Jvm.Cond.code ({ cls := "jdk/internal/util/Preconditions", name := "checkIndex", desc := "(IILjava/util/function/BiFunction;)I" } : Jvm.MethodName) jdk_41_method_11_code (3 : Nat) (Option.some Jvm.ClassFile.FieldType.int)).before args0 about1 = true := code_word (m := ⟨10, 1⟩) (meth := k10m1) (c := k10c1) (by decide +kernel) rfl rfl rfl (by decide +kernel)
def codes1 : List Jvm.Cond := [Jvm.Cond.code x code maxLocals ret, Jvm.Cond.code ({ cls := "com/example/ledgerhall/ledgerhall/AccountLayout", name := "isDigit", desc := "(I)Z" } : Jvm.MethodName) prog_4_method_3_code (1 : Nat) (Option.some Jvm.ClassFile.FieldType.boolean), Jvm.Cond.code ({ cls := "java/lang/String", name := "charAt", desc := "(I)C" } : Jvm.MethodName) jdk_42_method_56_code (2 : Nat) (Option.some Jvm.ClassFile.FieldType.char), Jvm.Cond.code ({ cls := "java/lang/String", name := "isLatin1", desc := "()Z" } : Jvm.MethodName) jdk_42_method_154_code (1 : Nat) (Option.some Jvm.ClassFile.FieldType.boolean), Jvm.Cond.code ({ cls := "java/lang/StringLatin1", name := "charAt", desc := "([BI)C" } : Jvm.MethodName) jdk_43_method_2_code (2 : Nat) (Option.some Jvm.ClassFile.FieldType.char), Jvm.Cond.code ({ cls := "java/lang/String", name := "checkIndex", desc := "(II)V" } : Jvm.MethodName) jdk_42_method_155_code (2 : Nat) (Option.none : Option Jvm.ClassFile.FieldType), Jvm.Cond.code ({ cls := "jdk/internal/util/Preconditions", name := "checkIndex", desc := "(IILjava/util/function/BiFunction;)I" } : Jvm.MethodName) jdk_41_method_11_code (3 : Nat) (Option.some Jvm.ClassFile.FieldType.int)]
set_option maxRecDepth 65536 in
theorem codes_eq : words1.filter isCode = codes1 := rfl
theorem w_codes : ∀ c ∈ words1.filter isCode, c.before args0 about1 = true := by
  rw [codes_eq]
  intro c hc
  simp only [codes1, List.mem_cons, List.not_mem_nil, or_false] at hc
  rcases hc with rfl | rfl | rfl | rfl | rfl | rfl | rfl
  · exact w_c0
  · exact w_c1
  · exact w_c2
  · exact w_c3
  · exact w_c4
  · exact w_c5
  · exact w_c6
set_option maxRecDepth 65536 in
theorem w_t1 : (words1.take 24).all (fun c => isCode c || c.before args0 about1) = true := by decide +kernel
set_option maxRecDepth 65536 in
theorem w_t2 : (words1.drop 24).all (fun c => isCode c || c.before args0 about1) = true := by decide +kernel
theorem w_tables : (allAtoms (Jvm.Cond.code x code maxLocals ret :: tables_1)).before args0 about1 = true := by
  rw [allAtoms_all]
  show words1.all (fun c => c.before args0 about1) = true
  refine all_split ?_ w_codes
  rw [← List.take_append_drop 24 words1, List.all_append, w_t1, w_t2]
  rfl
set_option maxRecDepth 65536 in
theorem w_rest : rest_1_c.before args0 about1 = true := by decide +kernel
set_option maxRecDepth 65536 in
theorem w_case : (Jvm.Cond.and given_1 narrow_1).before args0 about1 = true := by decide +kernel
set_option maxRecDepth 65536 in
theorem w_consts : constsHeld consts_1 about1 := Jvm.Lit.constsHeldB_iff.mp (by decide +kernel)
theorem w_applies : (headSpec (Jvm.Cond.code x code maxLocals ret :: tables_1) room_1).applies x e0.platform about1 = true :=
  (Spec.applies_iff w_frames).mpr ⟨w_running, w_runnable, w_alone, w_named, w_hears, w_ripe, w_room, w_tables⟩
theorem atStart : AtStart classFile x code maxLocals ret World_1 tables_1 room_1 Calls_1 rest_1 Pre_1 launch0 p0 e0 about1 theMethod args0 below0 :=
  ⟨lists_1, trivial, launch0.admits_env _ _ _, launch0.least_env, fairChoices_fair.cas, fairChoices_fair.clock, w_frames, w_args, w_heap, w_applies, ⟨w_consts, trivial⟩, w_rest, w_case⟩
end start1
theorem witness_1 : WitnessClaimed_1 := ⟨start1.p0, start1.e0, start1.about1, start1.theMethod, start1.args0, start1.below0, start1.atStart⟩
end Jvm.Pilot.@@N@@
