import JvmDerived
import JvmDerived.Pilot.@@N@@Statement
import JvmDerived.Pilot.@@N@@Code
set_option linter.unusedVariables false
set_option linter.unusedSimpArgs false
@@BLOCK:NumsL.lean.txt@@
namespace Jvm.Pilot.@@N@@
open Jvm Jvm.ClassFile Sem Op Lib Jvm.Free Jvm.Stand Jvm.LawKit Jvm.RoadKit Bundle Jvm.Pilot.@@N@@.Jvm.D
theorem own_hide {p : Program} {l : Launch} {e : Env} {R : Room} {s : State} {m : MethodId} {args : Array Value} {below : List Frame} {meth : Method} {c : Code} {T : State} {locs : List Loc} {cells slots n0 : Nat} (X : Stand p l e R s m args below meth c T locs cells slots) (N : Fr n0 locs) : ∃ Ls, Stand p l e R s m args below meth c T Ls cells slots ∧ Fr n0 Ls := ⟨_, X, N⟩
theorem d10_0 : decode prog_13_method_9_code 0 = .ok (.aload_n 0, 1) := by decide +kernel
theorem d10_1 : decode prog_13_method_9_code 1 = .ok (.getfield 114, 3) := by decide +kernel
theorem d10_4 : decode prog_13_method_9_code 4 = .ok (.areturn, 1) := by decide +kernel
theorem pn_0 : plainName "com/example/ledgerhall/ledgerhall/DeductionType" = true := by first | (simp [plainName, overriddenIn]; done) | decide +kernel
theorem ef_10 (mM : MethodId) (x0 : Addr) : entryFrame mM #[(.ref x0)] 1 = mkF mM 0 #[.val (.ref x0)] [] := by first | (simp [entryFrame, mkF, argsToLocals, Value.category]; done) | rfl
def Q10 (Z : State) (x : Addr) (a_ALLOWED : Addr) (a_NEVER : Addr) (a_ALWAYS : Addr) (h0 : Heap) (n0 : Nat) (v : Option Value) (h : Heap) (L : List Loc) : Prop := v = some (.ref a_ALLOWED) ∧ Fr n0 L ∧ h = h0
set_option maxRecDepth 65536 in
set_option maxHeartbeats 40000000 in
theorem rm10 (l : Launch) (Z : State) (a0 : Array Value) (hw : ∀ d ∈ tables_1, d.before a0 Z = true) (ws : List Jvm.Cond) (x : Addr) (a_ALLOWED : Addr) (a_NEVER : Addr) (a_ALWAYS : Addr) (h0 : Heap) (n0 : Nat) (Z0 : n0 ≤ h0.size) (O : Old Z n0 h0) (S_ALLOWED : Sta Z Z.heap "com/example/ledgerhall/ledgerhall/DeductionType$Cafe125" "ALLOWED" "Lcom/example/ledgerhall/ledgerhall/DeductionType$Cafe125;" (.ref a_ALLOWED)) (E_ALLOWED : Exa Z Z.heap a_ALLOWED "com/example/ledgerhall/ledgerhall/DeductionType$Cafe125") (S_NEVER : Sta Z Z.heap "com/example/ledgerhall/ledgerhall/DeductionType$Cafe125" "NEVER" "Lcom/example/ledgerhall/ledgerhall/DeductionType$Cafe125;" (.ref a_NEVER)) (E_NEVER : Exa Z Z.heap a_NEVER "com/example/ledgerhall/ledgerhall/DeductionType$Cafe125") (S_ALWAYS : Sta Z Z.heap "com/example/ledgerhall/ledgerhall/DeductionType$Cafe125" "ALWAYS" "Lcom/example/ledgerhall/ledgerhall/DeductionType$Cafe125;" (.ref a_ALWAYS)) (E_ALWAYS : Exa Z Z.heap a_ALWAYS "com/example/ledgerhall/ledgerhall/DeductionType$Cafe125") (F_NEVER_ordinal : Fld Z Z.heap a_NEVER "java/lang/Enum" "ordinal" "I" (.int (1 : Int32))) (F_ALLOWED_ordinal : Fld Z Z.heap a_ALLOWED "java/lang/Enum" "ordinal" "I" (.int (0 : Int32))) (F_ALWAYS_ordinal : Fld Z Z.heap a_ALWAYS "java/lang/Enum" "ordinal" "I" (.int (2 : Int32))) (E_x : Exa Z h0 x "com/example/ledgerhall/ledgerhall/DeductionType") (F_x : Fld Z h0 x "com/example/ledgerhall/ledgerhall/DeductionType" "cafe125" "Lcom/example/ledgerhall/ledgerhall/DeductionType$Cafe125;" (.ref a_ALLOWED)) :
    MetFree l (⟨"com/example/ledgerhall/ledgerhall/DeductionType", "cafe125", "()Lcom/example/ledgerhall/ledgerhall/DeductionType$Cafe125;"⟩ : MethodName) (head1 (Jvm.Cond.code (⟨"com/example/ledgerhall/ledgerhall/DeductionType", "cafe125", "()Lcom/example/ledgerhall/ledgerhall/DeductionType$Cafe125;"⟩ : MethodName) prog_13_method_9_code 1 (some (.object "com/example/ledgerhall/ledgerhall/DeductionType$Cafe125")) :: ws) ({ frames := 0, cells := 0, slots := 0, locals := 0 } : Room)) (fun aA uU => aA = #[(.ref x)] ∧ Z.Warmed39 uU.vm ∧ uU.heap = h0) (fun _ _ _ _ _ => True) (fun _ uU oO uU' => ∃ vV lL, oO = .returned vV ∧ Q10 Z x a_ALLOWED a_NEVER a_ALWAYS h0 n0 vV uU'.heap lL ∧ FrameEnd uU oO uU' lL ({ frames := 0, cells := 0, slots := 0, locals := 0 } : Room).cells ({ frames := 0, cells := 0, slots := 0, locals := 0 } : Room).slots) := by
  refine MetFree.of_bodySF (plainFor_of_name pn_0) hisR ?_
  intro pP eE sS mM args below meth cC s₁ Bd hml0 hP hK
  obtain ⟨rfl, hZ, hh⟩ := hP
  have hx := Bd.exec
  have hby := Bd.bytes
  have hml : cC.maxLocals = 1 := hml0
  have hown : sS.vm.findClass "com/example/ledgerhall/ledgerhall/DeductionType" = some mM.cls := findClass_of_methodNamed Bd.named
  have hnm := (name_of_methodNamed Bd.named Bd.method).1
  have X0 : Stand pP l eE ({ frames := 0, cells := 0, slots := 0, locals := 0 } : Room) sS mM #[(.ref x)] below meth cC s₁ [] 0 0 := Stand.of_body Bd
  have e0 : s₁.heap = h0 := by rw [← hh, Bd.state]; rfl
  have N0 := Fr.nil n0
  have pre0 : ∀ tg, Steps pP.tables eE below (s₁.setTop (mkF mM 0 #[.val (.ref x)] [])) tg → Steps pP.tables eE below (s₁.setTop (entryFrame mM #[(.ref x)] 1)) tg := fun tg kg => castTop (ef_10 mM x) kg
  have pr1 : ∀ tg, Steps pP.tables eE below (s₁.setTop (mkF mM 1 #[.val (.ref x)] [(.ref x)])) tg → Steps pP.tables eE below (s₁.setTop (entryFrame mM #[(.ref x)] 1)) tg := fun tg kg => pre0 _ (by
    show Steps pP.tables eE below (s₁.setTop (mkF mM 0 #[.val (.ref x)] [])) _
    refine XS.aloadN X0.here hx rfl (hb hby d10_0) rfl rfl ?_
    exact kg)
  clear pre0
  obtain ⟨T2, X2, e2, st2⟩ := getF X0 hx hZ hown (host := "") (Or.inl (hw _ (List.mem_of_getElem? (i := 60) rfl))) Via.refl e0 F_x (g := (mkF mM 1 #[.val (.ref x)] [(.ref x)])) rfl rfl (hb hby d10_1)
  have pr3 : ∀ tg, Steps pP.tables eE below (T2.setTop (mkF mM 4 #[.val (.ref x)] [(.ref a_ALLOWED)])) tg → Steps pP.tables eE below (s₁.setTop (entryFrame mM #[(.ref x)] 1)) tg := fun tg kg => pr1 _ (st2 _ kg)
  clear pr1 st2 X0 e0
  obtain ⟨fs, hr, hrun, hended, hW, hsame⟩ := X2.leave (v := some (.ref a_ALLOWED)) (fun h => by rw [Bd.returns] at h; cases h)
  refine ⟨_, _, pr3 _ (retOut X2 hx (t := (.object "com/example/ledgerhall/ledgerhall/DeductionType$Cafe125")) Bd.returns rfl (Or.inr (Or.inr (Or.inr (Or.inr ⟨rfl, rfl, rfl⟩)))) (hb hby d10_4) hr), hrun, hended, _, _, rfl, ?_, ⟨_, rfl⟩, hW, hsame.mono (by decide) (by decide)⟩
  show Q10 Z x a_ALLOWED a_NEVER a_ALWAYS h0 n0 _ T2.heap _
  rw [e2]
  exact ⟨rfl, N0, rfl⟩
theorem d200_0 : decode prog_13_method_10_code 0 = .ok (.aload_n 0, 1) := by decide +kernel
theorem d200_1 : decode prog_13_method_10_code 1 = .ok (.getfield 114, 3) := by decide +kernel
theorem d200_4 : decode prog_13_method_10_code 4 = .ok (.getstatic 118, 3) := by decide +kernel
theorem d200_7 : decode prog_13_method_10_code 7 = .ok (.if_acmp .eq 22, 3) := by decide +kernel
theorem d200_29 : decode prog_13_method_10_code 29 = .ok (.iconst 1, 1) := by decide +kernel
theorem d200_30 : decode prog_13_method_10_code 30 = .ok (.goto 4, 3) := by decide +kernel
theorem d200_34 : decode prog_13_method_10_code 34 = .ok (.ireturn, 1) := by decide +kernel
theorem ef_200 (mM : MethodId) (x0 : Addr) (x1 : Int32) : entryFrame mM #[(.ref x0), (.int x1)] 2 = mkF mM 0 #[.val (.ref x0), .val (.int x1)] [] := by first | (simp [entryFrame, mkF, argsToLocals, Value.category]; done) | rfl
def Q200 (Z : State) (x : Addr) (a_ALLOWED : Addr) (a_NEVER : Addr) (a_ALWAYS : Addr) (h0 : Heap) (n0 : Nat) (v : Option Value) (h : Heap) (L : List Loc) : Prop := v = some (.int (1 : Int32)) ∧ Fr n0 L ∧ h = h0
set_option maxRecDepth 65536 in
set_option maxHeartbeats 40000000 in
theorem rm200 (l : Launch) (Z : State) (a0 : Array Value) (hw : ∀ d ∈ tables_1, d.before a0 Z = true) (ws : List Jvm.Cond) (x : Addr) (a_ALLOWED : Addr) (a_NEVER : Addr) (a_ALWAYS : Addr) (h0 : Heap) (n0 : Nat) (Z0 : n0 ≤ h0.size) (O : Old Z n0 h0) (S_ALLOWED : Sta Z Z.heap "com/example/ledgerhall/ledgerhall/DeductionType$Cafe125" "ALLOWED" "Lcom/example/ledgerhall/ledgerhall/DeductionType$Cafe125;" (.ref a_ALLOWED)) (E_ALLOWED : Exa Z Z.heap a_ALLOWED "com/example/ledgerhall/ledgerhall/DeductionType$Cafe125") (S_NEVER : Sta Z Z.heap "com/example/ledgerhall/ledgerhall/DeductionType$Cafe125" "NEVER" "Lcom/example/ledgerhall/ledgerhall/DeductionType$Cafe125;" (.ref a_NEVER)) (E_NEVER : Exa Z Z.heap a_NEVER "com/example/ledgerhall/ledgerhall/DeductionType$Cafe125") (S_ALWAYS : Sta Z Z.heap "com/example/ledgerhall/ledgerhall/DeductionType$Cafe125" "ALWAYS" "Lcom/example/ledgerhall/ledgerhall/DeductionType$Cafe125;" (.ref a_ALWAYS)) (E_ALWAYS : Exa Z Z.heap a_ALWAYS "com/example/ledgerhall/ledgerhall/DeductionType$Cafe125") (F_NEVER_ordinal : Fld Z Z.heap a_NEVER "java/lang/Enum" "ordinal" "I" (.int (1 : Int32))) (F_ALLOWED_ordinal : Fld Z Z.heap a_ALLOWED "java/lang/Enum" "ordinal" "I" (.int (0 : Int32))) (F_ALWAYS_ordinal : Fld Z Z.heap a_ALWAYS "java/lang/Enum" "ordinal" "I" (.int (2 : Int32))) (E_x : Exa Z h0 x "com/example/ledgerhall/ledgerhall/DeductionType") (F_x : Fld Z h0 x "com/example/ledgerhall/ledgerhall/DeductionType" "cafe125" "Lcom/example/ledgerhall/ledgerhall/DeductionType$Cafe125;" (.ref a_ALLOWED)) :
    MetFree l (⟨"com/example/ledgerhall/ledgerhall/DeductionType", "takesCafe125", "(Z)Z"⟩ : MethodName) (head1 (Jvm.Cond.code (⟨"com/example/ledgerhall/ledgerhall/DeductionType", "takesCafe125", "(Z)Z"⟩ : MethodName) prog_13_method_10_code 2 (some .boolean) :: ws) ({ frames := 0, cells := 0, slots := 0, locals := 0 } : Room)) (fun aA uU => aA = #[(.ref x), (.int (0 : Int32))] ∧ Z.Warmed39 uU.vm ∧ uU.heap = h0) (fun _ _ _ _ _ => True) (fun _ uU oO uU' => ∃ vV lL, oO = .returned vV ∧ Q200 Z x a_ALLOWED a_NEVER a_ALWAYS h0 n0 vV uU'.heap lL ∧ FrameEnd uU oO uU' lL ({ frames := 0, cells := 0, slots := 0, locals := 0 } : Room).cells ({ frames := 0, cells := 0, slots := 0, locals := 0 } : Room).slots) := by
  refine MetFree.of_bodySF (plainFor_of_name pn_0) hisR ?_
  intro pP eE sS mM args below meth cC s₁ Bd hml0 hP hK
  obtain ⟨rfl, hZ, hh⟩ := hP
  have hx := Bd.exec
  have hby := Bd.bytes
  have hml : cC.maxLocals = 2 := hml0
  have hown : sS.vm.findClass "com/example/ledgerhall/ledgerhall/DeductionType" = some mM.cls := findClass_of_methodNamed Bd.named
  have hnm := (name_of_methodNamed Bd.named Bd.method).1
  have X0 : Stand pP l eE ({ frames := 0, cells := 0, slots := 0, locals := 0 } : Room) sS mM #[(.ref x), (.int (0 : Int32))] below meth cC s₁ [] 0 0 := Stand.of_body Bd
  have e0 : s₁.heap = h0 := by rw [← hh, Bd.state]; rfl
  have N0 := Fr.nil n0
  have pre0 : ∀ tg, Steps pP.tables eE below (s₁.setTop (mkF mM 0 #[.val (.ref x), .val (.int (0 : Int32))] [])) tg → Steps pP.tables eE below (s₁.setTop (entryFrame mM #[(.ref x), (.int (0 : Int32))] 2)) tg := fun tg kg => castTop (ef_200 mM x (0 : Int32)) kg
  have pr1 : ∀ tg, Steps pP.tables eE below (s₁.setTop (mkF mM 1 #[.val (.ref x), .val (.int (0 : Int32))] [(.ref x)])) tg → Steps pP.tables eE below (s₁.setTop (entryFrame mM #[(.ref x), (.int (0 : Int32))] 2)) tg := fun tg kg => pre0 _ (by
    show Steps pP.tables eE below (s₁.setTop (mkF mM 0 #[.val (.ref x), .val (.int (0 : Int32))] [])) _
    refine XS.aloadN X0.here hx rfl (hb hby d200_0) rfl rfl ?_
    exact kg)
  clear pre0
  obtain ⟨T2, X2, e2, st2⟩ := getF X0 hx hZ hown (host := "") (Or.inl (hw _ (List.mem_of_getElem? (i := 60) rfl))) Via.refl e0 F_x (g := (mkF mM 1 #[.val (.ref x), .val (.int (0 : Int32))] [(.ref x)])) rfl rfl (hb hby d200_1)
  have pr3 : ∀ tg, Steps pP.tables eE below (T2.setTop (mkF mM 4 #[.val (.ref x), .val (.int (0 : Int32))] [(.ref a_ALLOWED)])) tg → Steps pP.tables eE below (s₁.setTop (entryFrame mM #[(.ref x), (.int (0 : Int32))] 2)) tg := fun tg kg => pr1 _ (st2 _ kg)
  clear pr1 st2 X0 e0
  obtain ⟨T4, X4, e4, st4⟩ := getS2 X2 hx hZ hown (host := "") (Or.inl (hw _ (List.mem_of_getElem? (i := 72) rfl))) Via.refl e2 (Sta.ext (O).2 S_ALLOWED) (g := (mkF mM 4 #[.val (.ref x), .val (.int (0 : Int32))] [(.ref a_ALLOWED)])) rfl (hb hby d200_4)
  have pr5 : ∀ tg, Steps pP.tables eE below (T4.setTop (mkF mM 7 #[.val (.ref x), .val (.int (0 : Int32))] [(.ref a_ALLOWED), (.ref a_ALLOWED)])) tg → Steps pP.tables eE below (s₁.setTop (entryFrame mM #[(.ref x), (.int (0 : Int32))] 2)) tg := fun tg kg => pr3 _ (st4 _ kg)
  clear pr3 st4 X2 e2
  have pr6 : ∀ tg, Steps pP.tables eE below (T4.setTop (mkF mM 34 #[.val (.ref x), .val (.int (0 : Int32))] [(.int (1 : Int32))])) tg → Steps pP.tables eE below (s₁.setTop (entryFrame mM #[(.ref x), (.int (0 : Int32))] 2)) tg := fun tg kg => pr5 _ (by
    show Steps pP.tables eE below (T4.setTop (mkF mM 7 #[.val (.ref x), .val (.int (0 : Int32))] [(.ref a_ALLOWED), (.ref a_ALLOWED)])) _
    refine Jvm.RoadKit.acmp (g := (mkF mM 7 #[.val (.ref x), .val (.int (0 : Int32))] [(.ref a_ALLOWED), (.ref a_ALLOWED)])) X4 hx rfl rfl rfl (pc0 := 7) (pc' := 29) (same := true) rfl (hb hby d200_7) rfl (decide_eq_true rfl) (by decide) (by decide) ?_
    show Steps pP.tables eE below (T4.setTop (mkF mM 29 #[.val (.ref x), .val (.int (0 : Int32))] [])) _
    refine XS.iconst X4.here hx rfl (hb hby d200_29) ?_
    show Steps pP.tables eE below (T4.setTop (mkF mM 30 #[.val (.ref x), .val (.int (0 : Int32))] [(.int (1 : Int32))])) _
    refine XS.goto X4.here hx rfl (pc0 := 30) (pc' := 34) rfl (hb hby d200_30) (by decide) (by decide) ?_
    exact kg)
  clear pr5
  obtain ⟨fs, hr, hrun, hended, hW, hsame⟩ := X4.leave (v := some (.int (1 : Int32))) (fun h => by rw [Bd.returns] at h; cases h)
  refine ⟨_, _, pr6 _ (retOut X4 hx (t := .boolean) Bd.returns rfl (Or.inl ⟨rfl, Or.inr (Or.inl rfl), _, rfl⟩) (hb hby d200_34) hr), hrun, hended, _, _, rfl, ?_, ⟨_, rfl⟩, hW, hsame.mono (by decide) (by decide)⟩
  show Q200 Z x a_ALLOWED a_NEVER a_ALWAYS h0 n0 _ T4.heap _
  rw [e4]
  exact ⟨rfl, N0, rfl⟩
theorem d201_0 : decode prog_13_method_10_code 0 = .ok (.aload_n 0, 1) := by decide +kernel
theorem d201_1 : decode prog_13_method_10_code 1 = .ok (.getfield 114, 3) := by decide +kernel
theorem d201_4 : decode prog_13_method_10_code 4 = .ok (.getstatic 118, 3) := by decide +kernel
theorem d201_7 : decode prog_13_method_10_code 7 = .ok (.if_acmp .eq 22, 3) := by decide +kernel
theorem d201_29 : decode prog_13_method_10_code 29 = .ok (.iconst 1, 1) := by decide +kernel
theorem d201_30 : decode prog_13_method_10_code 30 = .ok (.goto 4, 3) := by decide +kernel
theorem d201_34 : decode prog_13_method_10_code 34 = .ok (.ireturn, 1) := by decide +kernel
theorem ef_201 (mM : MethodId) (x0 : Addr) (x1 : Int32) : entryFrame mM #[(.ref x0), (.int x1)] 2 = mkF mM 0 #[.val (.ref x0), .val (.int x1)] [] := by first | (simp [entryFrame, mkF, argsToLocals, Value.category]; done) | rfl
def Q201 (Z : State) (x : Addr) (a_ALLOWED : Addr) (a_NEVER : Addr) (a_ALWAYS : Addr) (h0 : Heap) (n0 : Nat) (v : Option Value) (h : Heap) (L : List Loc) : Prop := v = some (.int (1 : Int32)) ∧ Fr n0 L ∧ h = h0
set_option maxRecDepth 65536 in
set_option maxHeartbeats 40000000 in
theorem rm201 (l : Launch) (Z : State) (a0 : Array Value) (hw : ∀ d ∈ tables_1, d.before a0 Z = true) (ws : List Jvm.Cond) (x : Addr) (a_ALLOWED : Addr) (a_NEVER : Addr) (a_ALWAYS : Addr) (h0 : Heap) (n0 : Nat) (Z0 : n0 ≤ h0.size) (O : Old Z n0 h0) (S_ALLOWED : Sta Z Z.heap "com/example/ledgerhall/ledgerhall/DeductionType$Cafe125" "ALLOWED" "Lcom/example/ledgerhall/ledgerhall/DeductionType$Cafe125;" (.ref a_ALLOWED)) (E_ALLOWED : Exa Z Z.heap a_ALLOWED "com/example/ledgerhall/ledgerhall/DeductionType$Cafe125") (S_NEVER : Sta Z Z.heap "com/example/ledgerhall/ledgerhall/DeductionType$Cafe125" "NEVER" "Lcom/example/ledgerhall/ledgerhall/DeductionType$Cafe125;" (.ref a_NEVER)) (E_NEVER : Exa Z Z.heap a_NEVER "com/example/ledgerhall/ledgerhall/DeductionType$Cafe125") (S_ALWAYS : Sta Z Z.heap "com/example/ledgerhall/ledgerhall/DeductionType$Cafe125" "ALWAYS" "Lcom/example/ledgerhall/ledgerhall/DeductionType$Cafe125;" (.ref a_ALWAYS)) (E_ALWAYS : Exa Z Z.heap a_ALWAYS "com/example/ledgerhall/ledgerhall/DeductionType$Cafe125") (F_NEVER_ordinal : Fld Z Z.heap a_NEVER "java/lang/Enum" "ordinal" "I" (.int (1 : Int32))) (F_ALLOWED_ordinal : Fld Z Z.heap a_ALLOWED "java/lang/Enum" "ordinal" "I" (.int (0 : Int32))) (F_ALWAYS_ordinal : Fld Z Z.heap a_ALWAYS "java/lang/Enum" "ordinal" "I" (.int (2 : Int32))) (E_x : Exa Z h0 x "com/example/ledgerhall/ledgerhall/DeductionType") (F_x : Fld Z h0 x "com/example/ledgerhall/ledgerhall/DeductionType" "cafe125" "Lcom/example/ledgerhall/ledgerhall/DeductionType$Cafe125;" (.ref a_ALLOWED)) :
    MetFree l (⟨"com/example/ledgerhall/ledgerhall/DeductionType", "takesCafe125", "(Z)Z"⟩ : MethodName) (head1 (Jvm.Cond.code (⟨"com/example/ledgerhall/ledgerhall/DeductionType", "takesCafe125", "(Z)Z"⟩ : MethodName) prog_13_method_10_code 2 (some .boolean) :: ws) ({ frames := 0, cells := 0, slots := 0, locals := 0 } : Room)) (fun aA uU => aA = #[(.ref x), (.int (1 : Int32))] ∧ Z.Warmed39 uU.vm ∧ uU.heap = h0) (fun _ _ _ _ _ => True) (fun _ uU oO uU' => ∃ vV lL, oO = .returned vV ∧ Q201 Z x a_ALLOWED a_NEVER a_ALWAYS h0 n0 vV uU'.heap lL ∧ FrameEnd uU oO uU' lL ({ frames := 0, cells := 0, slots := 0, locals := 0 } : Room).cells ({ frames := 0, cells := 0, slots := 0, locals := 0 } : Room).slots) := by
  refine MetFree.of_bodySF (plainFor_of_name pn_0) hisR ?_
  intro pP eE sS mM args below meth cC s₁ Bd hml0 hP hK
  obtain ⟨rfl, hZ, hh⟩ := hP
  have hx := Bd.exec
  have hby := Bd.bytes
  have hml : cC.maxLocals = 2 := hml0
  have hown : sS.vm.findClass "com/example/ledgerhall/ledgerhall/DeductionType" = some mM.cls := findClass_of_methodNamed Bd.named
  have hnm := (name_of_methodNamed Bd.named Bd.method).1
  have X0 : Stand pP l eE ({ frames := 0, cells := 0, slots := 0, locals := 0 } : Room) sS mM #[(.ref x), (.int (1 : Int32))] below meth cC s₁ [] 0 0 := Stand.of_body Bd
  have e0 : s₁.heap = h0 := by rw [← hh, Bd.state]; rfl
  have N0 := Fr.nil n0
  have pre0 : ∀ tg, Steps pP.tables eE below (s₁.setTop (mkF mM 0 #[.val (.ref x), .val (.int (1 : Int32))] [])) tg → Steps pP.tables eE below (s₁.setTop (entryFrame mM #[(.ref x), (.int (1 : Int32))] 2)) tg := fun tg kg => castTop (ef_201 mM x (1 : Int32)) kg
  have pr1 : ∀ tg, Steps pP.tables eE below (s₁.setTop (mkF mM 1 #[.val (.ref x), .val (.int (1 : Int32))] [(.ref x)])) tg → Steps pP.tables eE below (s₁.setTop (entryFrame mM #[(.ref x), (.int (1 : Int32))] 2)) tg := fun tg kg => pre0 _ (by
    show Steps pP.tables eE below (s₁.setTop (mkF mM 0 #[.val (.ref x), .val (.int (1 : Int32))] [])) _
    refine XS.aloadN X0.here hx rfl (hb hby d201_0) rfl rfl ?_
    exact kg)
  clear pre0
  obtain ⟨T2, X2, e2, st2⟩ := getF X0 hx hZ hown (host := "") (Or.inl (hw _ (List.mem_of_getElem? (i := 60) rfl))) Via.refl e0 F_x (g := (mkF mM 1 #[.val (.ref x), .val (.int (1 : Int32))] [(.ref x)])) rfl rfl (hb hby d201_1)
  have pr3 : ∀ tg, Steps pP.tables eE below (T2.setTop (mkF mM 4 #[.val (.ref x), .val (.int (1 : Int32))] [(.ref a_ALLOWED)])) tg → Steps pP.tables eE below (s₁.setTop (entryFrame mM #[(.ref x), (.int (1 : Int32))] 2)) tg := fun tg kg => pr1 _ (st2 _ kg)
  clear pr1 st2 X0 e0
  obtain ⟨T4, X4, e4, st4⟩ := getS2 X2 hx hZ hown (host := "") (Or.inl (hw _ (List.mem_of_getElem? (i := 72) rfl))) Via.refl e2 (Sta.ext (O).2 S_ALLOWED) (g := (mkF mM 4 #[.val (.ref x), .val (.int (1 : Int32))] [(.ref a_ALLOWED)])) rfl (hb hby d201_4)
  have pr5 : ∀ tg, Steps pP.tables eE below (T4.setTop (mkF mM 7 #[.val (.ref x), .val (.int (1 : Int32))] [(.ref a_ALLOWED), (.ref a_ALLOWED)])) tg → Steps pP.tables eE below (s₁.setTop (entryFrame mM #[(.ref x), (.int (1 : Int32))] 2)) tg := fun tg kg => pr3 _ (st4 _ kg)
  clear pr3 st4 X2 e2
  have pr6 : ∀ tg, Steps pP.tables eE below (T4.setTop (mkF mM 34 #[.val (.ref x), .val (.int (1 : Int32))] [(.int (1 : Int32))])) tg → Steps pP.tables eE below (s₁.setTop (entryFrame mM #[(.ref x), (.int (1 : Int32))] 2)) tg := fun tg kg => pr5 _ (by
    show Steps pP.tables eE below (T4.setTop (mkF mM 7 #[.val (.ref x), .val (.int (1 : Int32))] [(.ref a_ALLOWED), (.ref a_ALLOWED)])) _
    refine Jvm.RoadKit.acmp (g := (mkF mM 7 #[.val (.ref x), .val (.int (1 : Int32))] [(.ref a_ALLOWED), (.ref a_ALLOWED)])) X4 hx rfl rfl rfl (pc0 := 7) (pc' := 29) (same := true) rfl (hb hby d201_7) rfl (decide_eq_true rfl) (by decide) (by decide) ?_
    show Steps pP.tables eE below (T4.setTop (mkF mM 29 #[.val (.ref x), .val (.int (1 : Int32))] [])) _
    refine XS.iconst X4.here hx rfl (hb hby d201_29) ?_
    show Steps pP.tables eE below (T4.setTop (mkF mM 30 #[.val (.ref x), .val (.int (1 : Int32))] [(.int (1 : Int32))])) _
    refine XS.goto X4.here hx rfl (pc0 := 30) (pc' := 34) rfl (hb hby d201_30) (by decide) (by decide) ?_
    exact kg)
  clear pr5
  obtain ⟨fs, hr, hrun, hended, hW, hsame⟩ := X4.leave (v := some (.int (1 : Int32))) (fun h => by rw [Bd.returns] at h; cases h)
  refine ⟨_, _, pr6 _ (retOut X4 hx (t := .boolean) Bd.returns rfl (Or.inl ⟨rfl, Or.inr (Or.inl rfl), _, rfl⟩) (hb hby d201_34) hr), hrun, hended, _, _, rfl, ?_, ⟨_, rfl⟩, hW, hsame.mono (by decide) (by decide)⟩
  show Q201 Z x a_ALLOWED a_NEVER a_ALWAYS h0 n0 _ T4.heap _
  rw [e4]
  exact ⟨rfl, N0, rfl⟩
theorem d11_0 : decode prog_13_method_9_code 0 = .ok (.aload_n 0, 1) := by decide +kernel
theorem d11_1 : decode prog_13_method_9_code 1 = .ok (.getfield 114, 3) := by decide +kernel
theorem d11_4 : decode prog_13_method_9_code 4 = .ok (.areturn, 1) := by decide +kernel
theorem ef_11 (mM : MethodId) (x0 : Addr) : entryFrame mM #[(.ref x0)] 1 = mkF mM 0 #[.val (.ref x0)] [] := by first | (simp [entryFrame, mkF, argsToLocals, Value.category]; done) | rfl
def Q11 (Z : State) (x : Addr) (a_ALLOWED : Addr) (a_NEVER : Addr) (a_ALWAYS : Addr) (h0 : Heap) (n0 : Nat) (v : Option Value) (h : Heap) (L : List Loc) : Prop := v = some (.ref a_NEVER) ∧ Fr n0 L ∧ h = h0
set_option maxRecDepth 65536 in
set_option maxHeartbeats 40000000 in
theorem rm11 (l : Launch) (Z : State) (a0 : Array Value) (hw : ∀ d ∈ tables_1, d.before a0 Z = true) (ws : List Jvm.Cond) (x : Addr) (a_ALLOWED : Addr) (a_NEVER : Addr) (a_ALWAYS : Addr) (h0 : Heap) (n0 : Nat) (Z0 : n0 ≤ h0.size) (O : Old Z n0 h0) (S_ALLOWED : Sta Z Z.heap "com/example/ledgerhall/ledgerhall/DeductionType$Cafe125" "ALLOWED" "Lcom/example/ledgerhall/ledgerhall/DeductionType$Cafe125;" (.ref a_ALLOWED)) (E_ALLOWED : Exa Z Z.heap a_ALLOWED "com/example/ledgerhall/ledgerhall/DeductionType$Cafe125") (S_NEVER : Sta Z Z.heap "com/example/ledgerhall/ledgerhall/DeductionType$Cafe125" "NEVER" "Lcom/example/ledgerhall/ledgerhall/DeductionType$Cafe125;" (.ref a_NEVER)) (E_NEVER : Exa Z Z.heap a_NEVER "com/example/ledgerhall/ledgerhall/DeductionType$Cafe125") (S_ALWAYS : Sta Z Z.heap "com/example/ledgerhall/ledgerhall/DeductionType$Cafe125" "ALWAYS" "Lcom/example/ledgerhall/ledgerhall/DeductionType$Cafe125;" (.ref a_ALWAYS)) (E_ALWAYS : Exa Z Z.heap a_ALWAYS "com/example/ledgerhall/ledgerhall/DeductionType$Cafe125") (F_NEVER_ordinal : Fld Z Z.heap a_NEVER "java/lang/Enum" "ordinal" "I" (.int (1 : Int32))) (F_ALLOWED_ordinal : Fld Z Z.heap a_ALLOWED "java/lang/Enum" "ordinal" "I" (.int (0 : Int32))) (F_ALWAYS_ordinal : Fld Z Z.heap a_ALWAYS "java/lang/Enum" "ordinal" "I" (.int (2 : Int32))) (E_x : Exa Z h0 x "com/example/ledgerhall/ledgerhall/DeductionType") (F_x : Fld Z h0 x "com/example/ledgerhall/ledgerhall/DeductionType" "cafe125" "Lcom/example/ledgerhall/ledgerhall/DeductionType$Cafe125;" (.ref a_NEVER)) :
    MetFree l (⟨"com/example/ledgerhall/ledgerhall/DeductionType", "cafe125", "()Lcom/example/ledgerhall/ledgerhall/DeductionType$Cafe125;"⟩ : MethodName) (head1 (Jvm.Cond.code (⟨"com/example/ledgerhall/ledgerhall/DeductionType", "cafe125", "()Lcom/example/ledgerhall/ledgerhall/DeductionType$Cafe125;"⟩ : MethodName) prog_13_method_9_code 1 (some (.object "com/example/ledgerhall/ledgerhall/DeductionType$Cafe125")) :: ws) ({ frames := 0, cells := 0, slots := 0, locals := 0 } : Room)) (fun aA uU => aA = #[(.ref x)] ∧ Z.Warmed39 uU.vm ∧ uU.heap = h0) (fun _ _ _ _ _ => True) (fun _ uU oO uU' => ∃ vV lL, oO = .returned vV ∧ Q11 Z x a_ALLOWED a_NEVER a_ALWAYS h0 n0 vV uU'.heap lL ∧ FrameEnd uU oO uU' lL ({ frames := 0, cells := 0, slots := 0, locals := 0 } : Room).cells ({ frames := 0, cells := 0, slots := 0, locals := 0 } : Room).slots) := by
  refine MetFree.of_bodySF (plainFor_of_name pn_0) hisR ?_
  intro pP eE sS mM args below meth cC s₁ Bd hml0 hP hK
  obtain ⟨rfl, hZ, hh⟩ := hP
  have hx := Bd.exec
  have hby := Bd.bytes
  have hml : cC.maxLocals = 1 := hml0
  have hown : sS.vm.findClass "com/example/ledgerhall/ledgerhall/DeductionType" = some mM.cls := findClass_of_methodNamed Bd.named
  have hnm := (name_of_methodNamed Bd.named Bd.method).1
  have X0 : Stand pP l eE ({ frames := 0, cells := 0, slots := 0, locals := 0 } : Room) sS mM #[(.ref x)] below meth cC s₁ [] 0 0 := Stand.of_body Bd
  have e0 : s₁.heap = h0 := by rw [← hh, Bd.state]; rfl
  have N0 := Fr.nil n0
  have pre0 : ∀ tg, Steps pP.tables eE below (s₁.setTop (mkF mM 0 #[.val (.ref x)] [])) tg → Steps pP.tables eE below (s₁.setTop (entryFrame mM #[(.ref x)] 1)) tg := fun tg kg => castTop (ef_11 mM x) kg
  have pr1 : ∀ tg, Steps pP.tables eE below (s₁.setTop (mkF mM 1 #[.val (.ref x)] [(.ref x)])) tg → Steps pP.tables eE below (s₁.setTop (entryFrame mM #[(.ref x)] 1)) tg := fun tg kg => pre0 _ (by
    show Steps pP.tables eE below (s₁.setTop (mkF mM 0 #[.val (.ref x)] [])) _
    refine XS.aloadN X0.here hx rfl (hb hby d11_0) rfl rfl ?_
    exact kg)
  clear pre0
  obtain ⟨T2, X2, e2, st2⟩ := getF X0 hx hZ hown (host := "") (Or.inl (hw _ (List.mem_of_getElem? (i := 60) rfl))) Via.refl e0 F_x (g := (mkF mM 1 #[.val (.ref x)] [(.ref x)])) rfl rfl (hb hby d11_1)
  have pr3 : ∀ tg, Steps pP.tables eE below (T2.setTop (mkF mM 4 #[.val (.ref x)] [(.ref a_NEVER)])) tg → Steps pP.tables eE below (s₁.setTop (entryFrame mM #[(.ref x)] 1)) tg := fun tg kg => pr1 _ (st2 _ kg)
  clear pr1 st2 X0 e0
  obtain ⟨fs, hr, hrun, hended, hW, hsame⟩ := X2.leave (v := some (.ref a_NEVER)) (fun h => by rw [Bd.returns] at h; cases h)
  refine ⟨_, _, pr3 _ (retOut X2 hx (t := (.object "com/example/ledgerhall/ledgerhall/DeductionType$Cafe125")) Bd.returns rfl (Or.inr (Or.inr (Or.inr (Or.inr ⟨rfl, rfl, rfl⟩)))) (hb hby d11_4) hr), hrun, hended, _, _, rfl, ?_, ⟨_, rfl⟩, hW, hsame.mono (by decide) (by decide)⟩
  show Q11 Z x a_ALLOWED a_NEVER a_ALWAYS h0 n0 _ T2.heap _
  rw [e2]
  exact ⟨rfl, N0, rfl⟩
theorem d210_0 : decode prog_13_method_10_code 0 = .ok (.aload_n 0, 1) := by decide +kernel
theorem d210_1 : decode prog_13_method_10_code 1 = .ok (.getfield 114, 3) := by decide +kernel
theorem d210_4 : decode prog_13_method_10_code 4 = .ok (.getstatic 118, 3) := by decide +kernel
theorem d210_7 : decode prog_13_method_10_code 7 = .ok (.if_acmp .eq 22, 3) := by decide +kernel
theorem d210_10 : decode prog_13_method_10_code 10 = .ok (.iload_n 1, 1) := by decide +kernel
theorem d210_11 : decode prog_13_method_10_code 11 = .ok (.aload_n 0, 1) := by decide +kernel
theorem d210_12 : decode prog_13_method_10_code 12 = .ok (.getfield 114, 3) := by decide +kernel
theorem d210_15 : decode prog_13_method_10_code 15 = .ok (.getstatic 123, 3) := by decide +kernel
theorem d210_18 : decode prog_13_method_10_code 18 = .ok (.if_acmp .ne 7, 3) := by decide +kernel
theorem d210_25 : decode prog_13_method_10_code 25 = .ok (.iconst 0, 1) := by decide +kernel
theorem d210_26 : decode prog_13_method_10_code 26 = .ok (.if_icmp .ne 7, 3) := by decide +kernel
theorem d210_29 : decode prog_13_method_10_code 29 = .ok (.iconst 1, 1) := by decide +kernel
theorem d210_30 : decode prog_13_method_10_code 30 = .ok (.goto 4, 3) := by decide +kernel
theorem d210_34 : decode prog_13_method_10_code 34 = .ok (.ireturn, 1) := by decide +kernel
theorem ef_210 (mM : MethodId) (x0 : Addr) (x1 : Int32) : entryFrame mM #[(.ref x0), (.int x1)] 2 = mkF mM 0 #[.val (.ref x0), .val (.int x1)] [] := by first | (simp [entryFrame, mkF, argsToLocals, Value.category]; done) | rfl
def Q210 (Z : State) (x : Addr) (a_ALLOWED : Addr) (a_NEVER : Addr) (a_ALWAYS : Addr) (h0 : Heap) (n0 : Nat) (v : Option Value) (h : Heap) (L : List Loc) : Prop := v = some (.int (1 : Int32)) ∧ Fr n0 L ∧ h = h0
set_option maxRecDepth 65536 in
set_option maxHeartbeats 40000000 in
theorem rm210 (l : Launch) (Z : State) (a0 : Array Value) (hw : ∀ d ∈ tables_1, d.before a0 Z = true) (ws : List Jvm.Cond) (x : Addr) (a_ALLOWED : Addr) (a_NEVER : Addr) (a_ALWAYS : Addr) (h0 : Heap) (n0 : Nat) (Z0 : n0 ≤ h0.size) (O : Old Z n0 h0) (S_ALLOWED : Sta Z Z.heap "com/example/ledgerhall/ledgerhall/DeductionType$Cafe125" "ALLOWED" "Lcom/example/ledgerhall/ledgerhall/DeductionType$Cafe125;" (.ref a_ALLOWED)) (E_ALLOWED : Exa Z Z.heap a_ALLOWED "com/example/ledgerhall/ledgerhall/DeductionType$Cafe125") (S_NEVER : Sta Z Z.heap "com/example/ledgerhall/ledgerhall/DeductionType$Cafe125" "NEVER" "Lcom/example/ledgerhall/ledgerhall/DeductionType$Cafe125;" (.ref a_NEVER)) (E_NEVER : Exa Z Z.heap a_NEVER "com/example/ledgerhall/ledgerhall/DeductionType$Cafe125") (S_ALWAYS : Sta Z Z.heap "com/example/ledgerhall/ledgerhall/DeductionType$Cafe125" "ALWAYS" "Lcom/example/ledgerhall/ledgerhall/DeductionType$Cafe125;" (.ref a_ALWAYS)) (E_ALWAYS : Exa Z Z.heap a_ALWAYS "com/example/ledgerhall/ledgerhall/DeductionType$Cafe125") (F_NEVER_ordinal : Fld Z Z.heap a_NEVER "java/lang/Enum" "ordinal" "I" (.int (1 : Int32))) (F_ALLOWED_ordinal : Fld Z Z.heap a_ALLOWED "java/lang/Enum" "ordinal" "I" (.int (0 : Int32))) (F_ALWAYS_ordinal : Fld Z Z.heap a_ALWAYS "java/lang/Enum" "ordinal" "I" (.int (2 : Int32))) (E_x : Exa Z h0 x "com/example/ledgerhall/ledgerhall/DeductionType") (F_x : Fld Z h0 x "com/example/ledgerhall/ledgerhall/DeductionType" "cafe125" "Lcom/example/ledgerhall/ledgerhall/DeductionType$Cafe125;" (.ref a_NEVER)) :
    MetFree l (⟨"com/example/ledgerhall/ledgerhall/DeductionType", "takesCafe125", "(Z)Z"⟩ : MethodName) (head1 (Jvm.Cond.code (⟨"com/example/ledgerhall/ledgerhall/DeductionType", "takesCafe125", "(Z)Z"⟩ : MethodName) prog_13_method_10_code 2 (some .boolean) :: ws) ({ frames := 0, cells := 0, slots := 0, locals := 0 } : Room)) (fun aA uU => aA = #[(.ref x), (.int (0 : Int32))] ∧ Z.Warmed39 uU.vm ∧ uU.heap = h0) (fun _ _ _ _ _ => True) (fun _ uU oO uU' => ∃ vV lL, oO = .returned vV ∧ Q210 Z x a_ALLOWED a_NEVER a_ALWAYS h0 n0 vV uU'.heap lL ∧ FrameEnd uU oO uU' lL ({ frames := 0, cells := 0, slots := 0, locals := 0 } : Room).cells ({ frames := 0, cells := 0, slots := 0, locals := 0 } : Room).slots) := by
  refine MetFree.of_bodySF (plainFor_of_name pn_0) hisR ?_
  intro pP eE sS mM args below meth cC s₁ Bd hml0 hP hK
  obtain ⟨rfl, hZ, hh⟩ := hP
  have hx := Bd.exec
  have hby := Bd.bytes
  have hml : cC.maxLocals = 2 := hml0
  have hown : sS.vm.findClass "com/example/ledgerhall/ledgerhall/DeductionType" = some mM.cls := findClass_of_methodNamed Bd.named
  have hnm := (name_of_methodNamed Bd.named Bd.method).1
  have X0 : Stand pP l eE ({ frames := 0, cells := 0, slots := 0, locals := 0 } : Room) sS mM #[(.ref x), (.int (0 : Int32))] below meth cC s₁ [] 0 0 := Stand.of_body Bd
  have e0 : s₁.heap = h0 := by rw [← hh, Bd.state]; rfl
  have N0 := Fr.nil n0
  have pre0 : ∀ tg, Steps pP.tables eE below (s₁.setTop (mkF mM 0 #[.val (.ref x), .val (.int (0 : Int32))] [])) tg → Steps pP.tables eE below (s₁.setTop (entryFrame mM #[(.ref x), (.int (0 : Int32))] 2)) tg := fun tg kg => castTop (ef_210 mM x (0 : Int32)) kg
  have pr1 : ∀ tg, Steps pP.tables eE below (s₁.setTop (mkF mM 1 #[.val (.ref x), .val (.int (0 : Int32))] [(.ref x)])) tg → Steps pP.tables eE below (s₁.setTop (entryFrame mM #[(.ref x), (.int (0 : Int32))] 2)) tg := fun tg kg => pre0 _ (by
    show Steps pP.tables eE below (s₁.setTop (mkF mM 0 #[.val (.ref x), .val (.int (0 : Int32))] [])) _
    refine XS.aloadN X0.here hx rfl (hb hby d210_0) rfl rfl ?_
    exact kg)
  clear pre0
  obtain ⟨T2, X2, e2, st2⟩ := getF X0 hx hZ hown (host := "") (Or.inl (hw _ (List.mem_of_getElem? (i := 60) rfl))) Via.refl e0 F_x (g := (mkF mM 1 #[.val (.ref x), .val (.int (0 : Int32))] [(.ref x)])) rfl rfl (hb hby d210_1)
  have pr3 : ∀ tg, Steps pP.tables eE below (T2.setTop (mkF mM 4 #[.val (.ref x), .val (.int (0 : Int32))] [(.ref a_NEVER)])) tg → Steps pP.tables eE below (s₁.setTop (entryFrame mM #[(.ref x), (.int (0 : Int32))] 2)) tg := fun tg kg => pr1 _ (st2 _ kg)
  clear pr1 st2 X0 e0
  obtain ⟨T4, X4, e4, st4⟩ := getS2 X2 hx hZ hown (host := "") (Or.inl (hw _ (List.mem_of_getElem? (i := 72) rfl))) Via.refl e2 (Sta.ext (O).2 S_ALLOWED) (g := (mkF mM 4 #[.val (.ref x), .val (.int (0 : Int32))] [(.ref a_NEVER)])) rfl (hb hby d210_4)
  have pr5 : ∀ tg, Steps pP.tables eE below (T4.setTop (mkF mM 7 #[.val (.ref x), .val (.int (0 : Int32))] [(.ref a_ALLOWED), (.ref a_NEVER)])) tg → Steps pP.tables eE below (s₁.setTop (entryFrame mM #[(.ref x), (.int (0 : Int32))] 2)) tg := fun tg kg => pr3 _ (st4 _ kg)
  clear pr3 st4 X2 e2
  have pr6 : ∀ tg, Steps pP.tables eE below (T4.setTop (mkF mM 12 #[.val (.ref x), .val (.int (0 : Int32))] [(.ref x), (.int (0 : Int32))])) tg → Steps pP.tables eE below (s₁.setTop (entryFrame mM #[(.ref x), (.int (0 : Int32))] 2)) tg := fun tg kg => pr5 _ (by
    show Steps pP.tables eE below (T4.setTop (mkF mM 7 #[.val (.ref x), .val (.int (0 : Int32))] [(.ref a_ALLOWED), (.ref a_NEVER)])) _
    refine Jvm.RoadKit.acmp (g := (mkF mM 7 #[.val (.ref x), .val (.int (0 : Int32))] [(.ref a_ALLOWED), (.ref a_NEVER)])) X4 hx rfl rfl rfl (pc0 := 7) (pc' := 10) (same := false) rfl (hb hby d210_7) rfl (decide_eq_false fun q => (Fld.ne F_NEVER_ordinal F_ALLOWED_ordinal (by decide)) (Value.ref.inj q)) (by decide) (by decide) ?_
    show Steps pP.tables eE below (T4.setTop (mkF mM 10 #[.val (.ref x), .val (.int (0 : Int32))] [])) _
    refine XS.iloadN X4.here hx rfl (hb hby d210_10) rfl ?_
    show Steps pP.tables eE below (T4.setTop (mkF mM 11 #[.val (.ref x), .val (.int (0 : Int32))] [(.int (0 : Int32))])) _
    refine XS.aloadN X4.here hx rfl (hb hby d210_11) rfl rfl ?_
    exact kg)
  clear pr5
  obtain ⟨T7, X7, e7, st7⟩ := getF X4 hx hZ hown (host := "") (Or.inl (hw _ (List.mem_of_getElem? (i := 60) rfl))) Via.refl e4 F_x (g := (mkF mM 12 #[.val (.ref x), .val (.int (0 : Int32))] [(.ref x), (.int (0 : Int32))])) rfl rfl (hb hby d210_12)
  have pr8 : ∀ tg, Steps pP.tables eE below (T7.setTop (mkF mM 15 #[.val (.ref x), .val (.int (0 : Int32))] [(.ref a_NEVER), (.int (0 : Int32))])) tg → Steps pP.tables eE below (s₁.setTop (entryFrame mM #[(.ref x), (.int (0 : Int32))] 2)) tg := fun tg kg => pr6 _ (st7 _ kg)
  clear pr6 st7 X4 e4
  obtain ⟨T9, X9, e9, st9⟩ := getS2 X7 hx hZ hown (host := "") (Or.inl (hw _ (List.mem_of_getElem? (i := 73) rfl))) Via.refl e7 (Sta.ext (O).2 S_ALWAYS) (g := (mkF mM 15 #[.val (.ref x), .val (.int (0 : Int32))] [(.ref a_NEVER), (.int (0 : Int32))])) rfl (hb hby d210_15)
  have pr10 : ∀ tg, Steps pP.tables eE below (T9.setTop (mkF mM 18 #[.val (.ref x), .val (.int (0 : Int32))] [(.ref a_ALWAYS), (.ref a_NEVER), (.int (0 : Int32))])) tg → Steps pP.tables eE below (s₁.setTop (entryFrame mM #[(.ref x), (.int (0 : Int32))] 2)) tg := fun tg kg => pr8 _ (st9 _ kg)
  clear pr8 st9 X7 e7
  have pr11 : ∀ tg, Steps pP.tables eE below (T9.setTop (mkF mM 34 #[.val (.ref x), .val (.int (0 : Int32))] [(.int (1 : Int32))])) tg → Steps pP.tables eE below (s₁.setTop (entryFrame mM #[(.ref x), (.int (0 : Int32))] 2)) tg := fun tg kg => pr10 _ (by
    show Steps pP.tables eE below (T9.setTop (mkF mM 18 #[.val (.ref x), .val (.int (0 : Int32))] [(.ref a_ALWAYS), (.ref a_NEVER), (.int (0 : Int32))])) _
    refine Jvm.RoadKit.acmp (g := (mkF mM 18 #[.val (.ref x), .val (.int (0 : Int32))] [(.ref a_ALWAYS), (.ref a_NEVER), (.int (0 : Int32))])) X9 hx rfl rfl rfl (pc0 := 18) (pc' := 25) (same := false) rfl (hb hby d210_18) rfl (decide_eq_false fun q => (Fld.ne F_NEVER_ordinal F_ALWAYS_ordinal (by decide)) (Value.ref.inj q)) (by decide) (by decide) ?_
    show Steps pP.tables eE below (T9.setTop (mkF mM 25 #[.val (.ref x), .val (.int (0 : Int32))] [(.int (0 : Int32))])) _
    refine XS.iconst X9.here hx rfl (hb hby d210_25) ?_
    show Steps pP.tables eE below (T9.setTop (mkF mM 26 #[.val (.ref x), .val (.int (0 : Int32))] [(.int (0 : Int32)), (.int (0 : Int32))])) _
    refine XS.icmpNo X9.here hx rfl (hb hby d210_26) rfl (teq (by decide)).2 ?_
    show Steps pP.tables eE below (T9.setTop (mkF mM 29 #[.val (.ref x), .val (.int (0 : Int32))] [])) _
    refine XS.iconst X9.here hx rfl (hb hby d210_29) ?_
    show Steps pP.tables eE below (T9.setTop (mkF mM 30 #[.val (.ref x), .val (.int (0 : Int32))] [(.int (1 : Int32))])) _
    refine XS.goto X9.here hx rfl (pc0 := 30) (pc' := 34) rfl (hb hby d210_30) (by decide) (by decide) ?_
    exact kg)
  clear pr10
  obtain ⟨fs, hr, hrun, hended, hW, hsame⟩ := X9.leave (v := some (.int (1 : Int32))) (fun h => by rw [Bd.returns] at h; cases h)
  refine ⟨_, _, pr11 _ (retOut X9 hx (t := .boolean) Bd.returns rfl (Or.inl ⟨rfl, Or.inr (Or.inl rfl), _, rfl⟩) (hb hby d210_34) hr), hrun, hended, _, _, rfl, ?_, ⟨_, rfl⟩, hW, hsame.mono (by decide) (by decide)⟩
  show Q210 Z x a_ALLOWED a_NEVER a_ALWAYS h0 n0 _ T9.heap _
  rw [e9]
  exact ⟨rfl, N0, rfl⟩
theorem d211_0 : decode prog_13_method_10_code 0 = .ok (.aload_n 0, 1) := by decide +kernel
theorem d211_1 : decode prog_13_method_10_code 1 = .ok (.getfield 114, 3) := by decide +kernel
theorem d211_4 : decode prog_13_method_10_code 4 = .ok (.getstatic 118, 3) := by decide +kernel
theorem d211_7 : decode prog_13_method_10_code 7 = .ok (.if_acmp .eq 22, 3) := by decide +kernel
theorem d211_10 : decode prog_13_method_10_code 10 = .ok (.iload_n 1, 1) := by decide +kernel
theorem d211_11 : decode prog_13_method_10_code 11 = .ok (.aload_n 0, 1) := by decide +kernel
theorem d211_12 : decode prog_13_method_10_code 12 = .ok (.getfield 114, 3) := by decide +kernel
theorem d211_15 : decode prog_13_method_10_code 15 = .ok (.getstatic 123, 3) := by decide +kernel
theorem d211_18 : decode prog_13_method_10_code 18 = .ok (.if_acmp .ne 7, 3) := by decide +kernel
theorem d211_25 : decode prog_13_method_10_code 25 = .ok (.iconst 0, 1) := by decide +kernel
theorem d211_26 : decode prog_13_method_10_code 26 = .ok (.if_icmp .ne 7, 3) := by decide +kernel
theorem d211_33 : decode prog_13_method_10_code 33 = .ok (.iconst 0, 1) := by decide +kernel
theorem d211_34 : decode prog_13_method_10_code 34 = .ok (.ireturn, 1) := by decide +kernel
theorem ef_211 (mM : MethodId) (x0 : Addr) (x1 : Int32) : entryFrame mM #[(.ref x0), (.int x1)] 2 = mkF mM 0 #[.val (.ref x0), .val (.int x1)] [] := by first | (simp [entryFrame, mkF, argsToLocals, Value.category]; done) | rfl
def Q211 (Z : State) (x : Addr) (a_ALLOWED : Addr) (a_NEVER : Addr) (a_ALWAYS : Addr) (h0 : Heap) (n0 : Nat) (v : Option Value) (h : Heap) (L : List Loc) : Prop := v = some (.int (0 : Int32)) ∧ Fr n0 L ∧ h = h0
set_option maxRecDepth 65536 in
set_option maxHeartbeats 40000000 in
theorem rm211 (l : Launch) (Z : State) (a0 : Array Value) (hw : ∀ d ∈ tables_1, d.before a0 Z = true) (ws : List Jvm.Cond) (x : Addr) (a_ALLOWED : Addr) (a_NEVER : Addr) (a_ALWAYS : Addr) (h0 : Heap) (n0 : Nat) (Z0 : n0 ≤ h0.size) (O : Old Z n0 h0) (S_ALLOWED : Sta Z Z.heap "com/example/ledgerhall/ledgerhall/DeductionType$Cafe125" "ALLOWED" "Lcom/example/ledgerhall/ledgerhall/DeductionType$Cafe125;" (.ref a_ALLOWED)) (E_ALLOWED : Exa Z Z.heap a_ALLOWED "com/example/ledgerhall/ledgerhall/DeductionType$Cafe125") (S_NEVER : Sta Z Z.heap "com/example/ledgerhall/ledgerhall/DeductionType$Cafe125" "NEVER" "Lcom/example/ledgerhall/ledgerhall/DeductionType$Cafe125;" (.ref a_NEVER)) (E_NEVER : Exa Z Z.heap a_NEVER "com/example/ledgerhall/ledgerhall/DeductionType$Cafe125") (S_ALWAYS : Sta Z Z.heap "com/example/ledgerhall/ledgerhall/DeductionType$Cafe125" "ALWAYS" "Lcom/example/ledgerhall/ledgerhall/DeductionType$Cafe125;" (.ref a_ALWAYS)) (E_ALWAYS : Exa Z Z.heap a_ALWAYS "com/example/ledgerhall/ledgerhall/DeductionType$Cafe125") (F_NEVER_ordinal : Fld Z Z.heap a_NEVER "java/lang/Enum" "ordinal" "I" (.int (1 : Int32))) (F_ALLOWED_ordinal : Fld Z Z.heap a_ALLOWED "java/lang/Enum" "ordinal" "I" (.int (0 : Int32))) (F_ALWAYS_ordinal : Fld Z Z.heap a_ALWAYS "java/lang/Enum" "ordinal" "I" (.int (2 : Int32))) (E_x : Exa Z h0 x "com/example/ledgerhall/ledgerhall/DeductionType") (F_x : Fld Z h0 x "com/example/ledgerhall/ledgerhall/DeductionType" "cafe125" "Lcom/example/ledgerhall/ledgerhall/DeductionType$Cafe125;" (.ref a_NEVER)) :
    MetFree l (⟨"com/example/ledgerhall/ledgerhall/DeductionType", "takesCafe125", "(Z)Z"⟩ : MethodName) (head1 (Jvm.Cond.code (⟨"com/example/ledgerhall/ledgerhall/DeductionType", "takesCafe125", "(Z)Z"⟩ : MethodName) prog_13_method_10_code 2 (some .boolean) :: ws) ({ frames := 0, cells := 0, slots := 0, locals := 0 } : Room)) (fun aA uU => aA = #[(.ref x), (.int (1 : Int32))] ∧ Z.Warmed39 uU.vm ∧ uU.heap = h0) (fun _ _ _ _ _ => True) (fun _ uU oO uU' => ∃ vV lL, oO = .returned vV ∧ Q211 Z x a_ALLOWED a_NEVER a_ALWAYS h0 n0 vV uU'.heap lL ∧ FrameEnd uU oO uU' lL ({ frames := 0, cells := 0, slots := 0, locals := 0 } : Room).cells ({ frames := 0, cells := 0, slots := 0, locals := 0 } : Room).slots) := by
  refine MetFree.of_bodySF (plainFor_of_name pn_0) hisR ?_
  intro pP eE sS mM args below meth cC s₁ Bd hml0 hP hK
  obtain ⟨rfl, hZ, hh⟩ := hP
  have hx := Bd.exec
  have hby := Bd.bytes
  have hml : cC.maxLocals = 2 := hml0
  have hown : sS.vm.findClass "com/example/ledgerhall/ledgerhall/DeductionType" = some mM.cls := findClass_of_methodNamed Bd.named
  have hnm := (name_of_methodNamed Bd.named Bd.method).1
  have X0 : Stand pP l eE ({ frames := 0, cells := 0, slots := 0, locals := 0 } : Room) sS mM #[(.ref x), (.int (1 : Int32))] below meth cC s₁ [] 0 0 := Stand.of_body Bd
  have e0 : s₁.heap = h0 := by rw [← hh, Bd.state]; rfl
  have N0 := Fr.nil n0
  have pre0 : ∀ tg, Steps pP.tables eE below (s₁.setTop (mkF mM 0 #[.val (.ref x), .val (.int (1 : Int32))] [])) tg → Steps pP.tables eE below (s₁.setTop (entryFrame mM #[(.ref x), (.int (1 : Int32))] 2)) tg := fun tg kg => castTop (ef_211 mM x (1 : Int32)) kg
  have pr1 : ∀ tg, Steps pP.tables eE below (s₁.setTop (mkF mM 1 #[.val (.ref x), .val (.int (1 : Int32))] [(.ref x)])) tg → Steps pP.tables eE below (s₁.setTop (entryFrame mM #[(.ref x), (.int (1 : Int32))] 2)) tg := fun tg kg => pre0 _ (by
    show Steps pP.tables eE below (s₁.setTop (mkF mM 0 #[.val (.ref x), .val (.int (1 : Int32))] [])) _
    refine XS.aloadN X0.here hx rfl (hb hby d211_0) rfl rfl ?_
    exact kg)
  clear pre0
  obtain ⟨T2, X2, e2, st2⟩ := getF X0 hx hZ hown (host := "") (Or.inl (hw _ (List.mem_of_getElem? (i := 60) rfl))) Via.refl e0 F_x (g := (mkF mM 1 #[.val (.ref x), .val (.int (1 : Int32))] [(.ref x)])) rfl rfl (hb hby d211_1)
  have pr3 : ∀ tg, Steps pP.tables eE below (T2.setTop (mkF mM 4 #[.val (.ref x), .val (.int (1 : Int32))] [(.ref a_NEVER)])) tg → Steps pP.tables eE below (s₁.setTop (entryFrame mM #[(.ref x), (.int (1 : Int32))] 2)) tg := fun tg kg => pr1 _ (st2 _ kg)
  clear pr1 st2 X0 e0
  obtain ⟨T4, X4, e4, st4⟩ := getS2 X2 hx hZ hown (host := "") (Or.inl (hw _ (List.mem_of_getElem? (i := 72) rfl))) Via.refl e2 (Sta.ext (O).2 S_ALLOWED) (g := (mkF mM 4 #[.val (.ref x), .val (.int (1 : Int32))] [(.ref a_NEVER)])) rfl (hb hby d211_4)
  have pr5 : ∀ tg, Steps pP.tables eE below (T4.setTop (mkF mM 7 #[.val (.ref x), .val (.int (1 : Int32))] [(.ref a_ALLOWED), (.ref a_NEVER)])) tg → Steps pP.tables eE below (s₁.setTop (entryFrame mM #[(.ref x), (.int (1 : Int32))] 2)) tg := fun tg kg => pr3 _ (st4 _ kg)
  clear pr3 st4 X2 e2
  have pr6 : ∀ tg, Steps pP.tables eE below (T4.setTop (mkF mM 12 #[.val (.ref x), .val (.int (1 : Int32))] [(.ref x), (.int (1 : Int32))])) tg → Steps pP.tables eE below (s₁.setTop (entryFrame mM #[(.ref x), (.int (1 : Int32))] 2)) tg := fun tg kg => pr5 _ (by
    show Steps pP.tables eE below (T4.setTop (mkF mM 7 #[.val (.ref x), .val (.int (1 : Int32))] [(.ref a_ALLOWED), (.ref a_NEVER)])) _
    refine Jvm.RoadKit.acmp (g := (mkF mM 7 #[.val (.ref x), .val (.int (1 : Int32))] [(.ref a_ALLOWED), (.ref a_NEVER)])) X4 hx rfl rfl rfl (pc0 := 7) (pc' := 10) (same := false) rfl (hb hby d211_7) rfl (decide_eq_false fun q => (Fld.ne F_NEVER_ordinal F_ALLOWED_ordinal (by decide)) (Value.ref.inj q)) (by decide) (by decide) ?_
    show Steps pP.tables eE below (T4.setTop (mkF mM 10 #[.val (.ref x), .val (.int (1 : Int32))] [])) _
    refine XS.iloadN X4.here hx rfl (hb hby d211_10) rfl ?_
    show Steps pP.tables eE below (T4.setTop (mkF mM 11 #[.val (.ref x), .val (.int (1 : Int32))] [(.int (1 : Int32))])) _
    refine XS.aloadN X4.here hx rfl (hb hby d211_11) rfl rfl ?_
    exact kg)
  clear pr5
  obtain ⟨T7, X7, e7, st7⟩ := getF X4 hx hZ hown (host := "") (Or.inl (hw _ (List.mem_of_getElem? (i := 60) rfl))) Via.refl e4 F_x (g := (mkF mM 12 #[.val (.ref x), .val (.int (1 : Int32))] [(.ref x), (.int (1 : Int32))])) rfl rfl (hb hby d211_12)
  have pr8 : ∀ tg, Steps pP.tables eE below (T7.setTop (mkF mM 15 #[.val (.ref x), .val (.int (1 : Int32))] [(.ref a_NEVER), (.int (1 : Int32))])) tg → Steps pP.tables eE below (s₁.setTop (entryFrame mM #[(.ref x), (.int (1 : Int32))] 2)) tg := fun tg kg => pr6 _ (st7 _ kg)
  clear pr6 st7 X4 e4
  obtain ⟨T9, X9, e9, st9⟩ := getS2 X7 hx hZ hown (host := "") (Or.inl (hw _ (List.mem_of_getElem? (i := 73) rfl))) Via.refl e7 (Sta.ext (O).2 S_ALWAYS) (g := (mkF mM 15 #[.val (.ref x), .val (.int (1 : Int32))] [(.ref a_NEVER), (.int (1 : Int32))])) rfl (hb hby d211_15)
  have pr10 : ∀ tg, Steps pP.tables eE below (T9.setTop (mkF mM 18 #[.val (.ref x), .val (.int (1 : Int32))] [(.ref a_ALWAYS), (.ref a_NEVER), (.int (1 : Int32))])) tg → Steps pP.tables eE below (s₁.setTop (entryFrame mM #[(.ref x), (.int (1 : Int32))] 2)) tg := fun tg kg => pr8 _ (st9 _ kg)
  clear pr8 st9 X7 e7
  have pr11 : ∀ tg, Steps pP.tables eE below (T9.setTop (mkF mM 34 #[.val (.ref x), .val (.int (1 : Int32))] [(.int (0 : Int32))])) tg → Steps pP.tables eE below (s₁.setTop (entryFrame mM #[(.ref x), (.int (1 : Int32))] 2)) tg := fun tg kg => pr10 _ (by
    show Steps pP.tables eE below (T9.setTop (mkF mM 18 #[.val (.ref x), .val (.int (1 : Int32))] [(.ref a_ALWAYS), (.ref a_NEVER), (.int (1 : Int32))])) _
    refine Jvm.RoadKit.acmp (g := (mkF mM 18 #[.val (.ref x), .val (.int (1 : Int32))] [(.ref a_ALWAYS), (.ref a_NEVER), (.int (1 : Int32))])) X9 hx rfl rfl rfl (pc0 := 18) (pc' := 25) (same := false) rfl (hb hby d211_18) rfl (decide_eq_false fun q => (Fld.ne F_NEVER_ordinal F_ALWAYS_ordinal (by decide)) (Value.ref.inj q)) (by decide) (by decide) ?_
    show Steps pP.tables eE below (T9.setTop (mkF mM 25 #[.val (.ref x), .val (.int (1 : Int32))] [(.int (1 : Int32))])) _
    refine XS.iconst X9.here hx rfl (hb hby d211_25) ?_
    show Steps pP.tables eE below (T9.setTop (mkF mM 26 #[.val (.ref x), .val (.int (1 : Int32))] [(.int (0 : Int32)), (.int (1 : Int32))])) _
    refine XS.icmpYes X9.here hx rfl (pc0 := 26) (pc' := 33) rfl (hb hby d211_26) rfl (feq (by decide)).2 (by decide) (by decide) ?_
    show Steps pP.tables eE below (T9.setTop (mkF mM 33 #[.val (.ref x), .val (.int (1 : Int32))] [])) _
    refine XS.iconst X9.here hx rfl (hb hby d211_33) ?_
    exact kg)
  clear pr10
  obtain ⟨fs, hr, hrun, hended, hW, hsame⟩ := X9.leave (v := some (.int (0 : Int32))) (fun h => by rw [Bd.returns] at h; cases h)
  refine ⟨_, _, pr11 _ (retOut X9 hx (t := .boolean) Bd.returns rfl (Or.inl ⟨rfl, Or.inr (Or.inl rfl), _, rfl⟩) (hb hby d211_34) hr), hrun, hended, _, _, rfl, ?_, ⟨_, rfl⟩, hW, hsame.mono (by decide) (by decide)⟩
  show Q211 Z x a_ALLOWED a_NEVER a_ALWAYS h0 n0 _ T9.heap _
  rw [e9]
  exact ⟨rfl, N0, rfl⟩
theorem d12_0 : decode prog_13_method_9_code 0 = .ok (.aload_n 0, 1) := by decide +kernel
theorem d12_1 : decode prog_13_method_9_code 1 = .ok (.getfield 114, 3) := by decide +kernel
theorem d12_4 : decode prog_13_method_9_code 4 = .ok (.areturn, 1) := by decide +kernel
theorem ef_12 (mM : MethodId) (x0 : Addr) : entryFrame mM #[(.ref x0)] 1 = mkF mM 0 #[.val (.ref x0)] [] := by first | (simp [entryFrame, mkF, argsToLocals, Value.category]; done) | rfl
def Q12 (Z : State) (x : Addr) (a_ALLOWED : Addr) (a_NEVER : Addr) (a_ALWAYS : Addr) (h0 : Heap) (n0 : Nat) (v : Option Value) (h : Heap) (L : List Loc) : Prop := v = some (.ref a_ALWAYS) ∧ Fr n0 L ∧ h = h0
set_option maxRecDepth 65536 in
set_option maxHeartbeats 40000000 in
theorem rm12 (l : Launch) (Z : State) (a0 : Array Value) (hw : ∀ d ∈ tables_1, d.before a0 Z = true) (ws : List Jvm.Cond) (x : Addr) (a_ALLOWED : Addr) (a_NEVER : Addr) (a_ALWAYS : Addr) (h0 : Heap) (n0 : Nat) (Z0 : n0 ≤ h0.size) (O : Old Z n0 h0) (S_ALLOWED : Sta Z Z.heap "com/example/ledgerhall/ledgerhall/DeductionType$Cafe125" "ALLOWED" "Lcom/example/ledgerhall/ledgerhall/DeductionType$Cafe125;" (.ref a_ALLOWED)) (E_ALLOWED : Exa Z Z.heap a_ALLOWED "com/example/ledgerhall/ledgerhall/DeductionType$Cafe125") (S_NEVER : Sta Z Z.heap "com/example/ledgerhall/ledgerhall/DeductionType$Cafe125" "NEVER" "Lcom/example/ledgerhall/ledgerhall/DeductionType$Cafe125;" (.ref a_NEVER)) (E_NEVER : Exa Z Z.heap a_NEVER "com/example/ledgerhall/ledgerhall/DeductionType$Cafe125") (S_ALWAYS : Sta Z Z.heap "com/example/ledgerhall/ledgerhall/DeductionType$Cafe125" "ALWAYS" "Lcom/example/ledgerhall/ledgerhall/DeductionType$Cafe125;" (.ref a_ALWAYS)) (E_ALWAYS : Exa Z Z.heap a_ALWAYS "com/example/ledgerhall/ledgerhall/DeductionType$Cafe125") (F_NEVER_ordinal : Fld Z Z.heap a_NEVER "java/lang/Enum" "ordinal" "I" (.int (1 : Int32))) (F_ALLOWED_ordinal : Fld Z Z.heap a_ALLOWED "java/lang/Enum" "ordinal" "I" (.int (0 : Int32))) (F_ALWAYS_ordinal : Fld Z Z.heap a_ALWAYS "java/lang/Enum" "ordinal" "I" (.int (2 : Int32))) (E_x : Exa Z h0 x "com/example/ledgerhall/ledgerhall/DeductionType") (F_x : Fld Z h0 x "com/example/ledgerhall/ledgerhall/DeductionType" "cafe125" "Lcom/example/ledgerhall/ledgerhall/DeductionType$Cafe125;" (.ref a_ALWAYS)) :
    MetFree l (⟨"com/example/ledgerhall/ledgerhall/DeductionType", "cafe125", "()Lcom/example/ledgerhall/ledgerhall/DeductionType$Cafe125;"⟩ : MethodName) (head1 (Jvm.Cond.code (⟨"com/example/ledgerhall/ledgerhall/DeductionType", "cafe125", "()Lcom/example/ledgerhall/ledgerhall/DeductionType$Cafe125;"⟩ : MethodName) prog_13_method_9_code 1 (some (.object "com/example/ledgerhall/ledgerhall/DeductionType$Cafe125")) :: ws) ({ frames := 0, cells := 0, slots := 0, locals := 0 } : Room)) (fun aA uU => aA = #[(.ref x)] ∧ Z.Warmed39 uU.vm ∧ uU.heap = h0) (fun _ _ _ _ _ => True) (fun _ uU oO uU' => ∃ vV lL, oO = .returned vV ∧ Q12 Z x a_ALLOWED a_NEVER a_ALWAYS h0 n0 vV uU'.heap lL ∧ FrameEnd uU oO uU' lL ({ frames := 0, cells := 0, slots := 0, locals := 0 } : Room).cells ({ frames := 0, cells := 0, slots := 0, locals := 0 } : Room).slots) := by
  refine MetFree.of_bodySF (plainFor_of_name pn_0) hisR ?_
  intro pP eE sS mM args below meth cC s₁ Bd hml0 hP hK
  obtain ⟨rfl, hZ, hh⟩ := hP
  have hx := Bd.exec
  have hby := Bd.bytes
  have hml : cC.maxLocals = 1 := hml0
  have hown : sS.vm.findClass "com/example/ledgerhall/ledgerhall/DeductionType" = some mM.cls := findClass_of_methodNamed Bd.named
  have hnm := (name_of_methodNamed Bd.named Bd.method).1
  have X0 : Stand pP l eE ({ frames := 0, cells := 0, slots := 0, locals := 0 } : Room) sS mM #[(.ref x)] below meth cC s₁ [] 0 0 := Stand.of_body Bd
  have e0 : s₁.heap = h0 := by rw [← hh, Bd.state]; rfl
  have N0 := Fr.nil n0
  have pre0 : ∀ tg, Steps pP.tables eE below (s₁.setTop (mkF mM 0 #[.val (.ref x)] [])) tg → Steps pP.tables eE below (s₁.setTop (entryFrame mM #[(.ref x)] 1)) tg := fun tg kg => castTop (ef_12 mM x) kg
  have pr1 : ∀ tg, Steps pP.tables eE below (s₁.setTop (mkF mM 1 #[.val (.ref x)] [(.ref x)])) tg → Steps pP.tables eE below (s₁.setTop (entryFrame mM #[(.ref x)] 1)) tg := fun tg kg => pre0 _ (by
    show Steps pP.tables eE below (s₁.setTop (mkF mM 0 #[.val (.ref x)] [])) _
    refine XS.aloadN X0.here hx rfl (hb hby d12_0) rfl rfl ?_
    exact kg)
  clear pre0
  obtain ⟨T2, X2, e2, st2⟩ := getF X0 hx hZ hown (host := "") (Or.inl (hw _ (List.mem_of_getElem? (i := 60) rfl))) Via.refl e0 F_x (g := (mkF mM 1 #[.val (.ref x)] [(.ref x)])) rfl rfl (hb hby d12_1)
  have pr3 : ∀ tg, Steps pP.tables eE below (T2.setTop (mkF mM 4 #[.val (.ref x)] [(.ref a_ALWAYS)])) tg → Steps pP.tables eE below (s₁.setTop (entryFrame mM #[(.ref x)] 1)) tg := fun tg kg => pr1 _ (st2 _ kg)
  clear pr1 st2 X0 e0
  obtain ⟨fs, hr, hrun, hended, hW, hsame⟩ := X2.leave (v := some (.ref a_ALWAYS)) (fun h => by rw [Bd.returns] at h; cases h)
  refine ⟨_, _, pr3 _ (retOut X2 hx (t := (.object "com/example/ledgerhall/ledgerhall/DeductionType$Cafe125")) Bd.returns rfl (Or.inr (Or.inr (Or.inr (Or.inr ⟨rfl, rfl, rfl⟩)))) (hb hby d12_4) hr), hrun, hended, _, _, rfl, ?_, ⟨_, rfl⟩, hW, hsame.mono (by decide) (by decide)⟩
  show Q12 Z x a_ALLOWED a_NEVER a_ALWAYS h0 n0 _ T2.heap _
  rw [e2]
  exact ⟨rfl, N0, rfl⟩
theorem d220_0 : decode prog_13_method_10_code 0 = .ok (.aload_n 0, 1) := by decide +kernel
theorem d220_1 : decode prog_13_method_10_code 1 = .ok (.getfield 114, 3) := by decide +kernel
theorem d220_4 : decode prog_13_method_10_code 4 = .ok (.getstatic 118, 3) := by decide +kernel
theorem d220_7 : decode prog_13_method_10_code 7 = .ok (.if_acmp .eq 22, 3) := by decide +kernel
theorem d220_10 : decode prog_13_method_10_code 10 = .ok (.iload_n 1, 1) := by decide +kernel
theorem d220_11 : decode prog_13_method_10_code 11 = .ok (.aload_n 0, 1) := by decide +kernel
theorem d220_12 : decode prog_13_method_10_code 12 = .ok (.getfield 114, 3) := by decide +kernel
theorem d220_15 : decode prog_13_method_10_code 15 = .ok (.getstatic 123, 3) := by decide +kernel
theorem d220_18 : decode prog_13_method_10_code 18 = .ok (.if_acmp .ne 7, 3) := by decide +kernel
theorem d220_21 : decode prog_13_method_10_code 21 = .ok (.iconst 1, 1) := by decide +kernel
theorem d220_22 : decode prog_13_method_10_code 22 = .ok (.goto 4, 3) := by decide +kernel
theorem d220_26 : decode prog_13_method_10_code 26 = .ok (.if_icmp .ne 7, 3) := by decide +kernel
theorem d220_33 : decode prog_13_method_10_code 33 = .ok (.iconst 0, 1) := by decide +kernel
theorem d220_34 : decode prog_13_method_10_code 34 = .ok (.ireturn, 1) := by decide +kernel
theorem ef_220 (mM : MethodId) (x0 : Addr) (x1 : Int32) : entryFrame mM #[(.ref x0), (.int x1)] 2 = mkF mM 0 #[.val (.ref x0), .val (.int x1)] [] := by first | (simp [entryFrame, mkF, argsToLocals, Value.category]; done) | rfl
def Q220 (Z : State) (x : Addr) (a_ALLOWED : Addr) (a_NEVER : Addr) (a_ALWAYS : Addr) (h0 : Heap) (n0 : Nat) (v : Option Value) (h : Heap) (L : List Loc) : Prop := v = some (.int (0 : Int32)) ∧ Fr n0 L ∧ h = h0
set_option maxRecDepth 65536 in
set_option maxHeartbeats 40000000 in
theorem rm220 (l : Launch) (Z : State) (a0 : Array Value) (hw : ∀ d ∈ tables_1, d.before a0 Z = true) (ws : List Jvm.Cond) (x : Addr) (a_ALLOWED : Addr) (a_NEVER : Addr) (a_ALWAYS : Addr) (h0 : Heap) (n0 : Nat) (Z0 : n0 ≤ h0.size) (O : Old Z n0 h0) (S_ALLOWED : Sta Z Z.heap "com/example/ledgerhall/ledgerhall/DeductionType$Cafe125" "ALLOWED" "Lcom/example/ledgerhall/ledgerhall/DeductionType$Cafe125;" (.ref a_ALLOWED)) (E_ALLOWED : Exa Z Z.heap a_ALLOWED "com/example/ledgerhall/ledgerhall/DeductionType$Cafe125") (S_NEVER : Sta Z Z.heap "com/example/ledgerhall/ledgerhall/DeductionType$Cafe125" "NEVER" "Lcom/example/ledgerhall/ledgerhall/DeductionType$Cafe125;" (.ref a_NEVER)) (E_NEVER : Exa Z Z.heap a_NEVER "com/example/ledgerhall/ledgerhall/DeductionType$Cafe125") (S_ALWAYS : Sta Z Z.heap "com/example/ledgerhall/ledgerhall/DeductionType$Cafe125" "ALWAYS" "Lcom/example/ledgerhall/ledgerhall/DeductionType$Cafe125;" (.ref a_ALWAYS)) (E_ALWAYS : Exa Z Z.heap a_ALWAYS "com/example/ledgerhall/ledgerhall/DeductionType$Cafe125") (F_NEVER_ordinal : Fld Z Z.heap a_NEVER "java/lang/Enum" "ordinal" "I" (.int (1 : Int32))) (F_ALLOWED_ordinal : Fld Z Z.heap a_ALLOWED "java/lang/Enum" "ordinal" "I" (.int (0 : Int32))) (F_ALWAYS_ordinal : Fld Z Z.heap a_ALWAYS "java/lang/Enum" "ordinal" "I" (.int (2 : Int32))) (E_x : Exa Z h0 x "com/example/ledgerhall/ledgerhall/DeductionType") (F_x : Fld Z h0 x "com/example/ledgerhall/ledgerhall/DeductionType" "cafe125" "Lcom/example/ledgerhall/ledgerhall/DeductionType$Cafe125;" (.ref a_ALWAYS)) :
    MetFree l (⟨"com/example/ledgerhall/ledgerhall/DeductionType", "takesCafe125", "(Z)Z"⟩ : MethodName) (head1 (Jvm.Cond.code (⟨"com/example/ledgerhall/ledgerhall/DeductionType", "takesCafe125", "(Z)Z"⟩ : MethodName) prog_13_method_10_code 2 (some .boolean) :: ws) ({ frames := 0, cells := 0, slots := 0, locals := 0 } : Room)) (fun aA uU => aA = #[(.ref x), (.int (0 : Int32))] ∧ Z.Warmed39 uU.vm ∧ uU.heap = h0) (fun _ _ _ _ _ => True) (fun _ uU oO uU' => ∃ vV lL, oO = .returned vV ∧ Q220 Z x a_ALLOWED a_NEVER a_ALWAYS h0 n0 vV uU'.heap lL ∧ FrameEnd uU oO uU' lL ({ frames := 0, cells := 0, slots := 0, locals := 0 } : Room).cells ({ frames := 0, cells := 0, slots := 0, locals := 0 } : Room).slots) := by
  refine MetFree.of_bodySF (plainFor_of_name pn_0) hisR ?_
  intro pP eE sS mM args below meth cC s₁ Bd hml0 hP hK
  obtain ⟨rfl, hZ, hh⟩ := hP
  have hx := Bd.exec
  have hby := Bd.bytes
  have hml : cC.maxLocals = 2 := hml0
  have hown : sS.vm.findClass "com/example/ledgerhall/ledgerhall/DeductionType" = some mM.cls := findClass_of_methodNamed Bd.named
  have hnm := (name_of_methodNamed Bd.named Bd.method).1
  have X0 : Stand pP l eE ({ frames := 0, cells := 0, slots := 0, locals := 0 } : Room) sS mM #[(.ref x), (.int (0 : Int32))] below meth cC s₁ [] 0 0 := Stand.of_body Bd
  have e0 : s₁.heap = h0 := by rw [← hh, Bd.state]; rfl
  have N0 := Fr.nil n0
  have pre0 : ∀ tg, Steps pP.tables eE below (s₁.setTop (mkF mM 0 #[.val (.ref x), .val (.int (0 : Int32))] [])) tg → Steps pP.tables eE below (s₁.setTop (entryFrame mM #[(.ref x), (.int (0 : Int32))] 2)) tg := fun tg kg => castTop (ef_220 mM x (0 : Int32)) kg
  have pr1 : ∀ tg, Steps pP.tables eE below (s₁.setTop (mkF mM 1 #[.val (.ref x), .val (.int (0 : Int32))] [(.ref x)])) tg → Steps pP.tables eE below (s₁.setTop (entryFrame mM #[(.ref x), (.int (0 : Int32))] 2)) tg := fun tg kg => pre0 _ (by
    show Steps pP.tables eE below (s₁.setTop (mkF mM 0 #[.val (.ref x), .val (.int (0 : Int32))] [])) _
    refine XS.aloadN X0.here hx rfl (hb hby d220_0) rfl rfl ?_
    exact kg)
  clear pre0
  obtain ⟨T2, X2, e2, st2⟩ := getF X0 hx hZ hown (host := "") (Or.inl (hw _ (List.mem_of_getElem? (i := 60) rfl))) Via.refl e0 F_x (g := (mkF mM 1 #[.val (.ref x), .val (.int (0 : Int32))] [(.ref x)])) rfl rfl (hb hby d220_1)
  have pr3 : ∀ tg, Steps pP.tables eE below (T2.setTop (mkF mM 4 #[.val (.ref x), .val (.int (0 : Int32))] [(.ref a_ALWAYS)])) tg → Steps pP.tables eE below (s₁.setTop (entryFrame mM #[(.ref x), (.int (0 : Int32))] 2)) tg := fun tg kg => pr1 _ (st2 _ kg)
  clear pr1 st2 X0 e0
  obtain ⟨T4, X4, e4, st4⟩ := getS2 X2 hx hZ hown (host := "") (Or.inl (hw _ (List.mem_of_getElem? (i := 72) rfl))) Via.refl e2 (Sta.ext (O).2 S_ALLOWED) (g := (mkF mM 4 #[.val (.ref x), .val (.int (0 : Int32))] [(.ref a_ALWAYS)])) rfl (hb hby d220_4)
  have pr5 : ∀ tg, Steps pP.tables eE below (T4.setTop (mkF mM 7 #[.val (.ref x), .val (.int (0 : Int32))] [(.ref a_ALLOWED), (.ref a_ALWAYS)])) tg → Steps pP.tables eE below (s₁.setTop (entryFrame mM #[(.ref x), (.int (0 : Int32))] 2)) tg := fun tg kg => pr3 _ (st4 _ kg)
  clear pr3 st4 X2 e2
  have pr6 : ∀ tg, Steps pP.tables eE below (T4.setTop (mkF mM 12 #[.val (.ref x), .val (.int (0 : Int32))] [(.ref x), (.int (0 : Int32))])) tg → Steps pP.tables eE below (s₁.setTop (entryFrame mM #[(.ref x), (.int (0 : Int32))] 2)) tg := fun tg kg => pr5 _ (by
    show Steps pP.tables eE below (T4.setTop (mkF mM 7 #[.val (.ref x), .val (.int (0 : Int32))] [(.ref a_ALLOWED), (.ref a_ALWAYS)])) _
    refine Jvm.RoadKit.acmp (g := (mkF mM 7 #[.val (.ref x), .val (.int (0 : Int32))] [(.ref a_ALLOWED), (.ref a_ALWAYS)])) X4 hx rfl rfl rfl (pc0 := 7) (pc' := 10) (same := false) rfl (hb hby d220_7) rfl (decide_eq_false fun q => (Fld.ne F_ALWAYS_ordinal F_ALLOWED_ordinal (by decide)) (Value.ref.inj q)) (by decide) (by decide) ?_
    show Steps pP.tables eE below (T4.setTop (mkF mM 10 #[.val (.ref x), .val (.int (0 : Int32))] [])) _
    refine XS.iloadN X4.here hx rfl (hb hby d220_10) rfl ?_
    show Steps pP.tables eE below (T4.setTop (mkF mM 11 #[.val (.ref x), .val (.int (0 : Int32))] [(.int (0 : Int32))])) _
    refine XS.aloadN X4.here hx rfl (hb hby d220_11) rfl rfl ?_
    exact kg)
  clear pr5
  obtain ⟨T7, X7, e7, st7⟩ := getF X4 hx hZ hown (host := "") (Or.inl (hw _ (List.mem_of_getElem? (i := 60) rfl))) Via.refl e4 F_x (g := (mkF mM 12 #[.val (.ref x), .val (.int (0 : Int32))] [(.ref x), (.int (0 : Int32))])) rfl rfl (hb hby d220_12)
  have pr8 : ∀ tg, Steps pP.tables eE below (T7.setTop (mkF mM 15 #[.val (.ref x), .val (.int (0 : Int32))] [(.ref a_ALWAYS), (.int (0 : Int32))])) tg → Steps pP.tables eE below (s₁.setTop (entryFrame mM #[(.ref x), (.int (0 : Int32))] 2)) tg := fun tg kg => pr6 _ (st7 _ kg)
  clear pr6 st7 X4 e4
  obtain ⟨T9, X9, e9, st9⟩ := getS2 X7 hx hZ hown (host := "") (Or.inl (hw _ (List.mem_of_getElem? (i := 73) rfl))) Via.refl e7 (Sta.ext (O).2 S_ALWAYS) (g := (mkF mM 15 #[.val (.ref x), .val (.int (0 : Int32))] [(.ref a_ALWAYS), (.int (0 : Int32))])) rfl (hb hby d220_15)
  have pr10 : ∀ tg, Steps pP.tables eE below (T9.setTop (mkF mM 18 #[.val (.ref x), .val (.int (0 : Int32))] [(.ref a_ALWAYS), (.ref a_ALWAYS), (.int (0 : Int32))])) tg → Steps pP.tables eE below (s₁.setTop (entryFrame mM #[(.ref x), (.int (0 : Int32))] 2)) tg := fun tg kg => pr8 _ (st9 _ kg)
  clear pr8 st9 X7 e7
  have pr11 : ∀ tg, Steps pP.tables eE below (T9.setTop (mkF mM 34 #[.val (.ref x), .val (.int (0 : Int32))] [(.int (0 : Int32))])) tg → Steps pP.tables eE below (s₁.setTop (entryFrame mM #[(.ref x), (.int (0 : Int32))] 2)) tg := fun tg kg => pr10 _ (by
    show Steps pP.tables eE below (T9.setTop (mkF mM 18 #[.val (.ref x), .val (.int (0 : Int32))] [(.ref a_ALWAYS), (.ref a_ALWAYS), (.int (0 : Int32))])) _
    refine Jvm.RoadKit.acmp (g := (mkF mM 18 #[.val (.ref x), .val (.int (0 : Int32))] [(.ref a_ALWAYS), (.ref a_ALWAYS), (.int (0 : Int32))])) X9 hx rfl rfl rfl (pc0 := 18) (pc' := 21) (same := true) rfl (hb hby d220_18) rfl (decide_eq_true rfl) (by decide) (by decide) ?_
    show Steps pP.tables eE below (T9.setTop (mkF mM 21 #[.val (.ref x), .val (.int (0 : Int32))] [(.int (0 : Int32))])) _
    refine XS.iconst X9.here hx rfl (hb hby d220_21) ?_
    show Steps pP.tables eE below (T9.setTop (mkF mM 22 #[.val (.ref x), .val (.int (0 : Int32))] [(.int (1 : Int32)), (.int (0 : Int32))])) _
    refine XS.goto X9.here hx rfl (pc0 := 22) (pc' := 26) rfl (hb hby d220_22) (by decide) (by decide) ?_
    show Steps pP.tables eE below (T9.setTop (mkF mM 26 #[.val (.ref x), .val (.int (0 : Int32))] [(.int (1 : Int32)), (.int (0 : Int32))])) _
    refine XS.icmpYes X9.here hx rfl (pc0 := 26) (pc' := 33) rfl (hb hby d220_26) rfl (feq (by decide)).2 (by decide) (by decide) ?_
    show Steps pP.tables eE below (T9.setTop (mkF mM 33 #[.val (.ref x), .val (.int (0 : Int32))] [])) _
    refine XS.iconst X9.here hx rfl (hb hby d220_33) ?_
    exact kg)
  clear pr10
  obtain ⟨fs, hr, hrun, hended, hW, hsame⟩ := X9.leave (v := some (.int (0 : Int32))) (fun h => by rw [Bd.returns] at h; cases h)
  refine ⟨_, _, pr11 _ (retOut X9 hx (t := .boolean) Bd.returns rfl (Or.inl ⟨rfl, Or.inr (Or.inl rfl), _, rfl⟩) (hb hby d220_34) hr), hrun, hended, _, _, rfl, ?_, ⟨_, rfl⟩, hW, hsame.mono (by decide) (by decide)⟩
  show Q220 Z x a_ALLOWED a_NEVER a_ALWAYS h0 n0 _ T9.heap _
  rw [e9]
  exact ⟨rfl, N0, rfl⟩
theorem d221_0 : decode prog_13_method_10_code 0 = .ok (.aload_n 0, 1) := by decide +kernel
theorem d221_1 : decode prog_13_method_10_code 1 = .ok (.getfield 114, 3) := by decide +kernel
theorem d221_4 : decode prog_13_method_10_code 4 = .ok (.getstatic 118, 3) := by decide +kernel
theorem d221_7 : decode prog_13_method_10_code 7 = .ok (.if_acmp .eq 22, 3) := by decide +kernel
theorem d221_10 : decode prog_13_method_10_code 10 = .ok (.iload_n 1, 1) := by decide +kernel
theorem d221_11 : decode prog_13_method_10_code 11 = .ok (.aload_n 0, 1) := by decide +kernel
theorem d221_12 : decode prog_13_method_10_code 12 = .ok (.getfield 114, 3) := by decide +kernel
theorem d221_15 : decode prog_13_method_10_code 15 = .ok (.getstatic 123, 3) := by decide +kernel
theorem d221_18 : decode prog_13_method_10_code 18 = .ok (.if_acmp .ne 7, 3) := by decide +kernel
theorem d221_21 : decode prog_13_method_10_code 21 = .ok (.iconst 1, 1) := by decide +kernel
theorem d221_22 : decode prog_13_method_10_code 22 = .ok (.goto 4, 3) := by decide +kernel
theorem d221_26 : decode prog_13_method_10_code 26 = .ok (.if_icmp .ne 7, 3) := by decide +kernel
theorem d221_29 : decode prog_13_method_10_code 29 = .ok (.iconst 1, 1) := by decide +kernel
theorem d221_30 : decode prog_13_method_10_code 30 = .ok (.goto 4, 3) := by decide +kernel
theorem d221_34 : decode prog_13_method_10_code 34 = .ok (.ireturn, 1) := by decide +kernel
theorem ef_221 (mM : MethodId) (x0 : Addr) (x1 : Int32) : entryFrame mM #[(.ref x0), (.int x1)] 2 = mkF mM 0 #[.val (.ref x0), .val (.int x1)] [] := by first | (simp [entryFrame, mkF, argsToLocals, Value.category]; done) | rfl
def Q221 (Z : State) (x : Addr) (a_ALLOWED : Addr) (a_NEVER : Addr) (a_ALWAYS : Addr) (h0 : Heap) (n0 : Nat) (v : Option Value) (h : Heap) (L : List Loc) : Prop := v = some (.int (1 : Int32)) ∧ Fr n0 L ∧ h = h0
set_option maxRecDepth 65536 in
set_option maxHeartbeats 40000000 in
theorem rm221 (l : Launch) (Z : State) (a0 : Array Value) (hw : ∀ d ∈ tables_1, d.before a0 Z = true) (ws : List Jvm.Cond) (x : Addr) (a_ALLOWED : Addr) (a_NEVER : Addr) (a_ALWAYS : Addr) (h0 : Heap) (n0 : Nat) (Z0 : n0 ≤ h0.size) (O : Old Z n0 h0) (S_ALLOWED : Sta Z Z.heap "com/example/ledgerhall/ledgerhall/DeductionType$Cafe125" "ALLOWED" "Lcom/example/ledgerhall/ledgerhall/DeductionType$Cafe125;" (.ref a_ALLOWED)) (E_ALLOWED : Exa Z Z.heap a_ALLOWED "com/example/ledgerhall/ledgerhall/DeductionType$Cafe125") (S_NEVER : Sta Z Z.heap "com/example/ledgerhall/ledgerhall/DeductionType$Cafe125" "NEVER" "Lcom/example/ledgerhall/ledgerhall/DeductionType$Cafe125;" (.ref a_NEVER)) (E_NEVER : Exa Z Z.heap a_NEVER "com/example/ledgerhall/ledgerhall/DeductionType$Cafe125") (S_ALWAYS : Sta Z Z.heap "com/example/ledgerhall/ledgerhall/DeductionType$Cafe125" "ALWAYS" "Lcom/example/ledgerhall/ledgerhall/DeductionType$Cafe125;" (.ref a_ALWAYS)) (E_ALWAYS : Exa Z Z.heap a_ALWAYS "com/example/ledgerhall/ledgerhall/DeductionType$Cafe125") (F_NEVER_ordinal : Fld Z Z.heap a_NEVER "java/lang/Enum" "ordinal" "I" (.int (1 : Int32))) (F_ALLOWED_ordinal : Fld Z Z.heap a_ALLOWED "java/lang/Enum" "ordinal" "I" (.int (0 : Int32))) (F_ALWAYS_ordinal : Fld Z Z.heap a_ALWAYS "java/lang/Enum" "ordinal" "I" (.int (2 : Int32))) (E_x : Exa Z h0 x "com/example/ledgerhall/ledgerhall/DeductionType") (F_x : Fld Z h0 x "com/example/ledgerhall/ledgerhall/DeductionType" "cafe125" "Lcom/example/ledgerhall/ledgerhall/DeductionType$Cafe125;" (.ref a_ALWAYS)) :
    MetFree l (⟨"com/example/ledgerhall/ledgerhall/DeductionType", "takesCafe125", "(Z)Z"⟩ : MethodName) (head1 (Jvm.Cond.code (⟨"com/example/ledgerhall/ledgerhall/DeductionType", "takesCafe125", "(Z)Z"⟩ : MethodName) prog_13_method_10_code 2 (some .boolean) :: ws) ({ frames := 0, cells := 0, slots := 0, locals := 0 } : Room)) (fun aA uU => aA = #[(.ref x), (.int (1 : Int32))] ∧ Z.Warmed39 uU.vm ∧ uU.heap = h0) (fun _ _ _ _ _ => True) (fun _ uU oO uU' => ∃ vV lL, oO = .returned vV ∧ Q221 Z x a_ALLOWED a_NEVER a_ALWAYS h0 n0 vV uU'.heap lL ∧ FrameEnd uU oO uU' lL ({ frames := 0, cells := 0, slots := 0, locals := 0 } : Room).cells ({ frames := 0, cells := 0, slots := 0, locals := 0 } : Room).slots) := by
  refine MetFree.of_bodySF (plainFor_of_name pn_0) hisR ?_
  intro pP eE sS mM args below meth cC s₁ Bd hml0 hP hK
  obtain ⟨rfl, hZ, hh⟩ := hP
  have hx := Bd.exec
  have hby := Bd.bytes
  have hml : cC.maxLocals = 2 := hml0
  have hown : sS.vm.findClass "com/example/ledgerhall/ledgerhall/DeductionType" = some mM.cls := findClass_of_methodNamed Bd.named
  have hnm := (name_of_methodNamed Bd.named Bd.method).1
  have X0 : Stand pP l eE ({ frames := 0, cells := 0, slots := 0, locals := 0 } : Room) sS mM #[(.ref x), (.int (1 : Int32))] below meth cC s₁ [] 0 0 := Stand.of_body Bd
  have e0 : s₁.heap = h0 := by rw [← hh, Bd.state]; rfl
  have N0 := Fr.nil n0
  have pre0 : ∀ tg, Steps pP.tables eE below (s₁.setTop (mkF mM 0 #[.val (.ref x), .val (.int (1 : Int32))] [])) tg → Steps pP.tables eE below (s₁.setTop (entryFrame mM #[(.ref x), (.int (1 : Int32))] 2)) tg := fun tg kg => castTop (ef_221 mM x (1 : Int32)) kg
  have pr1 : ∀ tg, Steps pP.tables eE below (s₁.setTop (mkF mM 1 #[.val (.ref x), .val (.int (1 : Int32))] [(.ref x)])) tg → Steps pP.tables eE below (s₁.setTop (entryFrame mM #[(.ref x), (.int (1 : Int32))] 2)) tg := fun tg kg => pre0 _ (by
    show Steps pP.tables eE below (s₁.setTop (mkF mM 0 #[.val (.ref x), .val (.int (1 : Int32))] [])) _
    refine XS.aloadN X0.here hx rfl (hb hby d221_0) rfl rfl ?_
    exact kg)
  clear pre0
  obtain ⟨T2, X2, e2, st2⟩ := getF X0 hx hZ hown (host := "") (Or.inl (hw _ (List.mem_of_getElem? (i := 60) rfl))) Via.refl e0 F_x (g := (mkF mM 1 #[.val (.ref x), .val (.int (1 : Int32))] [(.ref x)])) rfl rfl (hb hby d221_1)
  have pr3 : ∀ tg, Steps pP.tables eE below (T2.setTop (mkF mM 4 #[.val (.ref x), .val (.int (1 : Int32))] [(.ref a_ALWAYS)])) tg → Steps pP.tables eE below (s₁.setTop (entryFrame mM #[(.ref x), (.int (1 : Int32))] 2)) tg := fun tg kg => pr1 _ (st2 _ kg)
  clear pr1 st2 X0 e0
  obtain ⟨T4, X4, e4, st4⟩ := getS2 X2 hx hZ hown (host := "") (Or.inl (hw _ (List.mem_of_getElem? (i := 72) rfl))) Via.refl e2 (Sta.ext (O).2 S_ALLOWED) (g := (mkF mM 4 #[.val (.ref x), .val (.int (1 : Int32))] [(.ref a_ALWAYS)])) rfl (hb hby d221_4)
  have pr5 : ∀ tg, Steps pP.tables eE below (T4.setTop (mkF mM 7 #[.val (.ref x), .val (.int (1 : Int32))] [(.ref a_ALLOWED), (.ref a_ALWAYS)])) tg → Steps pP.tables eE below (s₁.setTop (entryFrame mM #[(.ref x), (.int (1 : Int32))] 2)) tg := fun tg kg => pr3 _ (st4 _ kg)
  clear pr3 st4 X2 e2
  have pr6 : ∀ tg, Steps pP.tables eE below (T4.setTop (mkF mM 12 #[.val (.ref x), .val (.int (1 : Int32))] [(.ref x), (.int (1 : Int32))])) tg → Steps pP.tables eE below (s₁.setTop (entryFrame mM #[(.ref x), (.int (1 : Int32))] 2)) tg := fun tg kg => pr5 _ (by
    show Steps pP.tables eE below (T4.setTop (mkF mM 7 #[.val (.ref x), .val (.int (1 : Int32))] [(.ref a_ALLOWED), (.ref a_ALWAYS)])) _
    refine Jvm.RoadKit.acmp (g := (mkF mM 7 #[.val (.ref x), .val (.int (1 : Int32))] [(.ref a_ALLOWED), (.ref a_ALWAYS)])) X4 hx rfl rfl rfl (pc0 := 7) (pc' := 10) (same := false) rfl (hb hby d221_7) rfl (decide_eq_false fun q => (Fld.ne F_ALWAYS_ordinal F_ALLOWED_ordinal (by decide)) (Value.ref.inj q)) (by decide) (by decide) ?_
    show Steps pP.tables eE below (T4.setTop (mkF mM 10 #[.val (.ref x), .val (.int (1 : Int32))] [])) _
    refine XS.iloadN X4.here hx rfl (hb hby d221_10) rfl ?_
    show Steps pP.tables eE below (T4.setTop (mkF mM 11 #[.val (.ref x), .val (.int (1 : Int32))] [(.int (1 : Int32))])) _
    refine XS.aloadN X4.here hx rfl (hb hby d221_11) rfl rfl ?_
    exact kg)
  clear pr5
  obtain ⟨T7, X7, e7, st7⟩ := getF X4 hx hZ hown (host := "") (Or.inl (hw _ (List.mem_of_getElem? (i := 60) rfl))) Via.refl e4 F_x (g := (mkF mM 12 #[.val (.ref x), .val (.int (1 : Int32))] [(.ref x), (.int (1 : Int32))])) rfl rfl (hb hby d221_12)
  have pr8 : ∀ tg, Steps pP.tables eE below (T7.setTop (mkF mM 15 #[.val (.ref x), .val (.int (1 : Int32))] [(.ref a_ALWAYS), (.int (1 : Int32))])) tg → Steps pP.tables eE below (s₁.setTop (entryFrame mM #[(.ref x), (.int (1 : Int32))] 2)) tg := fun tg kg => pr6 _ (st7 _ kg)
  clear pr6 st7 X4 e4
  obtain ⟨T9, X9, e9, st9⟩ := getS2 X7 hx hZ hown (host := "") (Or.inl (hw _ (List.mem_of_getElem? (i := 73) rfl))) Via.refl e7 (Sta.ext (O).2 S_ALWAYS) (g := (mkF mM 15 #[.val (.ref x), .val (.int (1 : Int32))] [(.ref a_ALWAYS), (.int (1 : Int32))])) rfl (hb hby d221_15)
  have pr10 : ∀ tg, Steps pP.tables eE below (T9.setTop (mkF mM 18 #[.val (.ref x), .val (.int (1 : Int32))] [(.ref a_ALWAYS), (.ref a_ALWAYS), (.int (1 : Int32))])) tg → Steps pP.tables eE below (s₁.setTop (entryFrame mM #[(.ref x), (.int (1 : Int32))] 2)) tg := fun tg kg => pr8 _ (st9 _ kg)
  clear pr8 st9 X7 e7
  have pr11 : ∀ tg, Steps pP.tables eE below (T9.setTop (mkF mM 34 #[.val (.ref x), .val (.int (1 : Int32))] [(.int (1 : Int32))])) tg → Steps pP.tables eE below (s₁.setTop (entryFrame mM #[(.ref x), (.int (1 : Int32))] 2)) tg := fun tg kg => pr10 _ (by
    show Steps pP.tables eE below (T9.setTop (mkF mM 18 #[.val (.ref x), .val (.int (1 : Int32))] [(.ref a_ALWAYS), (.ref a_ALWAYS), (.int (1 : Int32))])) _
    refine Jvm.RoadKit.acmp (g := (mkF mM 18 #[.val (.ref x), .val (.int (1 : Int32))] [(.ref a_ALWAYS), (.ref a_ALWAYS), (.int (1 : Int32))])) X9 hx rfl rfl rfl (pc0 := 18) (pc' := 21) (same := true) rfl (hb hby d221_18) rfl (decide_eq_true rfl) (by decide) (by decide) ?_
    show Steps pP.tables eE below (T9.setTop (mkF mM 21 #[.val (.ref x), .val (.int (1 : Int32))] [(.int (1 : Int32))])) _
    refine XS.iconst X9.here hx rfl (hb hby d221_21) ?_
    show Steps pP.tables eE below (T9.setTop (mkF mM 22 #[.val (.ref x), .val (.int (1 : Int32))] [(.int (1 : Int32)), (.int (1 : Int32))])) _
    refine XS.goto X9.here hx rfl (pc0 := 22) (pc' := 26) rfl (hb hby d221_22) (by decide) (by decide) ?_
    show Steps pP.tables eE below (T9.setTop (mkF mM 26 #[.val (.ref x), .val (.int (1 : Int32))] [(.int (1 : Int32)), (.int (1 : Int32))])) _
    refine XS.icmpNo X9.here hx rfl (hb hby d221_26) rfl (teq (by decide)).2 ?_
    show Steps pP.tables eE below (T9.setTop (mkF mM 29 #[.val (.ref x), .val (.int (1 : Int32))] [])) _
    refine XS.iconst X9.here hx rfl (hb hby d221_29) ?_
    show Steps pP.tables eE below (T9.setTop (mkF mM 30 #[.val (.ref x), .val (.int (1 : Int32))] [(.int (1 : Int32))])) _
    refine XS.goto X9.here hx rfl (pc0 := 30) (pc' := 34) rfl (hb hby d221_30) (by decide) (by decide) ?_
    exact kg)
  clear pr10
  obtain ⟨fs, hr, hrun, hended, hW, hsame⟩ := X9.leave (v := some (.int (1 : Int32))) (fun h => by rw [Bd.returns] at h; cases h)
  refine ⟨_, _, pr11 _ (retOut X9 hx (t := .boolean) Bd.returns rfl (Or.inl ⟨rfl, Or.inr (Or.inl rfl), _, rfl⟩) (hb hby d221_34) hr), hrun, hended, _, _, rfl, ?_, ⟨_, rfl⟩, hW, hsame.mono (by decide) (by decide)⟩
  show Q221 Z x a_ALLOWED a_NEVER a_ALWAYS h0 n0 _ T9.heap _
  rw [e9]
  exact ⟨rfl, N0, rfl⟩
theorem own_25 {z : Int32} (h1 : 0 ≤ z.toInt) (h2 : z.toInt < 25) : z = (0 : Int32) ∨ z = (1 : Int32) ∨ z = (2 : Int32) ∨ z = (3 : Int32) ∨ z = (4 : Int32) ∨ z = (5 : Int32) ∨ z = (6 : Int32) ∨ z = (7 : Int32) ∨ z = (8 : Int32) ∨ z = (9 : Int32) ∨ z = (10 : Int32) ∨ z = (11 : Int32) ∨ z = (12 : Int32) ∨ z = (13 : Int32) ∨ z = (14 : Int32) ∨ z = (15 : Int32) ∨ z = (16 : Int32) ∨ z = (17 : Int32) ∨ z = (18 : Int32) ∨ z = (19 : Int32) ∨ z = (20 : Int32) ∨ z = (21 : Int32) ∨ z = (22 : Int32) ∨ z = (23 : Int32) ∨ z = (24 : Int32) := by
  have h : z.toInt = 0 ∨ z.toInt = 1 ∨ z.toInt = 2 ∨ z.toInt = 3 ∨ z.toInt = 4 ∨ z.toInt = 5 ∨ z.toInt = 6 ∨ z.toInt = 7 ∨ z.toInt = 8 ∨ z.toInt = 9 ∨ z.toInt = 10 ∨ z.toInt = 11 ∨ z.toInt = 12 ∨ z.toInt = 13 ∨ z.toInt = 14 ∨ z.toInt = 15 ∨ z.toInt = 16 ∨ z.toInt = 17 ∨ z.toInt = 18 ∨ z.toInt = 19 ∨ z.toInt = 20 ∨ z.toInt = 21 ∨ z.toInt = 22 ∨ z.toInt = 23 ∨ z.toInt = 24 := by omega
  rcases h with h | h | h | h | h | h | h | h | h | h | h | h | h | h | h | h | h | h | h | h | h | h | h | h | h
  · exact Or.inl (Int32.toInt_inj.mp h)
  · exact Or.inr (Or.inl (Int32.toInt_inj.mp h))
  · exact Or.inr (Or.inr (Or.inl (Int32.toInt_inj.mp h)))
  · exact Or.inr (Or.inr (Or.inr (Or.inl (Int32.toInt_inj.mp h))))
  · exact Or.inr (Or.inr (Or.inr (Or.inr (Or.inl (Int32.toInt_inj.mp h)))))
  · exact Or.inr (Or.inr (Or.inr (Or.inr (Or.inr (Or.inl (Int32.toInt_inj.mp h))))))
  · exact Or.inr (Or.inr (Or.inr (Or.inr (Or.inr (Or.inr (Or.inl (Int32.toInt_inj.mp h)))))))
  · exact Or.inr (Or.inr (Or.inr (Or.inr (Or.inr (Or.inr (Or.inr (Or.inl (Int32.toInt_inj.mp h))))))))
  · exact Or.inr (Or.inr (Or.inr (Or.inr (Or.inr (Or.inr (Or.inr (Or.inr (Or.inl (Int32.toInt_inj.mp h)))))))))
  · exact Or.inr (Or.inr (Or.inr (Or.inr (Or.inr (Or.inr (Or.inr (Or.inr (Or.inr (Or.inl (Int32.toInt_inj.mp h))))))))))
  · exact Or.inr (Or.inr (Or.inr (Or.inr (Or.inr (Or.inr (Or.inr (Or.inr (Or.inr (Or.inr (Or.inl (Int32.toInt_inj.mp h)))))))))))
  · exact Or.inr (Or.inr (Or.inr (Or.inr (Or.inr (Or.inr (Or.inr (Or.inr (Or.inr (Or.inr (Or.inr (Or.inl (Int32.toInt_inj.mp h))))))))))))
  · exact Or.inr (Or.inr (Or.inr (Or.inr (Or.inr (Or.inr (Or.inr (Or.inr (Or.inr (Or.inr (Or.inr (Or.inr (Or.inl (Int32.toInt_inj.mp h)))))))))))))
  · exact Or.inr (Or.inr (Or.inr (Or.inr (Or.inr (Or.inr (Or.inr (Or.inr (Or.inr (Or.inr (Or.inr (Or.inr (Or.inr (Or.inl (Int32.toInt_inj.mp h))))))))))))))
  · exact Or.inr (Or.inr (Or.inr (Or.inr (Or.inr (Or.inr (Or.inr (Or.inr (Or.inr (Or.inr (Or.inr (Or.inr (Or.inr (Or.inr (Or.inl (Int32.toInt_inj.mp h)))))))))))))))
  · exact Or.inr (Or.inr (Or.inr (Or.inr (Or.inr (Or.inr (Or.inr (Or.inr (Or.inr (Or.inr (Or.inr (Or.inr (Or.inr (Or.inr (Or.inr (Or.inl (Int32.toInt_inj.mp h))))))))))))))))
  · exact Or.inr (Or.inr (Or.inr (Or.inr (Or.inr (Or.inr (Or.inr (Or.inr (Or.inr (Or.inr (Or.inr (Or.inr (Or.inr (Or.inr (Or.inr (Or.inr (Or.inl (Int32.toInt_inj.mp h)))))))))))))))))
  · exact Or.inr (Or.inr (Or.inr (Or.inr (Or.inr (Or.inr (Or.inr (Or.inr (Or.inr (Or.inr (Or.inr (Or.inr (Or.inr (Or.inr (Or.inr (Or.inr (Or.inr (Or.inl (Int32.toInt_inj.mp h))))))))))))))))))
  · exact Or.inr (Or.inr (Or.inr (Or.inr (Or.inr (Or.inr (Or.inr (Or.inr (Or.inr (Or.inr (Or.inr (Or.inr (Or.inr (Or.inr (Or.inr (Or.inr (Or.inr (Or.inr (Or.inl (Int32.toInt_inj.mp h)))))))))))))))))))
  · exact Or.inr (Or.inr (Or.inr (Or.inr (Or.inr (Or.inr (Or.inr (Or.inr (Or.inr (Or.inr (Or.inr (Or.inr (Or.inr (Or.inr (Or.inr (Or.inr (Or.inr (Or.inr (Or.inr (Or.inl (Int32.toInt_inj.mp h))))))))))))))))))))
  · exact Or.inr (Or.inr (Or.inr (Or.inr (Or.inr (Or.inr (Or.inr (Or.inr (Or.inr (Or.inr (Or.inr (Or.inr (Or.inr (Or.inr (Or.inr (Or.inr (Or.inr (Or.inr (Or.inr (Or.inr (Or.inl (Int32.toInt_inj.mp h)))))))))))))))))))))
  · exact Or.inr (Or.inr (Or.inr (Or.inr (Or.inr (Or.inr (Or.inr (Or.inr (Or.inr (Or.inr (Or.inr (Or.inr (Or.inr (Or.inr (Or.inr (Or.inr (Or.inr (Or.inr (Or.inr (Or.inr (Or.inr (Or.inl (Int32.toInt_inj.mp h))))))))))))))))))))))
  · exact Or.inr (Or.inr (Or.inr (Or.inr (Or.inr (Or.inr (Or.inr (Or.inr (Or.inr (Or.inr (Or.inr (Or.inr (Or.inr (Or.inr (Or.inr (Or.inr (Or.inr (Or.inr (Or.inr (Or.inr (Or.inr (Or.inr (Or.inl (Int32.toInt_inj.mp h)))))))))))))))))))))))
  · exact Or.inr (Or.inr (Or.inr (Or.inr (Or.inr (Or.inr (Or.inr (Or.inr (Or.inr (Or.inr (Or.inr (Or.inr (Or.inr (Or.inr (Or.inr (Or.inr (Or.inr (Or.inr (Or.inr (Or.inr (Or.inr (Or.inr (Or.inr (Or.inl (Int32.toInt_inj.mp h))))))))))))))))))))))))
  · exact Or.inr (Or.inr (Or.inr (Or.inr (Or.inr (Or.inr (Or.inr (Or.inr (Or.inr (Or.inr (Or.inr (Or.inr (Or.inr (Or.inr (Or.inr (Or.inr (Or.inr (Or.inr (Or.inr (Or.inr (Or.inr (Or.inr (Or.inr (Or.inr (Int32.toInt_inj.mp h))))))))))))))))))))))))
theorem own_rem25 (k : Int32) : 0 ≤ ((k &&& (2147483647 : Int32)) % (25 : Int32)).toInt ∧ ((k &&& (2147483647 : Int32)) % (25 : Int32)).toInt < 25 := by
  have e1 : (k &&& 2147483647).toInt = k.toInt % 2 ^ 31 := Jvm.Kit.i32_mask k 2147483647 (k := 31) (by decide) (by decide)
  have e5 : (25 : Int32).toInt = 25 := rfl
  have e2 := Jvm.Kit.i32_rem_nonneg (x := k &&& 2147483647) (y := 25) (by omega)
  rw [e5] at e2
  omega
theorem own_in {z n : Int32} (h1 : 0 ≤ z.toInt) (h2 : z.toInt < n.toInt) : ¬ z < 0 ∧ z < n := by
  rw [Int32.lt_iff_toInt_lt, Int32.lt_iff_toInt_lt]
  exact ⟨by rw [show (0 : Int32).toInt = 0 from rfl]; omega, h2⟩
theorem own_eqr {Z : State} {args : Array Value} {X F : Term} {idx : List Nat} {b : Addr} (hF : F.eval args Z none idx Z = some (.ref b)) (h : (Cond.eq X F).value args Z none Z idx = some true) : X.eval args Z none idx Z = some (.ref b) := by
  obtain ⟨x, y', e1, e2, k1, k2⟩ := cmp_v (Or.inl h)
  cases hF.symm.trans e2
  rcases ref_cases k2.2 with rfl | ⟨a, rfl⟩
  · simp [Cond.value, e1, hF] at h
  · have q : a = b := by simpa [Cond.value, e1, hF] using h
    rw [e1, q]
theorem pd_0 : parseMethodDescriptor "()Lcom/example/ledgerhall/ledgerhall/DeductionType$Cafe125;" = some ⟨[], some (.object "com/example/ledgerhall/ledgerhall/DeductionType$Cafe125")⟩ := by decide +kernel
theorem pd_1 : parseMethodDescriptor "(Z)Z" = some ⟨[.boolean], some .boolean⟩ := by decide +kernel
theorem pn_1 : plainName "com/example/ledgerhall/ledgerhall/DeductionTypeTakesCafe125PinLaw" = true := by first | (simp [plainName, overriddenIn]; done) | decide +kernel
theorem ef_0 (mM : MethodId) (x0 : Int32) (x1 : Int32) : entryFrame mM #[(.int x0), (.int x1)] maxLocals = mkF mM 0 #[.val (.int x0), .val (.int x1), .unset, .unset, .unset, .unset, .unset] [] := by first | (simp [entryFrame, mkF, argsToLocals, Value.category, maxLocals]; done) | rfl
def Q0 (Z : State) (p1 : Int32) (p2 : Int32) (a_FICA_ALTERNATIVE_ANNUITY : Addr) (a_TRS_HEALTH_INSURANCE : Addr) (a_ANNUITY : Addr) (a_CREDIT_UNION : Addr) (a_DEFERRED_COMPENSATION : Addr) (a_DEFERRED_COMPENSATION_LUMP : Addr) (a_DEPENDENT_CARE : Addr) (a_HEALTH_INSURANCE : Addr) (a_HEALTH_SAVINGS : Addr) (a_INCOME_REPLACEMENT : Addr) (a_LIFE_INSURANCE : Addr) (a_MISCELLANEOUS_1 : Addr) (a_MISCELLANEOUS_2 : Addr) (a_MISCELLANEOUS_3 : Addr) (a_ROTH_403B : Addr) (a_ROTH_457B : Addr) (a_RETIREE_TRS_CARE : Addr) (a_SAVINGS_BOND : Addr) (a_WHOLE_LIFE_CONTRIBUTION : Addr) (a_GROUP_LIFE_CONTRIBUTION : Addr) (a_TRS_SERVICE_BUY_BACK : Addr) (a_TSTA_DUES : Addr) (a_UNION_DUES : Addr) (a_UNITED_FUND : Addr) (a_ADDITIONAL_WITHHOLDING : Addr) (a_ALLOWED : Addr) (a_NEVER : Addr) (a_ALWAYS : Addr) (h0 : Heap) (n0 : Nat) (v : Option Value) (h : Heap) (L : List Loc) : Prop := v = some (.int (1 : Int32)) ∧ Fr n0 L
set_option maxRecDepth 65536 in
set_option maxHeartbeats 40000000 in
theorem rm0 (l : Launch) (Z : State) (a0 : Array Value) (hw : ∀ d ∈ tables_1, d.before a0 Z = true) (ws : List Jvm.Cond) (p1 : Int32) (p2 : Int32) (a_FICA_ALTERNATIVE_ANNUITY : Addr) (a_TRS_HEALTH_INSURANCE : Addr) (a_ANNUITY : Addr) (a_CREDIT_UNION : Addr) (a_DEFERRED_COMPENSATION : Addr) (a_DEFERRED_COMPENSATION_LUMP : Addr) (a_DEPENDENT_CARE : Addr) (a_HEALTH_INSURANCE : Addr) (a_HEALTH_SAVINGS : Addr) (a_INCOME_REPLACEMENT : Addr) (a_LIFE_INSURANCE : Addr) (a_MISCELLANEOUS_1 : Addr) (a_MISCELLANEOUS_2 : Addr) (a_MISCELLANEOUS_3 : Addr) (a_ROTH_403B : Addr) (a_ROTH_457B : Addr) (a_RETIREE_TRS_CARE : Addr) (a_SAVINGS_BOND : Addr) (a_WHOLE_LIFE_CONTRIBUTION : Addr) (a_GROUP_LIFE_CONTRIBUTION : Addr) (a_TRS_SERVICE_BUY_BACK : Addr) (a_TSTA_DUES : Addr) (a_UNION_DUES : Addr) (a_UNITED_FUND : Addr) (a_ADDITIONAL_WITHHOLDING : Addr) (a_ALLOWED : Addr) (a_NEVER : Addr) (a_ALWAYS : Addr) (h0 : Heap) (n0 : Nat) (Z0 : n0 ≤ h0.size) (O : Old Z n0 h0) (S_ALLOWED : Sta Z Z.heap "com/example/ledgerhall/ledgerhall/DeductionType$Cafe125" "ALLOWED" "Lcom/example/ledgerhall/ledgerhall/DeductionType$Cafe125;" (.ref a_ALLOWED)) (E_ALLOWED : Exa Z Z.heap a_ALLOWED "com/example/ledgerhall/ledgerhall/DeductionType$Cafe125") (S_NEVER : Sta Z Z.heap "com/example/ledgerhall/ledgerhall/DeductionType$Cafe125" "NEVER" "Lcom/example/ledgerhall/ledgerhall/DeductionType$Cafe125;" (.ref a_NEVER)) (E_NEVER : Exa Z Z.heap a_NEVER "com/example/ledgerhall/ledgerhall/DeductionType$Cafe125") (S_ALWAYS : Sta Z Z.heap "com/example/ledgerhall/ledgerhall/DeductionType$Cafe125" "ALWAYS" "Lcom/example/ledgerhall/ledgerhall/DeductionType$Cafe125;" (.ref a_ALWAYS)) (E_ALWAYS : Exa Z Z.heap a_ALWAYS "com/example/ledgerhall/ledgerhall/DeductionType$Cafe125") (F_NEVER_ordinal : Fld Z Z.heap a_NEVER "java/lang/Enum" "ordinal" "I" (.int (1 : Int32))) (F_ALLOWED_ordinal : Fld Z Z.heap a_ALLOWED "java/lang/Enum" "ordinal" "I" (.int (0 : Int32))) (F_ALWAYS_ordinal : Fld Z Z.heap a_ALWAYS "java/lang/Enum" "ordinal" "I" (.int (2 : Int32))) (S_FICA_ALTERNATIVE_ANNUITY : Sta Z Z.heap "com/example/ledgerhall/ledgerhall/DeductionType" "FICA_ALTERNATIVE_ANNUITY" "Lcom/example/ledgerhall/ledgerhall/DeductionType;" (.ref a_FICA_ALTERNATIVE_ANNUITY)) (E_FICA_ALTERNATIVE_ANNUITY : Exa Z Z.heap a_FICA_ALTERNATIVE_ANNUITY "com/example/ledgerhall/ledgerhall/DeductionType") (S_TRS_HEALTH_INSURANCE : Sta Z Z.heap "com/example/ledgerhall/ledgerhall/DeductionType" "TRS_HEALTH_INSURANCE" "Lcom/example/ledgerhall/ledgerhall/DeductionType;" (.ref a_TRS_HEALTH_INSURANCE)) (E_TRS_HEALTH_INSURANCE : Exa Z Z.heap a_TRS_HEALTH_INSURANCE "com/example/ledgerhall/ledgerhall/DeductionType") (S_ANNUITY : Sta Z Z.heap "com/example/ledgerhall/ledgerhall/DeductionType" "ANNUITY" "Lcom/example/ledgerhall/ledgerhall/DeductionType;" (.ref a_ANNUITY)) (E_ANNUITY : Exa Z Z.heap a_ANNUITY "com/example/ledgerhall/ledgerhall/DeductionType") (S_CREDIT_UNION : Sta Z Z.heap "com/example/ledgerhall/ledgerhall/DeductionType" "CREDIT_UNION" "Lcom/example/ledgerhall/ledgerhall/DeductionType;" (.ref a_CREDIT_UNION)) (E_CREDIT_UNION : Exa Z Z.heap a_CREDIT_UNION "com/example/ledgerhall/ledgerhall/DeductionType") (S_DEFERRED_COMPENSATION : Sta Z Z.heap "com/example/ledgerhall/ledgerhall/DeductionType" "DEFERRED_COMPENSATION" "Lcom/example/ledgerhall/ledgerhall/DeductionType;" (.ref a_DEFERRED_COMPENSATION)) (E_DEFERRED_COMPENSATION : Exa Z Z.heap a_DEFERRED_COMPENSATION "com/example/ledgerhall/ledgerhall/DeductionType") (S_DEFERRED_COMPENSATION_LUMP : Sta Z Z.heap "com/example/ledgerhall/ledgerhall/DeductionType" "DEFERRED_COMPENSATION_LUMP" "Lcom/example/ledgerhall/ledgerhall/DeductionType;" (.ref a_DEFERRED_COMPENSATION_LUMP)) (E_DEFERRED_COMPENSATION_LUMP : Exa Z Z.heap a_DEFERRED_COMPENSATION_LUMP "com/example/ledgerhall/ledgerhall/DeductionType") (S_DEPENDENT_CARE : Sta Z Z.heap "com/example/ledgerhall/ledgerhall/DeductionType" "DEPENDENT_CARE" "Lcom/example/ledgerhall/ledgerhall/DeductionType;" (.ref a_DEPENDENT_CARE)) (E_DEPENDENT_CARE : Exa Z Z.heap a_DEPENDENT_CARE "com/example/ledgerhall/ledgerhall/DeductionType") (S_HEALTH_INSURANCE : Sta Z Z.heap "com/example/ledgerhall/ledgerhall/DeductionType" "HEALTH_INSURANCE" "Lcom/example/ledgerhall/ledgerhall/DeductionType;" (.ref a_HEALTH_INSURANCE)) (E_HEALTH_INSURANCE : Exa Z Z.heap a_HEALTH_INSURANCE "com/example/ledgerhall/ledgerhall/DeductionType") (S_HEALTH_SAVINGS : Sta Z Z.heap "com/example/ledgerhall/ledgerhall/DeductionType" "HEALTH_SAVINGS" "Lcom/example/ledgerhall/ledgerhall/DeductionType;" (.ref a_HEALTH_SAVINGS)) (E_HEALTH_SAVINGS : Exa Z Z.heap a_HEALTH_SAVINGS "com/example/ledgerhall/ledgerhall/DeductionType") (S_INCOME_REPLACEMENT : Sta Z Z.heap "com/example/ledgerhall/ledgerhall/DeductionType" "INCOME_REPLACEMENT" "Lcom/example/ledgerhall/ledgerhall/DeductionType;" (.ref a_INCOME_REPLACEMENT)) (E_INCOME_REPLACEMENT : Exa Z Z.heap a_INCOME_REPLACEMENT "com/example/ledgerhall/ledgerhall/DeductionType") (S_LIFE_INSURANCE : Sta Z Z.heap "com/example/ledgerhall/ledgerhall/DeductionType" "LIFE_INSURANCE" "Lcom/example/ledgerhall/ledgerhall/DeductionType;" (.ref a_LIFE_INSURANCE)) (E_LIFE_INSURANCE : Exa Z Z.heap a_LIFE_INSURANCE "com/example/ledgerhall/ledgerhall/DeductionType") (S_MISCELLANEOUS_1 : Sta Z Z.heap "com/example/ledgerhall/ledgerhall/DeductionType" "MISCELLANEOUS_1" "Lcom/example/ledgerhall/ledgerhall/DeductionType;" (.ref a_MISCELLANEOUS_1)) (E_MISCELLANEOUS_1 : Exa Z Z.heap a_MISCELLANEOUS_1 "com/example/ledgerhall/ledgerhall/DeductionType") (S_MISCELLANEOUS_2 : Sta Z Z.heap "com/example/ledgerhall/ledgerhall/DeductionType" "MISCELLANEOUS_2" "Lcom/example/ledgerhall/ledgerhall/DeductionType;" (.ref a_MISCELLANEOUS_2)) (E_MISCELLANEOUS_2 : Exa Z Z.heap a_MISCELLANEOUS_2 "com/example/ledgerhall/ledgerhall/DeductionType") (S_MISCELLANEOUS_3 : Sta Z Z.heap "com/example/ledgerhall/ledgerhall/DeductionType" "MISCELLANEOUS_3" "Lcom/example/ledgerhall/ledgerhall/DeductionType;" (.ref a_MISCELLANEOUS_3)) (E_MISCELLANEOUS_3 : Exa Z Z.heap a_MISCELLANEOUS_3 "com/example/ledgerhall/ledgerhall/DeductionType") (S_ROTH_403B : Sta Z Z.heap "com/example/ledgerhall/ledgerhall/DeductionType" "ROTH_403B" "Lcom/example/ledgerhall/ledgerhall/DeductionType;" (.ref a_ROTH_403B)) (E_ROTH_403B : Exa Z Z.heap a_ROTH_403B "com/example/ledgerhall/ledgerhall/DeductionType") (S_ROTH_457B : Sta Z Z.heap "com/example/ledgerhall/ledgerhall/DeductionType" "ROTH_457B" "Lcom/example/ledgerhall/ledgerhall/DeductionType;" (.ref a_ROTH_457B)) (E_ROTH_457B : Exa Z Z.heap a_ROTH_457B "com/example/ledgerhall/ledgerhall/DeductionType") (S_RETIREE_TRS_CARE : Sta Z Z.heap "com/example/ledgerhall/ledgerhall/DeductionType" "RETIREE_TRS_CARE" "Lcom/example/ledgerhall/ledgerhall/DeductionType;" (.ref a_RETIREE_TRS_CARE)) (E_RETIREE_TRS_CARE : Exa Z Z.heap a_RETIREE_TRS_CARE "com/example/ledgerhall/ledgerhall/DeductionType") (S_SAVINGS_BOND : Sta Z Z.heap "com/example/ledgerhall/ledgerhall/DeductionType" "SAVINGS_BOND" "Lcom/example/ledgerhall/ledgerhall/DeductionType;" (.ref a_SAVINGS_BOND)) (E_SAVINGS_BOND : Exa Z Z.heap a_SAVINGS_BOND "com/example/ledgerhall/ledgerhall/DeductionType") (S_WHOLE_LIFE_CONTRIBUTION : Sta Z Z.heap "com/example/ledgerhall/ledgerhall/DeductionType" "WHOLE_LIFE_CONTRIBUTION" "Lcom/example/ledgerhall/ledgerhall/DeductionType;" (.ref a_WHOLE_LIFE_CONTRIBUTION)) (E_WHOLE_LIFE_CONTRIBUTION : Exa Z Z.heap a_WHOLE_LIFE_CONTRIBUTION "com/example/ledgerhall/ledgerhall/DeductionType") (S_GROUP_LIFE_CONTRIBUTION : Sta Z Z.heap "com/example/ledgerhall/ledgerhall/DeductionType" "GROUP_LIFE_CONTRIBUTION" "Lcom/example/ledgerhall/ledgerhall/DeductionType;" (.ref a_GROUP_LIFE_CONTRIBUTION)) (E_GROUP_LIFE_CONTRIBUTION : Exa Z Z.heap a_GROUP_LIFE_CONTRIBUTION "com/example/ledgerhall/ledgerhall/DeductionType") (S_TRS_SERVICE_BUY_BACK : Sta Z Z.heap "com/example/ledgerhall/ledgerhall/DeductionType" "TRS_SERVICE_BUY_BACK" "Lcom/example/ledgerhall/ledgerhall/DeductionType;" (.ref a_TRS_SERVICE_BUY_BACK)) (E_TRS_SERVICE_BUY_BACK : Exa Z Z.heap a_TRS_SERVICE_BUY_BACK "com/example/ledgerhall/ledgerhall/DeductionType") (S_TSTA_DUES : Sta Z Z.heap "com/example/ledgerhall/ledgerhall/DeductionType" "TSTA_DUES" "Lcom/example/ledgerhall/ledgerhall/DeductionType;" (.ref a_TSTA_DUES)) (E_TSTA_DUES : Exa Z Z.heap a_TSTA_DUES "com/example/ledgerhall/ledgerhall/DeductionType") (S_UNION_DUES : Sta Z Z.heap "com/example/ledgerhall/ledgerhall/DeductionType" "UNION_DUES" "Lcom/example/ledgerhall/ledgerhall/DeductionType;" (.ref a_UNION_DUES)) (E_UNION_DUES : Exa Z Z.heap a_UNION_DUES "com/example/ledgerhall/ledgerhall/DeductionType") (S_UNITED_FUND : Sta Z Z.heap "com/example/ledgerhall/ledgerhall/DeductionType" "UNITED_FUND" "Lcom/example/ledgerhall/ledgerhall/DeductionType;" (.ref a_UNITED_FUND)) (E_UNITED_FUND : Exa Z Z.heap a_UNITED_FUND "com/example/ledgerhall/ledgerhall/DeductionType") (S_ADDITIONAL_WITHHOLDING : Sta Z Z.heap "com/example/ledgerhall/ledgerhall/DeductionType" "ADDITIONAL_WITHHOLDING" "Lcom/example/ledgerhall/ledgerhall/DeductionType;" (.ref a_ADDITIONAL_WITHHOLDING)) (E_ADDITIONAL_WITHHOLDING : Exa Z Z.heap a_ADDITIONAL_WITHHOLDING "com/example/ledgerhall/ledgerhall/DeductionType") (F_FICA_ALTERNATIVE_ANNUITY_cafe125 : Fld Z Z.heap a_FICA_ALTERNATIVE_ANNUITY "com/example/ledgerhall/ledgerhall/DeductionType" "cafe125" "Lcom/example/ledgerhall/ledgerhall/DeductionType$Cafe125;" (.ref a_NEVER)) (F_TRS_HEALTH_INSURANCE_cafe125 : Fld Z Z.heap a_TRS_HEALTH_INSURANCE "com/example/ledgerhall/ledgerhall/DeductionType" "cafe125" "Lcom/example/ledgerhall/ledgerhall/DeductionType$Cafe125;" (.ref a_ALLOWED)) (F_ANNUITY_cafe125 : Fld Z Z.heap a_ANNUITY "com/example/ledgerhall/ledgerhall/DeductionType" "cafe125" "Lcom/example/ledgerhall/ledgerhall/DeductionType$Cafe125;" (.ref a_NEVER)) (F_CREDIT_UNION_cafe125 : Fld Z Z.heap a_CREDIT_UNION "com/example/ledgerhall/ledgerhall/DeductionType" "cafe125" "Lcom/example/ledgerhall/ledgerhall/DeductionType$Cafe125;" (.ref a_NEVER)) (F_DEFERRED_COMPENSATION_cafe125 : Fld Z Z.heap a_DEFERRED_COMPENSATION "com/example/ledgerhall/ledgerhall/DeductionType" "cafe125" "Lcom/example/ledgerhall/ledgerhall/DeductionType$Cafe125;" (.ref a_NEVER)) (F_DEFERRED_COMPENSATION_LUMP_cafe125 : Fld Z Z.heap a_DEFERRED_COMPENSATION_LUMP "com/example/ledgerhall/ledgerhall/DeductionType" "cafe125" "Lcom/example/ledgerhall/ledgerhall/DeductionType$Cafe125;" (.ref a_NEVER)) (F_DEPENDENT_CARE_cafe125 : Fld Z Z.heap a_DEPENDENT_CARE "com/example/ledgerhall/ledgerhall/DeductionType" "cafe125" "Lcom/example/ledgerhall/ledgerhall/DeductionType$Cafe125;" (.ref a_ALWAYS)) (F_HEALTH_INSURANCE_cafe125 : Fld Z Z.heap a_HEALTH_INSURANCE "com/example/ledgerhall/ledgerhall/DeductionType" "cafe125" "Lcom/example/ledgerhall/ledgerhall/DeductionType$Cafe125;" (.ref a_ALLOWED)) (F_HEALTH_SAVINGS_cafe125 : Fld Z Z.heap a_HEALTH_SAVINGS "com/example/ledgerhall/ledgerhall/DeductionType" "cafe125" "Lcom/example/ledgerhall/ledgerhall/DeductionType$Cafe125;" (.ref a_ALLOWED)) (F_INCOME_REPLACEMENT_cafe125 : Fld Z Z.heap a_INCOME_REPLACEMENT "com/example/ledgerhall/ledgerhall/DeductionType" "cafe125" "Lcom/example/ledgerhall/ledgerhall/DeductionType$Cafe125;" (.ref a_ALLOWED)) (F_LIFE_INSURANCE_cafe125 : Fld Z Z.heap a_LIFE_INSURANCE "com/example/ledgerhall/ledgerhall/DeductionType" "cafe125" "Lcom/example/ledgerhall/ledgerhall/DeductionType$Cafe125;" (.ref a_ALLOWED)) (F_MISCELLANEOUS_1_cafe125 : Fld Z Z.heap a_MISCELLANEOUS_1 "com/example/ledgerhall/ledgerhall/DeductionType" "cafe125" "Lcom/example/ledgerhall/ledgerhall/DeductionType$Cafe125;" (.ref a_ALLOWED)) (F_MISCELLANEOUS_2_cafe125 : Fld Z Z.heap a_MISCELLANEOUS_2 "com/example/ledgerhall/ledgerhall/DeductionType" "cafe125" "Lcom/example/ledgerhall/ledgerhall/DeductionType$Cafe125;" (.ref a_ALLOWED)) (F_MISCELLANEOUS_3_cafe125 : Fld Z Z.heap a_MISCELLANEOUS_3 "com/example/ledgerhall/ledgerhall/DeductionType" "cafe125" "Lcom/example/ledgerhall/ledgerhall/DeductionType$Cafe125;" (.ref a_ALLOWED)) (F_ROTH_403B_cafe125 : Fld Z Z.heap a_ROTH_403B "com/example/ledgerhall/ledgerhall/DeductionType" "cafe125" "Lcom/example/ledgerhall/ledgerhall/DeductionType$Cafe125;" (.ref a_NEVER)) (F_ROTH_457B_cafe125 : Fld Z Z.heap a_ROTH_457B "com/example/ledgerhall/ledgerhall/DeductionType" "cafe125" "Lcom/example/ledgerhall/ledgerhall/DeductionType$Cafe125;" (.ref a_NEVER)) (F_RETIREE_TRS_CARE_cafe125 : Fld Z Z.heap a_RETIREE_TRS_CARE "com/example/ledgerhall/ledgerhall/DeductionType" "cafe125" "Lcom/example/ledgerhall/ledgerhall/DeductionType$Cafe125;" (.ref a_NEVER)) (F_SAVINGS_BOND_cafe125 : Fld Z Z.heap a_SAVINGS_BOND "com/example/ledgerhall/ledgerhall/DeductionType" "cafe125" "Lcom/example/ledgerhall/ledgerhall/DeductionType$Cafe125;" (.ref a_NEVER)) (F_WHOLE_LIFE_CONTRIBUTION_cafe125 : Fld Z Z.heap a_WHOLE_LIFE_CONTRIBUTION "com/example/ledgerhall/ledgerhall/DeductionType" "cafe125" "Lcom/example/ledgerhall/ledgerhall/DeductionType$Cafe125;" (.ref a_ALLOWED)) (F_GROUP_LIFE_CONTRIBUTION_cafe125 : Fld Z Z.heap a_GROUP_LIFE_CONTRIBUTION "com/example/ledgerhall/ledgerhall/DeductionType" "cafe125" "Lcom/example/ledgerhall/ledgerhall/DeductionType$Cafe125;" (.ref a_ALLOWED)) (F_TRS_SERVICE_BUY_BACK_cafe125 : Fld Z Z.heap a_TRS_SERVICE_BUY_BACK "com/example/ledgerhall/ledgerhall/DeductionType" "cafe125" "Lcom/example/ledgerhall/ledgerhall/DeductionType$Cafe125;" (.ref a_NEVER)) (F_TSTA_DUES_cafe125 : Fld Z Z.heap a_TSTA_DUES "com/example/ledgerhall/ledgerhall/DeductionType" "cafe125" "Lcom/example/ledgerhall/ledgerhall/DeductionType$Cafe125;" (.ref a_NEVER)) (F_UNION_DUES_cafe125 : Fld Z Z.heap a_UNION_DUES "com/example/ledgerhall/ledgerhall/DeductionType" "cafe125" "Lcom/example/ledgerhall/ledgerhall/DeductionType$Cafe125;" (.ref a_NEVER)) (F_UNITED_FUND_cafe125 : Fld Z Z.heap a_UNITED_FUND "com/example/ledgerhall/ledgerhall/DeductionType" "cafe125" "Lcom/example/ledgerhall/ledgerhall/DeductionType$Cafe125;" (.ref a_NEVER)) (F_ADDITIONAL_WITHHOLDING_cafe125 : Fld Z Z.heap a_ADDITIONAL_WITHHOLDING "com/example/ledgerhall/ledgerhall/DeductionType" "cafe125" "Lcom/example/ledgerhall/ledgerhall/DeductionType$Cafe125;" (.ref a_NEVER)) :
    MetFree l x (head1 (Jvm.Cond.code x code maxLocals ret :: ws) room_1) (fun aA uU => aA = #[(.int p1), (.int p2)] ∧ Z.Warmed39 uU.vm ∧ uU.heap = h0) (fun _ _ _ _ _ => True) (fun _ uU oO uU' => ∃ vV lL, oO = .returned vV ∧ Q0 Z p1 p2 a_FICA_ALTERNATIVE_ANNUITY a_TRS_HEALTH_INSURANCE a_ANNUITY a_CREDIT_UNION a_DEFERRED_COMPENSATION a_DEFERRED_COMPENSATION_LUMP a_DEPENDENT_CARE a_HEALTH_INSURANCE a_HEALTH_SAVINGS a_INCOME_REPLACEMENT a_LIFE_INSURANCE a_MISCELLANEOUS_1 a_MISCELLANEOUS_2 a_MISCELLANEOUS_3 a_ROTH_403B a_ROTH_457B a_RETIREE_TRS_CARE a_SAVINGS_BOND a_WHOLE_LIFE_CONTRIBUTION a_GROUP_LIFE_CONTRIBUTION a_TRS_SERVICE_BUY_BACK a_TSTA_DUES a_UNION_DUES a_UNITED_FUND a_ADDITIONAL_WITHHOLDING a_ALLOWED a_NEVER a_ALWAYS h0 n0 vV uU'.heap lL ∧ FrameEnd uU oO uU' lL room_1.cells room_1.slots) := by
  refine MetFree.of_bodySF (plainFor_of_name pn_1) hisR ?_
  intro pP eE sS mM args below meth cC s₁ Bd hml0 hP hK
  obtain ⟨rfl, hZ, hh⟩ := hP
  have hx := Bd.exec
  have hby := Bd.bytes
  have hml : cC.maxLocals = 7 := hml0
  have hown : sS.vm.findClass "com/example/ledgerhall/ledgerhall/DeductionTypeTakesCafe125PinLaw" = some mM.cls := findClass_of_methodNamed Bd.named
  have hnm := (name_of_methodNamed Bd.named Bd.method).1
  have X0 : Stand pP l eE room_1 sS mM #[(.int p1), (.int p2)] below meth cC s₁ [] 0 0 := Stand.of_body Bd
  have e0 : s₁.heap = h0 := by rw [← hh, Bd.state]; rfl
  have N0 := Fr.nil n0
  have pre0 : ∀ tg, Steps pP.tables eE below (s₁.setTop (mkF mM 0 #[.val (.int p1), .val (.int p2), .unset, .unset, .unset, .unset, .unset] [])) tg → Steps pP.tables eE below (s₁.setTop (entryFrame mM #[(.int p1), (.int p2)] maxLocals)) tg := fun tg kg => castTop (ef_0 mM p1 p2) kg
  have pr1 : ∀ tg, Steps pP.tables eE below (s₁.setTop (mkF mM 2 #[.val (.int p1), .val (.int p2), .unset, .unset, .unset, .unset, .unset] [(.int (25 : Int32))])) tg → Steps pP.tables eE below (s₁.setTop (entryFrame mM #[(.int p1), (.int p2)] maxLocals)) tg := fun tg kg => pre0 _ (by
    show Steps pP.tables eE below (s₁.setTop (mkF mM 0 #[.val (.int p1), .val (.int p2), .unset, .unset, .unset, .unset, .unset] [])) _
    refine XS.bipush X0.here hx rfl (hb hby at_0) ?_
    exact kg)
  clear pre0
  obtain ⟨T2, h2, k2, X2, e2, E2, A2, O2, st2⟩ := newR X0 hx hZ hown (hw _ (List.mem_of_getElem? (i := 0) rfl)) (hw _ (List.mem_of_getElem? (i := 1) rfl)) e0 (g := (mkF mM 2 #[.val (.int p1), .val (.int p2), .unset, .unset, .unset, .unset, .unset] [(.int (25 : Int32))])) rfl (hb hby at_2) rfl (by decide) (cap := 25) (by decide) (by decide) (by decide) (by decide)
  obtain ⟨b2, g2⟩ : ∃ z, z = (h0).size := ⟨_, rfl⟩
  rw [← g2] at A2 st2
  have gn3 : n0 ≤ b2 := Nat.le_trans Z0 (Nat.le_of_eq g2.symm)
  have gs4 : h0.size ≤ b2 := Nat.le_trans (Keep.refl h0 []).1 (Nat.le_of_eq g2.symm)
  have V2 : Arv Z h2 b2 k2 (.object "com/example/ledgerhall/ledgerhall/DeductionType") (25 : Int32) [.null, .null, .null, .null, .null, .null, .null, .null, .null, .null, .null, .null, .null, .null, .null, .null, .null, .null, .null, .null, .null, .null, .null, .null, .null] .null := (Arv.new A2 (by decide)).pad (pad_rep [] .null 25)
  have pr5 : ∀ tg, Steps pP.tables eE below (T2.setTop (mkF mM 5 #[.val (.int p1), .val (.int p2), .unset, .unset, .unset, .unset, .unset] [(.ref b2)])) tg → Steps pP.tables eE below (s₁.setTop (entryFrame mM #[(.int p1), (.int p2)] maxLocals)) tg := fun tg kg => pr1 _ (st2 _ kg)
  clear pr1 st2 X0 e0
  have pr6 : ∀ tg, Steps pP.tables eE below (T2.setTop (mkF mM 7 #[.val (.int p1), .val (.int p2), .unset, .unset, .unset, .unset, .unset] [(.int (0 : Int32)), (.ref b2), (.ref b2)])) tg → Steps pP.tables eE below (s₁.setTop (entryFrame mM #[(.int p1), (.int p2)] maxLocals)) tg := fun tg kg => pr5 _ (by
    show Steps pP.tables eE below (T2.setTop (mkF mM 5 #[.val (.int p1), .val (.int p2), .unset, .unset, .unset, .unset, .unset] [(.ref b2)])) _
    refine XS.dup X2.here hx rfl (hb hby at_5) rfl rfl ?_
    show Steps pP.tables eE below (T2.setTop (mkF mM 6 #[.val (.int p1), .val (.int p2), .unset, .unset, .unset, .unset, .unset] [(.ref b2), (.ref b2)])) _
    refine XS.iconst X2.here hx rfl (hb hby at_6) ?_
    exact kg)
  clear pr5
  have c8 := (Old.ext O E2)
  obtain ⟨T7, X7, e7, st7⟩ := getS2 X2 hx hZ hown (host := "") (Or.inl (hw _ (List.mem_of_getElem? (i := 2) rfl))) Via.refl e2 (Sta.ext (c8).2 S_FICA_ALTERNATIVE_ANNUITY) (g := (mkF mM 7 #[.val (.int p1), .val (.int p2), .unset, .unset, .unset, .unset, .unset] [(.int (0 : Int32)), (.ref b2), (.ref b2)])) rfl (hb hby at_7)
  have pr9 : ∀ tg, Steps pP.tables eE below (T7.setTop (mkF mM 10 #[.val (.int p1), .val (.int p2), .unset, .unset, .unset, .unset, .unset] [(.ref a_FICA_ALTERNATIVE_ANNUITY), (.int (0 : Int32)), (.ref b2), (.ref b2)])) tg → Steps pP.tables eE below (s₁.setTop (entryFrame mM #[(.int p1), (.int p2)] maxLocals)) tg := fun tg kg => pr6 _ (st7 _ kg)
  clear pr6 st7 X2 e2
  obtain ⟨cla10, Ara10, qa10, Sa10, Ma10, Ha10, Ga10⟩ := id V2
  have hin11 : ¬ ((0 : Int32) < 0 ∨ cla10.slots.size ≤ ((0 : Int32)).toNatClampNeg) := inb_of Sa10 ⟨by decide, by decide⟩
  obtain ⟨T11, h11, X11, e11, W11, st11⟩ := stR X7 hx hZ e7 Ara10 (j := (0 : Int32)) hin11 rfl (Sto.ofV Ara10 qa10 O2 (Ins.self (Exa.ext (c8).2 E_FICA_ALTERNATIVE_ANNUITY))) (g := (mkF mM 10 #[.val (.int p1), .val (.int p2), .unset, .unset, .unset, .unset, .unset] [(.ref a_FICA_ALTERNATIVE_ANNUITY), (.int (0 : Int32)), (.ref b2), (.ref b2)])) rfl rfl (hb hby at_10)
  have V11 : Arv Z h11 b2 k2 (.object "com/example/ledgerhall/ledgerhall/DeductionType") (25 : Int32) [(.ref a_FICA_ALTERNATIVE_ANNUITY), .null, .null, .null, .null, .null, .null, .null, .null, .null, .null, .null, .null, .null, .null, .null, .null, .null, .null, .null, .null, .null, .null, .null, .null] .null := Arv.set Ara10 qa10 Sa10 Ma10 Ha10 Ga10 rfl W11 0 rfl (Nat.le_of_ble_eq_true rfl)
  have N11 := Fr.snoc X11 N0 gn3
  have pr12 : ∀ tg, Steps pP.tables eE below (T11.setTop (mkF mM 11 #[.val (.int p1), .val (.int p2), .unset, .unset, .unset, .unset, .unset] [(.ref b2)])) tg → Steps pP.tables eE below (s₁.setTop (entryFrame mM #[(.int p1), (.int p2)] maxLocals)) tg := fun tg kg => pr9 _ (st11 _ kg)
  clear pr9 st11 X7 e7
  have pr13 : ∀ tg, Steps pP.tables eE below (T11.setTop (mkF mM 13 #[.val (.int p1), .val (.int p2), .unset, .unset, .unset, .unset, .unset] [(.int (1 : Int32)), (.ref b2), (.ref b2)])) tg → Steps pP.tables eE below (s₁.setTop (entryFrame mM #[(.int p1), (.int p2)] maxLocals)) tg := fun tg kg => pr12 _ (by
    show Steps pP.tables eE below (T11.setTop (mkF mM 11 #[.val (.int p1), .val (.int p2), .unset, .unset, .unset, .unset, .unset] [(.ref b2)])) _
    refine XS.dup X11.here hx rfl (hb hby at_11) rfl rfl ?_
    show Steps pP.tables eE below (T11.setTop (mkF mM 12 #[.val (.int p1), .val (.int p2), .unset, .unset, .unset, .unset, .unset] [(.ref b2), (.ref b2)])) _
    refine XS.iconst X11.here hx rfl (hb hby at_12) ?_
    exact kg)
  clear pr12
  have c15 := (Old.wr c8 W11 gn3)
  obtain ⟨T14, X14, e14, st14⟩ := getS2 X11 hx hZ hown (host := "") (Or.inl (hw _ (List.mem_of_getElem? (i := 6) rfl))) Via.refl e11 (Sta.ext (c15).2 S_TRS_HEALTH_INSURANCE) (g := (mkF mM 13 #[.val (.int p1), .val (.int p2), .unset, .unset, .unset, .unset, .unset] [(.int (1 : Int32)), (.ref b2), (.ref b2)])) rfl (hb hby at_13)
  have pr16 : ∀ tg, Steps pP.tables eE below (T14.setTop (mkF mM 16 #[.val (.int p1), .val (.int p2), .unset, .unset, .unset, .unset, .unset] [(.ref a_TRS_HEALTH_INSURANCE), (.int (1 : Int32)), (.ref b2), (.ref b2)])) tg → Steps pP.tables eE below (s₁.setTop (entryFrame mM #[(.int p1), (.int p2)] maxLocals)) tg := fun tg kg => pr13 _ (st14 _ kg)
  clear pr13 st14 X11 e11
  obtain ⟨cla17, Ara17, qa17, Sa17, Ma17, Ha17, Ga17⟩ := id V11
  have hin18 : ¬ ((1 : Int32) < 0 ∨ cla17.slots.size ≤ ((1 : Int32)).toNatClampNeg) := inb_of Sa17 ⟨by decide, by decide⟩
  obtain ⟨T18, h18, X18, e18, W18, st18⟩ := stR X14 hx hZ e14 Ara17 (j := (1 : Int32)) hin18 rfl (Sto.ofV Ara17 qa17 O2 (Ins.self (Exa.ext (c15).2 E_TRS_HEALTH_INSURANCE))) (g := (mkF mM 16 #[.val (.int p1), .val (.int p2), .unset, .unset, .unset, .unset, .unset] [(.ref a_TRS_HEALTH_INSURANCE), (.int (1 : Int32)), (.ref b2), (.ref b2)])) rfl rfl (hb hby at_16)
  have V18 : Arv Z h18 b2 k2 (.object "com/example/ledgerhall/ledgerhall/DeductionType") (25 : Int32) [(.ref a_FICA_ALTERNATIVE_ANNUITY), (.ref a_TRS_HEALTH_INSURANCE), .null, .null, .null, .null, .null, .null, .null, .null, .null, .null, .null, .null, .null, .null, .null, .null, .null, .null, .null, .null, .null, .null, .null] .null := Arv.set Ara17 qa17 Sa17 Ma17 Ha17 Ga17 rfl W18 1 rfl (Nat.le_of_ble_eq_true rfl)
  have N18 := Fr.snoc X18 N11 gn3
  have pr19 : ∀ tg, Steps pP.tables eE below (T18.setTop (mkF mM 17 #[.val (.int p1), .val (.int p2), .unset, .unset, .unset, .unset, .unset] [(.ref b2)])) tg → Steps pP.tables eE below (s₁.setTop (entryFrame mM #[(.int p1), (.int p2)] maxLocals)) tg := fun tg kg => pr16 _ (st18 _ kg)
  clear pr16 st18 X14 e14
  have pr20 : ∀ tg, Steps pP.tables eE below (T18.setTop (mkF mM 19 #[.val (.int p1), .val (.int p2), .unset, .unset, .unset, .unset, .unset] [(.int (2 : Int32)), (.ref b2), (.ref b2)])) tg → Steps pP.tables eE below (s₁.setTop (entryFrame mM #[(.int p1), (.int p2)] maxLocals)) tg := fun tg kg => pr19 _ (by
    show Steps pP.tables eE below (T18.setTop (mkF mM 17 #[.val (.int p1), .val (.int p2), .unset, .unset, .unset, .unset, .unset] [(.ref b2)])) _
    refine XS.dup X18.here hx rfl (hb hby at_17) rfl rfl ?_
    show Steps pP.tables eE below (T18.setTop (mkF mM 18 #[.val (.int p1), .val (.int p2), .unset, .unset, .unset, .unset, .unset] [(.ref b2), (.ref b2)])) _
    refine XS.iconst X18.here hx rfl (hb hby at_18) ?_
    exact kg)
  clear pr19
  have c22 := (Old.wr c15 W18 gn3)
  obtain ⟨T21, X21, e21, st21⟩ := getS2 X18 hx hZ hown (host := "") (Or.inl (hw _ (List.mem_of_getElem? (i := 8) rfl))) Via.refl e18 (Sta.ext (c22).2 S_ANNUITY) (g := (mkF mM 19 #[.val (.int p1), .val (.int p2), .unset, .unset, .unset, .unset, .unset] [(.int (2 : Int32)), (.ref b2), (.ref b2)])) rfl (hb hby at_19)
  have pr23 : ∀ tg, Steps pP.tables eE below (T21.setTop (mkF mM 22 #[.val (.int p1), .val (.int p2), .unset, .unset, .unset, .unset, .unset] [(.ref a_ANNUITY), (.int (2 : Int32)), (.ref b2), (.ref b2)])) tg → Steps pP.tables eE below (s₁.setTop (entryFrame mM #[(.int p1), (.int p2)] maxLocals)) tg := fun tg kg => pr20 _ (st21 _ kg)
  clear pr20 st21 X18 e18
  obtain ⟨cla24, Ara24, qa24, Sa24, Ma24, Ha24, Ga24⟩ := id V18
  have hin25 : ¬ ((2 : Int32) < 0 ∨ cla24.slots.size ≤ ((2 : Int32)).toNatClampNeg) := inb_of Sa24 ⟨by decide, by decide⟩
  obtain ⟨T25, h25, X25, e25, W25, st25⟩ := stR X21 hx hZ e21 Ara24 (j := (2 : Int32)) hin25 rfl (Sto.ofV Ara24 qa24 O2 (Ins.self (Exa.ext (c22).2 E_ANNUITY))) (g := (mkF mM 22 #[.val (.int p1), .val (.int p2), .unset, .unset, .unset, .unset, .unset] [(.ref a_ANNUITY), (.int (2 : Int32)), (.ref b2), (.ref b2)])) rfl rfl (hb hby at_22)
  have V25 : Arv Z h25 b2 k2 (.object "com/example/ledgerhall/ledgerhall/DeductionType") (25 : Int32) [(.ref a_FICA_ALTERNATIVE_ANNUITY), (.ref a_TRS_HEALTH_INSURANCE), (.ref a_ANNUITY), .null, .null, .null, .null, .null, .null, .null, .null, .null, .null, .null, .null, .null, .null, .null, .null, .null, .null, .null, .null, .null, .null] .null := Arv.set Ara24 qa24 Sa24 Ma24 Ha24 Ga24 rfl W25 2 rfl (Nat.le_of_ble_eq_true rfl)
  have N25 := Fr.snoc X25 N18 gn3
  have pr26 : ∀ tg, Steps pP.tables eE below (T25.setTop (mkF mM 23 #[.val (.int p1), .val (.int p2), .unset, .unset, .unset, .unset, .unset] [(.ref b2)])) tg → Steps pP.tables eE below (s₁.setTop (entryFrame mM #[(.int p1), (.int p2)] maxLocals)) tg := fun tg kg => pr23 _ (st25 _ kg)
  clear pr23 st25 X21 e21
  have pr27 : ∀ tg, Steps pP.tables eE below (T25.setTop (mkF mM 25 #[.val (.int p1), .val (.int p2), .unset, .unset, .unset, .unset, .unset] [(.int (3 : Int32)), (.ref b2), (.ref b2)])) tg → Steps pP.tables eE below (s₁.setTop (entryFrame mM #[(.int p1), (.int p2)] maxLocals)) tg := fun tg kg => pr26 _ (by
    show Steps pP.tables eE below (T25.setTop (mkF mM 23 #[.val (.int p1), .val (.int p2), .unset, .unset, .unset, .unset, .unset] [(.ref b2)])) _
    refine XS.dup X25.here hx rfl (hb hby at_23) rfl rfl ?_
    show Steps pP.tables eE below (T25.setTop (mkF mM 24 #[.val (.int p1), .val (.int p2), .unset, .unset, .unset, .unset, .unset] [(.ref b2), (.ref b2)])) _
    refine XS.iconst X25.here hx rfl (hb hby at_24) ?_
    exact kg)
  clear pr26
  have c29 := (Old.wr c22 W25 gn3)
  obtain ⟨T28, X28, e28, st28⟩ := getS2 X25 hx hZ hown (host := "") (Or.inl (hw _ (List.mem_of_getElem? (i := 10) rfl))) Via.refl e25 (Sta.ext (c29).2 S_CREDIT_UNION) (g := (mkF mM 25 #[.val (.int p1), .val (.int p2), .unset, .unset, .unset, .unset, .unset] [(.int (3 : Int32)), (.ref b2), (.ref b2)])) rfl (hb hby at_25)
  have pr30 : ∀ tg, Steps pP.tables eE below (T28.setTop (mkF mM 28 #[.val (.int p1), .val (.int p2), .unset, .unset, .unset, .unset, .unset] [(.ref a_CREDIT_UNION), (.int (3 : Int32)), (.ref b2), (.ref b2)])) tg → Steps pP.tables eE below (s₁.setTop (entryFrame mM #[(.int p1), (.int p2)] maxLocals)) tg := fun tg kg => pr27 _ (st28 _ kg)
  clear pr27 st28 X25 e25
  obtain ⟨cla31, Ara31, qa31, Sa31, Ma31, Ha31, Ga31⟩ := id V25
  have hin32 : ¬ ((3 : Int32) < 0 ∨ cla31.slots.size ≤ ((3 : Int32)).toNatClampNeg) := inb_of Sa31 ⟨by decide, by decide⟩
  obtain ⟨T32, h32, X32, e32, W32, st32⟩ := stR X28 hx hZ e28 Ara31 (j := (3 : Int32)) hin32 rfl (Sto.ofV Ara31 qa31 O2 (Ins.self (Exa.ext (c29).2 E_CREDIT_UNION))) (g := (mkF mM 28 #[.val (.int p1), .val (.int p2), .unset, .unset, .unset, .unset, .unset] [(.ref a_CREDIT_UNION), (.int (3 : Int32)), (.ref b2), (.ref b2)])) rfl rfl (hb hby at_28)
  have V32 : Arv Z h32 b2 k2 (.object "com/example/ledgerhall/ledgerhall/DeductionType") (25 : Int32) [(.ref a_FICA_ALTERNATIVE_ANNUITY), (.ref a_TRS_HEALTH_INSURANCE), (.ref a_ANNUITY), (.ref a_CREDIT_UNION), .null, .null, .null, .null, .null, .null, .null, .null, .null, .null, .null, .null, .null, .null, .null, .null, .null, .null, .null, .null, .null] .null := Arv.set Ara31 qa31 Sa31 Ma31 Ha31 Ga31 rfl W32 3 rfl (Nat.le_of_ble_eq_true rfl)
  have N32 := Fr.snoc X32 N25 gn3
  have pr33 : ∀ tg, Steps pP.tables eE below (T32.setTop (mkF mM 29 #[.val (.int p1), .val (.int p2), .unset, .unset, .unset, .unset, .unset] [(.ref b2)])) tg → Steps pP.tables eE below (s₁.setTop (entryFrame mM #[(.int p1), (.int p2)] maxLocals)) tg := fun tg kg => pr30 _ (st32 _ kg)
  clear pr30 st32 X28 e28
  have pr34 : ∀ tg, Steps pP.tables eE below (T32.setTop (mkF mM 31 #[.val (.int p1), .val (.int p2), .unset, .unset, .unset, .unset, .unset] [(.int (4 : Int32)), (.ref b2), (.ref b2)])) tg → Steps pP.tables eE below (s₁.setTop (entryFrame mM #[(.int p1), (.int p2)] maxLocals)) tg := fun tg kg => pr33 _ (by
    show Steps pP.tables eE below (T32.setTop (mkF mM 29 #[.val (.int p1), .val (.int p2), .unset, .unset, .unset, .unset, .unset] [(.ref b2)])) _
    refine XS.dup X32.here hx rfl (hb hby at_29) rfl rfl ?_
    show Steps pP.tables eE below (T32.setTop (mkF mM 30 #[.val (.int p1), .val (.int p2), .unset, .unset, .unset, .unset, .unset] [(.ref b2), (.ref b2)])) _
    refine XS.iconst X32.here hx rfl (hb hby at_30) ?_
    exact kg)
  clear pr33
  have c36 := (Old.wr c29 W32 gn3)
  obtain ⟨T35, X35, e35, st35⟩ := getS2 X32 hx hZ hown (host := "") (Or.inl (hw _ (List.mem_of_getElem? (i := 12) rfl))) Via.refl e32 (Sta.ext (c36).2 S_DEFERRED_COMPENSATION) (g := (mkF mM 31 #[.val (.int p1), .val (.int p2), .unset, .unset, .unset, .unset, .unset] [(.int (4 : Int32)), (.ref b2), (.ref b2)])) rfl (hb hby at_31)
  have pr37 : ∀ tg, Steps pP.tables eE below (T35.setTop (mkF mM 34 #[.val (.int p1), .val (.int p2), .unset, .unset, .unset, .unset, .unset] [(.ref a_DEFERRED_COMPENSATION), (.int (4 : Int32)), (.ref b2), (.ref b2)])) tg → Steps pP.tables eE below (s₁.setTop (entryFrame mM #[(.int p1), (.int p2)] maxLocals)) tg := fun tg kg => pr34 _ (st35 _ kg)
  clear pr34 st35 X32 e32
  obtain ⟨cla38, Ara38, qa38, Sa38, Ma38, Ha38, Ga38⟩ := id V32
  have hin39 : ¬ ((4 : Int32) < 0 ∨ cla38.slots.size ≤ ((4 : Int32)).toNatClampNeg) := inb_of Sa38 ⟨by decide, by decide⟩
  obtain ⟨T39, h39, X39, e39, W39, st39⟩ := stR X35 hx hZ e35 Ara38 (j := (4 : Int32)) hin39 rfl (Sto.ofV Ara38 qa38 O2 (Ins.self (Exa.ext (c36).2 E_DEFERRED_COMPENSATION))) (g := (mkF mM 34 #[.val (.int p1), .val (.int p2), .unset, .unset, .unset, .unset, .unset] [(.ref a_DEFERRED_COMPENSATION), (.int (4 : Int32)), (.ref b2), (.ref b2)])) rfl rfl (hb hby at_34)
  have V39 : Arv Z h39 b2 k2 (.object "com/example/ledgerhall/ledgerhall/DeductionType") (25 : Int32) [(.ref a_FICA_ALTERNATIVE_ANNUITY), (.ref a_TRS_HEALTH_INSURANCE), (.ref a_ANNUITY), (.ref a_CREDIT_UNION), (.ref a_DEFERRED_COMPENSATION), .null, .null, .null, .null, .null, .null, .null, .null, .null, .null, .null, .null, .null, .null, .null, .null, .null, .null, .null, .null] .null := Arv.set Ara38 qa38 Sa38 Ma38 Ha38 Ga38 rfl W39 4 rfl (Nat.le_of_ble_eq_true rfl)
  have N39 := Fr.snoc X39 N32 gn3
  have pr40 : ∀ tg, Steps pP.tables eE below (T39.setTop (mkF mM 35 #[.val (.int p1), .val (.int p2), .unset, .unset, .unset, .unset, .unset] [(.ref b2)])) tg → Steps pP.tables eE below (s₁.setTop (entryFrame mM #[(.int p1), (.int p2)] maxLocals)) tg := fun tg kg => pr37 _ (st39 _ kg)
  clear pr37 st39 X35 e35
  have pr41 : ∀ tg, Steps pP.tables eE below (T39.setTop (mkF mM 37 #[.val (.int p1), .val (.int p2), .unset, .unset, .unset, .unset, .unset] [(.int (5 : Int32)), (.ref b2), (.ref b2)])) tg → Steps pP.tables eE below (s₁.setTop (entryFrame mM #[(.int p1), (.int p2)] maxLocals)) tg := fun tg kg => pr40 _ (by
    show Steps pP.tables eE below (T39.setTop (mkF mM 35 #[.val (.int p1), .val (.int p2), .unset, .unset, .unset, .unset, .unset] [(.ref b2)])) _
    refine XS.dup X39.here hx rfl (hb hby at_35) rfl rfl ?_
    show Steps pP.tables eE below (T39.setTop (mkF mM 36 #[.val (.int p1), .val (.int p2), .unset, .unset, .unset, .unset, .unset] [(.ref b2), (.ref b2)])) _
    refine XS.iconst X39.here hx rfl (hb hby at_36) ?_
    exact kg)
  clear pr40
  have c43 := (Old.wr c36 W39 gn3)
  obtain ⟨T42, X42, e42, st42⟩ := getS2 X39 hx hZ hown (host := "") (Or.inl (hw _ (List.mem_of_getElem? (i := 14) rfl))) Via.refl e39 (Sta.ext (c43).2 S_DEFERRED_COMPENSATION_LUMP) (g := (mkF mM 37 #[.val (.int p1), .val (.int p2), .unset, .unset, .unset, .unset, .unset] [(.int (5 : Int32)), (.ref b2), (.ref b2)])) rfl (hb hby at_37)
  have pr44 : ∀ tg, Steps pP.tables eE below (T42.setTop (mkF mM 40 #[.val (.int p1), .val (.int p2), .unset, .unset, .unset, .unset, .unset] [(.ref a_DEFERRED_COMPENSATION_LUMP), (.int (5 : Int32)), (.ref b2), (.ref b2)])) tg → Steps pP.tables eE below (s₁.setTop (entryFrame mM #[(.int p1), (.int p2)] maxLocals)) tg := fun tg kg => pr41 _ (st42 _ kg)
  clear pr41 st42 X39 e39
  obtain ⟨cla45, Ara45, qa45, Sa45, Ma45, Ha45, Ga45⟩ := id V39
  have hin46 : ¬ ((5 : Int32) < 0 ∨ cla45.slots.size ≤ ((5 : Int32)).toNatClampNeg) := inb_of Sa45 ⟨by decide, by decide⟩
  obtain ⟨T46, h46, X46, e46, W46, st46⟩ := stR X42 hx hZ e42 Ara45 (j := (5 : Int32)) hin46 rfl (Sto.ofV Ara45 qa45 O2 (Ins.self (Exa.ext (c43).2 E_DEFERRED_COMPENSATION_LUMP))) (g := (mkF mM 40 #[.val (.int p1), .val (.int p2), .unset, .unset, .unset, .unset, .unset] [(.ref a_DEFERRED_COMPENSATION_LUMP), (.int (5 : Int32)), (.ref b2), (.ref b2)])) rfl rfl (hb hby at_40)
  have V46 : Arv Z h46 b2 k2 (.object "com/example/ledgerhall/ledgerhall/DeductionType") (25 : Int32) [(.ref a_FICA_ALTERNATIVE_ANNUITY), (.ref a_TRS_HEALTH_INSURANCE), (.ref a_ANNUITY), (.ref a_CREDIT_UNION), (.ref a_DEFERRED_COMPENSATION), (.ref a_DEFERRED_COMPENSATION_LUMP), .null, .null, .null, .null, .null, .null, .null, .null, .null, .null, .null, .null, .null, .null, .null, .null, .null, .null, .null] .null := Arv.set Ara45 qa45 Sa45 Ma45 Ha45 Ga45 rfl W46 5 rfl (Nat.le_of_ble_eq_true rfl)
  have N46 := Fr.snoc X46 N39 gn3
  have pr47 : ∀ tg, Steps pP.tables eE below (T46.setTop (mkF mM 41 #[.val (.int p1), .val (.int p2), .unset, .unset, .unset, .unset, .unset] [(.ref b2)])) tg → Steps pP.tables eE below (s₁.setTop (entryFrame mM #[(.int p1), (.int p2)] maxLocals)) tg := fun tg kg => pr44 _ (st46 _ kg)
  clear pr44 st46 X42 e42
  have pr48 : ∀ tg, Steps pP.tables eE below (T46.setTop (mkF mM 44 #[.val (.int p1), .val (.int p2), .unset, .unset, .unset, .unset, .unset] [(.int (6 : Int32)), (.ref b2), (.ref b2)])) tg → Steps pP.tables eE below (s₁.setTop (entryFrame mM #[(.int p1), (.int p2)] maxLocals)) tg := fun tg kg => pr47 _ (by
    show Steps pP.tables eE below (T46.setTop (mkF mM 41 #[.val (.int p1), .val (.int p2), .unset, .unset, .unset, .unset, .unset] [(.ref b2)])) _
    refine XS.dup X46.here hx rfl (hb hby at_41) rfl rfl ?_
    show Steps pP.tables eE below (T46.setTop (mkF mM 42 #[.val (.int p1), .val (.int p2), .unset, .unset, .unset, .unset, .unset] [(.ref b2), (.ref b2)])) _
    refine XS.bipush X46.here hx rfl (hb hby at_42) ?_
    exact kg)
  clear pr47
  have c50 := (Old.wr c43 W46 gn3)
  obtain ⟨T49, X49, e49, st49⟩ := getS2 X46 hx hZ hown (host := "") (Or.inl (hw _ (List.mem_of_getElem? (i := 16) rfl))) Via.refl e46 (Sta.ext (c50).2 S_DEPENDENT_CARE) (g := (mkF mM 44 #[.val (.int p1), .val (.int p2), .unset, .unset, .unset, .unset, .unset] [(.int (6 : Int32)), (.ref b2), (.ref b2)])) rfl (hb hby at_44)
  have pr51 : ∀ tg, Steps pP.tables eE below (T49.setTop (mkF mM 47 #[.val (.int p1), .val (.int p2), .unset, .unset, .unset, .unset, .unset] [(.ref a_DEPENDENT_CARE), (.int (6 : Int32)), (.ref b2), (.ref b2)])) tg → Steps pP.tables eE below (s₁.setTop (entryFrame mM #[(.int p1), (.int p2)] maxLocals)) tg := fun tg kg => pr48 _ (st49 _ kg)
  clear pr48 st49 X46 e46
  obtain ⟨cla52, Ara52, qa52, Sa52, Ma52, Ha52, Ga52⟩ := id V46
  have hin53 : ¬ ((6 : Int32) < 0 ∨ cla52.slots.size ≤ ((6 : Int32)).toNatClampNeg) := inb_of Sa52 ⟨by decide, by decide⟩
  obtain ⟨T53, h53, X53, e53, W53, st53⟩ := stR X49 hx hZ e49 Ara52 (j := (6 : Int32)) hin53 rfl (Sto.ofV Ara52 qa52 O2 (Ins.self (Exa.ext (c50).2 E_DEPENDENT_CARE))) (g := (mkF mM 47 #[.val (.int p1), .val (.int p2), .unset, .unset, .unset, .unset, .unset] [(.ref a_DEPENDENT_CARE), (.int (6 : Int32)), (.ref b2), (.ref b2)])) rfl rfl (hb hby at_47)
  have V53 : Arv Z h53 b2 k2 (.object "com/example/ledgerhall/ledgerhall/DeductionType") (25 : Int32) [(.ref a_FICA_ALTERNATIVE_ANNUITY), (.ref a_TRS_HEALTH_INSURANCE), (.ref a_ANNUITY), (.ref a_CREDIT_UNION), (.ref a_DEFERRED_COMPENSATION), (.ref a_DEFERRED_COMPENSATION_LUMP), (.ref a_DEPENDENT_CARE), .null, .null, .null, .null, .null, .null, .null, .null, .null, .null, .null, .null, .null, .null, .null, .null, .null, .null] .null := Arv.set Ara52 qa52 Sa52 Ma52 Ha52 Ga52 rfl W53 6 rfl (Nat.le_of_ble_eq_true rfl)
  have N53 := Fr.snoc X53 N46 gn3
  have pr54 : ∀ tg, Steps pP.tables eE below (T53.setTop (mkF mM 48 #[.val (.int p1), .val (.int p2), .unset, .unset, .unset, .unset, .unset] [(.ref b2)])) tg → Steps pP.tables eE below (s₁.setTop (entryFrame mM #[(.int p1), (.int p2)] maxLocals)) tg := fun tg kg => pr51 _ (st53 _ kg)
  clear pr51 st53 X49 e49
  have pr55 : ∀ tg, Steps pP.tables eE below (T53.setTop (mkF mM 51 #[.val (.int p1), .val (.int p2), .unset, .unset, .unset, .unset, .unset] [(.int (7 : Int32)), (.ref b2), (.ref b2)])) tg → Steps pP.tables eE below (s₁.setTop (entryFrame mM #[(.int p1), (.int p2)] maxLocals)) tg := fun tg kg => pr54 _ (by
    show Steps pP.tables eE below (T53.setTop (mkF mM 48 #[.val (.int p1), .val (.int p2), .unset, .unset, .unset, .unset, .unset] [(.ref b2)])) _
    refine XS.dup X53.here hx rfl (hb hby at_48) rfl rfl ?_
    show Steps pP.tables eE below (T53.setTop (mkF mM 49 #[.val (.int p1), .val (.int p2), .unset, .unset, .unset, .unset, .unset] [(.ref b2), (.ref b2)])) _
    refine XS.bipush X53.here hx rfl (hb hby at_49) ?_
    exact kg)
  clear pr54
  have c57 := (Old.wr c50 W53 gn3)
  obtain ⟨T56, X56, e56, st56⟩ := getS2 X53 hx hZ hown (host := "") (Or.inl (hw _ (List.mem_of_getElem? (i := 18) rfl))) Via.refl e53 (Sta.ext (c57).2 S_HEALTH_INSURANCE) (g := (mkF mM 51 #[.val (.int p1), .val (.int p2), .unset, .unset, .unset, .unset, .unset] [(.int (7 : Int32)), (.ref b2), (.ref b2)])) rfl (hb hby at_51)
  have pr58 : ∀ tg, Steps pP.tables eE below (T56.setTop (mkF mM 54 #[.val (.int p1), .val (.int p2), .unset, .unset, .unset, .unset, .unset] [(.ref a_HEALTH_INSURANCE), (.int (7 : Int32)), (.ref b2), (.ref b2)])) tg → Steps pP.tables eE below (s₁.setTop (entryFrame mM #[(.int p1), (.int p2)] maxLocals)) tg := fun tg kg => pr55 _ (st56 _ kg)
  clear pr55 st56 X53 e53
  obtain ⟨cla59, Ara59, qa59, Sa59, Ma59, Ha59, Ga59⟩ := id V53
  have hin60 : ¬ ((7 : Int32) < 0 ∨ cla59.slots.size ≤ ((7 : Int32)).toNatClampNeg) := inb_of Sa59 ⟨by decide, by decide⟩
  obtain ⟨T60, h60, X60, e60, W60, st60⟩ := stR X56 hx hZ e56 Ara59 (j := (7 : Int32)) hin60 rfl (Sto.ofV Ara59 qa59 O2 (Ins.self (Exa.ext (c57).2 E_HEALTH_INSURANCE))) (g := (mkF mM 54 #[.val (.int p1), .val (.int p2), .unset, .unset, .unset, .unset, .unset] [(.ref a_HEALTH_INSURANCE), (.int (7 : Int32)), (.ref b2), (.ref b2)])) rfl rfl (hb hby at_54)
  have V60 : Arv Z h60 b2 k2 (.object "com/example/ledgerhall/ledgerhall/DeductionType") (25 : Int32) [(.ref a_FICA_ALTERNATIVE_ANNUITY), (.ref a_TRS_HEALTH_INSURANCE), (.ref a_ANNUITY), (.ref a_CREDIT_UNION), (.ref a_DEFERRED_COMPENSATION), (.ref a_DEFERRED_COMPENSATION_LUMP), (.ref a_DEPENDENT_CARE), (.ref a_HEALTH_INSURANCE), .null, .null, .null, .null, .null, .null, .null, .null, .null, .null, .null, .null, .null, .null, .null, .null, .null] .null := Arv.set Ara59 qa59 Sa59 Ma59 Ha59 Ga59 rfl W60 7 rfl (Nat.le_of_ble_eq_true rfl)
  have N60 := Fr.snoc X60 N53 gn3
  have pr61 : ∀ tg, Steps pP.tables eE below (T60.setTop (mkF mM 55 #[.val (.int p1), .val (.int p2), .unset, .unset, .unset, .unset, .unset] [(.ref b2)])) tg → Steps pP.tables eE below (s₁.setTop (entryFrame mM #[(.int p1), (.int p2)] maxLocals)) tg := fun tg kg => pr58 _ (st60 _ kg)
  clear pr58 st60 X56 e56
  have pr62 : ∀ tg, Steps pP.tables eE below (T60.setTop (mkF mM 58 #[.val (.int p1), .val (.int p2), .unset, .unset, .unset, .unset, .unset] [(.int (8 : Int32)), (.ref b2), (.ref b2)])) tg → Steps pP.tables eE below (s₁.setTop (entryFrame mM #[(.int p1), (.int p2)] maxLocals)) tg := fun tg kg => pr61 _ (by
    show Steps pP.tables eE below (T60.setTop (mkF mM 55 #[.val (.int p1), .val (.int p2), .unset, .unset, .unset, .unset, .unset] [(.ref b2)])) _
    refine XS.dup X60.here hx rfl (hb hby at_55) rfl rfl ?_
    show Steps pP.tables eE below (T60.setTop (mkF mM 56 #[.val (.int p1), .val (.int p2), .unset, .unset, .unset, .unset, .unset] [(.ref b2), (.ref b2)])) _
    refine XS.bipush X60.here hx rfl (hb hby at_56) ?_
    exact kg)
  clear pr61
  have c64 := (Old.wr c57 W60 gn3)
  obtain ⟨T63, X63, e63, st63⟩ := getS2 X60 hx hZ hown (host := "") (Or.inl (hw _ (List.mem_of_getElem? (i := 20) rfl))) Via.refl e60 (Sta.ext (c64).2 S_HEALTH_SAVINGS) (g := (mkF mM 58 #[.val (.int p1), .val (.int p2), .unset, .unset, .unset, .unset, .unset] [(.int (8 : Int32)), (.ref b2), (.ref b2)])) rfl (hb hby at_58)
  have pr65 : ∀ tg, Steps pP.tables eE below (T63.setTop (mkF mM 61 #[.val (.int p1), .val (.int p2), .unset, .unset, .unset, .unset, .unset] [(.ref a_HEALTH_SAVINGS), (.int (8 : Int32)), (.ref b2), (.ref b2)])) tg → Steps pP.tables eE below (s₁.setTop (entryFrame mM #[(.int p1), (.int p2)] maxLocals)) tg := fun tg kg => pr62 _ (st63 _ kg)
  clear pr62 st63 X60 e60
  obtain ⟨cla66, Ara66, qa66, Sa66, Ma66, Ha66, Ga66⟩ := id V60
  have hin67 : ¬ ((8 : Int32) < 0 ∨ cla66.slots.size ≤ ((8 : Int32)).toNatClampNeg) := inb_of Sa66 ⟨by decide, by decide⟩
  obtain ⟨T67, h67, X67, e67, W67, st67⟩ := stR X63 hx hZ e63 Ara66 (j := (8 : Int32)) hin67 rfl (Sto.ofV Ara66 qa66 O2 (Ins.self (Exa.ext (c64).2 E_HEALTH_SAVINGS))) (g := (mkF mM 61 #[.val (.int p1), .val (.int p2), .unset, .unset, .unset, .unset, .unset] [(.ref a_HEALTH_SAVINGS), (.int (8 : Int32)), (.ref b2), (.ref b2)])) rfl rfl (hb hby at_61)
  have V67 : Arv Z h67 b2 k2 (.object "com/example/ledgerhall/ledgerhall/DeductionType") (25 : Int32) [(.ref a_FICA_ALTERNATIVE_ANNUITY), (.ref a_TRS_HEALTH_INSURANCE), (.ref a_ANNUITY), (.ref a_CREDIT_UNION), (.ref a_DEFERRED_COMPENSATION), (.ref a_DEFERRED_COMPENSATION_LUMP), (.ref a_DEPENDENT_CARE), (.ref a_HEALTH_INSURANCE), (.ref a_HEALTH_SAVINGS), .null, .null, .null, .null, .null, .null, .null, .null, .null, .null, .null, .null, .null, .null, .null, .null] .null := Arv.set Ara66 qa66 Sa66 Ma66 Ha66 Ga66 rfl W67 8 rfl (Nat.le_of_ble_eq_true rfl)
  have N67 := Fr.snoc X67 N60 gn3
  have pr68 : ∀ tg, Steps pP.tables eE below (T67.setTop (mkF mM 62 #[.val (.int p1), .val (.int p2), .unset, .unset, .unset, .unset, .unset] [(.ref b2)])) tg → Steps pP.tables eE below (s₁.setTop (entryFrame mM #[(.int p1), (.int p2)] maxLocals)) tg := fun tg kg => pr65 _ (st67 _ kg)
  clear pr65 st67 X63 e63
  have pr69 : ∀ tg, Steps pP.tables eE below (T67.setTop (mkF mM 65 #[.val (.int p1), .val (.int p2), .unset, .unset, .unset, .unset, .unset] [(.int (9 : Int32)), (.ref b2), (.ref b2)])) tg → Steps pP.tables eE below (s₁.setTop (entryFrame mM #[(.int p1), (.int p2)] maxLocals)) tg := fun tg kg => pr68 _ (by
    show Steps pP.tables eE below (T67.setTop (mkF mM 62 #[.val (.int p1), .val (.int p2), .unset, .unset, .unset, .unset, .unset] [(.ref b2)])) _
    refine XS.dup X67.here hx rfl (hb hby at_62) rfl rfl ?_
    show Steps pP.tables eE below (T67.setTop (mkF mM 63 #[.val (.int p1), .val (.int p2), .unset, .unset, .unset, .unset, .unset] [(.ref b2), (.ref b2)])) _
    refine XS.bipush X67.here hx rfl (hb hby at_63) ?_
    exact kg)
  clear pr68
  have c71 := (Old.wr c64 W67 gn3)
  obtain ⟨T70, X70, e70, st70⟩ := getS2 X67 hx hZ hown (host := "") (Or.inl (hw _ (List.mem_of_getElem? (i := 22) rfl))) Via.refl e67 (Sta.ext (c71).2 S_INCOME_REPLACEMENT) (g := (mkF mM 65 #[.val (.int p1), .val (.int p2), .unset, .unset, .unset, .unset, .unset] [(.int (9 : Int32)), (.ref b2), (.ref b2)])) rfl (hb hby at_65)
  have pr72 : ∀ tg, Steps pP.tables eE below (T70.setTop (mkF mM 68 #[.val (.int p1), .val (.int p2), .unset, .unset, .unset, .unset, .unset] [(.ref a_INCOME_REPLACEMENT), (.int (9 : Int32)), (.ref b2), (.ref b2)])) tg → Steps pP.tables eE below (s₁.setTop (entryFrame mM #[(.int p1), (.int p2)] maxLocals)) tg := fun tg kg => pr69 _ (st70 _ kg)
  clear pr69 st70 X67 e67
  obtain ⟨cla73, Ara73, qa73, Sa73, Ma73, Ha73, Ga73⟩ := id V67
  have hin74 : ¬ ((9 : Int32) < 0 ∨ cla73.slots.size ≤ ((9 : Int32)).toNatClampNeg) := inb_of Sa73 ⟨by decide, by decide⟩
  obtain ⟨T74, h74, X74, e74, W74, st74⟩ := stR X70 hx hZ e70 Ara73 (j := (9 : Int32)) hin74 rfl (Sto.ofV Ara73 qa73 O2 (Ins.self (Exa.ext (c71).2 E_INCOME_REPLACEMENT))) (g := (mkF mM 68 #[.val (.int p1), .val (.int p2), .unset, .unset, .unset, .unset, .unset] [(.ref a_INCOME_REPLACEMENT), (.int (9 : Int32)), (.ref b2), (.ref b2)])) rfl rfl (hb hby at_68)
  have V74 : Arv Z h74 b2 k2 (.object "com/example/ledgerhall/ledgerhall/DeductionType") (25 : Int32) [(.ref a_FICA_ALTERNATIVE_ANNUITY), (.ref a_TRS_HEALTH_INSURANCE), (.ref a_ANNUITY), (.ref a_CREDIT_UNION), (.ref a_DEFERRED_COMPENSATION), (.ref a_DEFERRED_COMPENSATION_LUMP), (.ref a_DEPENDENT_CARE), (.ref a_HEALTH_INSURANCE), (.ref a_HEALTH_SAVINGS), (.ref a_INCOME_REPLACEMENT), .null, .null, .null, .null, .null, .null, .null, .null, .null, .null, .null, .null, .null, .null, .null] .null := Arv.set Ara73 qa73 Sa73 Ma73 Ha73 Ga73 rfl W74 9 rfl (Nat.le_of_ble_eq_true rfl)
  have N74 := Fr.snoc X74 N67 gn3
  have pr75 : ∀ tg, Steps pP.tables eE below (T74.setTop (mkF mM 69 #[.val (.int p1), .val (.int p2), .unset, .unset, .unset, .unset, .unset] [(.ref b2)])) tg → Steps pP.tables eE below (s₁.setTop (entryFrame mM #[(.int p1), (.int p2)] maxLocals)) tg := fun tg kg => pr72 _ (st74 _ kg)
  clear pr72 st74 X70 e70
  have pr76 : ∀ tg, Steps pP.tables eE below (T74.setTop (mkF mM 72 #[.val (.int p1), .val (.int p2), .unset, .unset, .unset, .unset, .unset] [(.int (10 : Int32)), (.ref b2), (.ref b2)])) tg → Steps pP.tables eE below (s₁.setTop (entryFrame mM #[(.int p1), (.int p2)] maxLocals)) tg := fun tg kg => pr75 _ (by
    show Steps pP.tables eE below (T74.setTop (mkF mM 69 #[.val (.int p1), .val (.int p2), .unset, .unset, .unset, .unset, .unset] [(.ref b2)])) _
    refine XS.dup X74.here hx rfl (hb hby at_69) rfl rfl ?_
    show Steps pP.tables eE below (T74.setTop (mkF mM 70 #[.val (.int p1), .val (.int p2), .unset, .unset, .unset, .unset, .unset] [(.ref b2), (.ref b2)])) _
    refine XS.bipush X74.here hx rfl (hb hby at_70) ?_
    exact kg)
  clear pr75
  have c78 := (Old.wr c71 W74 gn3)
  obtain ⟨T77, X77, e77, st77⟩ := getS2 X74 hx hZ hown (host := "") (Or.inl (hw _ (List.mem_of_getElem? (i := 24) rfl))) Via.refl e74 (Sta.ext (c78).2 S_LIFE_INSURANCE) (g := (mkF mM 72 #[.val (.int p1), .val (.int p2), .unset, .unset, .unset, .unset, .unset] [(.int (10 : Int32)), (.ref b2), (.ref b2)])) rfl (hb hby at_72)
  have pr79 : ∀ tg, Steps pP.tables eE below (T77.setTop (mkF mM 75 #[.val (.int p1), .val (.int p2), .unset, .unset, .unset, .unset, .unset] [(.ref a_LIFE_INSURANCE), (.int (10 : Int32)), (.ref b2), (.ref b2)])) tg → Steps pP.tables eE below (s₁.setTop (entryFrame mM #[(.int p1), (.int p2)] maxLocals)) tg := fun tg kg => pr76 _ (st77 _ kg)
  clear pr76 st77 X74 e74
  obtain ⟨cla80, Ara80, qa80, Sa80, Ma80, Ha80, Ga80⟩ := id V74
  have hin81 : ¬ ((10 : Int32) < 0 ∨ cla80.slots.size ≤ ((10 : Int32)).toNatClampNeg) := inb_of Sa80 ⟨by decide, by decide⟩
  obtain ⟨T81, h81, X81, e81, W81, st81⟩ := stR X77 hx hZ e77 Ara80 (j := (10 : Int32)) hin81 rfl (Sto.ofV Ara80 qa80 O2 (Ins.self (Exa.ext (c78).2 E_LIFE_INSURANCE))) (g := (mkF mM 75 #[.val (.int p1), .val (.int p2), .unset, .unset, .unset, .unset, .unset] [(.ref a_LIFE_INSURANCE), (.int (10 : Int32)), (.ref b2), (.ref b2)])) rfl rfl (hb hby at_75)
  have V81 : Arv Z h81 b2 k2 (.object "com/example/ledgerhall/ledgerhall/DeductionType") (25 : Int32) [(.ref a_FICA_ALTERNATIVE_ANNUITY), (.ref a_TRS_HEALTH_INSURANCE), (.ref a_ANNUITY), (.ref a_CREDIT_UNION), (.ref a_DEFERRED_COMPENSATION), (.ref a_DEFERRED_COMPENSATION_LUMP), (.ref a_DEPENDENT_CARE), (.ref a_HEALTH_INSURANCE), (.ref a_HEALTH_SAVINGS), (.ref a_INCOME_REPLACEMENT), (.ref a_LIFE_INSURANCE), .null, .null, .null, .null, .null, .null, .null, .null, .null, .null, .null, .null, .null, .null] .null := Arv.set Ara80 qa80 Sa80 Ma80 Ha80 Ga80 rfl W81 10 rfl (Nat.le_of_ble_eq_true rfl)
  have N81 := Fr.snoc X81 N74 gn3
  have pr82 : ∀ tg, Steps pP.tables eE below (T81.setTop (mkF mM 76 #[.val (.int p1), .val (.int p2), .unset, .unset, .unset, .unset, .unset] [(.ref b2)])) tg → Steps pP.tables eE below (s₁.setTop (entryFrame mM #[(.int p1), (.int p2)] maxLocals)) tg := fun tg kg => pr79 _ (st81 _ kg)
  clear pr79 st81 X77 e77
  have pr83 : ∀ tg, Steps pP.tables eE below (T81.setTop (mkF mM 79 #[.val (.int p1), .val (.int p2), .unset, .unset, .unset, .unset, .unset] [(.int (11 : Int32)), (.ref b2), (.ref b2)])) tg → Steps pP.tables eE below (s₁.setTop (entryFrame mM #[(.int p1), (.int p2)] maxLocals)) tg := fun tg kg => pr82 _ (by
    show Steps pP.tables eE below (T81.setTop (mkF mM 76 #[.val (.int p1), .val (.int p2), .unset, .unset, .unset, .unset, .unset] [(.ref b2)])) _
    refine XS.dup X81.here hx rfl (hb hby at_76) rfl rfl ?_
    show Steps pP.tables eE below (T81.setTop (mkF mM 77 #[.val (.int p1), .val (.int p2), .unset, .unset, .unset, .unset, .unset] [(.ref b2), (.ref b2)])) _
    refine XS.bipush X81.here hx rfl (hb hby at_77) ?_
    exact kg)
  clear pr82
  have c85 := (Old.wr c78 W81 gn3)
  obtain ⟨T84, X84, e84, st84⟩ := getS2 X81 hx hZ hown (host := "") (Or.inl (hw _ (List.mem_of_getElem? (i := 26) rfl))) Via.refl e81 (Sta.ext (c85).2 S_MISCELLANEOUS_1) (g := (mkF mM 79 #[.val (.int p1), .val (.int p2), .unset, .unset, .unset, .unset, .unset] [(.int (11 : Int32)), (.ref b2), (.ref b2)])) rfl (hb hby at_79)
  have pr86 : ∀ tg, Steps pP.tables eE below (T84.setTop (mkF mM 82 #[.val (.int p1), .val (.int p2), .unset, .unset, .unset, .unset, .unset] [(.ref a_MISCELLANEOUS_1), (.int (11 : Int32)), (.ref b2), (.ref b2)])) tg → Steps pP.tables eE below (s₁.setTop (entryFrame mM #[(.int p1), (.int p2)] maxLocals)) tg := fun tg kg => pr83 _ (st84 _ kg)
  clear pr83 st84 X81 e81
  obtain ⟨cla87, Ara87, qa87, Sa87, Ma87, Ha87, Ga87⟩ := id V81
  have hin88 : ¬ ((11 : Int32) < 0 ∨ cla87.slots.size ≤ ((11 : Int32)).toNatClampNeg) := inb_of Sa87 ⟨by decide, by decide⟩
  obtain ⟨T88, h88, X88, e88, W88, st88⟩ := stR X84 hx hZ e84 Ara87 (j := (11 : Int32)) hin88 rfl (Sto.ofV Ara87 qa87 O2 (Ins.self (Exa.ext (c85).2 E_MISCELLANEOUS_1))) (g := (mkF mM 82 #[.val (.int p1), .val (.int p2), .unset, .unset, .unset, .unset, .unset] [(.ref a_MISCELLANEOUS_1), (.int (11 : Int32)), (.ref b2), (.ref b2)])) rfl rfl (hb hby at_82)
  have V88 : Arv Z h88 b2 k2 (.object "com/example/ledgerhall/ledgerhall/DeductionType") (25 : Int32) [(.ref a_FICA_ALTERNATIVE_ANNUITY), (.ref a_TRS_HEALTH_INSURANCE), (.ref a_ANNUITY), (.ref a_CREDIT_UNION), (.ref a_DEFERRED_COMPENSATION), (.ref a_DEFERRED_COMPENSATION_LUMP), (.ref a_DEPENDENT_CARE), (.ref a_HEALTH_INSURANCE), (.ref a_HEALTH_SAVINGS), (.ref a_INCOME_REPLACEMENT), (.ref a_LIFE_INSURANCE), (.ref a_MISCELLANEOUS_1), .null, .null, .null, .null, .null, .null, .null, .null, .null, .null, .null, .null, .null] .null := Arv.set Ara87 qa87 Sa87 Ma87 Ha87 Ga87 rfl W88 11 rfl (Nat.le_of_ble_eq_true rfl)
  have N88 := Fr.snoc X88 N81 gn3
  have pr89 : ∀ tg, Steps pP.tables eE below (T88.setTop (mkF mM 83 #[.val (.int p1), .val (.int p2), .unset, .unset, .unset, .unset, .unset] [(.ref b2)])) tg → Steps pP.tables eE below (s₁.setTop (entryFrame mM #[(.int p1), (.int p2)] maxLocals)) tg := fun tg kg => pr86 _ (st88 _ kg)
  clear pr86 st88 X84 e84
  have pr90 : ∀ tg, Steps pP.tables eE below (T88.setTop (mkF mM 86 #[.val (.int p1), .val (.int p2), .unset, .unset, .unset, .unset, .unset] [(.int (12 : Int32)), (.ref b2), (.ref b2)])) tg → Steps pP.tables eE below (s₁.setTop (entryFrame mM #[(.int p1), (.int p2)] maxLocals)) tg := fun tg kg => pr89 _ (by
    show Steps pP.tables eE below (T88.setTop (mkF mM 83 #[.val (.int p1), .val (.int p2), .unset, .unset, .unset, .unset, .unset] [(.ref b2)])) _
    refine XS.dup X88.here hx rfl (hb hby at_83) rfl rfl ?_
    show Steps pP.tables eE below (T88.setTop (mkF mM 84 #[.val (.int p1), .val (.int p2), .unset, .unset, .unset, .unset, .unset] [(.ref b2), (.ref b2)])) _
    refine XS.bipush X88.here hx rfl (hb hby at_84) ?_
    exact kg)
  clear pr89
  have c92 := (Old.wr c85 W88 gn3)
  obtain ⟨T91, X91, e91, st91⟩ := getS2 X88 hx hZ hown (host := "") (Or.inl (hw _ (List.mem_of_getElem? (i := 28) rfl))) Via.refl e88 (Sta.ext (c92).2 S_MISCELLANEOUS_2) (g := (mkF mM 86 #[.val (.int p1), .val (.int p2), .unset, .unset, .unset, .unset, .unset] [(.int (12 : Int32)), (.ref b2), (.ref b2)])) rfl (hb hby at_86)
  have pr93 : ∀ tg, Steps pP.tables eE below (T91.setTop (mkF mM 89 #[.val (.int p1), .val (.int p2), .unset, .unset, .unset, .unset, .unset] [(.ref a_MISCELLANEOUS_2), (.int (12 : Int32)), (.ref b2), (.ref b2)])) tg → Steps pP.tables eE below (s₁.setTop (entryFrame mM #[(.int p1), (.int p2)] maxLocals)) tg := fun tg kg => pr90 _ (st91 _ kg)
  clear pr90 st91 X88 e88
  obtain ⟨cla94, Ara94, qa94, Sa94, Ma94, Ha94, Ga94⟩ := id V88
  have hin95 : ¬ ((12 : Int32) < 0 ∨ cla94.slots.size ≤ ((12 : Int32)).toNatClampNeg) := inb_of Sa94 ⟨by decide, by decide⟩
  obtain ⟨T95, h95, X95, e95, W95, st95⟩ := stR X91 hx hZ e91 Ara94 (j := (12 : Int32)) hin95 rfl (Sto.ofV Ara94 qa94 O2 (Ins.self (Exa.ext (c92).2 E_MISCELLANEOUS_2))) (g := (mkF mM 89 #[.val (.int p1), .val (.int p2), .unset, .unset, .unset, .unset, .unset] [(.ref a_MISCELLANEOUS_2), (.int (12 : Int32)), (.ref b2), (.ref b2)])) rfl rfl (hb hby at_89)
  have V95 : Arv Z h95 b2 k2 (.object "com/example/ledgerhall/ledgerhall/DeductionType") (25 : Int32) [(.ref a_FICA_ALTERNATIVE_ANNUITY), (.ref a_TRS_HEALTH_INSURANCE), (.ref a_ANNUITY), (.ref a_CREDIT_UNION), (.ref a_DEFERRED_COMPENSATION), (.ref a_DEFERRED_COMPENSATION_LUMP), (.ref a_DEPENDENT_CARE), (.ref a_HEALTH_INSURANCE), (.ref a_HEALTH_SAVINGS), (.ref a_INCOME_REPLACEMENT), (.ref a_LIFE_INSURANCE), (.ref a_MISCELLANEOUS_1), (.ref a_MISCELLANEOUS_2), .null, .null, .null, .null, .null, .null, .null, .null, .null, .null, .null, .null] .null := Arv.set Ara94 qa94 Sa94 Ma94 Ha94 Ga94 rfl W95 12 rfl (Nat.le_of_ble_eq_true rfl)
  have N95 := Fr.snoc X95 N88 gn3
  have pr96 : ∀ tg, Steps pP.tables eE below (T95.setTop (mkF mM 90 #[.val (.int p1), .val (.int p2), .unset, .unset, .unset, .unset, .unset] [(.ref b2)])) tg → Steps pP.tables eE below (s₁.setTop (entryFrame mM #[(.int p1), (.int p2)] maxLocals)) tg := fun tg kg => pr93 _ (st95 _ kg)
  clear pr93 st95 X91 e91
  have pr97 : ∀ tg, Steps pP.tables eE below (T95.setTop (mkF mM 93 #[.val (.int p1), .val (.int p2), .unset, .unset, .unset, .unset, .unset] [(.int (13 : Int32)), (.ref b2), (.ref b2)])) tg → Steps pP.tables eE below (s₁.setTop (entryFrame mM #[(.int p1), (.int p2)] maxLocals)) tg := fun tg kg => pr96 _ (by
    show Steps pP.tables eE below (T95.setTop (mkF mM 90 #[.val (.int p1), .val (.int p2), .unset, .unset, .unset, .unset, .unset] [(.ref b2)])) _
    refine XS.dup X95.here hx rfl (hb hby at_90) rfl rfl ?_
    show Steps pP.tables eE below (T95.setTop (mkF mM 91 #[.val (.int p1), .val (.int p2), .unset, .unset, .unset, .unset, .unset] [(.ref b2), (.ref b2)])) _
    refine XS.bipush X95.here hx rfl (hb hby at_91) ?_
    exact kg)
  clear pr96
  have c99 := (Old.wr c92 W95 gn3)
  obtain ⟨T98, X98, e98, st98⟩ := getS2 X95 hx hZ hown (host := "") (Or.inl (hw _ (List.mem_of_getElem? (i := 30) rfl))) Via.refl e95 (Sta.ext (c99).2 S_MISCELLANEOUS_3) (g := (mkF mM 93 #[.val (.int p1), .val (.int p2), .unset, .unset, .unset, .unset, .unset] [(.int (13 : Int32)), (.ref b2), (.ref b2)])) rfl (hb hby at_93)
  have pr100 : ∀ tg, Steps pP.tables eE below (T98.setTop (mkF mM 96 #[.val (.int p1), .val (.int p2), .unset, .unset, .unset, .unset, .unset] [(.ref a_MISCELLANEOUS_3), (.int (13 : Int32)), (.ref b2), (.ref b2)])) tg → Steps pP.tables eE below (s₁.setTop (entryFrame mM #[(.int p1), (.int p2)] maxLocals)) tg := fun tg kg => pr97 _ (st98 _ kg)
  clear pr97 st98 X95 e95
  obtain ⟨cla101, Ara101, qa101, Sa101, Ma101, Ha101, Ga101⟩ := id V95
  have hin102 : ¬ ((13 : Int32) < 0 ∨ cla101.slots.size ≤ ((13 : Int32)).toNatClampNeg) := inb_of Sa101 ⟨by decide, by decide⟩
  obtain ⟨T102, h102, X102, e102, W102, st102⟩ := stR X98 hx hZ e98 Ara101 (j := (13 : Int32)) hin102 rfl (Sto.ofV Ara101 qa101 O2 (Ins.self (Exa.ext (c99).2 E_MISCELLANEOUS_3))) (g := (mkF mM 96 #[.val (.int p1), .val (.int p2), .unset, .unset, .unset, .unset, .unset] [(.ref a_MISCELLANEOUS_3), (.int (13 : Int32)), (.ref b2), (.ref b2)])) rfl rfl (hb hby at_96)
  have V102 : Arv Z h102 b2 k2 (.object "com/example/ledgerhall/ledgerhall/DeductionType") (25 : Int32) [(.ref a_FICA_ALTERNATIVE_ANNUITY), (.ref a_TRS_HEALTH_INSURANCE), (.ref a_ANNUITY), (.ref a_CREDIT_UNION), (.ref a_DEFERRED_COMPENSATION), (.ref a_DEFERRED_COMPENSATION_LUMP), (.ref a_DEPENDENT_CARE), (.ref a_HEALTH_INSURANCE), (.ref a_HEALTH_SAVINGS), (.ref a_INCOME_REPLACEMENT), (.ref a_LIFE_INSURANCE), (.ref a_MISCELLANEOUS_1), (.ref a_MISCELLANEOUS_2), (.ref a_MISCELLANEOUS_3), .null, .null, .null, .null, .null, .null, .null, .null, .null, .null, .null] .null := Arv.set Ara101 qa101 Sa101 Ma101 Ha101 Ga101 rfl W102 13 rfl (Nat.le_of_ble_eq_true rfl)
  have N102 := Fr.snoc X102 N95 gn3
  have pr103 : ∀ tg, Steps pP.tables eE below (T102.setTop (mkF mM 97 #[.val (.int p1), .val (.int p2), .unset, .unset, .unset, .unset, .unset] [(.ref b2)])) tg → Steps pP.tables eE below (s₁.setTop (entryFrame mM #[(.int p1), (.int p2)] maxLocals)) tg := fun tg kg => pr100 _ (st102 _ kg)
  clear pr100 st102 X98 e98
  have pr104 : ∀ tg, Steps pP.tables eE below (T102.setTop (mkF mM 100 #[.val (.int p1), .val (.int p2), .unset, .unset, .unset, .unset, .unset] [(.int (14 : Int32)), (.ref b2), (.ref b2)])) tg → Steps pP.tables eE below (s₁.setTop (entryFrame mM #[(.int p1), (.int p2)] maxLocals)) tg := fun tg kg => pr103 _ (by
    show Steps pP.tables eE below (T102.setTop (mkF mM 97 #[.val (.int p1), .val (.int p2), .unset, .unset, .unset, .unset, .unset] [(.ref b2)])) _
    refine XS.dup X102.here hx rfl (hb hby at_97) rfl rfl ?_
    show Steps pP.tables eE below (T102.setTop (mkF mM 98 #[.val (.int p1), .val (.int p2), .unset, .unset, .unset, .unset, .unset] [(.ref b2), (.ref b2)])) _
    refine XS.bipush X102.here hx rfl (hb hby at_98) ?_
    exact kg)
  clear pr103
  have c106 := (Old.wr c99 W102 gn3)
  obtain ⟨T105, X105, e105, st105⟩ := getS2 X102 hx hZ hown (host := "") (Or.inl (hw _ (List.mem_of_getElem? (i := 32) rfl))) Via.refl e102 (Sta.ext (c106).2 S_ROTH_403B) (g := (mkF mM 100 #[.val (.int p1), .val (.int p2), .unset, .unset, .unset, .unset, .unset] [(.int (14 : Int32)), (.ref b2), (.ref b2)])) rfl (hb hby at_100)
  have pr107 : ∀ tg, Steps pP.tables eE below (T105.setTop (mkF mM 103 #[.val (.int p1), .val (.int p2), .unset, .unset, .unset, .unset, .unset] [(.ref a_ROTH_403B), (.int (14 : Int32)), (.ref b2), (.ref b2)])) tg → Steps pP.tables eE below (s₁.setTop (entryFrame mM #[(.int p1), (.int p2)] maxLocals)) tg := fun tg kg => pr104 _ (st105 _ kg)
  clear pr104 st105 X102 e102
  obtain ⟨cla108, Ara108, qa108, Sa108, Ma108, Ha108, Ga108⟩ := id V102
  have hin109 : ¬ ((14 : Int32) < 0 ∨ cla108.slots.size ≤ ((14 : Int32)).toNatClampNeg) := inb_of Sa108 ⟨by decide, by decide⟩
  obtain ⟨T109, h109, X109, e109, W109, st109⟩ := stR X105 hx hZ e105 Ara108 (j := (14 : Int32)) hin109 rfl (Sto.ofV Ara108 qa108 O2 (Ins.self (Exa.ext (c106).2 E_ROTH_403B))) (g := (mkF mM 103 #[.val (.int p1), .val (.int p2), .unset, .unset, .unset, .unset, .unset] [(.ref a_ROTH_403B), (.int (14 : Int32)), (.ref b2), (.ref b2)])) rfl rfl (hb hby at_103)
  have V109 : Arv Z h109 b2 k2 (.object "com/example/ledgerhall/ledgerhall/DeductionType") (25 : Int32) [(.ref a_FICA_ALTERNATIVE_ANNUITY), (.ref a_TRS_HEALTH_INSURANCE), (.ref a_ANNUITY), (.ref a_CREDIT_UNION), (.ref a_DEFERRED_COMPENSATION), (.ref a_DEFERRED_COMPENSATION_LUMP), (.ref a_DEPENDENT_CARE), (.ref a_HEALTH_INSURANCE), (.ref a_HEALTH_SAVINGS), (.ref a_INCOME_REPLACEMENT), (.ref a_LIFE_INSURANCE), (.ref a_MISCELLANEOUS_1), (.ref a_MISCELLANEOUS_2), (.ref a_MISCELLANEOUS_3), (.ref a_ROTH_403B), .null, .null, .null, .null, .null, .null, .null, .null, .null, .null] .null := Arv.set Ara108 qa108 Sa108 Ma108 Ha108 Ga108 rfl W109 14 rfl (Nat.le_of_ble_eq_true rfl)
  have N109 := Fr.snoc X109 N102 gn3
  have pr110 : ∀ tg, Steps pP.tables eE below (T109.setTop (mkF mM 104 #[.val (.int p1), .val (.int p2), .unset, .unset, .unset, .unset, .unset] [(.ref b2)])) tg → Steps pP.tables eE below (s₁.setTop (entryFrame mM #[(.int p1), (.int p2)] maxLocals)) tg := fun tg kg => pr107 _ (st109 _ kg)
  clear pr107 st109 X105 e105
  have pr111 : ∀ tg, Steps pP.tables eE below (T109.setTop (mkF mM 107 #[.val (.int p1), .val (.int p2), .unset, .unset, .unset, .unset, .unset] [(.int (15 : Int32)), (.ref b2), (.ref b2)])) tg → Steps pP.tables eE below (s₁.setTop (entryFrame mM #[(.int p1), (.int p2)] maxLocals)) tg := fun tg kg => pr110 _ (by
    show Steps pP.tables eE below (T109.setTop (mkF mM 104 #[.val (.int p1), .val (.int p2), .unset, .unset, .unset, .unset, .unset] [(.ref b2)])) _
    refine XS.dup X109.here hx rfl (hb hby at_104) rfl rfl ?_
    show Steps pP.tables eE below (T109.setTop (mkF mM 105 #[.val (.int p1), .val (.int p2), .unset, .unset, .unset, .unset, .unset] [(.ref b2), (.ref b2)])) _
    refine XS.bipush X109.here hx rfl (hb hby at_105) ?_
    exact kg)
  clear pr110
  have c113 := (Old.wr c106 W109 gn3)
  obtain ⟨T112, X112, e112, st112⟩ := getS2 X109 hx hZ hown (host := "") (Or.inl (hw _ (List.mem_of_getElem? (i := 34) rfl))) Via.refl e109 (Sta.ext (c113).2 S_ROTH_457B) (g := (mkF mM 107 #[.val (.int p1), .val (.int p2), .unset, .unset, .unset, .unset, .unset] [(.int (15 : Int32)), (.ref b2), (.ref b2)])) rfl (hb hby at_107)
  have pr114 : ∀ tg, Steps pP.tables eE below (T112.setTop (mkF mM 110 #[.val (.int p1), .val (.int p2), .unset, .unset, .unset, .unset, .unset] [(.ref a_ROTH_457B), (.int (15 : Int32)), (.ref b2), (.ref b2)])) tg → Steps pP.tables eE below (s₁.setTop (entryFrame mM #[(.int p1), (.int p2)] maxLocals)) tg := fun tg kg => pr111 _ (st112 _ kg)
  clear pr111 st112 X109 e109
  obtain ⟨cla115, Ara115, qa115, Sa115, Ma115, Ha115, Ga115⟩ := id V109
  have hin116 : ¬ ((15 : Int32) < 0 ∨ cla115.slots.size ≤ ((15 : Int32)).toNatClampNeg) := inb_of Sa115 ⟨by decide, by decide⟩
  obtain ⟨T116, h116, X116, e116, W116, st116⟩ := stR X112 hx hZ e112 Ara115 (j := (15 : Int32)) hin116 rfl (Sto.ofV Ara115 qa115 O2 (Ins.self (Exa.ext (c113).2 E_ROTH_457B))) (g := (mkF mM 110 #[.val (.int p1), .val (.int p2), .unset, .unset, .unset, .unset, .unset] [(.ref a_ROTH_457B), (.int (15 : Int32)), (.ref b2), (.ref b2)])) rfl rfl (hb hby at_110)
  have V116 : Arv Z h116 b2 k2 (.object "com/example/ledgerhall/ledgerhall/DeductionType") (25 : Int32) [(.ref a_FICA_ALTERNATIVE_ANNUITY), (.ref a_TRS_HEALTH_INSURANCE), (.ref a_ANNUITY), (.ref a_CREDIT_UNION), (.ref a_DEFERRED_COMPENSATION), (.ref a_DEFERRED_COMPENSATION_LUMP), (.ref a_DEPENDENT_CARE), (.ref a_HEALTH_INSURANCE), (.ref a_HEALTH_SAVINGS), (.ref a_INCOME_REPLACEMENT), (.ref a_LIFE_INSURANCE), (.ref a_MISCELLANEOUS_1), (.ref a_MISCELLANEOUS_2), (.ref a_MISCELLANEOUS_3), (.ref a_ROTH_403B), (.ref a_ROTH_457B), .null, .null, .null, .null, .null, .null, .null, .null, .null] .null := Arv.set Ara115 qa115 Sa115 Ma115 Ha115 Ga115 rfl W116 15 rfl (Nat.le_of_ble_eq_true rfl)
  have N116 := Fr.snoc X116 N109 gn3
  have pr117 : ∀ tg, Steps pP.tables eE below (T116.setTop (mkF mM 111 #[.val (.int p1), .val (.int p2), .unset, .unset, .unset, .unset, .unset] [(.ref b2)])) tg → Steps pP.tables eE below (s₁.setTop (entryFrame mM #[(.int p1), (.int p2)] maxLocals)) tg := fun tg kg => pr114 _ (st116 _ kg)
  clear pr114 st116 X112 e112
  have pr118 : ∀ tg, Steps pP.tables eE below (T116.setTop (mkF mM 114 #[.val (.int p1), .val (.int p2), .unset, .unset, .unset, .unset, .unset] [(.int (16 : Int32)), (.ref b2), (.ref b2)])) tg → Steps pP.tables eE below (s₁.setTop (entryFrame mM #[(.int p1), (.int p2)] maxLocals)) tg := fun tg kg => pr117 _ (by
    show Steps pP.tables eE below (T116.setTop (mkF mM 111 #[.val (.int p1), .val (.int p2), .unset, .unset, .unset, .unset, .unset] [(.ref b2)])) _
    refine XS.dup X116.here hx rfl (hb hby at_111) rfl rfl ?_
    show Steps pP.tables eE below (T116.setTop (mkF mM 112 #[.val (.int p1), .val (.int p2), .unset, .unset, .unset, .unset, .unset] [(.ref b2), (.ref b2)])) _
    refine XS.bipush X116.here hx rfl (hb hby at_112) ?_
    exact kg)
  clear pr117
  have c120 := (Old.wr c113 W116 gn3)
  obtain ⟨T119, X119, e119, st119⟩ := getS2 X116 hx hZ hown (host := "") (Or.inl (hw _ (List.mem_of_getElem? (i := 36) rfl))) Via.refl e116 (Sta.ext (c120).2 S_RETIREE_TRS_CARE) (g := (mkF mM 114 #[.val (.int p1), .val (.int p2), .unset, .unset, .unset, .unset, .unset] [(.int (16 : Int32)), (.ref b2), (.ref b2)])) rfl (hb hby at_114)
  have pr121 : ∀ tg, Steps pP.tables eE below (T119.setTop (mkF mM 117 #[.val (.int p1), .val (.int p2), .unset, .unset, .unset, .unset, .unset] [(.ref a_RETIREE_TRS_CARE), (.int (16 : Int32)), (.ref b2), (.ref b2)])) tg → Steps pP.tables eE below (s₁.setTop (entryFrame mM #[(.int p1), (.int p2)] maxLocals)) tg := fun tg kg => pr118 _ (st119 _ kg)
  clear pr118 st119 X116 e116
  obtain ⟨cla122, Ara122, qa122, Sa122, Ma122, Ha122, Ga122⟩ := id V116
  have hin123 : ¬ ((16 : Int32) < 0 ∨ cla122.slots.size ≤ ((16 : Int32)).toNatClampNeg) := inb_of Sa122 ⟨by decide, by decide⟩
  obtain ⟨T123, h123, X123, e123, W123, st123⟩ := stR X119 hx hZ e119 Ara122 (j := (16 : Int32)) hin123 rfl (Sto.ofV Ara122 qa122 O2 (Ins.self (Exa.ext (c120).2 E_RETIREE_TRS_CARE))) (g := (mkF mM 117 #[.val (.int p1), .val (.int p2), .unset, .unset, .unset, .unset, .unset] [(.ref a_RETIREE_TRS_CARE), (.int (16 : Int32)), (.ref b2), (.ref b2)])) rfl rfl (hb hby at_117)
  have V123 : Arv Z h123 b2 k2 (.object "com/example/ledgerhall/ledgerhall/DeductionType") (25 : Int32) [(.ref a_FICA_ALTERNATIVE_ANNUITY), (.ref a_TRS_HEALTH_INSURANCE), (.ref a_ANNUITY), (.ref a_CREDIT_UNION), (.ref a_DEFERRED_COMPENSATION), (.ref a_DEFERRED_COMPENSATION_LUMP), (.ref a_DEPENDENT_CARE), (.ref a_HEALTH_INSURANCE), (.ref a_HEALTH_SAVINGS), (.ref a_INCOME_REPLACEMENT), (.ref a_LIFE_INSURANCE), (.ref a_MISCELLANEOUS_1), (.ref a_MISCELLANEOUS_2), (.ref a_MISCELLANEOUS_3), (.ref a_ROTH_403B), (.ref a_ROTH_457B), (.ref a_RETIREE_TRS_CARE), .null, .null, .null, .null, .null, .null, .null, .null] .null := Arv.set Ara122 qa122 Sa122 Ma122 Ha122 Ga122 rfl W123 16 rfl (Nat.le_of_ble_eq_true rfl)
  have N123 := Fr.snoc X123 N116 gn3
  have pr124 : ∀ tg, Steps pP.tables eE below (T123.setTop (mkF mM 118 #[.val (.int p1), .val (.int p2), .unset, .unset, .unset, .unset, .unset] [(.ref b2)])) tg → Steps pP.tables eE below (s₁.setTop (entryFrame mM #[(.int p1), (.int p2)] maxLocals)) tg := fun tg kg => pr121 _ (st123 _ kg)
  clear pr121 st123 X119 e119
  have pr125 : ∀ tg, Steps pP.tables eE below (T123.setTop (mkF mM 121 #[.val (.int p1), .val (.int p2), .unset, .unset, .unset, .unset, .unset] [(.int (17 : Int32)), (.ref b2), (.ref b2)])) tg → Steps pP.tables eE below (s₁.setTop (entryFrame mM #[(.int p1), (.int p2)] maxLocals)) tg := fun tg kg => pr124 _ (by
    show Steps pP.tables eE below (T123.setTop (mkF mM 118 #[.val (.int p1), .val (.int p2), .unset, .unset, .unset, .unset, .unset] [(.ref b2)])) _
    refine XS.dup X123.here hx rfl (hb hby at_118) rfl rfl ?_
    show Steps pP.tables eE below (T123.setTop (mkF mM 119 #[.val (.int p1), .val (.int p2), .unset, .unset, .unset, .unset, .unset] [(.ref b2), (.ref b2)])) _
    refine XS.bipush X123.here hx rfl (hb hby at_119) ?_
    exact kg)
  clear pr124
  have c127 := (Old.wr c120 W123 gn3)
  obtain ⟨T126, X126, e126, st126⟩ := getS2 X123 hx hZ hown (host := "") (Or.inl (hw _ (List.mem_of_getElem? (i := 38) rfl))) Via.refl e123 (Sta.ext (c127).2 S_SAVINGS_BOND) (g := (mkF mM 121 #[.val (.int p1), .val (.int p2), .unset, .unset, .unset, .unset, .unset] [(.int (17 : Int32)), (.ref b2), (.ref b2)])) rfl (hb hby at_121)
  have pr128 : ∀ tg, Steps pP.tables eE below (T126.setTop (mkF mM 124 #[.val (.int p1), .val (.int p2), .unset, .unset, .unset, .unset, .unset] [(.ref a_SAVINGS_BOND), (.int (17 : Int32)), (.ref b2), (.ref b2)])) tg → Steps pP.tables eE below (s₁.setTop (entryFrame mM #[(.int p1), (.int p2)] maxLocals)) tg := fun tg kg => pr125 _ (st126 _ kg)
  clear pr125 st126 X123 e123
  obtain ⟨cla129, Ara129, qa129, Sa129, Ma129, Ha129, Ga129⟩ := id V123
  have hin130 : ¬ ((17 : Int32) < 0 ∨ cla129.slots.size ≤ ((17 : Int32)).toNatClampNeg) := inb_of Sa129 ⟨by decide, by decide⟩
  obtain ⟨T130, h130, X130, e130, W130, st130⟩ := stR X126 hx hZ e126 Ara129 (j := (17 : Int32)) hin130 rfl (Sto.ofV Ara129 qa129 O2 (Ins.self (Exa.ext (c127).2 E_SAVINGS_BOND))) (g := (mkF mM 124 #[.val (.int p1), .val (.int p2), .unset, .unset, .unset, .unset, .unset] [(.ref a_SAVINGS_BOND), (.int (17 : Int32)), (.ref b2), (.ref b2)])) rfl rfl (hb hby at_124)
  have V130 : Arv Z h130 b2 k2 (.object "com/example/ledgerhall/ledgerhall/DeductionType") (25 : Int32) [(.ref a_FICA_ALTERNATIVE_ANNUITY), (.ref a_TRS_HEALTH_INSURANCE), (.ref a_ANNUITY), (.ref a_CREDIT_UNION), (.ref a_DEFERRED_COMPENSATION), (.ref a_DEFERRED_COMPENSATION_LUMP), (.ref a_DEPENDENT_CARE), (.ref a_HEALTH_INSURANCE), (.ref a_HEALTH_SAVINGS), (.ref a_INCOME_REPLACEMENT), (.ref a_LIFE_INSURANCE), (.ref a_MISCELLANEOUS_1), (.ref a_MISCELLANEOUS_2), (.ref a_MISCELLANEOUS_3), (.ref a_ROTH_403B), (.ref a_ROTH_457B), (.ref a_RETIREE_TRS_CARE), (.ref a_SAVINGS_BOND), .null, .null, .null, .null, .null, .null, .null] .null := Arv.set Ara129 qa129 Sa129 Ma129 Ha129 Ga129 rfl W130 17 rfl (Nat.le_of_ble_eq_true rfl)
  have N130 := Fr.snoc X130 N123 gn3
  have pr131 : ∀ tg, Steps pP.tables eE below (T130.setTop (mkF mM 125 #[.val (.int p1), .val (.int p2), .unset, .unset, .unset, .unset, .unset] [(.ref b2)])) tg → Steps pP.tables eE below (s₁.setTop (entryFrame mM #[(.int p1), (.int p2)] maxLocals)) tg := fun tg kg => pr128 _ (st130 _ kg)
  clear pr128 st130 X126 e126
  have pr132 : ∀ tg, Steps pP.tables eE below (T130.setTop (mkF mM 128 #[.val (.int p1), .val (.int p2), .unset, .unset, .unset, .unset, .unset] [(.int (18 : Int32)), (.ref b2), (.ref b2)])) tg → Steps pP.tables eE below (s₁.setTop (entryFrame mM #[(.int p1), (.int p2)] maxLocals)) tg := fun tg kg => pr131 _ (by
    show Steps pP.tables eE below (T130.setTop (mkF mM 125 #[.val (.int p1), .val (.int p2), .unset, .unset, .unset, .unset, .unset] [(.ref b2)])) _
    refine XS.dup X130.here hx rfl (hb hby at_125) rfl rfl ?_
    show Steps pP.tables eE below (T130.setTop (mkF mM 126 #[.val (.int p1), .val (.int p2), .unset, .unset, .unset, .unset, .unset] [(.ref b2), (.ref b2)])) _
    refine XS.bipush X130.here hx rfl (hb hby at_126) ?_
    exact kg)
  clear pr131
  have c134 := (Old.wr c127 W130 gn3)
  obtain ⟨T133, X133, e133, st133⟩ := getS2 X130 hx hZ hown (host := "") (Or.inl (hw _ (List.mem_of_getElem? (i := 40) rfl))) Via.refl e130 (Sta.ext (c134).2 S_WHOLE_LIFE_CONTRIBUTION) (g := (mkF mM 128 #[.val (.int p1), .val (.int p2), .unset, .unset, .unset, .unset, .unset] [(.int (18 : Int32)), (.ref b2), (.ref b2)])) rfl (hb hby at_128)
  have pr135 : ∀ tg, Steps pP.tables eE below (T133.setTop (mkF mM 131 #[.val (.int p1), .val (.int p2), .unset, .unset, .unset, .unset, .unset] [(.ref a_WHOLE_LIFE_CONTRIBUTION), (.int (18 : Int32)), (.ref b2), (.ref b2)])) tg → Steps pP.tables eE below (s₁.setTop (entryFrame mM #[(.int p1), (.int p2)] maxLocals)) tg := fun tg kg => pr132 _ (st133 _ kg)
  clear pr132 st133 X130 e130
  obtain ⟨cla136, Ara136, qa136, Sa136, Ma136, Ha136, Ga136⟩ := id V130
  have hin137 : ¬ ((18 : Int32) < 0 ∨ cla136.slots.size ≤ ((18 : Int32)).toNatClampNeg) := inb_of Sa136 ⟨by decide, by decide⟩
  obtain ⟨T137, h137, X137, e137, W137, st137⟩ := stR X133 hx hZ e133 Ara136 (j := (18 : Int32)) hin137 rfl (Sto.ofV Ara136 qa136 O2 (Ins.self (Exa.ext (c134).2 E_WHOLE_LIFE_CONTRIBUTION))) (g := (mkF mM 131 #[.val (.int p1), .val (.int p2), .unset, .unset, .unset, .unset, .unset] [(.ref a_WHOLE_LIFE_CONTRIBUTION), (.int (18 : Int32)), (.ref b2), (.ref b2)])) rfl rfl (hb hby at_131)
  have V137 : Arv Z h137 b2 k2 (.object "com/example/ledgerhall/ledgerhall/DeductionType") (25 : Int32) [(.ref a_FICA_ALTERNATIVE_ANNUITY), (.ref a_TRS_HEALTH_INSURANCE), (.ref a_ANNUITY), (.ref a_CREDIT_UNION), (.ref a_DEFERRED_COMPENSATION), (.ref a_DEFERRED_COMPENSATION_LUMP), (.ref a_DEPENDENT_CARE), (.ref a_HEALTH_INSURANCE), (.ref a_HEALTH_SAVINGS), (.ref a_INCOME_REPLACEMENT), (.ref a_LIFE_INSURANCE), (.ref a_MISCELLANEOUS_1), (.ref a_MISCELLANEOUS_2), (.ref a_MISCELLANEOUS_3), (.ref a_ROTH_403B), (.ref a_ROTH_457B), (.ref a_RETIREE_TRS_CARE), (.ref a_SAVINGS_BOND), (.ref a_WHOLE_LIFE_CONTRIBUTION), .null, .null, .null, .null, .null, .null] .null := Arv.set Ara136 qa136 Sa136 Ma136 Ha136 Ga136 rfl W137 18 rfl (Nat.le_of_ble_eq_true rfl)
  have N137 := Fr.snoc X137 N130 gn3
  have pr138 : ∀ tg, Steps pP.tables eE below (T137.setTop (mkF mM 132 #[.val (.int p1), .val (.int p2), .unset, .unset, .unset, .unset, .unset] [(.ref b2)])) tg → Steps pP.tables eE below (s₁.setTop (entryFrame mM #[(.int p1), (.int p2)] maxLocals)) tg := fun tg kg => pr135 _ (st137 _ kg)
  clear pr135 st137 X133 e133
  have pr139 : ∀ tg, Steps pP.tables eE below (T137.setTop (mkF mM 135 #[.val (.int p1), .val (.int p2), .unset, .unset, .unset, .unset, .unset] [(.int (19 : Int32)), (.ref b2), (.ref b2)])) tg → Steps pP.tables eE below (s₁.setTop (entryFrame mM #[(.int p1), (.int p2)] maxLocals)) tg := fun tg kg => pr138 _ (by
    show Steps pP.tables eE below (T137.setTop (mkF mM 132 #[.val (.int p1), .val (.int p2), .unset, .unset, .unset, .unset, .unset] [(.ref b2)])) _
    refine XS.dup X137.here hx rfl (hb hby at_132) rfl rfl ?_
    show Steps pP.tables eE below (T137.setTop (mkF mM 133 #[.val (.int p1), .val (.int p2), .unset, .unset, .unset, .unset, .unset] [(.ref b2), (.ref b2)])) _
    refine XS.bipush X137.here hx rfl (hb hby at_133) ?_
    exact kg)
  clear pr138
  have c141 := (Old.wr c134 W137 gn3)
  obtain ⟨T140, X140, e140, st140⟩ := getS2 X137 hx hZ hown (host := "") (Or.inl (hw _ (List.mem_of_getElem? (i := 42) rfl))) Via.refl e137 (Sta.ext (c141).2 S_GROUP_LIFE_CONTRIBUTION) (g := (mkF mM 135 #[.val (.int p1), .val (.int p2), .unset, .unset, .unset, .unset, .unset] [(.int (19 : Int32)), (.ref b2), (.ref b2)])) rfl (hb hby at_135)
  have pr142 : ∀ tg, Steps pP.tables eE below (T140.setTop (mkF mM 138 #[.val (.int p1), .val (.int p2), .unset, .unset, .unset, .unset, .unset] [(.ref a_GROUP_LIFE_CONTRIBUTION), (.int (19 : Int32)), (.ref b2), (.ref b2)])) tg → Steps pP.tables eE below (s₁.setTop (entryFrame mM #[(.int p1), (.int p2)] maxLocals)) tg := fun tg kg => pr139 _ (st140 _ kg)
  clear pr139 st140 X137 e137
  obtain ⟨cla143, Ara143, qa143, Sa143, Ma143, Ha143, Ga143⟩ := id V137
  have hin144 : ¬ ((19 : Int32) < 0 ∨ cla143.slots.size ≤ ((19 : Int32)).toNatClampNeg) := inb_of Sa143 ⟨by decide, by decide⟩
  obtain ⟨T144, h144, X144, e144, W144, st144⟩ := stR X140 hx hZ e140 Ara143 (j := (19 : Int32)) hin144 rfl (Sto.ofV Ara143 qa143 O2 (Ins.self (Exa.ext (c141).2 E_GROUP_LIFE_CONTRIBUTION))) (g := (mkF mM 138 #[.val (.int p1), .val (.int p2), .unset, .unset, .unset, .unset, .unset] [(.ref a_GROUP_LIFE_CONTRIBUTION), (.int (19 : Int32)), (.ref b2), (.ref b2)])) rfl rfl (hb hby at_138)
  have V144 : Arv Z h144 b2 k2 (.object "com/example/ledgerhall/ledgerhall/DeductionType") (25 : Int32) [(.ref a_FICA_ALTERNATIVE_ANNUITY), (.ref a_TRS_HEALTH_INSURANCE), (.ref a_ANNUITY), (.ref a_CREDIT_UNION), (.ref a_DEFERRED_COMPENSATION), (.ref a_DEFERRED_COMPENSATION_LUMP), (.ref a_DEPENDENT_CARE), (.ref a_HEALTH_INSURANCE), (.ref a_HEALTH_SAVINGS), (.ref a_INCOME_REPLACEMENT), (.ref a_LIFE_INSURANCE), (.ref a_MISCELLANEOUS_1), (.ref a_MISCELLANEOUS_2), (.ref a_MISCELLANEOUS_3), (.ref a_ROTH_403B), (.ref a_ROTH_457B), (.ref a_RETIREE_TRS_CARE), (.ref a_SAVINGS_BOND), (.ref a_WHOLE_LIFE_CONTRIBUTION), (.ref a_GROUP_LIFE_CONTRIBUTION), .null, .null, .null, .null, .null] .null := Arv.set Ara143 qa143 Sa143 Ma143 Ha143 Ga143 rfl W144 19 rfl (Nat.le_of_ble_eq_true rfl)
  have N144 := Fr.snoc X144 N137 gn3
  have pr145 : ∀ tg, Steps pP.tables eE below (T144.setTop (mkF mM 139 #[.val (.int p1), .val (.int p2), .unset, .unset, .unset, .unset, .unset] [(.ref b2)])) tg → Steps pP.tables eE below (s₁.setTop (entryFrame mM #[(.int p1), (.int p2)] maxLocals)) tg := fun tg kg => pr142 _ (st144 _ kg)
  clear pr142 st144 X140 e140
  have pr146 : ∀ tg, Steps pP.tables eE below (T144.setTop (mkF mM 142 #[.val (.int p1), .val (.int p2), .unset, .unset, .unset, .unset, .unset] [(.int (20 : Int32)), (.ref b2), (.ref b2)])) tg → Steps pP.tables eE below (s₁.setTop (entryFrame mM #[(.int p1), (.int p2)] maxLocals)) tg := fun tg kg => pr145 _ (by
    show Steps pP.tables eE below (T144.setTop (mkF mM 139 #[.val (.int p1), .val (.int p2), .unset, .unset, .unset, .unset, .unset] [(.ref b2)])) _
    refine XS.dup X144.here hx rfl (hb hby at_139) rfl rfl ?_
    show Steps pP.tables eE below (T144.setTop (mkF mM 140 #[.val (.int p1), .val (.int p2), .unset, .unset, .unset, .unset, .unset] [(.ref b2), (.ref b2)])) _
    refine XS.bipush X144.here hx rfl (hb hby at_140) ?_
    exact kg)
  clear pr145
  have c148 := (Old.wr c141 W144 gn3)
  obtain ⟨T147, X147, e147, st147⟩ := getS2 X144 hx hZ hown (host := "") (Or.inl (hw _ (List.mem_of_getElem? (i := 44) rfl))) Via.refl e144 (Sta.ext (c148).2 S_TRS_SERVICE_BUY_BACK) (g := (mkF mM 142 #[.val (.int p1), .val (.int p2), .unset, .unset, .unset, .unset, .unset] [(.int (20 : Int32)), (.ref b2), (.ref b2)])) rfl (hb hby at_142)
  have pr149 : ∀ tg, Steps pP.tables eE below (T147.setTop (mkF mM 145 #[.val (.int p1), .val (.int p2), .unset, .unset, .unset, .unset, .unset] [(.ref a_TRS_SERVICE_BUY_BACK), (.int (20 : Int32)), (.ref b2), (.ref b2)])) tg → Steps pP.tables eE below (s₁.setTop (entryFrame mM #[(.int p1), (.int p2)] maxLocals)) tg := fun tg kg => pr146 _ (st147 _ kg)
  clear pr146 st147 X144 e144
  obtain ⟨cla150, Ara150, qa150, Sa150, Ma150, Ha150, Ga150⟩ := id V144
  have hin151 : ¬ ((20 : Int32) < 0 ∨ cla150.slots.size ≤ ((20 : Int32)).toNatClampNeg) := inb_of Sa150 ⟨by decide, by decide⟩
  obtain ⟨T151, h151, X151, e151, W151, st151⟩ := stR X147 hx hZ e147 Ara150 (j := (20 : Int32)) hin151 rfl (Sto.ofV Ara150 qa150 O2 (Ins.self (Exa.ext (c148).2 E_TRS_SERVICE_BUY_BACK))) (g := (mkF mM 145 #[.val (.int p1), .val (.int p2), .unset, .unset, .unset, .unset, .unset] [(.ref a_TRS_SERVICE_BUY_BACK), (.int (20 : Int32)), (.ref b2), (.ref b2)])) rfl rfl (hb hby at_145)
  have V151 : Arv Z h151 b2 k2 (.object "com/example/ledgerhall/ledgerhall/DeductionType") (25 : Int32) [(.ref a_FICA_ALTERNATIVE_ANNUITY), (.ref a_TRS_HEALTH_INSURANCE), (.ref a_ANNUITY), (.ref a_CREDIT_UNION), (.ref a_DEFERRED_COMPENSATION), (.ref a_DEFERRED_COMPENSATION_LUMP), (.ref a_DEPENDENT_CARE), (.ref a_HEALTH_INSURANCE), (.ref a_HEALTH_SAVINGS), (.ref a_INCOME_REPLACEMENT), (.ref a_LIFE_INSURANCE), (.ref a_MISCELLANEOUS_1), (.ref a_MISCELLANEOUS_2), (.ref a_MISCELLANEOUS_3), (.ref a_ROTH_403B), (.ref a_ROTH_457B), (.ref a_RETIREE_TRS_CARE), (.ref a_SAVINGS_BOND), (.ref a_WHOLE_LIFE_CONTRIBUTION), (.ref a_GROUP_LIFE_CONTRIBUTION), (.ref a_TRS_SERVICE_BUY_BACK), .null, .null, .null, .null] .null := Arv.set Ara150 qa150 Sa150 Ma150 Ha150 Ga150 rfl W151 20 rfl (Nat.le_of_ble_eq_true rfl)
  have N151 := Fr.snoc X151 N144 gn3
  have pr152 : ∀ tg, Steps pP.tables eE below (T151.setTop (mkF mM 146 #[.val (.int p1), .val (.int p2), .unset, .unset, .unset, .unset, .unset] [(.ref b2)])) tg → Steps pP.tables eE below (s₁.setTop (entryFrame mM #[(.int p1), (.int p2)] maxLocals)) tg := fun tg kg => pr149 _ (st151 _ kg)
  clear pr149 st151 X147 e147
  have pr153 : ∀ tg, Steps pP.tables eE below (T151.setTop (mkF mM 149 #[.val (.int p1), .val (.int p2), .unset, .unset, .unset, .unset, .unset] [(.int (21 : Int32)), (.ref b2), (.ref b2)])) tg → Steps pP.tables eE below (s₁.setTop (entryFrame mM #[(.int p1), (.int p2)] maxLocals)) tg := fun tg kg => pr152 _ (by
    show Steps pP.tables eE below (T151.setTop (mkF mM 146 #[.val (.int p1), .val (.int p2), .unset, .unset, .unset, .unset, .unset] [(.ref b2)])) _
    refine XS.dup X151.here hx rfl (hb hby at_146) rfl rfl ?_
    show Steps pP.tables eE below (T151.setTop (mkF mM 147 #[.val (.int p1), .val (.int p2), .unset, .unset, .unset, .unset, .unset] [(.ref b2), (.ref b2)])) _
    refine XS.bipush X151.here hx rfl (hb hby at_147) ?_
    exact kg)
  clear pr152
  have c155 := (Old.wr c148 W151 gn3)
  obtain ⟨T154, X154, e154, st154⟩ := getS2 X151 hx hZ hown (host := "") (Or.inl (hw _ (List.mem_of_getElem? (i := 46) rfl))) Via.refl e151 (Sta.ext (c155).2 S_TSTA_DUES) (g := (mkF mM 149 #[.val (.int p1), .val (.int p2), .unset, .unset, .unset, .unset, .unset] [(.int (21 : Int32)), (.ref b2), (.ref b2)])) rfl (hb hby at_149)
  have pr156 : ∀ tg, Steps pP.tables eE below (T154.setTop (mkF mM 152 #[.val (.int p1), .val (.int p2), .unset, .unset, .unset, .unset, .unset] [(.ref a_TSTA_DUES), (.int (21 : Int32)), (.ref b2), (.ref b2)])) tg → Steps pP.tables eE below (s₁.setTop (entryFrame mM #[(.int p1), (.int p2)] maxLocals)) tg := fun tg kg => pr153 _ (st154 _ kg)
  clear pr153 st154 X151 e151
  obtain ⟨cla157, Ara157, qa157, Sa157, Ma157, Ha157, Ga157⟩ := id V151
  have hin158 : ¬ ((21 : Int32) < 0 ∨ cla157.slots.size ≤ ((21 : Int32)).toNatClampNeg) := inb_of Sa157 ⟨by decide, by decide⟩
  obtain ⟨T158, h158, X158, e158, W158, st158⟩ := stR X154 hx hZ e154 Ara157 (j := (21 : Int32)) hin158 rfl (Sto.ofV Ara157 qa157 O2 (Ins.self (Exa.ext (c155).2 E_TSTA_DUES))) (g := (mkF mM 152 #[.val (.int p1), .val (.int p2), .unset, .unset, .unset, .unset, .unset] [(.ref a_TSTA_DUES), (.int (21 : Int32)), (.ref b2), (.ref b2)])) rfl rfl (hb hby at_152)
  have V158 : Arv Z h158 b2 k2 (.object "com/example/ledgerhall/ledgerhall/DeductionType") (25 : Int32) [(.ref a_FICA_ALTERNATIVE_ANNUITY), (.ref a_TRS_HEALTH_INSURANCE), (.ref a_ANNUITY), (.ref a_CREDIT_UNION), (.ref a_DEFERRED_COMPENSATION), (.ref a_DEFERRED_COMPENSATION_LUMP), (.ref a_DEPENDENT_CARE), (.ref a_HEALTH_INSURANCE), (.ref a_HEALTH_SAVINGS), (.ref a_INCOME_REPLACEMENT), (.ref a_LIFE_INSURANCE), (.ref a_MISCELLANEOUS_1), (.ref a_MISCELLANEOUS_2), (.ref a_MISCELLANEOUS_3), (.ref a_ROTH_403B), (.ref a_ROTH_457B), (.ref a_RETIREE_TRS_CARE), (.ref a_SAVINGS_BOND), (.ref a_WHOLE_LIFE_CONTRIBUTION), (.ref a_GROUP_LIFE_CONTRIBUTION), (.ref a_TRS_SERVICE_BUY_BACK), (.ref a_TSTA_DUES), .null, .null, .null] .null := Arv.set Ara157 qa157 Sa157 Ma157 Ha157 Ga157 rfl W158 21 rfl (Nat.le_of_ble_eq_true rfl)
  have N158 := Fr.snoc X158 N151 gn3
  have pr159 : ∀ tg, Steps pP.tables eE below (T158.setTop (mkF mM 153 #[.val (.int p1), .val (.int p2), .unset, .unset, .unset, .unset, .unset] [(.ref b2)])) tg → Steps pP.tables eE below (s₁.setTop (entryFrame mM #[(.int p1), (.int p2)] maxLocals)) tg := fun tg kg => pr156 _ (st158 _ kg)
  clear pr156 st158 X154 e154
  have pr160 : ∀ tg, Steps pP.tables eE below (T158.setTop (mkF mM 156 #[.val (.int p1), .val (.int p2), .unset, .unset, .unset, .unset, .unset] [(.int (22 : Int32)), (.ref b2), (.ref b2)])) tg → Steps pP.tables eE below (s₁.setTop (entryFrame mM #[(.int p1), (.int p2)] maxLocals)) tg := fun tg kg => pr159 _ (by
    show Steps pP.tables eE below (T158.setTop (mkF mM 153 #[.val (.int p1), .val (.int p2), .unset, .unset, .unset, .unset, .unset] [(.ref b2)])) _
    refine XS.dup X158.here hx rfl (hb hby at_153) rfl rfl ?_
    show Steps pP.tables eE below (T158.setTop (mkF mM 154 #[.val (.int p1), .val (.int p2), .unset, .unset, .unset, .unset, .unset] [(.ref b2), (.ref b2)])) _
    refine XS.bipush X158.here hx rfl (hb hby at_154) ?_
    exact kg)
  clear pr159
  have c162 := (Old.wr c155 W158 gn3)
  obtain ⟨T161, X161, e161, st161⟩ := getS2 X158 hx hZ hown (host := "") (Or.inl (hw _ (List.mem_of_getElem? (i := 48) rfl))) Via.refl e158 (Sta.ext (c162).2 S_UNION_DUES) (g := (mkF mM 156 #[.val (.int p1), .val (.int p2), .unset, .unset, .unset, .unset, .unset] [(.int (22 : Int32)), (.ref b2), (.ref b2)])) rfl (hb hby at_156)
  have pr163 : ∀ tg, Steps pP.tables eE below (T161.setTop (mkF mM 159 #[.val (.int p1), .val (.int p2), .unset, .unset, .unset, .unset, .unset] [(.ref a_UNION_DUES), (.int (22 : Int32)), (.ref b2), (.ref b2)])) tg → Steps pP.tables eE below (s₁.setTop (entryFrame mM #[(.int p1), (.int p2)] maxLocals)) tg := fun tg kg => pr160 _ (st161 _ kg)
  clear pr160 st161 X158 e158
  obtain ⟨cla164, Ara164, qa164, Sa164, Ma164, Ha164, Ga164⟩ := id V158
  have hin165 : ¬ ((22 : Int32) < 0 ∨ cla164.slots.size ≤ ((22 : Int32)).toNatClampNeg) := inb_of Sa164 ⟨by decide, by decide⟩
  obtain ⟨T165, h165, X165, e165, W165, st165⟩ := stR X161 hx hZ e161 Ara164 (j := (22 : Int32)) hin165 rfl (Sto.ofV Ara164 qa164 O2 (Ins.self (Exa.ext (c162).2 E_UNION_DUES))) (g := (mkF mM 159 #[.val (.int p1), .val (.int p2), .unset, .unset, .unset, .unset, .unset] [(.ref a_UNION_DUES), (.int (22 : Int32)), (.ref b2), (.ref b2)])) rfl rfl (hb hby at_159)
  have V165 : Arv Z h165 b2 k2 (.object "com/example/ledgerhall/ledgerhall/DeductionType") (25 : Int32) [(.ref a_FICA_ALTERNATIVE_ANNUITY), (.ref a_TRS_HEALTH_INSURANCE), (.ref a_ANNUITY), (.ref a_CREDIT_UNION), (.ref a_DEFERRED_COMPENSATION), (.ref a_DEFERRED_COMPENSATION_LUMP), (.ref a_DEPENDENT_CARE), (.ref a_HEALTH_INSURANCE), (.ref a_HEALTH_SAVINGS), (.ref a_INCOME_REPLACEMENT), (.ref a_LIFE_INSURANCE), (.ref a_MISCELLANEOUS_1), (.ref a_MISCELLANEOUS_2), (.ref a_MISCELLANEOUS_3), (.ref a_ROTH_403B), (.ref a_ROTH_457B), (.ref a_RETIREE_TRS_CARE), (.ref a_SAVINGS_BOND), (.ref a_WHOLE_LIFE_CONTRIBUTION), (.ref a_GROUP_LIFE_CONTRIBUTION), (.ref a_TRS_SERVICE_BUY_BACK), (.ref a_TSTA_DUES), (.ref a_UNION_DUES), .null, .null] .null := Arv.set Ara164 qa164 Sa164 Ma164 Ha164 Ga164 rfl W165 22 rfl (Nat.le_of_ble_eq_true rfl)
  have N165 := Fr.snoc X165 N158 gn3
  have pr166 : ∀ tg, Steps pP.tables eE below (T165.setTop (mkF mM 160 #[.val (.int p1), .val (.int p2), .unset, .unset, .unset, .unset, .unset] [(.ref b2)])) tg → Steps pP.tables eE below (s₁.setTop (entryFrame mM #[(.int p1), (.int p2)] maxLocals)) tg := fun tg kg => pr163 _ (st165 _ kg)
  clear pr163 st165 X161 e161
  have pr167 : ∀ tg, Steps pP.tables eE below (T165.setTop (mkF mM 163 #[.val (.int p1), .val (.int p2), .unset, .unset, .unset, .unset, .unset] [(.int (23 : Int32)), (.ref b2), (.ref b2)])) tg → Steps pP.tables eE below (s₁.setTop (entryFrame mM #[(.int p1), (.int p2)] maxLocals)) tg := fun tg kg => pr166 _ (by
    show Steps pP.tables eE below (T165.setTop (mkF mM 160 #[.val (.int p1), .val (.int p2), .unset, .unset, .unset, .unset, .unset] [(.ref b2)])) _
    refine XS.dup X165.here hx rfl (hb hby at_160) rfl rfl ?_
    show Steps pP.tables eE below (T165.setTop (mkF mM 161 #[.val (.int p1), .val (.int p2), .unset, .unset, .unset, .unset, .unset] [(.ref b2), (.ref b2)])) _
    refine XS.bipush X165.here hx rfl (hb hby at_161) ?_
    exact kg)
  clear pr166
  have c169 := (Old.wr c162 W165 gn3)
  obtain ⟨T168, X168, e168, st168⟩ := getS2 X165 hx hZ hown (host := "") (Or.inl (hw _ (List.mem_of_getElem? (i := 50) rfl))) Via.refl e165 (Sta.ext (c169).2 S_UNITED_FUND) (g := (mkF mM 163 #[.val (.int p1), .val (.int p2), .unset, .unset, .unset, .unset, .unset] [(.int (23 : Int32)), (.ref b2), (.ref b2)])) rfl (hb hby at_163)
  have pr170 : ∀ tg, Steps pP.tables eE below (T168.setTop (mkF mM 166 #[.val (.int p1), .val (.int p2), .unset, .unset, .unset, .unset, .unset] [(.ref a_UNITED_FUND), (.int (23 : Int32)), (.ref b2), (.ref b2)])) tg → Steps pP.tables eE below (s₁.setTop (entryFrame mM #[(.int p1), (.int p2)] maxLocals)) tg := fun tg kg => pr167 _ (st168 _ kg)
  clear pr167 st168 X165 e165
  obtain ⟨cla171, Ara171, qa171, Sa171, Ma171, Ha171, Ga171⟩ := id V165
  have hin172 : ¬ ((23 : Int32) < 0 ∨ cla171.slots.size ≤ ((23 : Int32)).toNatClampNeg) := inb_of Sa171 ⟨by decide, by decide⟩
  obtain ⟨T172, h172, X172, e172, W172, st172⟩ := stR X168 hx hZ e168 Ara171 (j := (23 : Int32)) hin172 rfl (Sto.ofV Ara171 qa171 O2 (Ins.self (Exa.ext (c169).2 E_UNITED_FUND))) (g := (mkF mM 166 #[.val (.int p1), .val (.int p2), .unset, .unset, .unset, .unset, .unset] [(.ref a_UNITED_FUND), (.int (23 : Int32)), (.ref b2), (.ref b2)])) rfl rfl (hb hby at_166)
  have V172 : Arv Z h172 b2 k2 (.object "com/example/ledgerhall/ledgerhall/DeductionType") (25 : Int32) [(.ref a_FICA_ALTERNATIVE_ANNUITY), (.ref a_TRS_HEALTH_INSURANCE), (.ref a_ANNUITY), (.ref a_CREDIT_UNION), (.ref a_DEFERRED_COMPENSATION), (.ref a_DEFERRED_COMPENSATION_LUMP), (.ref a_DEPENDENT_CARE), (.ref a_HEALTH_INSURANCE), (.ref a_HEALTH_SAVINGS), (.ref a_INCOME_REPLACEMENT), (.ref a_LIFE_INSURANCE), (.ref a_MISCELLANEOUS_1), (.ref a_MISCELLANEOUS_2), (.ref a_MISCELLANEOUS_3), (.ref a_ROTH_403B), (.ref a_ROTH_457B), (.ref a_RETIREE_TRS_CARE), (.ref a_SAVINGS_BOND), (.ref a_WHOLE_LIFE_CONTRIBUTION), (.ref a_GROUP_LIFE_CONTRIBUTION), (.ref a_TRS_SERVICE_BUY_BACK), (.ref a_TSTA_DUES), (.ref a_UNION_DUES), (.ref a_UNITED_FUND), .null] .null := Arv.set Ara171 qa171 Sa171 Ma171 Ha171 Ga171 rfl W172 23 rfl (Nat.le_of_ble_eq_true rfl)
  have N172 := Fr.snoc X172 N165 gn3
  have pr173 : ∀ tg, Steps pP.tables eE below (T172.setTop (mkF mM 167 #[.val (.int p1), .val (.int p2), .unset, .unset, .unset, .unset, .unset] [(.ref b2)])) tg → Steps pP.tables eE below (s₁.setTop (entryFrame mM #[(.int p1), (.int p2)] maxLocals)) tg := fun tg kg => pr170 _ (st172 _ kg)
  clear pr170 st172 X168 e168
  have pr174 : ∀ tg, Steps pP.tables eE below (T172.setTop (mkF mM 170 #[.val (.int p1), .val (.int p2), .unset, .unset, .unset, .unset, .unset] [(.int (24 : Int32)), (.ref b2), (.ref b2)])) tg → Steps pP.tables eE below (s₁.setTop (entryFrame mM #[(.int p1), (.int p2)] maxLocals)) tg := fun tg kg => pr173 _ (by
    show Steps pP.tables eE below (T172.setTop (mkF mM 167 #[.val (.int p1), .val (.int p2), .unset, .unset, .unset, .unset, .unset] [(.ref b2)])) _
    refine XS.dup X172.here hx rfl (hb hby at_167) rfl rfl ?_
    show Steps pP.tables eE below (T172.setTop (mkF mM 168 #[.val (.int p1), .val (.int p2), .unset, .unset, .unset, .unset, .unset] [(.ref b2), (.ref b2)])) _
    refine XS.bipush X172.here hx rfl (hb hby at_168) ?_
    exact kg)
  clear pr173
  have c176 := (Old.wr c169 W172 gn3)
  obtain ⟨T175, X175, e175, st175⟩ := getS2 X172 hx hZ hown (host := "") (Or.inl (hw _ (List.mem_of_getElem? (i := 52) rfl))) Via.refl e172 (Sta.ext (c176).2 S_ADDITIONAL_WITHHOLDING) (g := (mkF mM 170 #[.val (.int p1), .val (.int p2), .unset, .unset, .unset, .unset, .unset] [(.int (24 : Int32)), (.ref b2), (.ref b2)])) rfl (hb hby at_170)
  have pr177 : ∀ tg, Steps pP.tables eE below (T175.setTop (mkF mM 173 #[.val (.int p1), .val (.int p2), .unset, .unset, .unset, .unset, .unset] [(.ref a_ADDITIONAL_WITHHOLDING), (.int (24 : Int32)), (.ref b2), (.ref b2)])) tg → Steps pP.tables eE below (s₁.setTop (entryFrame mM #[(.int p1), (.int p2)] maxLocals)) tg := fun tg kg => pr174 _ (st175 _ kg)
  clear pr174 st175 X172 e172
  obtain ⟨cla178, Ara178, qa178, Sa178, Ma178, Ha178, Ga178⟩ := id V172
  have hin179 : ¬ ((24 : Int32) < 0 ∨ cla178.slots.size ≤ ((24 : Int32)).toNatClampNeg) := inb_of Sa178 ⟨by decide, by decide⟩
  obtain ⟨T179, h179, X179, e179, W179, st179⟩ := stR X175 hx hZ e175 Ara178 (j := (24 : Int32)) hin179 rfl (Sto.ofV Ara178 qa178 O2 (Ins.self (Exa.ext (c176).2 E_ADDITIONAL_WITHHOLDING))) (g := (mkF mM 173 #[.val (.int p1), .val (.int p2), .unset, .unset, .unset, .unset, .unset] [(.ref a_ADDITIONAL_WITHHOLDING), (.int (24 : Int32)), (.ref b2), (.ref b2)])) rfl rfl (hb hby at_173)
  have V179 : Arv Z h179 b2 k2 (.object "com/example/ledgerhall/ledgerhall/DeductionType") (25 : Int32) [(.ref a_FICA_ALTERNATIVE_ANNUITY), (.ref a_TRS_HEALTH_INSURANCE), (.ref a_ANNUITY), (.ref a_CREDIT_UNION), (.ref a_DEFERRED_COMPENSATION), (.ref a_DEFERRED_COMPENSATION_LUMP), (.ref a_DEPENDENT_CARE), (.ref a_HEALTH_INSURANCE), (.ref a_HEALTH_SAVINGS), (.ref a_INCOME_REPLACEMENT), (.ref a_LIFE_INSURANCE), (.ref a_MISCELLANEOUS_1), (.ref a_MISCELLANEOUS_2), (.ref a_MISCELLANEOUS_3), (.ref a_ROTH_403B), (.ref a_ROTH_457B), (.ref a_RETIREE_TRS_CARE), (.ref a_SAVINGS_BOND), (.ref a_WHOLE_LIFE_CONTRIBUTION), (.ref a_GROUP_LIFE_CONTRIBUTION), (.ref a_TRS_SERVICE_BUY_BACK), (.ref a_TSTA_DUES), (.ref a_UNION_DUES), (.ref a_UNITED_FUND), (.ref a_ADDITIONAL_WITHHOLDING)] .null := Arv.set Ara178 qa178 Sa178 Ma178 Ha178 Ga178 rfl W179 24 rfl (Nat.le_of_ble_eq_true rfl)
  have N179 := Fr.snoc X179 N172 gn3
  have pr180 : ∀ tg, Steps pP.tables eE below (T179.setTop (mkF mM 174 #[.val (.int p1), .val (.int p2), .unset, .unset, .unset, .unset, .unset] [(.ref b2)])) tg → Steps pP.tables eE below (s₁.setTop (entryFrame mM #[(.int p1), (.int p2)] maxLocals)) tg := fun tg kg => pr177 _ (st179 _ kg)
  clear pr177 st179 X175 e175
  have pr181 : ∀ tg, Steps pP.tables eE below (T179.setTop (mkF mM 183 #[.val (.int p1), .val (.int p2), .val (.ref b2), .unset, .unset, .unset, .unset] [(.int ((p1 &&& (2147483647 : Int32)) % (25 : Int32))), (.ref b2)])) tg → Steps pP.tables eE below (s₁.setTop (entryFrame mM #[(.int p1), (.int p2)] maxLocals)) tg := fun tg kg => pr180 _ (by
    show Steps pP.tables eE below (T179.setTop (mkF mM 174 #[.val (.int p1), .val (.int p2), .unset, .unset, .unset, .unset, .unset] [(.ref b2)])) _
    refine XS.astoreN X179.here hx rfl (hb hby at_174) rfl rfl (l' := #[.val (.int p1), .val (.int p2), .val (.ref b2), .unset, .unset, .unset, .unset]) rfl ?_
    show Steps pP.tables eE below (T179.setTop (mkF mM 175 #[.val (.int p1), .val (.int p2), .val (.ref b2), .unset, .unset, .unset, .unset] [])) _
    refine XS.aloadN X179.here hx rfl (hb hby at_175) rfl rfl ?_
    show Steps pP.tables eE below (T179.setTop (mkF mM 176 #[.val (.int p1), .val (.int p2), .val (.ref b2), .unset, .unset, .unset, .unset] [(.ref b2)])) _
    refine XS.iloadN X179.here hx rfl (hb hby at_176) rfl ?_
    show Steps pP.tables eE below (T179.setTop (mkF mM 177 #[.val (.int p1), .val (.int p2), .val (.ref b2), .unset, .unset, .unset, .unset] [(.int p1), (.ref b2)])) _
    refine Jvm.Stand.ldcI X179 hx hown (v := (2147483647 : Int32)) (mvT hZ (hw _ (List.mem_of_getElem? (i := 54) rfl))) rfl (hb hby at_177) ?_
    show Steps pP.tables eE below (T179.setTop (mkF mM 179 #[.val (.int p1), .val (.int p2), .val (.ref b2), .unset, .unset, .unset, .unset] [(.int (2147483647 : Int32)), (.int p1), (.ref b2)])) _
    refine XS.iand X179.here hx rfl (hb hby at_179) rfl ?_
    show Steps pP.tables eE below (T179.setTop (mkF mM 180 #[.val (.int p1), .val (.int p2), .val (.ref b2), .unset, .unset, .unset, .unset] [(.int (p1 &&& (2147483647 : Int32))), (.ref b2)])) _
    refine XS.bipush X179.here hx rfl (hb hby at_180) ?_
    show Steps pP.tables eE below (T179.setTop (mkF mM 182 #[.val (.int p1), .val (.int p2), .val (.ref b2), .unset, .unset, .unset, .unset] [(.int (25 : Int32)), (.int (p1 &&& (2147483647 : Int32))), (.ref b2)])) _
    refine iremM (g := (mkF mM 182 #[.val (.int p1), .val (.int p2), .val (.ref b2), .unset, .unset, .unset, .unset] [(.int (25 : Int32)), (.int (p1 &&& (2147483647 : Int32))), (.ref b2)])) X179 hx rfl (hb hby at_182) rfl (by decide) ?_
    exact kg)
  clear pr180
  obtain ⟨z182, hz182⟩ : ∃ z, z = ((p1 &&& (2147483647 : Int32)) % (25 : Int32)) := ⟨_, rfl⟩
  have pr183 : ∀ tg, Steps pP.tables eE below (T179.setTop (mkF mM 183 #[.val (.int p1), .val (.int p2), .val (.ref b2), .unset, .unset, .unset, .unset] [(.int z182), (.ref b2)])) tg → Steps pP.tables eE below (s₁.setTop (entryFrame mM #[(.int p1), (.int p2)] maxLocals)) tg := by
    rw [hz182]; exact pr181
  have hbd : 0 ≤ z182.toInt ∧ z182.toInt < 25 := by rw [hz182]; exact own_rem25 _
  obtain ⟨x, cc, hx1, hx2, hx3, hx4⟩ : ∃ x cc : Addr, ([(.ref a_FICA_ALTERNATIVE_ANNUITY), (.ref a_TRS_HEALTH_INSURANCE), (.ref a_ANNUITY), (.ref a_CREDIT_UNION), (.ref a_DEFERRED_COMPENSATION), (.ref a_DEFERRED_COMPENSATION_LUMP), (.ref a_DEPENDENT_CARE), (.ref a_HEALTH_INSURANCE), (.ref a_HEALTH_SAVINGS), (.ref a_INCOME_REPLACEMENT), (.ref a_LIFE_INSURANCE), (.ref a_MISCELLANEOUS_1), (.ref a_MISCELLANEOUS_2), (.ref a_MISCELLANEOUS_3), (.ref a_ROTH_403B), (.ref a_ROTH_457B), (.ref a_RETIREE_TRS_CARE), (.ref a_SAVINGS_BOND), (.ref a_WHOLE_LIFE_CONTRIBUTION), (.ref a_GROUP_LIFE_CONTRIBUTION), (.ref a_TRS_SERVICE_BUY_BACK), (.ref a_TSTA_DUES), (.ref a_UNION_DUES), (.ref a_UNITED_FUND), (.ref a_ADDITIONAL_WITHHOLDING)] : List Value).getD (z182).toNatClampNeg .null = .ref x ∧ Exa Z Z.heap x "com/example/ledgerhall/ledgerhall/DeductionType" ∧ Fld Z Z.heap x "com/example/ledgerhall/ledgerhall/DeductionType" "cafe125" "Lcom/example/ledgerhall/ledgerhall/DeductionType$Cafe125;" (.ref cc) ∧ (a_ALLOWED = cc ∨ a_NEVER = cc ∨ a_ALWAYS = cc) := by
    rcases own_25 hbd.1 hbd.2 with rfl | rfl | rfl | rfl | rfl | rfl | rfl | rfl | rfl | rfl | rfl | rfl | rfl | rfl | rfl | rfl | rfl | rfl | rfl | rfl | rfl | rfl | rfl | rfl | rfl
    · exact ⟨_, _, rfl, E_FICA_ALTERNATIVE_ANNUITY, F_FICA_ALTERNATIVE_ANNUITY_cafe125, Or.inr (Or.inl rfl)⟩
    · exact ⟨_, _, rfl, E_TRS_HEALTH_INSURANCE, F_TRS_HEALTH_INSURANCE_cafe125, Or.inl rfl⟩
    · exact ⟨_, _, rfl, E_ANNUITY, F_ANNUITY_cafe125, Or.inr (Or.inl rfl)⟩
    · exact ⟨_, _, rfl, E_CREDIT_UNION, F_CREDIT_UNION_cafe125, Or.inr (Or.inl rfl)⟩
    · exact ⟨_, _, rfl, E_DEFERRED_COMPENSATION, F_DEFERRED_COMPENSATION_cafe125, Or.inr (Or.inl rfl)⟩
    · exact ⟨_, _, rfl, E_DEFERRED_COMPENSATION_LUMP, F_DEFERRED_COMPENSATION_LUMP_cafe125, Or.inr (Or.inl rfl)⟩
    · exact ⟨_, _, rfl, E_DEPENDENT_CARE, F_DEPENDENT_CARE_cafe125, Or.inr (Or.inr rfl)⟩
    · exact ⟨_, _, rfl, E_HEALTH_INSURANCE, F_HEALTH_INSURANCE_cafe125, Or.inl rfl⟩
    · exact ⟨_, _, rfl, E_HEALTH_SAVINGS, F_HEALTH_SAVINGS_cafe125, Or.inl rfl⟩
    · exact ⟨_, _, rfl, E_INCOME_REPLACEMENT, F_INCOME_REPLACEMENT_cafe125, Or.inl rfl⟩
    · exact ⟨_, _, rfl, E_LIFE_INSURANCE, F_LIFE_INSURANCE_cafe125, Or.inl rfl⟩
    · exact ⟨_, _, rfl, E_MISCELLANEOUS_1, F_MISCELLANEOUS_1_cafe125, Or.inl rfl⟩
    · exact ⟨_, _, rfl, E_MISCELLANEOUS_2, F_MISCELLANEOUS_2_cafe125, Or.inl rfl⟩
    · exact ⟨_, _, rfl, E_MISCELLANEOUS_3, F_MISCELLANEOUS_3_cafe125, Or.inl rfl⟩
    · exact ⟨_, _, rfl, E_ROTH_403B, F_ROTH_403B_cafe125, Or.inr (Or.inl rfl)⟩
    · exact ⟨_, _, rfl, E_ROTH_457B, F_ROTH_457B_cafe125, Or.inr (Or.inl rfl)⟩
    · exact ⟨_, _, rfl, E_RETIREE_TRS_CARE, F_RETIREE_TRS_CARE_cafe125, Or.inr (Or.inl rfl)⟩
    · exact ⟨_, _, rfl, E_SAVINGS_BOND, F_SAVINGS_BOND_cafe125, Or.inr (Or.inl rfl)⟩
    · exact ⟨_, _, rfl, E_WHOLE_LIFE_CONTRIBUTION, F_WHOLE_LIFE_CONTRIBUTION_cafe125, Or.inl rfl⟩
    · exact ⟨_, _, rfl, E_GROUP_LIFE_CONTRIBUTION, F_GROUP_LIFE_CONTRIBUTION_cafe125, Or.inl rfl⟩
    · exact ⟨_, _, rfl, E_TRS_SERVICE_BUY_BACK, F_TRS_SERVICE_BUY_BACK_cafe125, Or.inr (Or.inl rfl)⟩
    · exact ⟨_, _, rfl, E_TSTA_DUES, F_TSTA_DUES_cafe125, Or.inr (Or.inl rfl)⟩
    · exact ⟨_, _, rfl, E_UNION_DUES, F_UNION_DUES_cafe125, Or.inr (Or.inl rfl)⟩
    · exact ⟨_, _, rfl, E_UNITED_FUND, F_UNITED_FUND_cafe125, Or.inr (Or.inl rfl)⟩
    · exact ⟨_, _, rfl, E_ADDITIONAL_WITHHOLDING, F_ADDITIONAL_WITHHOLDING_cafe125, Or.inr (Or.inl rfl)⟩
  obtain ⟨cla184, Ara184, qa184, Sa184, Ma184, Ha184, Ga184⟩ := id V179
  have hin185 : ¬ (z182 < 0 ∨ cla184.slots.size ≤ (z182).toNatClampNeg) := inb_of Sa184 (own_in (n := (25 : Int32)) hbd.1 hbd.2)
  have hat185 : cla184.slots[(z182).toNatClampNeg]? = some (.ref x) := Has.at Ha184 hin185 hx1
  have pr186 : ∀ tg, Steps pP.tables eE below (T179.setTop (mkF mM 184 #[.val (.int p1), .val (.int p2), .val (.ref b2), .unset, .unset, .unset, .unset] [(.ref x)])) tg → Steps pP.tables eE below (s₁.setTop (entryFrame mM #[(.int p1), (.int p2)] maxLocals)) tg := fun tg kg => pr183 _ (by
    show Steps pP.tables eE below (T179.setTop (mkF mM 183 #[.val (.int p1), .val (.int p2), .val (.ref b2), .unset, .unset, .unset, .unset] [(.int z182), (.ref b2)])) _
    refine X179.aaload hx (j := z182) (v := (.ref x)) (by rw [e179]; exact Ara184.1) (State.isArrayOf_alike hZ.alike Ara184.2.1) rfl Ara184.2.2 hin185 hat185 (g := (mkF mM 183 #[.val (.int p1), .val (.int p2), .val (.ref b2), .unset, .unset, .unset, .unset] [(.int z182), (.ref b2)])) rfl rfl (hb hby at_183) _ ?_
    exact kg)
  clear pr183
  rcases hx4 with hx4 | hx4 | hx4
  ·
    subst hx4
    have pr188 : ∀ tg, Steps pP.tables eE below (T179.setTop (mkF mM 188 #[.val (.int p1), .val (.int p2), .val (.ref b2), .val (.ref x), .unset, .unset, .unset] [(.int (p2 &&& (1 : Int32)))])) tg → Steps pP.tables eE below (s₁.setTop (entryFrame mM #[(.int p1), (.int p2)] maxLocals)) tg := fun tg kg => pr186 _ (by
      show Steps pP.tables eE below (T179.setTop (mkF mM 184 #[.val (.int p1), .val (.int p2), .val (.ref b2), .unset, .unset, .unset, .unset] [(.ref x)])) _
      refine XS.astoreN X179.here hx rfl (hb hby at_184) rfl rfl (l' := #[.val (.int p1), .val (.int p2), .val (.ref b2), .val (.ref x), .unset, .unset, .unset]) rfl ?_
      show Steps pP.tables eE below (T179.setTop (mkF mM 185 #[.val (.int p1), .val (.int p2), .val (.ref b2), .val (.ref x), .unset, .unset, .unset] [])) _
      refine XS.iloadN X179.here hx rfl (hb hby at_185) rfl ?_
      show Steps pP.tables eE below (T179.setTop (mkF mM 186 #[.val (.int p1), .val (.int p2), .val (.ref b2), .val (.ref x), .unset, .unset, .unset] [(.int p2)])) _
      refine XS.iconst X179.here hx rfl (hb hby at_186) ?_
      show Steps pP.tables eE below (T179.setTop (mkF mM 187 #[.val (.int p1), .val (.int p2), .val (.ref b2), .val (.ref x), .unset, .unset, .unset] [(.int (1 : Int32)), (.int p2)])) _
      refine XS.iand X179.here hx rfl (hb hby at_187) rfl ?_
      exact kg)
    clear pr186
    by_cases hc188_187 : (p2 &&& (1 : Int32)) = (0 : Int32)
    ·
      have c189 := (Old.wr c176 W179 gn3)
      have pr190 : ∀ tg, Steps pP.tables eE below (T179.setTop (mkF mM 199 #[.val (.int p1), .val (.int p2), .val (.ref b2), .val (.ref x), .val (.int (0 : Int32)), .unset, .unset] [(.ref x)])) tg → Steps pP.tables eE below (s₁.setTop (entryFrame mM #[(.int p1), (.int p2)] maxLocals)) tg := fun tg kg => pr188 _ (by
        show Steps pP.tables eE below (T179.setTop (mkF mM 188 #[.val (.int p1), .val (.int p2), .val (.ref b2), .val (.ref x), .unset, .unset, .unset] [(.int (p2 &&& (1 : Int32)))])) _
        refine XS.ifYes X179.here hx rfl (pc0 := 188) (pc' := 195) rfl (hb hby at_188) rfl ((if0 _ _).trans (teq hc188_187).1) (by decide) (by decide) ?_
        show Steps pP.tables eE below (T179.setTop (mkF mM 195 #[.val (.int p1), .val (.int p2), .val (.ref b2), .val (.ref x), .unset, .unset, .unset] [])) _
        refine XS.iconst X179.here hx rfl (hb hby at_195) ?_
        show Steps pP.tables eE below (T179.setTop (mkF mM 196 #[.val (.int p1), .val (.int p2), .val (.ref b2), .val (.ref x), .unset, .unset, .unset] [(.int (0 : Int32))])) _
        refine XS.istore X179.here hx rfl (hb hby at_196) rfl (l' := #[.val (.int p1), .val (.int p2), .val (.ref b2), .val (.ref x), .val (.int (0 : Int32)), .unset, .unset]) rfl ?_
        show Steps pP.tables eE below (T179.setTop (mkF mM 198 #[.val (.int p1), .val (.int p2), .val (.ref b2), .val (.ref x), .val (.int (0 : Int32)), .unset, .unset] [])) _
        refine XS.aloadN X179.here hx rfl (hb hby at_198) rfl rfl ?_
        exact kg)
      clear pr188
      have c191 := (Nat.le_trans (Nat.le_trans (Nat.le_trans (Nat.le_trans (Nat.le_trans (Nat.le_trans (Nat.le_trans (Nat.le_trans (Nat.le_trans (Nat.le_trans (Nat.le_trans (Nat.le_trans (Nat.le_trans (Nat.le_trans (Nat.le_trans (Nat.le_trans (Nat.le_trans (Nat.le_trans (Nat.le_trans (Nat.le_trans (Nat.le_trans (Nat.le_trans (Nat.le_trans (Nat.le_trans (Nat.le_trans (Nat.le_trans Z0 E2.1) (Keep.of_wr W11).1) (Keep.of_wr W18).1) (Keep.of_wr W25).1) (Keep.of_wr W32).1) (Keep.of_wr W39).1) (Keep.of_wr W46).1) (Keep.of_wr W53).1) (Keep.of_wr W60).1) (Keep.of_wr W67).1) (Keep.of_wr W74).1) (Keep.of_wr W81).1) (Keep.of_wr W88).1) (Keep.of_wr W95).1) (Keep.of_wr W102).1) (Keep.of_wr W109).1) (Keep.of_wr W116).1) (Keep.of_wr W123).1) (Keep.of_wr W130).1) (Keep.of_wr W137).1) (Keep.of_wr W144).1) (Keep.of_wr W151).1) (Keep.of_wr W158).1) (Keep.of_wr W165).1) (Keep.of_wr W172).1) (Keep.of_wr W179).1)
      obtain ⟨Ls192, X192, N192⟩ := own_hide X179 N179
      clear X179 N179
      obtain ⟨cq193, kq193, qa193, qb193, qc193⟩ := isOf hZ e179 (Exa.ext (c189).2 hx2)
      obtain ⟨_, _, ⟨T193, L193, kk193, nn193⟩, -, X193, ⟨Lc193, hQ193, l193, y193, z193⟩, st193⟩ := X192.virtualBack hx (y := (⟨"com/example/ledgerhall/ledgerhall/DeductionType", "cafe125", "()Lcom/example/ledgerhall/ledgerhall/DeductionType$Cafe125;"⟩ : MethodName)) (z := (⟨"com/example/ledgerhall/ledgerhall/DeductionType", "cafe125", "()Lcom/example/ledgerhall/ledgerhall/DeductionType$Cafe125;"⟩ : MethodName)) hown (mvT hZ (hw _ (List.mem_of_getElem? (i := 55) rfl))) (mvT hZ (hw _ (List.mem_of_getElem? (i := 56) rfl))) (notFace_of_selects (args := #[]) (mvT hZ (hw _ (List.mem_of_getElem? (i := 58) rfl)))) (mvT hZ (hw _ (List.mem_of_getElem? (i := 58) rfl))) (mvT hZ (hw _ (List.mem_of_getElem? (i := 57) rfl))) (by decide) (backOf (W := 0) (rm10 l Z a0 hw [] x a_ALLOWED a_NEVER a_ALWAYS h179 n0 c191 c189 S_ALLOWED E_ALLOWED S_NEVER E_NEVER S_ALWAYS E_ALWAYS F_NEVER_ordinal F_ALLOWED_ordinal F_ALWAYS_ordinal (Exa.ext (c189).2 hx2) (Fld.ext (c189).2 hx3)) hZ (hw _ (List.mem_of_getElem? (i := 59) rfl)) (hw _ (List.mem_of_getElem? (i := 3) rfl)) (by decide) (by decide)) qa193 qc193 (g := (mkF mM 199 #[.val (.int p1), .val (.int p2), .val (.ref b2), .val (.ref x), .val (.int (0 : Int32)), .unset, .unset] [(.ref x)])) rfl (by rw [hml]; rfl) (Steps.refl _) (argsL := []) (rest := []) (lenOf pd_0 rfl) rfl (by show 2 * 0 + _ ≤ _; exact Nat.le_of_eq rfl) (hb hby at_199) (fun _ _ => ⟨rfl, e179, (by decide : 1 + 0 ≤ _), (by decide : 25 + 0 ≤ _)⟩)
      dsimp only [Pt.U, Pt.locs, Pt.cells, Pt.slots] at X193 l193 y193 z193 st193 hQ193
      subst l193 y193 z193
      obtain ⟨rfl, Nq193, e193⟩ := hQ193
      have N193 := Fr.app N192 Nq193
      have pr194 : ∀ tg, Steps pP.tables eE below (T193.setTop (mkF mM 202 #[.val (.int p1), .val (.int p2), .val (.ref b2), .val (.ref x), .val (.int (0 : Int32)), .unset, .unset] [(.ref a_ALLOWED)])) tg → Steps pP.tables eE below (s₁.setTop (entryFrame mM #[(.int p1), (.int p2)] maxLocals)) tg := fun tg kg => pr190 _ (st193.trans kg)
      clear pr190 st193 X192 e179
      have pr195 : ∀ tg, Steps pP.tables eE below (T193.setTop (mkF mM 206 #[.val (.int p1), .val (.int p2), .val (.ref b2), .val (.ref x), .val (.int (0 : Int32)), .val (.ref a_ALLOWED), .unset] [(.ref a_ALLOWED)])) tg → Steps pP.tables eE below (s₁.setTop (entryFrame mM #[(.int p1), (.int p2)] maxLocals)) tg := fun tg kg => pr194 _ (by
        show Steps pP.tables eE below (T193.setTop (mkF mM 202 #[.val (.int p1), .val (.int p2), .val (.ref b2), .val (.ref x), .val (.int (0 : Int32)), .unset, .unset] [(.ref a_ALLOWED)])) _
        refine XS.astore X193.here hx rfl (hb hby at_202) rfl rfl (l' := #[.val (.int p1), .val (.int p2), .val (.ref b2), .val (.ref x), .val (.int (0 : Int32)), .val (.ref a_ALLOWED), .unset]) rfl ?_
        show Steps pP.tables eE below (T193.setTop (mkF mM 204 #[.val (.int p1), .val (.int p2), .val (.ref b2), .val (.ref x), .val (.int (0 : Int32)), .val (.ref a_ALLOWED), .unset] [])) _
        refine XS.aload X193.here hx rfl (hb hby at_204) rfl rfl ?_
        exact kg)
      clear pr194
      obtain ⟨T196, X196, e196, st196⟩ := getS2 X193 hx hZ hown (host := "") (Or.inl (hw _ (List.mem_of_getElem? (i := 64) rfl))) Via.refl e193 (Sta.ext (c189).2 S_ALLOWED) (g := (mkF mM 206 #[.val (.int p1), .val (.int p2), .val (.ref b2), .val (.ref x), .val (.int (0 : Int32)), .val (.ref a_ALLOWED), .unset] [(.ref a_ALLOWED)])) rfl (hb hby at_206)
      have pr197 : ∀ tg, Steps pP.tables eE below (T196.setTop (mkF mM 209 #[.val (.int p1), .val (.int p2), .val (.ref b2), .val (.ref x), .val (.int (0 : Int32)), .val (.ref a_ALLOWED), .unset] [(.ref a_ALLOWED), (.ref a_ALLOWED)])) tg → Steps pP.tables eE below (s₁.setTop (entryFrame mM #[(.int p1), (.int p2)] maxLocals)) tg := fun tg kg => pr195 _ (st196 _ kg)
      clear pr195 st196 X193 e193
      have pr198 : ∀ tg, Steps pP.tables eE below (T196.setTop (mkF mM 248 #[.val (.int p1), .val (.int p2), .val (.ref b2), .val (.ref x), .val (.int (0 : Int32)), .val (.ref a_ALLOWED), .val (.int (1 : Int32))] [(.int (0 : Int32)), (.ref x)])) tg → Steps pP.tables eE below (s₁.setTop (entryFrame mM #[(.int p1), (.int p2)] maxLocals)) tg := fun tg kg => pr197 _ (by
        show Steps pP.tables eE below (T196.setTop (mkF mM 209 #[.val (.int p1), .val (.int p2), .val (.ref b2), .val (.ref x), .val (.int (0 : Int32)), .val (.ref a_ALLOWED), .unset] [(.ref a_ALLOWED), (.ref a_ALLOWED)])) _
        refine Jvm.RoadKit.acmp (g := (mkF mM 209 #[.val (.int p1), .val (.int p2), .val (.ref b2), .val (.ref x), .val (.int (0 : Int32)), .val (.ref a_ALLOWED), .unset] [(.ref a_ALLOWED), (.ref a_ALLOWED)])) X196 hx rfl rfl rfl (pc0 := 209) (pc' := 212) (same := true) rfl (hb hby at_209) rfl (decide_eq_true rfl) (by decide) (by decide) ?_
        show Steps pP.tables eE below (T196.setTop (mkF mM 212 #[.val (.int p1), .val (.int p2), .val (.ref b2), .val (.ref x), .val (.int (0 : Int32)), .val (.ref a_ALLOWED), .unset] [])) _
        refine XS.iconst X196.here hx rfl (hb hby at_212) ?_
        show Steps pP.tables eE below (T196.setTop (mkF mM 213 #[.val (.int p1), .val (.int p2), .val (.ref b2), .val (.ref x), .val (.int (0 : Int32)), .val (.ref a_ALLOWED), .unset] [(.int (1 : Int32))])) _
        refine XS.istore X196.here hx rfl (hb hby at_213) rfl (l' := #[.val (.int p1), .val (.int p2), .val (.ref b2), .val (.ref x), .val (.int (0 : Int32)), .val (.ref a_ALLOWED), .val (.int (1 : Int32))]) rfl ?_
        show Steps pP.tables eE below (T196.setTop (mkF mM 215 #[.val (.int p1), .val (.int p2), .val (.ref b2), .val (.ref x), .val (.int (0 : Int32)), .val (.ref a_ALLOWED), .val (.int (1 : Int32))] [])) _
        refine XS.goto X196.here hx rfl (pc0 := 215) (pc' := 245) rfl (hb hby at_215) (by decide) (by decide) ?_
        show Steps pP.tables eE below (T196.setTop (mkF mM 245 #[.val (.int p1), .val (.int p2), .val (.ref b2), .val (.ref x), .val (.int (0 : Int32)), .val (.ref a_ALLOWED), .val (.int (1 : Int32))] [])) _
        refine XS.aloadN X196.here hx rfl (hb hby at_245) rfl rfl ?_
        show Steps pP.tables eE below (T196.setTop (mkF mM 246 #[.val (.int p1), .val (.int p2), .val (.ref b2), .val (.ref x), .val (.int (0 : Int32)), .val (.ref a_ALLOWED), .val (.int (1 : Int32))] [(.ref x)])) _
        refine XS.iload X196.here hx rfl (hb hby at_246) rfl ?_
        exact kg)
      clear pr197
      obtain ⟨Ls199, X199, N199⟩ := own_hide X196 N193
      clear X196 N193
      obtain ⟨cq200, kq200, qa200, qb200, qc200⟩ := isOf hZ e196 (Exa.ext (c189).2 hx2)
      obtain ⟨_, _, ⟨T200, L200, kk200, nn200⟩, -, X200, ⟨Lc200, hQ200, l200, y200, z200⟩, st200⟩ := X199.virtualBack hx (y := (⟨"com/example/ledgerhall/ledgerhall/DeductionType", "takesCafe125", "(Z)Z"⟩ : MethodName)) (z := (⟨"com/example/ledgerhall/ledgerhall/DeductionType", "takesCafe125", "(Z)Z"⟩ : MethodName)) hown (mvT hZ (hw _ (List.mem_of_getElem? (i := 67) rfl))) (mvT hZ (hw _ (List.mem_of_getElem? (i := 68) rfl))) (notFace_of_selects (args := #[]) (mvT hZ (hw _ (List.mem_of_getElem? (i := 70) rfl)))) (mvT hZ (hw _ (List.mem_of_getElem? (i := 70) rfl))) (mvT hZ (hw _ (List.mem_of_getElem? (i := 69) rfl))) (by decide) (backOf (W := 0) (rm200 l Z a0 hw [] x a_ALLOWED a_NEVER a_ALWAYS h179 n0 c191 c189 S_ALLOWED E_ALLOWED S_NEVER E_NEVER S_ALWAYS E_ALWAYS F_NEVER_ordinal F_ALLOWED_ordinal F_ALWAYS_ordinal (Exa.ext (c189).2 hx2) (Fld.ext (c189).2 hx3)) hZ (hw _ (List.mem_of_getElem? (i := 71) rfl)) (hw _ (List.mem_of_getElem? (i := 3) rfl)) (by decide) (by decide)) qa200 qc200 (g := (mkF mM 248 #[.val (.int p1), .val (.int p2), .val (.ref b2), .val (.ref x), .val (.int (0 : Int32)), .val (.ref a_ALLOWED), .val (.int (1 : Int32))] [(.int (0 : Int32)), (.ref x)])) rfl (by rw [hml]; rfl) (Steps.refl _) (argsL := [(.int (0 : Int32))]) (rest := []) (lenOf pd_1 rfl) rfl (by show 2 * 0 + _ ≤ _; exact Nat.le_of_eq rfl) (hb hby at_248) (fun _ _ => ⟨rfl, e196, (by decide : 1 + 0 ≤ _), (by decide : 25 + 0 ≤ _)⟩)
      dsimp only [Pt.U, Pt.locs, Pt.cells, Pt.slots] at X200 l200 y200 z200 st200 hQ200
      subst l200 y200 z200
      obtain ⟨rfl, Nq200, e200⟩ := hQ200
      have N200 := Fr.app N199 Nq200
      have pr201 : ∀ tg, Steps pP.tables eE below (T200.setTop (mkF mM 251 #[.val (.int p1), .val (.int p2), .val (.ref b2), .val (.ref x), .val (.int (0 : Int32)), .val (.ref a_ALLOWED), .val (.int (1 : Int32))] [(.int (1 : Int32))])) tg → Steps pP.tables eE below (s₁.setTop (entryFrame mM #[(.int p1), (.int p2)] maxLocals)) tg := fun tg kg => pr198 _ (st200.trans kg)
      clear pr198 st200 X199 e196
      have pr202 : ∀ tg, Steps pP.tables eE below (T200.setTop (mkF mM 261 #[.val (.int p1), .val (.int p2), .val (.ref b2), .val (.ref x), .val (.int (0 : Int32)), .val (.ref a_ALLOWED), .val (.int (1 : Int32))] [(.int (1 : Int32))])) tg → Steps pP.tables eE below (s₁.setTop (entryFrame mM #[(.int p1), (.int p2)] maxLocals)) tg := fun tg kg => pr201 _ (by
        show Steps pP.tables eE below (T200.setTop (mkF mM 251 #[.val (.int p1), .val (.int p2), .val (.ref b2), .val (.ref x), .val (.int (0 : Int32)), .val (.ref a_ALLOWED), .val (.int (1 : Int32))] [(.int (1 : Int32))])) _
        refine XS.iload X200.here hx rfl (hb hby at_251) rfl ?_
        show Steps pP.tables eE below (T200.setTop (mkF mM 253 #[.val (.int p1), .val (.int p2), .val (.ref b2), .val (.ref x), .val (.int (0 : Int32)), .val (.ref a_ALLOWED), .val (.int (1 : Int32))] [(.int (1 : Int32)), (.int (1 : Int32))])) _
        refine XS.icmpNo X200.here hx rfl (hb hby at_253) rfl (teq (by decide)).2 ?_
        show Steps pP.tables eE below (T200.setTop (mkF mM 256 #[.val (.int p1), .val (.int p2), .val (.ref b2), .val (.ref x), .val (.int (0 : Int32)), .val (.ref a_ALLOWED), .val (.int (1 : Int32))] [])) _
        refine XS.iconst X200.here hx rfl (hb hby at_256) ?_
        show Steps pP.tables eE below (T200.setTop (mkF mM 257 #[.val (.int p1), .val (.int p2), .val (.ref b2), .val (.ref x), .val (.int (0 : Int32)), .val (.ref a_ALLOWED), .val (.int (1 : Int32))] [(.int (1 : Int32))])) _
        refine XS.goto X200.here hx rfl (pc0 := 257) (pc' := 261) rfl (hb hby at_257) (by decide) (by decide) ?_
        exact kg)
      clear pr201
      obtain ⟨fs, hr, hrun, hended, hW, hsame⟩ := X200.leave (v := some (.int (1 : Int32))) (fun h => by rw [Bd.returns] at h; cases h)
      refine ⟨_, _, pr202 _ (retOut X200 hx (t := .boolean) Bd.returns rfl (Or.inl ⟨rfl, Or.inr (Or.inl rfl), _, rfl⟩) (hb hby at_261) hr), hrun, hended, _, _, rfl, ?_, ⟨_, rfl⟩, hW, hsame.mono (by decide) (by decide)⟩
      show Q0 Z p1 p2 a_FICA_ALTERNATIVE_ANNUITY a_TRS_HEALTH_INSURANCE a_ANNUITY a_CREDIT_UNION a_DEFERRED_COMPENSATION a_DEFERRED_COMPENSATION_LUMP a_DEPENDENT_CARE a_HEALTH_INSURANCE a_HEALTH_SAVINGS a_INCOME_REPLACEMENT a_LIFE_INSURANCE a_MISCELLANEOUS_1 a_MISCELLANEOUS_2 a_MISCELLANEOUS_3 a_ROTH_403B a_ROTH_457B a_RETIREE_TRS_CARE a_SAVINGS_BOND a_WHOLE_LIFE_CONTRIBUTION a_GROUP_LIFE_CONTRIBUTION a_TRS_SERVICE_BUY_BACK a_TSTA_DUES a_UNION_DUES a_UNITED_FUND a_ADDITIONAL_WITHHOLDING a_ALLOWED a_NEVER a_ALWAYS h0 n0 _ T200.heap _
      rw [e200]
      exact ⟨rfl, N200⟩
    ·
      have c203 := (Old.wr c176 W179 gn3)
      have pr204 : ∀ tg, Steps pP.tables eE below (T179.setTop (mkF mM 199 #[.val (.int p1), .val (.int p2), .val (.ref b2), .val (.ref x), .val (.int (1 : Int32)), .unset, .unset] [(.ref x)])) tg → Steps pP.tables eE below (s₁.setTop (entryFrame mM #[(.int p1), (.int p2)] maxLocals)) tg := fun tg kg => pr188 _ (by
        show Steps pP.tables eE below (T179.setTop (mkF mM 188 #[.val (.int p1), .val (.int p2), .val (.ref b2), .val (.ref x), .unset, .unset, .unset] [(.int (p2 &&& (1 : Int32)))])) _
        refine XS.ifNo X179.here hx rfl (hb hby at_188) rfl ((if0 _ _).trans (feq hc188_187).1) ?_
        show Steps pP.tables eE below (T179.setTop (mkF mM 191 #[.val (.int p1), .val (.int p2), .val (.ref b2), .val (.ref x), .unset, .unset, .unset] [])) _
        refine XS.iconst X179.here hx rfl (hb hby at_191) ?_
        show Steps pP.tables eE below (T179.setTop (mkF mM 192 #[.val (.int p1), .val (.int p2), .val (.ref b2), .val (.ref x), .unset, .unset, .unset] [(.int (1 : Int32))])) _
        refine XS.goto X179.here hx rfl (pc0 := 192) (pc' := 196) rfl (hb hby at_192) (by decide) (by decide) ?_
        show Steps pP.tables eE below (T179.setTop (mkF mM 196 #[.val (.int p1), .val (.int p2), .val (.ref b2), .val (.ref x), .unset, .unset, .unset] [(.int (1 : Int32))])) _
        refine XS.istore X179.here hx rfl (hb hby at_196) rfl (l' := #[.val (.int p1), .val (.int p2), .val (.ref b2), .val (.ref x), .val (.int (1 : Int32)), .unset, .unset]) rfl ?_
        show Steps pP.tables eE below (T179.setTop (mkF mM 198 #[.val (.int p1), .val (.int p2), .val (.ref b2), .val (.ref x), .val (.int (1 : Int32)), .unset, .unset] [])) _
        refine XS.aloadN X179.here hx rfl (hb hby at_198) rfl rfl ?_
        exact kg)
      clear pr188
      have c205 := (Nat.le_trans (Nat.le_trans (Nat.le_trans (Nat.le_trans (Nat.le_trans (Nat.le_trans (Nat.le_trans (Nat.le_trans (Nat.le_trans (Nat.le_trans (Nat.le_trans (Nat.le_trans (Nat.le_trans (Nat.le_trans (Nat.le_trans (Nat.le_trans (Nat.le_trans (Nat.le_trans (Nat.le_trans (Nat.le_trans (Nat.le_trans (Nat.le_trans (Nat.le_trans (Nat.le_trans (Nat.le_trans (Nat.le_trans Z0 E2.1) (Keep.of_wr W11).1) (Keep.of_wr W18).1) (Keep.of_wr W25).1) (Keep.of_wr W32).1) (Keep.of_wr W39).1) (Keep.of_wr W46).1) (Keep.of_wr W53).1) (Keep.of_wr W60).1) (Keep.of_wr W67).1) (Keep.of_wr W74).1) (Keep.of_wr W81).1) (Keep.of_wr W88).1) (Keep.of_wr W95).1) (Keep.of_wr W102).1) (Keep.of_wr W109).1) (Keep.of_wr W116).1) (Keep.of_wr W123).1) (Keep.of_wr W130).1) (Keep.of_wr W137).1) (Keep.of_wr W144).1) (Keep.of_wr W151).1) (Keep.of_wr W158).1) (Keep.of_wr W165).1) (Keep.of_wr W172).1) (Keep.of_wr W179).1)
      obtain ⟨Ls206, X206, N206⟩ := own_hide X179 N179
      clear X179 N179
      obtain ⟨cq207, kq207, qa207, qb207, qc207⟩ := isOf hZ e179 (Exa.ext (c203).2 hx2)
      obtain ⟨_, _, ⟨T207, L207, kk207, nn207⟩, -, X207, ⟨Lc207, hQ207, l207, y207, z207⟩, st207⟩ := X206.virtualBack hx (y := (⟨"com/example/ledgerhall/ledgerhall/DeductionType", "cafe125", "()Lcom/example/ledgerhall/ledgerhall/DeductionType$Cafe125;"⟩ : MethodName)) (z := (⟨"com/example/ledgerhall/ledgerhall/DeductionType", "cafe125", "()Lcom/example/ledgerhall/ledgerhall/DeductionType$Cafe125;"⟩ : MethodName)) hown (mvT hZ (hw _ (List.mem_of_getElem? (i := 55) rfl))) (mvT hZ (hw _ (List.mem_of_getElem? (i := 56) rfl))) (notFace_of_selects (args := #[]) (mvT hZ (hw _ (List.mem_of_getElem? (i := 58) rfl)))) (mvT hZ (hw _ (List.mem_of_getElem? (i := 58) rfl))) (mvT hZ (hw _ (List.mem_of_getElem? (i := 57) rfl))) (by decide) (backOf (W := 0) (rm10 l Z a0 hw [] x a_ALLOWED a_NEVER a_ALWAYS h179 n0 c205 c203 S_ALLOWED E_ALLOWED S_NEVER E_NEVER S_ALWAYS E_ALWAYS F_NEVER_ordinal F_ALLOWED_ordinal F_ALWAYS_ordinal (Exa.ext (c203).2 hx2) (Fld.ext (c203).2 hx3)) hZ (hw _ (List.mem_of_getElem? (i := 59) rfl)) (hw _ (List.mem_of_getElem? (i := 3) rfl)) (by decide) (by decide)) qa207 qc207 (g := (mkF mM 199 #[.val (.int p1), .val (.int p2), .val (.ref b2), .val (.ref x), .val (.int (1 : Int32)), .unset, .unset] [(.ref x)])) rfl (by rw [hml]; rfl) (Steps.refl _) (argsL := []) (rest := []) (lenOf pd_0 rfl) rfl (by show 2 * 0 + _ ≤ _; exact Nat.le_of_eq rfl) (hb hby at_199) (fun _ _ => ⟨rfl, e179, (by decide : 1 + 0 ≤ _), (by decide : 25 + 0 ≤ _)⟩)
      dsimp only [Pt.U, Pt.locs, Pt.cells, Pt.slots] at X207 l207 y207 z207 st207 hQ207
      subst l207 y207 z207
      obtain ⟨rfl, Nq207, e207⟩ := hQ207
      have N207 := Fr.app N206 Nq207
      have pr208 : ∀ tg, Steps pP.tables eE below (T207.setTop (mkF mM 202 #[.val (.int p1), .val (.int p2), .val (.ref b2), .val (.ref x), .val (.int (1 : Int32)), .unset, .unset] [(.ref a_ALLOWED)])) tg → Steps pP.tables eE below (s₁.setTop (entryFrame mM #[(.int p1), (.int p2)] maxLocals)) tg := fun tg kg => pr204 _ (st207.trans kg)
      clear pr204 st207 X206 e179
      have pr209 : ∀ tg, Steps pP.tables eE below (T207.setTop (mkF mM 206 #[.val (.int p1), .val (.int p2), .val (.ref b2), .val (.ref x), .val (.int (1 : Int32)), .val (.ref a_ALLOWED), .unset] [(.ref a_ALLOWED)])) tg → Steps pP.tables eE below (s₁.setTop (entryFrame mM #[(.int p1), (.int p2)] maxLocals)) tg := fun tg kg => pr208 _ (by
        show Steps pP.tables eE below (T207.setTop (mkF mM 202 #[.val (.int p1), .val (.int p2), .val (.ref b2), .val (.ref x), .val (.int (1 : Int32)), .unset, .unset] [(.ref a_ALLOWED)])) _
        refine XS.astore X207.here hx rfl (hb hby at_202) rfl rfl (l' := #[.val (.int p1), .val (.int p2), .val (.ref b2), .val (.ref x), .val (.int (1 : Int32)), .val (.ref a_ALLOWED), .unset]) rfl ?_
        show Steps pP.tables eE below (T207.setTop (mkF mM 204 #[.val (.int p1), .val (.int p2), .val (.ref b2), .val (.ref x), .val (.int (1 : Int32)), .val (.ref a_ALLOWED), .unset] [])) _
        refine XS.aload X207.here hx rfl (hb hby at_204) rfl rfl ?_
        exact kg)
      clear pr208
      obtain ⟨T210, X210, e210, st210⟩ := getS2 X207 hx hZ hown (host := "") (Or.inl (hw _ (List.mem_of_getElem? (i := 64) rfl))) Via.refl e207 (Sta.ext (c203).2 S_ALLOWED) (g := (mkF mM 206 #[.val (.int p1), .val (.int p2), .val (.ref b2), .val (.ref x), .val (.int (1 : Int32)), .val (.ref a_ALLOWED), .unset] [(.ref a_ALLOWED)])) rfl (hb hby at_206)
      have pr211 : ∀ tg, Steps pP.tables eE below (T210.setTop (mkF mM 209 #[.val (.int p1), .val (.int p2), .val (.ref b2), .val (.ref x), .val (.int (1 : Int32)), .val (.ref a_ALLOWED), .unset] [(.ref a_ALLOWED), (.ref a_ALLOWED)])) tg → Steps pP.tables eE below (s₁.setTop (entryFrame mM #[(.int p1), (.int p2)] maxLocals)) tg := fun tg kg => pr209 _ (st210 _ kg)
      clear pr209 st210 X207 e207
      have pr212 : ∀ tg, Steps pP.tables eE below (T210.setTop (mkF mM 248 #[.val (.int p1), .val (.int p2), .val (.ref b2), .val (.ref x), .val (.int (1 : Int32)), .val (.ref a_ALLOWED), .val (.int (1 : Int32))] [(.int (1 : Int32)), (.ref x)])) tg → Steps pP.tables eE below (s₁.setTop (entryFrame mM #[(.int p1), (.int p2)] maxLocals)) tg := fun tg kg => pr211 _ (by
        show Steps pP.tables eE below (T210.setTop (mkF mM 209 #[.val (.int p1), .val (.int p2), .val (.ref b2), .val (.ref x), .val (.int (1 : Int32)), .val (.ref a_ALLOWED), .unset] [(.ref a_ALLOWED), (.ref a_ALLOWED)])) _
        refine Jvm.RoadKit.acmp (g := (mkF mM 209 #[.val (.int p1), .val (.int p2), .val (.ref b2), .val (.ref x), .val (.int (1 : Int32)), .val (.ref a_ALLOWED), .unset] [(.ref a_ALLOWED), (.ref a_ALLOWED)])) X210 hx rfl rfl rfl (pc0 := 209) (pc' := 212) (same := true) rfl (hb hby at_209) rfl (decide_eq_true rfl) (by decide) (by decide) ?_
        show Steps pP.tables eE below (T210.setTop (mkF mM 212 #[.val (.int p1), .val (.int p2), .val (.ref b2), .val (.ref x), .val (.int (1 : Int32)), .val (.ref a_ALLOWED), .unset] [])) _
        refine XS.iconst X210.here hx rfl (hb hby at_212) ?_
        show Steps pP.tables eE below (T210.setTop (mkF mM 213 #[.val (.int p1), .val (.int p2), .val (.ref b2), .val (.ref x), .val (.int (1 : Int32)), .val (.ref a_ALLOWED), .unset] [(.int (1 : Int32))])) _
        refine XS.istore X210.here hx rfl (hb hby at_213) rfl (l' := #[.val (.int p1), .val (.int p2), .val (.ref b2), .val (.ref x), .val (.int (1 : Int32)), .val (.ref a_ALLOWED), .val (.int (1 : Int32))]) rfl ?_
        show Steps pP.tables eE below (T210.setTop (mkF mM 215 #[.val (.int p1), .val (.int p2), .val (.ref b2), .val (.ref x), .val (.int (1 : Int32)), .val (.ref a_ALLOWED), .val (.int (1 : Int32))] [])) _
        refine XS.goto X210.here hx rfl (pc0 := 215) (pc' := 245) rfl (hb hby at_215) (by decide) (by decide) ?_
        show Steps pP.tables eE below (T210.setTop (mkF mM 245 #[.val (.int p1), .val (.int p2), .val (.ref b2), .val (.ref x), .val (.int (1 : Int32)), .val (.ref a_ALLOWED), .val (.int (1 : Int32))] [])) _
        refine XS.aloadN X210.here hx rfl (hb hby at_245) rfl rfl ?_
        show Steps pP.tables eE below (T210.setTop (mkF mM 246 #[.val (.int p1), .val (.int p2), .val (.ref b2), .val (.ref x), .val (.int (1 : Int32)), .val (.ref a_ALLOWED), .val (.int (1 : Int32))] [(.ref x)])) _
        refine XS.iload X210.here hx rfl (hb hby at_246) rfl ?_
        exact kg)
      clear pr211
      obtain ⟨Ls213, X213, N213⟩ := own_hide X210 N207
      clear X210 N207
      obtain ⟨cq214, kq214, qa214, qb214, qc214⟩ := isOf hZ e210 (Exa.ext (c203).2 hx2)
      obtain ⟨_, _, ⟨T214, L214, kk214, nn214⟩, -, X214, ⟨Lc214, hQ214, l214, y214, z214⟩, st214⟩ := X213.virtualBack hx (y := (⟨"com/example/ledgerhall/ledgerhall/DeductionType", "takesCafe125", "(Z)Z"⟩ : MethodName)) (z := (⟨"com/example/ledgerhall/ledgerhall/DeductionType", "takesCafe125", "(Z)Z"⟩ : MethodName)) hown (mvT hZ (hw _ (List.mem_of_getElem? (i := 67) rfl))) (mvT hZ (hw _ (List.mem_of_getElem? (i := 68) rfl))) (notFace_of_selects (args := #[]) (mvT hZ (hw _ (List.mem_of_getElem? (i := 70) rfl)))) (mvT hZ (hw _ (List.mem_of_getElem? (i := 70) rfl))) (mvT hZ (hw _ (List.mem_of_getElem? (i := 69) rfl))) (by decide) (backOf (W := 0) (rm201 l Z a0 hw [] x a_ALLOWED a_NEVER a_ALWAYS h179 n0 c205 c203 S_ALLOWED E_ALLOWED S_NEVER E_NEVER S_ALWAYS E_ALWAYS F_NEVER_ordinal F_ALLOWED_ordinal F_ALWAYS_ordinal (Exa.ext (c203).2 hx2) (Fld.ext (c203).2 hx3)) hZ (hw _ (List.mem_of_getElem? (i := 71) rfl)) (hw _ (List.mem_of_getElem? (i := 3) rfl)) (by decide) (by decide)) qa214 qc214 (g := (mkF mM 248 #[.val (.int p1), .val (.int p2), .val (.ref b2), .val (.ref x), .val (.int (1 : Int32)), .val (.ref a_ALLOWED), .val (.int (1 : Int32))] [(.int (1 : Int32)), (.ref x)])) rfl (by rw [hml]; rfl) (Steps.refl _) (argsL := [(.int (1 : Int32))]) (rest := []) (lenOf pd_1 rfl) rfl (by show 2 * 0 + _ ≤ _; exact Nat.le_of_eq rfl) (hb hby at_248) (fun _ _ => ⟨rfl, e210, (by decide : 1 + 0 ≤ _), (by decide : 25 + 0 ≤ _)⟩)
      dsimp only [Pt.U, Pt.locs, Pt.cells, Pt.slots] at X214 l214 y214 z214 st214 hQ214
      subst l214 y214 z214
      obtain ⟨rfl, Nq214, e214⟩ := hQ214
      have N214 := Fr.app N213 Nq214
      have pr215 : ∀ tg, Steps pP.tables eE below (T214.setTop (mkF mM 251 #[.val (.int p1), .val (.int p2), .val (.ref b2), .val (.ref x), .val (.int (1 : Int32)), .val (.ref a_ALLOWED), .val (.int (1 : Int32))] [(.int (1 : Int32))])) tg → Steps pP.tables eE below (s₁.setTop (entryFrame mM #[(.int p1), (.int p2)] maxLocals)) tg := fun tg kg => pr212 _ (st214.trans kg)
      clear pr212 st214 X213 e210
      have pr216 : ∀ tg, Steps pP.tables eE below (T214.setTop (mkF mM 261 #[.val (.int p1), .val (.int p2), .val (.ref b2), .val (.ref x), .val (.int (1 : Int32)), .val (.ref a_ALLOWED), .val (.int (1 : Int32))] [(.int (1 : Int32))])) tg → Steps pP.tables eE below (s₁.setTop (entryFrame mM #[(.int p1), (.int p2)] maxLocals)) tg := fun tg kg => pr215 _ (by
        show Steps pP.tables eE below (T214.setTop (mkF mM 251 #[.val (.int p1), .val (.int p2), .val (.ref b2), .val (.ref x), .val (.int (1 : Int32)), .val (.ref a_ALLOWED), .val (.int (1 : Int32))] [(.int (1 : Int32))])) _
        refine XS.iload X214.here hx rfl (hb hby at_251) rfl ?_
        show Steps pP.tables eE below (T214.setTop (mkF mM 253 #[.val (.int p1), .val (.int p2), .val (.ref b2), .val (.ref x), .val (.int (1 : Int32)), .val (.ref a_ALLOWED), .val (.int (1 : Int32))] [(.int (1 : Int32)), (.int (1 : Int32))])) _
        refine XS.icmpNo X214.here hx rfl (hb hby at_253) rfl (teq (by decide)).2 ?_
        show Steps pP.tables eE below (T214.setTop (mkF mM 256 #[.val (.int p1), .val (.int p2), .val (.ref b2), .val (.ref x), .val (.int (1 : Int32)), .val (.ref a_ALLOWED), .val (.int (1 : Int32))] [])) _
        refine XS.iconst X214.here hx rfl (hb hby at_256) ?_
        show Steps pP.tables eE below (T214.setTop (mkF mM 257 #[.val (.int p1), .val (.int p2), .val (.ref b2), .val (.ref x), .val (.int (1 : Int32)), .val (.ref a_ALLOWED), .val (.int (1 : Int32))] [(.int (1 : Int32))])) _
        refine XS.goto X214.here hx rfl (pc0 := 257) (pc' := 261) rfl (hb hby at_257) (by decide) (by decide) ?_
        exact kg)
      clear pr215
      obtain ⟨fs, hr, hrun, hended, hW, hsame⟩ := X214.leave (v := some (.int (1 : Int32))) (fun h => by rw [Bd.returns] at h; cases h)
      refine ⟨_, _, pr216 _ (retOut X214 hx (t := .boolean) Bd.returns rfl (Or.inl ⟨rfl, Or.inr (Or.inl rfl), _, rfl⟩) (hb hby at_261) hr), hrun, hended, _, _, rfl, ?_, ⟨_, rfl⟩, hW, hsame.mono (by decide) (by decide)⟩
      show Q0 Z p1 p2 a_FICA_ALTERNATIVE_ANNUITY a_TRS_HEALTH_INSURANCE a_ANNUITY a_CREDIT_UNION a_DEFERRED_COMPENSATION a_DEFERRED_COMPENSATION_LUMP a_DEPENDENT_CARE a_HEALTH_INSURANCE a_HEALTH_SAVINGS a_INCOME_REPLACEMENT a_LIFE_INSURANCE a_MISCELLANEOUS_1 a_MISCELLANEOUS_2 a_MISCELLANEOUS_3 a_ROTH_403B a_ROTH_457B a_RETIREE_TRS_CARE a_SAVINGS_BOND a_WHOLE_LIFE_CONTRIBUTION a_GROUP_LIFE_CONTRIBUTION a_TRS_SERVICE_BUY_BACK a_TSTA_DUES a_UNION_DUES a_UNITED_FUND a_ADDITIONAL_WITHHOLDING a_ALLOWED a_NEVER a_ALWAYS h0 n0 _ T214.heap _
      rw [e214]
      exact ⟨rfl, N214⟩
  ·
    subst hx4
    have pr218 : ∀ tg, Steps pP.tables eE below (T179.setTop (mkF mM 188 #[.val (.int p1), .val (.int p2), .val (.ref b2), .val (.ref x), .unset, .unset, .unset] [(.int (p2 &&& (1 : Int32)))])) tg → Steps pP.tables eE below (s₁.setTop (entryFrame mM #[(.int p1), (.int p2)] maxLocals)) tg := fun tg kg => pr186 _ (by
      show Steps pP.tables eE below (T179.setTop (mkF mM 184 #[.val (.int p1), .val (.int p2), .val (.ref b2), .unset, .unset, .unset, .unset] [(.ref x)])) _
      refine XS.astoreN X179.here hx rfl (hb hby at_184) rfl rfl (l' := #[.val (.int p1), .val (.int p2), .val (.ref b2), .val (.ref x), .unset, .unset, .unset]) rfl ?_
      show Steps pP.tables eE below (T179.setTop (mkF mM 185 #[.val (.int p1), .val (.int p2), .val (.ref b2), .val (.ref x), .unset, .unset, .unset] [])) _
      refine XS.iloadN X179.here hx rfl (hb hby at_185) rfl ?_
      show Steps pP.tables eE below (T179.setTop (mkF mM 186 #[.val (.int p1), .val (.int p2), .val (.ref b2), .val (.ref x), .unset, .unset, .unset] [(.int p2)])) _
      refine XS.iconst X179.here hx rfl (hb hby at_186) ?_
      show Steps pP.tables eE below (T179.setTop (mkF mM 187 #[.val (.int p1), .val (.int p2), .val (.ref b2), .val (.ref x), .unset, .unset, .unset] [(.int (1 : Int32)), (.int p2)])) _
      refine XS.iand X179.here hx rfl (hb hby at_187) rfl ?_
      exact kg)
    clear pr186
    by_cases hc188_217 : (p2 &&& (1 : Int32)) = (0 : Int32)
    ·
      have c219 := (Old.wr c176 W179 gn3)
      have pr220 : ∀ tg, Steps pP.tables eE below (T179.setTop (mkF mM 199 #[.val (.int p1), .val (.int p2), .val (.ref b2), .val (.ref x), .val (.int (0 : Int32)), .unset, .unset] [(.ref x)])) tg → Steps pP.tables eE below (s₁.setTop (entryFrame mM #[(.int p1), (.int p2)] maxLocals)) tg := fun tg kg => pr218 _ (by
        show Steps pP.tables eE below (T179.setTop (mkF mM 188 #[.val (.int p1), .val (.int p2), .val (.ref b2), .val (.ref x), .unset, .unset, .unset] [(.int (p2 &&& (1 : Int32)))])) _
        refine XS.ifYes X179.here hx rfl (pc0 := 188) (pc' := 195) rfl (hb hby at_188) rfl ((if0 _ _).trans (teq hc188_217).1) (by decide) (by decide) ?_
        show Steps pP.tables eE below (T179.setTop (mkF mM 195 #[.val (.int p1), .val (.int p2), .val (.ref b2), .val (.ref x), .unset, .unset, .unset] [])) _
        refine XS.iconst X179.here hx rfl (hb hby at_195) ?_
        show Steps pP.tables eE below (T179.setTop (mkF mM 196 #[.val (.int p1), .val (.int p2), .val (.ref b2), .val (.ref x), .unset, .unset, .unset] [(.int (0 : Int32))])) _
        refine XS.istore X179.here hx rfl (hb hby at_196) rfl (l' := #[.val (.int p1), .val (.int p2), .val (.ref b2), .val (.ref x), .val (.int (0 : Int32)), .unset, .unset]) rfl ?_
        show Steps pP.tables eE below (T179.setTop (mkF mM 198 #[.val (.int p1), .val (.int p2), .val (.ref b2), .val (.ref x), .val (.int (0 : Int32)), .unset, .unset] [])) _
        refine XS.aloadN X179.here hx rfl (hb hby at_198) rfl rfl ?_
        exact kg)
      clear pr218
      have c221 := (Nat.le_trans (Nat.le_trans (Nat.le_trans (Nat.le_trans (Nat.le_trans (Nat.le_trans (Nat.le_trans (Nat.le_trans (Nat.le_trans (Nat.le_trans (Nat.le_trans (Nat.le_trans (Nat.le_trans (Nat.le_trans (Nat.le_trans (Nat.le_trans (Nat.le_trans (Nat.le_trans (Nat.le_trans (Nat.le_trans (Nat.le_trans (Nat.le_trans (Nat.le_trans (Nat.le_trans (Nat.le_trans (Nat.le_trans Z0 E2.1) (Keep.of_wr W11).1) (Keep.of_wr W18).1) (Keep.of_wr W25).1) (Keep.of_wr W32).1) (Keep.of_wr W39).1) (Keep.of_wr W46).1) (Keep.of_wr W53).1) (Keep.of_wr W60).1) (Keep.of_wr W67).1) (Keep.of_wr W74).1) (Keep.of_wr W81).1) (Keep.of_wr W88).1) (Keep.of_wr W95).1) (Keep.of_wr W102).1) (Keep.of_wr W109).1) (Keep.of_wr W116).1) (Keep.of_wr W123).1) (Keep.of_wr W130).1) (Keep.of_wr W137).1) (Keep.of_wr W144).1) (Keep.of_wr W151).1) (Keep.of_wr W158).1) (Keep.of_wr W165).1) (Keep.of_wr W172).1) (Keep.of_wr W179).1)
      obtain ⟨Ls222, X222, N222⟩ := own_hide X179 N179
      clear X179 N179
      obtain ⟨cq223, kq223, qa223, qb223, qc223⟩ := isOf hZ e179 (Exa.ext (c219).2 hx2)
      obtain ⟨_, _, ⟨T223, L223, kk223, nn223⟩, -, X223, ⟨Lc223, hQ223, l223, y223, z223⟩, st223⟩ := X222.virtualBack hx (y := (⟨"com/example/ledgerhall/ledgerhall/DeductionType", "cafe125", "()Lcom/example/ledgerhall/ledgerhall/DeductionType$Cafe125;"⟩ : MethodName)) (z := (⟨"com/example/ledgerhall/ledgerhall/DeductionType", "cafe125", "()Lcom/example/ledgerhall/ledgerhall/DeductionType$Cafe125;"⟩ : MethodName)) hown (mvT hZ (hw _ (List.mem_of_getElem? (i := 55) rfl))) (mvT hZ (hw _ (List.mem_of_getElem? (i := 56) rfl))) (notFace_of_selects (args := #[]) (mvT hZ (hw _ (List.mem_of_getElem? (i := 58) rfl)))) (mvT hZ (hw _ (List.mem_of_getElem? (i := 58) rfl))) (mvT hZ (hw _ (List.mem_of_getElem? (i := 57) rfl))) (by decide) (backOf (W := 0) (rm11 l Z a0 hw [] x a_ALLOWED a_NEVER a_ALWAYS h179 n0 c221 c219 S_ALLOWED E_ALLOWED S_NEVER E_NEVER S_ALWAYS E_ALWAYS F_NEVER_ordinal F_ALLOWED_ordinal F_ALWAYS_ordinal (Exa.ext (c219).2 hx2) (Fld.ext (c219).2 hx3)) hZ (hw _ (List.mem_of_getElem? (i := 59) rfl)) (hw _ (List.mem_of_getElem? (i := 3) rfl)) (by decide) (by decide)) qa223 qc223 (g := (mkF mM 199 #[.val (.int p1), .val (.int p2), .val (.ref b2), .val (.ref x), .val (.int (0 : Int32)), .unset, .unset] [(.ref x)])) rfl (by rw [hml]; rfl) (Steps.refl _) (argsL := []) (rest := []) (lenOf pd_0 rfl) rfl (by show 2 * 0 + _ ≤ _; exact Nat.le_of_eq rfl) (hb hby at_199) (fun _ _ => ⟨rfl, e179, (by decide : 1 + 0 ≤ _), (by decide : 25 + 0 ≤ _)⟩)
      dsimp only [Pt.U, Pt.locs, Pt.cells, Pt.slots] at X223 l223 y223 z223 st223 hQ223
      subst l223 y223 z223
      obtain ⟨rfl, Nq223, e223⟩ := hQ223
      have N223 := Fr.app N222 Nq223
      have pr224 : ∀ tg, Steps pP.tables eE below (T223.setTop (mkF mM 202 #[.val (.int p1), .val (.int p2), .val (.ref b2), .val (.ref x), .val (.int (0 : Int32)), .unset, .unset] [(.ref a_NEVER)])) tg → Steps pP.tables eE below (s₁.setTop (entryFrame mM #[(.int p1), (.int p2)] maxLocals)) tg := fun tg kg => pr220 _ (st223.trans kg)
      clear pr220 st223 X222 e179
      have pr225 : ∀ tg, Steps pP.tables eE below (T223.setTop (mkF mM 206 #[.val (.int p1), .val (.int p2), .val (.ref b2), .val (.ref x), .val (.int (0 : Int32)), .val (.ref a_NEVER), .unset] [(.ref a_NEVER)])) tg → Steps pP.tables eE below (s₁.setTop (entryFrame mM #[(.int p1), (.int p2)] maxLocals)) tg := fun tg kg => pr224 _ (by
        show Steps pP.tables eE below (T223.setTop (mkF mM 202 #[.val (.int p1), .val (.int p2), .val (.ref b2), .val (.ref x), .val (.int (0 : Int32)), .unset, .unset] [(.ref a_NEVER)])) _
        refine XS.astore X223.here hx rfl (hb hby at_202) rfl rfl (l' := #[.val (.int p1), .val (.int p2), .val (.ref b2), .val (.ref x), .val (.int (0 : Int32)), .val (.ref a_NEVER), .unset]) rfl ?_
        show Steps pP.tables eE below (T223.setTop (mkF mM 204 #[.val (.int p1), .val (.int p2), .val (.ref b2), .val (.ref x), .val (.int (0 : Int32)), .val (.ref a_NEVER), .unset] [])) _
        refine XS.aload X223.here hx rfl (hb hby at_204) rfl rfl ?_
        exact kg)
      clear pr224
      obtain ⟨T226, X226, e226, st226⟩ := getS2 X223 hx hZ hown (host := "") (Or.inl (hw _ (List.mem_of_getElem? (i := 64) rfl))) Via.refl e223 (Sta.ext (c219).2 S_ALLOWED) (g := (mkF mM 206 #[.val (.int p1), .val (.int p2), .val (.ref b2), .val (.ref x), .val (.int (0 : Int32)), .val (.ref a_NEVER), .unset] [(.ref a_NEVER)])) rfl (hb hby at_206)
      have pr227 : ∀ tg, Steps pP.tables eE below (T226.setTop (mkF mM 209 #[.val (.int p1), .val (.int p2), .val (.ref b2), .val (.ref x), .val (.int (0 : Int32)), .val (.ref a_NEVER), .unset] [(.ref a_ALLOWED), (.ref a_NEVER)])) tg → Steps pP.tables eE below (s₁.setTop (entryFrame mM #[(.int p1), (.int p2)] maxLocals)) tg := fun tg kg => pr225 _ (st226 _ kg)
      clear pr225 st226 X223 e223
      have pr228 : ∀ tg, Steps pP.tables eE below (T226.setTop (mkF mM 220 #[.val (.int p1), .val (.int p2), .val (.ref b2), .val (.ref x), .val (.int (0 : Int32)), .val (.ref a_NEVER), .unset] [(.ref a_NEVER)])) tg → Steps pP.tables eE below (s₁.setTop (entryFrame mM #[(.int p1), (.int p2)] maxLocals)) tg := fun tg kg => pr227 _ (by
        show Steps pP.tables eE below (T226.setTop (mkF mM 209 #[.val (.int p1), .val (.int p2), .val (.ref b2), .val (.ref x), .val (.int (0 : Int32)), .val (.ref a_NEVER), .unset] [(.ref a_ALLOWED), (.ref a_NEVER)])) _
        refine Jvm.RoadKit.acmp (g := (mkF mM 209 #[.val (.int p1), .val (.int p2), .val (.ref b2), .val (.ref x), .val (.int (0 : Int32)), .val (.ref a_NEVER), .unset] [(.ref a_ALLOWED), (.ref a_NEVER)])) X226 hx rfl rfl rfl (pc0 := 209) (pc' := 218) (same := false) rfl (hb hby at_209) rfl (decide_eq_false fun q => (Fld.ne F_NEVER_ordinal F_ALLOWED_ordinal (by decide)) (Value.ref.inj q)) (by decide) (by decide) ?_
        show Steps pP.tables eE below (T226.setTop (mkF mM 218 #[.val (.int p1), .val (.int p2), .val (.ref b2), .val (.ref x), .val (.int (0 : Int32)), .val (.ref a_NEVER), .unset] [])) _
        refine XS.aload X226.here hx rfl (hb hby at_218) rfl rfl ?_
        exact kg)
      clear pr227
      obtain ⟨T229, X229, e229, st229⟩ := getS2 X226 hx hZ hown (host := "") (Or.inl (hw _ (List.mem_of_getElem? (i := 66) rfl))) Via.refl e226 (Sta.ext (c219).2 S_NEVER) (g := (mkF mM 220 #[.val (.int p1), .val (.int p2), .val (.ref b2), .val (.ref x), .val (.int (0 : Int32)), .val (.ref a_NEVER), .unset] [(.ref a_NEVER)])) rfl (hb hby at_220)
      have pr230 : ∀ tg, Steps pP.tables eE below (T229.setTop (mkF mM 223 #[.val (.int p1), .val (.int p2), .val (.ref b2), .val (.ref x), .val (.int (0 : Int32)), .val (.ref a_NEVER), .unset] [(.ref a_NEVER), (.ref a_NEVER)])) tg → Steps pP.tables eE below (s₁.setTop (entryFrame mM #[(.int p1), (.int p2)] maxLocals)) tg := fun tg kg => pr228 _ (st229 _ kg)
      clear pr228 st229 X226 e226
      have pr231 : ∀ tg, Steps pP.tables eE below (T229.setTop (mkF mM 248 #[.val (.int p1), .val (.int p2), .val (.ref b2), .val (.ref x), .val (.int (0 : Int32)), .val (.ref a_NEVER), .val (.int (1 : Int32))] [(.int (0 : Int32)), (.ref x)])) tg → Steps pP.tables eE below (s₁.setTop (entryFrame mM #[(.int p1), (.int p2)] maxLocals)) tg := fun tg kg => pr230 _ (by
        show Steps pP.tables eE below (T229.setTop (mkF mM 223 #[.val (.int p1), .val (.int p2), .val (.ref b2), .val (.ref x), .val (.int (0 : Int32)), .val (.ref a_NEVER), .unset] [(.ref a_NEVER), (.ref a_NEVER)])) _
        refine Jvm.RoadKit.acmp (g := (mkF mM 223 #[.val (.int p1), .val (.int p2), .val (.ref b2), .val (.ref x), .val (.int (0 : Int32)), .val (.ref a_NEVER), .unset] [(.ref a_NEVER), (.ref a_NEVER)])) X229 hx rfl rfl rfl (pc0 := 223) (pc' := 226) (same := true) rfl (hb hby at_223) rfl (decide_eq_true rfl) (by decide) (by decide) ?_
        show Steps pP.tables eE below (T229.setTop (mkF mM 226 #[.val (.int p1), .val (.int p2), .val (.ref b2), .val (.ref x), .val (.int (0 : Int32)), .val (.ref a_NEVER), .unset] [])) _
        refine XS.iload X229.here hx rfl (hb hby at_226) rfl ?_
        show Steps pP.tables eE below (T229.setTop (mkF mM 228 #[.val (.int p1), .val (.int p2), .val (.ref b2), .val (.ref x), .val (.int (0 : Int32)), .val (.ref a_NEVER), .unset] [(.int (0 : Int32))])) _
        refine XS.ifNo X229.here hx rfl (hb hby at_228) rfl ((if0 _ _).trans (teq (by decide)).2) ?_
        show Steps pP.tables eE below (T229.setTop (mkF mM 231 #[.val (.int p1), .val (.int p2), .val (.ref b2), .val (.ref x), .val (.int (0 : Int32)), .val (.ref a_NEVER), .unset] [])) _
        refine XS.iconst X229.here hx rfl (hb hby at_231) ?_
        show Steps pP.tables eE below (T229.setTop (mkF mM 232 #[.val (.int p1), .val (.int p2), .val (.ref b2), .val (.ref x), .val (.int (0 : Int32)), .val (.ref a_NEVER), .unset] [(.int (1 : Int32))])) _
        refine XS.goto X229.here hx rfl (pc0 := 232) (pc' := 236) rfl (hb hby at_232) (by decide) (by decide) ?_
        show Steps pP.tables eE below (T229.setTop (mkF mM 236 #[.val (.int p1), .val (.int p2), .val (.ref b2), .val (.ref x), .val (.int (0 : Int32)), .val (.ref a_NEVER), .unset] [(.int (1 : Int32))])) _
        refine XS.istore X229.here hx rfl (hb hby at_236) rfl (l' := #[.val (.int p1), .val (.int p2), .val (.ref b2), .val (.ref x), .val (.int (0 : Int32)), .val (.ref a_NEVER), .val (.int (1 : Int32))]) rfl ?_
        show Steps pP.tables eE below (T229.setTop (mkF mM 238 #[.val (.int p1), .val (.int p2), .val (.ref b2), .val (.ref x), .val (.int (0 : Int32)), .val (.ref a_NEVER), .val (.int (1 : Int32))] [])) _
        refine XS.goto X229.here hx rfl (pc0 := 238) (pc' := 245) rfl (hb hby at_238) (by decide) (by decide) ?_
        show Steps pP.tables eE below (T229.setTop (mkF mM 245 #[.val (.int p1), .val (.int p2), .val (.ref b2), .val (.ref x), .val (.int (0 : Int32)), .val (.ref a_NEVER), .val (.int (1 : Int32))] [])) _
        refine XS.aloadN X229.here hx rfl (hb hby at_245) rfl rfl ?_
        show Steps pP.tables eE below (T229.setTop (mkF mM 246 #[.val (.int p1), .val (.int p2), .val (.ref b2), .val (.ref x), .val (.int (0 : Int32)), .val (.ref a_NEVER), .val (.int (1 : Int32))] [(.ref x)])) _
        refine XS.iload X229.here hx rfl (hb hby at_246) rfl ?_
        exact kg)
      clear pr230
      obtain ⟨Ls232, X232, N232⟩ := own_hide X229 N223
      clear X229 N223
      obtain ⟨cq233, kq233, qa233, qb233, qc233⟩ := isOf hZ e229 (Exa.ext (c219).2 hx2)
      obtain ⟨_, _, ⟨T233, L233, kk233, nn233⟩, -, X233, ⟨Lc233, hQ233, l233, y233, z233⟩, st233⟩ := X232.virtualBack hx (y := (⟨"com/example/ledgerhall/ledgerhall/DeductionType", "takesCafe125", "(Z)Z"⟩ : MethodName)) (z := (⟨"com/example/ledgerhall/ledgerhall/DeductionType", "takesCafe125", "(Z)Z"⟩ : MethodName)) hown (mvT hZ (hw _ (List.mem_of_getElem? (i := 67) rfl))) (mvT hZ (hw _ (List.mem_of_getElem? (i := 68) rfl))) (notFace_of_selects (args := #[]) (mvT hZ (hw _ (List.mem_of_getElem? (i := 70) rfl)))) (mvT hZ (hw _ (List.mem_of_getElem? (i := 70) rfl))) (mvT hZ (hw _ (List.mem_of_getElem? (i := 69) rfl))) (by decide) (backOf (W := 0) (rm210 l Z a0 hw [] x a_ALLOWED a_NEVER a_ALWAYS h179 n0 c221 c219 S_ALLOWED E_ALLOWED S_NEVER E_NEVER S_ALWAYS E_ALWAYS F_NEVER_ordinal F_ALLOWED_ordinal F_ALWAYS_ordinal (Exa.ext (c219).2 hx2) (Fld.ext (c219).2 hx3)) hZ (hw _ (List.mem_of_getElem? (i := 71) rfl)) (hw _ (List.mem_of_getElem? (i := 3) rfl)) (by decide) (by decide)) qa233 qc233 (g := (mkF mM 248 #[.val (.int p1), .val (.int p2), .val (.ref b2), .val (.ref x), .val (.int (0 : Int32)), .val (.ref a_NEVER), .val (.int (1 : Int32))] [(.int (0 : Int32)), (.ref x)])) rfl (by rw [hml]; rfl) (Steps.refl _) (argsL := [(.int (0 : Int32))]) (rest := []) (lenOf pd_1 rfl) rfl (by show 2 * 0 + _ ≤ _; exact Nat.le_of_eq rfl) (hb hby at_248) (fun _ _ => ⟨rfl, e229, (by decide : 1 + 0 ≤ _), (by decide : 25 + 0 ≤ _)⟩)
      dsimp only [Pt.U, Pt.locs, Pt.cells, Pt.slots] at X233 l233 y233 z233 st233 hQ233
      subst l233 y233 z233
      obtain ⟨rfl, Nq233, e233⟩ := hQ233
      have N233 := Fr.app N232 Nq233
      have pr234 : ∀ tg, Steps pP.tables eE below (T233.setTop (mkF mM 251 #[.val (.int p1), .val (.int p2), .val (.ref b2), .val (.ref x), .val (.int (0 : Int32)), .val (.ref a_NEVER), .val (.int (1 : Int32))] [(.int (1 : Int32))])) tg → Steps pP.tables eE below (s₁.setTop (entryFrame mM #[(.int p1), (.int p2)] maxLocals)) tg := fun tg kg => pr231 _ (st233.trans kg)
      clear pr231 st233 X232 e229
      have pr235 : ∀ tg, Steps pP.tables eE below (T233.setTop (mkF mM 261 #[.val (.int p1), .val (.int p2), .val (.ref b2), .val (.ref x), .val (.int (0 : Int32)), .val (.ref a_NEVER), .val (.int (1 : Int32))] [(.int (1 : Int32))])) tg → Steps pP.tables eE below (s₁.setTop (entryFrame mM #[(.int p1), (.int p2)] maxLocals)) tg := fun tg kg => pr234 _ (by
        show Steps pP.tables eE below (T233.setTop (mkF mM 251 #[.val (.int p1), .val (.int p2), .val (.ref b2), .val (.ref x), .val (.int (0 : Int32)), .val (.ref a_NEVER), .val (.int (1 : Int32))] [(.int (1 : Int32))])) _
        refine XS.iload X233.here hx rfl (hb hby at_251) rfl ?_
        show Steps pP.tables eE below (T233.setTop (mkF mM 253 #[.val (.int p1), .val (.int p2), .val (.ref b2), .val (.ref x), .val (.int (0 : Int32)), .val (.ref a_NEVER), .val (.int (1 : Int32))] [(.int (1 : Int32)), (.int (1 : Int32))])) _
        refine XS.icmpNo X233.here hx rfl (hb hby at_253) rfl (teq (by decide)).2 ?_
        show Steps pP.tables eE below (T233.setTop (mkF mM 256 #[.val (.int p1), .val (.int p2), .val (.ref b2), .val (.ref x), .val (.int (0 : Int32)), .val (.ref a_NEVER), .val (.int (1 : Int32))] [])) _
        refine XS.iconst X233.here hx rfl (hb hby at_256) ?_
        show Steps pP.tables eE below (T233.setTop (mkF mM 257 #[.val (.int p1), .val (.int p2), .val (.ref b2), .val (.ref x), .val (.int (0 : Int32)), .val (.ref a_NEVER), .val (.int (1 : Int32))] [(.int (1 : Int32))])) _
        refine XS.goto X233.here hx rfl (pc0 := 257) (pc' := 261) rfl (hb hby at_257) (by decide) (by decide) ?_
        exact kg)
      clear pr234
      obtain ⟨fs, hr, hrun, hended, hW, hsame⟩ := X233.leave (v := some (.int (1 : Int32))) (fun h => by rw [Bd.returns] at h; cases h)
      refine ⟨_, _, pr235 _ (retOut X233 hx (t := .boolean) Bd.returns rfl (Or.inl ⟨rfl, Or.inr (Or.inl rfl), _, rfl⟩) (hb hby at_261) hr), hrun, hended, _, _, rfl, ?_, ⟨_, rfl⟩, hW, hsame.mono (by decide) (by decide)⟩
      show Q0 Z p1 p2 a_FICA_ALTERNATIVE_ANNUITY a_TRS_HEALTH_INSURANCE a_ANNUITY a_CREDIT_UNION a_DEFERRED_COMPENSATION a_DEFERRED_COMPENSATION_LUMP a_DEPENDENT_CARE a_HEALTH_INSURANCE a_HEALTH_SAVINGS a_INCOME_REPLACEMENT a_LIFE_INSURANCE a_MISCELLANEOUS_1 a_MISCELLANEOUS_2 a_MISCELLANEOUS_3 a_ROTH_403B a_ROTH_457B a_RETIREE_TRS_CARE a_SAVINGS_BOND a_WHOLE_LIFE_CONTRIBUTION a_GROUP_LIFE_CONTRIBUTION a_TRS_SERVICE_BUY_BACK a_TSTA_DUES a_UNION_DUES a_UNITED_FUND a_ADDITIONAL_WITHHOLDING a_ALLOWED a_NEVER a_ALWAYS h0 n0 _ T233.heap _
      rw [e233]
      exact ⟨rfl, N233⟩
    ·
      have c236 := (Old.wr c176 W179 gn3)
      have pr237 : ∀ tg, Steps pP.tables eE below (T179.setTop (mkF mM 199 #[.val (.int p1), .val (.int p2), .val (.ref b2), .val (.ref x), .val (.int (1 : Int32)), .unset, .unset] [(.ref x)])) tg → Steps pP.tables eE below (s₁.setTop (entryFrame mM #[(.int p1), (.int p2)] maxLocals)) tg := fun tg kg => pr218 _ (by
        show Steps pP.tables eE below (T179.setTop (mkF mM 188 #[.val (.int p1), .val (.int p2), .val (.ref b2), .val (.ref x), .unset, .unset, .unset] [(.int (p2 &&& (1 : Int32)))])) _
        refine XS.ifNo X179.here hx rfl (hb hby at_188) rfl ((if0 _ _).trans (feq hc188_217).1) ?_
        show Steps pP.tables eE below (T179.setTop (mkF mM 191 #[.val (.int p1), .val (.int p2), .val (.ref b2), .val (.ref x), .unset, .unset, .unset] [])) _
        refine XS.iconst X179.here hx rfl (hb hby at_191) ?_
        show Steps pP.tables eE below (T179.setTop (mkF mM 192 #[.val (.int p1), .val (.int p2), .val (.ref b2), .val (.ref x), .unset, .unset, .unset] [(.int (1 : Int32))])) _
        refine XS.goto X179.here hx rfl (pc0 := 192) (pc' := 196) rfl (hb hby at_192) (by decide) (by decide) ?_
        show Steps pP.tables eE below (T179.setTop (mkF mM 196 #[.val (.int p1), .val (.int p2), .val (.ref b2), .val (.ref x), .unset, .unset, .unset] [(.int (1 : Int32))])) _
        refine XS.istore X179.here hx rfl (hb hby at_196) rfl (l' := #[.val (.int p1), .val (.int p2), .val (.ref b2), .val (.ref x), .val (.int (1 : Int32)), .unset, .unset]) rfl ?_
        show Steps pP.tables eE below (T179.setTop (mkF mM 198 #[.val (.int p1), .val (.int p2), .val (.ref b2), .val (.ref x), .val (.int (1 : Int32)), .unset, .unset] [])) _
        refine XS.aloadN X179.here hx rfl (hb hby at_198) rfl rfl ?_
        exact kg)
      clear pr218
      have c238 := (Nat.le_trans (Nat.le_trans (Nat.le_trans (Nat.le_trans (Nat.le_trans (Nat.le_trans (Nat.le_trans (Nat.le_trans (Nat.le_trans (Nat.le_trans (Nat.le_trans (Nat.le_trans (Nat.le_trans (Nat.le_trans (Nat.le_trans (Nat.le_trans (Nat.le_trans (Nat.le_trans (Nat.le_trans (Nat.le_trans (Nat.le_trans (Nat.le_trans (Nat.le_trans (Nat.le_trans (Nat.le_trans (Nat.le_trans Z0 E2.1) (Keep.of_wr W11).1) (Keep.of_wr W18).1) (Keep.of_wr W25).1) (Keep.of_wr W32).1) (Keep.of_wr W39).1) (Keep.of_wr W46).1) (Keep.of_wr W53).1) (Keep.of_wr W60).1) (Keep.of_wr W67).1) (Keep.of_wr W74).1) (Keep.of_wr W81).1) (Keep.of_wr W88).1) (Keep.of_wr W95).1) (Keep.of_wr W102).1) (Keep.of_wr W109).1) (Keep.of_wr W116).1) (Keep.of_wr W123).1) (Keep.of_wr W130).1) (Keep.of_wr W137).1) (Keep.of_wr W144).1) (Keep.of_wr W151).1) (Keep.of_wr W158).1) (Keep.of_wr W165).1) (Keep.of_wr W172).1) (Keep.of_wr W179).1)
      obtain ⟨Ls239, X239, N239⟩ := own_hide X179 N179
      clear X179 N179
      obtain ⟨cq240, kq240, qa240, qb240, qc240⟩ := isOf hZ e179 (Exa.ext (c236).2 hx2)
      obtain ⟨_, _, ⟨T240, L240, kk240, nn240⟩, -, X240, ⟨Lc240, hQ240, l240, y240, z240⟩, st240⟩ := X239.virtualBack hx (y := (⟨"com/example/ledgerhall/ledgerhall/DeductionType", "cafe125", "()Lcom/example/ledgerhall/ledgerhall/DeductionType$Cafe125;"⟩ : MethodName)) (z := (⟨"com/example/ledgerhall/ledgerhall/DeductionType", "cafe125", "()Lcom/example/ledgerhall/ledgerhall/DeductionType$Cafe125;"⟩ : MethodName)) hown (mvT hZ (hw _ (List.mem_of_getElem? (i := 55) rfl))) (mvT hZ (hw _ (List.mem_of_getElem? (i := 56) rfl))) (notFace_of_selects (args := #[]) (mvT hZ (hw _ (List.mem_of_getElem? (i := 58) rfl)))) (mvT hZ (hw _ (List.mem_of_getElem? (i := 58) rfl))) (mvT hZ (hw _ (List.mem_of_getElem? (i := 57) rfl))) (by decide) (backOf (W := 0) (rm11 l Z a0 hw [] x a_ALLOWED a_NEVER a_ALWAYS h179 n0 c238 c236 S_ALLOWED E_ALLOWED S_NEVER E_NEVER S_ALWAYS E_ALWAYS F_NEVER_ordinal F_ALLOWED_ordinal F_ALWAYS_ordinal (Exa.ext (c236).2 hx2) (Fld.ext (c236).2 hx3)) hZ (hw _ (List.mem_of_getElem? (i := 59) rfl)) (hw _ (List.mem_of_getElem? (i := 3) rfl)) (by decide) (by decide)) qa240 qc240 (g := (mkF mM 199 #[.val (.int p1), .val (.int p2), .val (.ref b2), .val (.ref x), .val (.int (1 : Int32)), .unset, .unset] [(.ref x)])) rfl (by rw [hml]; rfl) (Steps.refl _) (argsL := []) (rest := []) (lenOf pd_0 rfl) rfl (by show 2 * 0 + _ ≤ _; exact Nat.le_of_eq rfl) (hb hby at_199) (fun _ _ => ⟨rfl, e179, (by decide : 1 + 0 ≤ _), (by decide : 25 + 0 ≤ _)⟩)
      dsimp only [Pt.U, Pt.locs, Pt.cells, Pt.slots] at X240 l240 y240 z240 st240 hQ240
      subst l240 y240 z240
      obtain ⟨rfl, Nq240, e240⟩ := hQ240
      have N240 := Fr.app N239 Nq240
      have pr241 : ∀ tg, Steps pP.tables eE below (T240.setTop (mkF mM 202 #[.val (.int p1), .val (.int p2), .val (.ref b2), .val (.ref x), .val (.int (1 : Int32)), .unset, .unset] [(.ref a_NEVER)])) tg → Steps pP.tables eE below (s₁.setTop (entryFrame mM #[(.int p1), (.int p2)] maxLocals)) tg := fun tg kg => pr237 _ (st240.trans kg)
      clear pr237 st240 X239 e179
      have pr242 : ∀ tg, Steps pP.tables eE below (T240.setTop (mkF mM 206 #[.val (.int p1), .val (.int p2), .val (.ref b2), .val (.ref x), .val (.int (1 : Int32)), .val (.ref a_NEVER), .unset] [(.ref a_NEVER)])) tg → Steps pP.tables eE below (s₁.setTop (entryFrame mM #[(.int p1), (.int p2)] maxLocals)) tg := fun tg kg => pr241 _ (by
        show Steps pP.tables eE below (T240.setTop (mkF mM 202 #[.val (.int p1), .val (.int p2), .val (.ref b2), .val (.ref x), .val (.int (1 : Int32)), .unset, .unset] [(.ref a_NEVER)])) _
        refine XS.astore X240.here hx rfl (hb hby at_202) rfl rfl (l' := #[.val (.int p1), .val (.int p2), .val (.ref b2), .val (.ref x), .val (.int (1 : Int32)), .val (.ref a_NEVER), .unset]) rfl ?_
        show Steps pP.tables eE below (T240.setTop (mkF mM 204 #[.val (.int p1), .val (.int p2), .val (.ref b2), .val (.ref x), .val (.int (1 : Int32)), .val (.ref a_NEVER), .unset] [])) _
        refine XS.aload X240.here hx rfl (hb hby at_204) rfl rfl ?_
        exact kg)
      clear pr241
      obtain ⟨T243, X243, e243, st243⟩ := getS2 X240 hx hZ hown (host := "") (Or.inl (hw _ (List.mem_of_getElem? (i := 64) rfl))) Via.refl e240 (Sta.ext (c236).2 S_ALLOWED) (g := (mkF mM 206 #[.val (.int p1), .val (.int p2), .val (.ref b2), .val (.ref x), .val (.int (1 : Int32)), .val (.ref a_NEVER), .unset] [(.ref a_NEVER)])) rfl (hb hby at_206)
      have pr244 : ∀ tg, Steps pP.tables eE below (T243.setTop (mkF mM 209 #[.val (.int p1), .val (.int p2), .val (.ref b2), .val (.ref x), .val (.int (1 : Int32)), .val (.ref a_NEVER), .unset] [(.ref a_ALLOWED), (.ref a_NEVER)])) tg → Steps pP.tables eE below (s₁.setTop (entryFrame mM #[(.int p1), (.int p2)] maxLocals)) tg := fun tg kg => pr242 _ (st243 _ kg)
      clear pr242 st243 X240 e240
      have pr245 : ∀ tg, Steps pP.tables eE below (T243.setTop (mkF mM 220 #[.val (.int p1), .val (.int p2), .val (.ref b2), .val (.ref x), .val (.int (1 : Int32)), .val (.ref a_NEVER), .unset] [(.ref a_NEVER)])) tg → Steps pP.tables eE below (s₁.setTop (entryFrame mM #[(.int p1), (.int p2)] maxLocals)) tg := fun tg kg => pr244 _ (by
        show Steps pP.tables eE below (T243.setTop (mkF mM 209 #[.val (.int p1), .val (.int p2), .val (.ref b2), .val (.ref x), .val (.int (1 : Int32)), .val (.ref a_NEVER), .unset] [(.ref a_ALLOWED), (.ref a_NEVER)])) _
        refine Jvm.RoadKit.acmp (g := (mkF mM 209 #[.val (.int p1), .val (.int p2), .val (.ref b2), .val (.ref x), .val (.int (1 : Int32)), .val (.ref a_NEVER), .unset] [(.ref a_ALLOWED), (.ref a_NEVER)])) X243 hx rfl rfl rfl (pc0 := 209) (pc' := 218) (same := false) rfl (hb hby at_209) rfl (decide_eq_false fun q => (Fld.ne F_NEVER_ordinal F_ALLOWED_ordinal (by decide)) (Value.ref.inj q)) (by decide) (by decide) ?_
        show Steps pP.tables eE below (T243.setTop (mkF mM 218 #[.val (.int p1), .val (.int p2), .val (.ref b2), .val (.ref x), .val (.int (1 : Int32)), .val (.ref a_NEVER), .unset] [])) _
        refine XS.aload X243.here hx rfl (hb hby at_218) rfl rfl ?_
        exact kg)
      clear pr244
      obtain ⟨T246, X246, e246, st246⟩ := getS2 X243 hx hZ hown (host := "") (Or.inl (hw _ (List.mem_of_getElem? (i := 66) rfl))) Via.refl e243 (Sta.ext (c236).2 S_NEVER) (g := (mkF mM 220 #[.val (.int p1), .val (.int p2), .val (.ref b2), .val (.ref x), .val (.int (1 : Int32)), .val (.ref a_NEVER), .unset] [(.ref a_NEVER)])) rfl (hb hby at_220)
      have pr247 : ∀ tg, Steps pP.tables eE below (T246.setTop (mkF mM 223 #[.val (.int p1), .val (.int p2), .val (.ref b2), .val (.ref x), .val (.int (1 : Int32)), .val (.ref a_NEVER), .unset] [(.ref a_NEVER), (.ref a_NEVER)])) tg → Steps pP.tables eE below (s₁.setTop (entryFrame mM #[(.int p1), (.int p2)] maxLocals)) tg := fun tg kg => pr245 _ (st246 _ kg)
      clear pr245 st246 X243 e243
      have pr248 : ∀ tg, Steps pP.tables eE below (T246.setTop (mkF mM 248 #[.val (.int p1), .val (.int p2), .val (.ref b2), .val (.ref x), .val (.int (1 : Int32)), .val (.ref a_NEVER), .val (.int (0 : Int32))] [(.int (1 : Int32)), (.ref x)])) tg → Steps pP.tables eE below (s₁.setTop (entryFrame mM #[(.int p1), (.int p2)] maxLocals)) tg := fun tg kg => pr247 _ (by
        show Steps pP.tables eE below (T246.setTop (mkF mM 223 #[.val (.int p1), .val (.int p2), .val (.ref b2), .val (.ref x), .val (.int (1 : Int32)), .val (.ref a_NEVER), .unset] [(.ref a_NEVER), (.ref a_NEVER)])) _
        refine Jvm.RoadKit.acmp (g := (mkF mM 223 #[.val (.int p1), .val (.int p2), .val (.ref b2), .val (.ref x), .val (.int (1 : Int32)), .val (.ref a_NEVER), .unset] [(.ref a_NEVER), (.ref a_NEVER)])) X246 hx rfl rfl rfl (pc0 := 223) (pc' := 226) (same := true) rfl (hb hby at_223) rfl (decide_eq_true rfl) (by decide) (by decide) ?_
        show Steps pP.tables eE below (T246.setTop (mkF mM 226 #[.val (.int p1), .val (.int p2), .val (.ref b2), .val (.ref x), .val (.int (1 : Int32)), .val (.ref a_NEVER), .unset] [])) _
        refine XS.iload X246.here hx rfl (hb hby at_226) rfl ?_
        show Steps pP.tables eE below (T246.setTop (mkF mM 228 #[.val (.int p1), .val (.int p2), .val (.ref b2), .val (.ref x), .val (.int (1 : Int32)), .val (.ref a_NEVER), .unset] [(.int (1 : Int32))])) _
        refine XS.ifYes X246.here hx rfl (pc0 := 228) (pc' := 235) rfl (hb hby at_228) rfl ((if0 _ _).trans (feq (by decide)).2) (by decide) (by decide) ?_
        show Steps pP.tables eE below (T246.setTop (mkF mM 235 #[.val (.int p1), .val (.int p2), .val (.ref b2), .val (.ref x), .val (.int (1 : Int32)), .val (.ref a_NEVER), .unset] [])) _
        refine XS.iconst X246.here hx rfl (hb hby at_235) ?_
        show Steps pP.tables eE below (T246.setTop (mkF mM 236 #[.val (.int p1), .val (.int p2), .val (.ref b2), .val (.ref x), .val (.int (1 : Int32)), .val (.ref a_NEVER), .unset] [(.int (0 : Int32))])) _
        refine XS.istore X246.here hx rfl (hb hby at_236) rfl (l' := #[.val (.int p1), .val (.int p2), .val (.ref b2), .val (.ref x), .val (.int (1 : Int32)), .val (.ref a_NEVER), .val (.int (0 : Int32))]) rfl ?_
        show Steps pP.tables eE below (T246.setTop (mkF mM 238 #[.val (.int p1), .val (.int p2), .val (.ref b2), .val (.ref x), .val (.int (1 : Int32)), .val (.ref a_NEVER), .val (.int (0 : Int32))] [])) _
        refine XS.goto X246.here hx rfl (pc0 := 238) (pc' := 245) rfl (hb hby at_238) (by decide) (by decide) ?_
        show Steps pP.tables eE below (T246.setTop (mkF mM 245 #[.val (.int p1), .val (.int p2), .val (.ref b2), .val (.ref x), .val (.int (1 : Int32)), .val (.ref a_NEVER), .val (.int (0 : Int32))] [])) _
        refine XS.aloadN X246.here hx rfl (hb hby at_245) rfl rfl ?_
        show Steps pP.tables eE below (T246.setTop (mkF mM 246 #[.val (.int p1), .val (.int p2), .val (.ref b2), .val (.ref x), .val (.int (1 : Int32)), .val (.ref a_NEVER), .val (.int (0 : Int32))] [(.ref x)])) _
        refine XS.iload X246.here hx rfl (hb hby at_246) rfl ?_
        exact kg)
      clear pr247
      obtain ⟨Ls249, X249, N249⟩ := own_hide X246 N240
      clear X246 N240
      obtain ⟨cq250, kq250, qa250, qb250, qc250⟩ := isOf hZ e246 (Exa.ext (c236).2 hx2)
      obtain ⟨_, _, ⟨T250, L250, kk250, nn250⟩, -, X250, ⟨Lc250, hQ250, l250, y250, z250⟩, st250⟩ := X249.virtualBack hx (y := (⟨"com/example/ledgerhall/ledgerhall/DeductionType", "takesCafe125", "(Z)Z"⟩ : MethodName)) (z := (⟨"com/example/ledgerhall/ledgerhall/DeductionType", "takesCafe125", "(Z)Z"⟩ : MethodName)) hown (mvT hZ (hw _ (List.mem_of_getElem? (i := 67) rfl))) (mvT hZ (hw _ (List.mem_of_getElem? (i := 68) rfl))) (notFace_of_selects (args := #[]) (mvT hZ (hw _ (List.mem_of_getElem? (i := 70) rfl)))) (mvT hZ (hw _ (List.mem_of_getElem? (i := 70) rfl))) (mvT hZ (hw _ (List.mem_of_getElem? (i := 69) rfl))) (by decide) (backOf (W := 0) (rm211 l Z a0 hw [] x a_ALLOWED a_NEVER a_ALWAYS h179 n0 c238 c236 S_ALLOWED E_ALLOWED S_NEVER E_NEVER S_ALWAYS E_ALWAYS F_NEVER_ordinal F_ALLOWED_ordinal F_ALWAYS_ordinal (Exa.ext (c236).2 hx2) (Fld.ext (c236).2 hx3)) hZ (hw _ (List.mem_of_getElem? (i := 71) rfl)) (hw _ (List.mem_of_getElem? (i := 3) rfl)) (by decide) (by decide)) qa250 qc250 (g := (mkF mM 248 #[.val (.int p1), .val (.int p2), .val (.ref b2), .val (.ref x), .val (.int (1 : Int32)), .val (.ref a_NEVER), .val (.int (0 : Int32))] [(.int (1 : Int32)), (.ref x)])) rfl (by rw [hml]; rfl) (Steps.refl _) (argsL := [(.int (1 : Int32))]) (rest := []) (lenOf pd_1 rfl) rfl (by show 2 * 0 + _ ≤ _; exact Nat.le_of_eq rfl) (hb hby at_248) (fun _ _ => ⟨rfl, e246, (by decide : 1 + 0 ≤ _), (by decide : 25 + 0 ≤ _)⟩)
      dsimp only [Pt.U, Pt.locs, Pt.cells, Pt.slots] at X250 l250 y250 z250 st250 hQ250
      subst l250 y250 z250
      obtain ⟨rfl, Nq250, e250⟩ := hQ250
      have N250 := Fr.app N249 Nq250
      have pr251 : ∀ tg, Steps pP.tables eE below (T250.setTop (mkF mM 251 #[.val (.int p1), .val (.int p2), .val (.ref b2), .val (.ref x), .val (.int (1 : Int32)), .val (.ref a_NEVER), .val (.int (0 : Int32))] [(.int (0 : Int32))])) tg → Steps pP.tables eE below (s₁.setTop (entryFrame mM #[(.int p1), (.int p2)] maxLocals)) tg := fun tg kg => pr248 _ (st250.trans kg)
      clear pr248 st250 X249 e246
      have pr252 : ∀ tg, Steps pP.tables eE below (T250.setTop (mkF mM 261 #[.val (.int p1), .val (.int p2), .val (.ref b2), .val (.ref x), .val (.int (1 : Int32)), .val (.ref a_NEVER), .val (.int (0 : Int32))] [(.int (1 : Int32))])) tg → Steps pP.tables eE below (s₁.setTop (entryFrame mM #[(.int p1), (.int p2)] maxLocals)) tg := fun tg kg => pr251 _ (by
        show Steps pP.tables eE below (T250.setTop (mkF mM 251 #[.val (.int p1), .val (.int p2), .val (.ref b2), .val (.ref x), .val (.int (1 : Int32)), .val (.ref a_NEVER), .val (.int (0 : Int32))] [(.int (0 : Int32))])) _
        refine XS.iload X250.here hx rfl (hb hby at_251) rfl ?_
        show Steps pP.tables eE below (T250.setTop (mkF mM 253 #[.val (.int p1), .val (.int p2), .val (.ref b2), .val (.ref x), .val (.int (1 : Int32)), .val (.ref a_NEVER), .val (.int (0 : Int32))] [(.int (0 : Int32)), (.int (0 : Int32))])) _
        refine XS.icmpNo X250.here hx rfl (hb hby at_253) rfl (teq (by decide)).2 ?_
        show Steps pP.tables eE below (T250.setTop (mkF mM 256 #[.val (.int p1), .val (.int p2), .val (.ref b2), .val (.ref x), .val (.int (1 : Int32)), .val (.ref a_NEVER), .val (.int (0 : Int32))] [])) _
        refine XS.iconst X250.here hx rfl (hb hby at_256) ?_
        show Steps pP.tables eE below (T250.setTop (mkF mM 257 #[.val (.int p1), .val (.int p2), .val (.ref b2), .val (.ref x), .val (.int (1 : Int32)), .val (.ref a_NEVER), .val (.int (0 : Int32))] [(.int (1 : Int32))])) _
        refine XS.goto X250.here hx rfl (pc0 := 257) (pc' := 261) rfl (hb hby at_257) (by decide) (by decide) ?_
        exact kg)
      clear pr251
      obtain ⟨fs, hr, hrun, hended, hW, hsame⟩ := X250.leave (v := some (.int (1 : Int32))) (fun h => by rw [Bd.returns] at h; cases h)
      refine ⟨_, _, pr252 _ (retOut X250 hx (t := .boolean) Bd.returns rfl (Or.inl ⟨rfl, Or.inr (Or.inl rfl), _, rfl⟩) (hb hby at_261) hr), hrun, hended, _, _, rfl, ?_, ⟨_, rfl⟩, hW, hsame.mono (by decide) (by decide)⟩
      show Q0 Z p1 p2 a_FICA_ALTERNATIVE_ANNUITY a_TRS_HEALTH_INSURANCE a_ANNUITY a_CREDIT_UNION a_DEFERRED_COMPENSATION a_DEFERRED_COMPENSATION_LUMP a_DEPENDENT_CARE a_HEALTH_INSURANCE a_HEALTH_SAVINGS a_INCOME_REPLACEMENT a_LIFE_INSURANCE a_MISCELLANEOUS_1 a_MISCELLANEOUS_2 a_MISCELLANEOUS_3 a_ROTH_403B a_ROTH_457B a_RETIREE_TRS_CARE a_SAVINGS_BOND a_WHOLE_LIFE_CONTRIBUTION a_GROUP_LIFE_CONTRIBUTION a_TRS_SERVICE_BUY_BACK a_TSTA_DUES a_UNION_DUES a_UNITED_FUND a_ADDITIONAL_WITHHOLDING a_ALLOWED a_NEVER a_ALWAYS h0 n0 _ T250.heap _
      rw [e250]
      exact ⟨rfl, N250⟩
  ·
    subst hx4
    have pr254 : ∀ tg, Steps pP.tables eE below (T179.setTop (mkF mM 188 #[.val (.int p1), .val (.int p2), .val (.ref b2), .val (.ref x), .unset, .unset, .unset] [(.int (p2 &&& (1 : Int32)))])) tg → Steps pP.tables eE below (s₁.setTop (entryFrame mM #[(.int p1), (.int p2)] maxLocals)) tg := fun tg kg => pr186 _ (by
      show Steps pP.tables eE below (T179.setTop (mkF mM 184 #[.val (.int p1), .val (.int p2), .val (.ref b2), .unset, .unset, .unset, .unset] [(.ref x)])) _
      refine XS.astoreN X179.here hx rfl (hb hby at_184) rfl rfl (l' := #[.val (.int p1), .val (.int p2), .val (.ref b2), .val (.ref x), .unset, .unset, .unset]) rfl ?_
      show Steps pP.tables eE below (T179.setTop (mkF mM 185 #[.val (.int p1), .val (.int p2), .val (.ref b2), .val (.ref x), .unset, .unset, .unset] [])) _
      refine XS.iloadN X179.here hx rfl (hb hby at_185) rfl ?_
      show Steps pP.tables eE below (T179.setTop (mkF mM 186 #[.val (.int p1), .val (.int p2), .val (.ref b2), .val (.ref x), .unset, .unset, .unset] [(.int p2)])) _
      refine XS.iconst X179.here hx rfl (hb hby at_186) ?_
      show Steps pP.tables eE below (T179.setTop (mkF mM 187 #[.val (.int p1), .val (.int p2), .val (.ref b2), .val (.ref x), .unset, .unset, .unset] [(.int (1 : Int32)), (.int p2)])) _
      refine XS.iand X179.here hx rfl (hb hby at_187) rfl ?_
      exact kg)
    clear pr186
    by_cases hc188_253 : (p2 &&& (1 : Int32)) = (0 : Int32)
    ·
      have c255 := (Old.wr c176 W179 gn3)
      have pr256 : ∀ tg, Steps pP.tables eE below (T179.setTop (mkF mM 199 #[.val (.int p1), .val (.int p2), .val (.ref b2), .val (.ref x), .val (.int (0 : Int32)), .unset, .unset] [(.ref x)])) tg → Steps pP.tables eE below (s₁.setTop (entryFrame mM #[(.int p1), (.int p2)] maxLocals)) tg := fun tg kg => pr254 _ (by
        show Steps pP.tables eE below (T179.setTop (mkF mM 188 #[.val (.int p1), .val (.int p2), .val (.ref b2), .val (.ref x), .unset, .unset, .unset] [(.int (p2 &&& (1 : Int32)))])) _
        refine XS.ifYes X179.here hx rfl (pc0 := 188) (pc' := 195) rfl (hb hby at_188) rfl ((if0 _ _).trans (teq hc188_253).1) (by decide) (by decide) ?_
        show Steps pP.tables eE below (T179.setTop (mkF mM 195 #[.val (.int p1), .val (.int p2), .val (.ref b2), .val (.ref x), .unset, .unset, .unset] [])) _
        refine XS.iconst X179.here hx rfl (hb hby at_195) ?_
        show Steps pP.tables eE below (T179.setTop (mkF mM 196 #[.val (.int p1), .val (.int p2), .val (.ref b2), .val (.ref x), .unset, .unset, .unset] [(.int (0 : Int32))])) _
        refine XS.istore X179.here hx rfl (hb hby at_196) rfl (l' := #[.val (.int p1), .val (.int p2), .val (.ref b2), .val (.ref x), .val (.int (0 : Int32)), .unset, .unset]) rfl ?_
        show Steps pP.tables eE below (T179.setTop (mkF mM 198 #[.val (.int p1), .val (.int p2), .val (.ref b2), .val (.ref x), .val (.int (0 : Int32)), .unset, .unset] [])) _
        refine XS.aloadN X179.here hx rfl (hb hby at_198) rfl rfl ?_
        exact kg)
      clear pr254
      have c257 := (Nat.le_trans (Nat.le_trans (Nat.le_trans (Nat.le_trans (Nat.le_trans (Nat.le_trans (Nat.le_trans (Nat.le_trans (Nat.le_trans (Nat.le_trans (Nat.le_trans (Nat.le_trans (Nat.le_trans (Nat.le_trans (Nat.le_trans (Nat.le_trans (Nat.le_trans (Nat.le_trans (Nat.le_trans (Nat.le_trans (Nat.le_trans (Nat.le_trans (Nat.le_trans (Nat.le_trans (Nat.le_trans (Nat.le_trans Z0 E2.1) (Keep.of_wr W11).1) (Keep.of_wr W18).1) (Keep.of_wr W25).1) (Keep.of_wr W32).1) (Keep.of_wr W39).1) (Keep.of_wr W46).1) (Keep.of_wr W53).1) (Keep.of_wr W60).1) (Keep.of_wr W67).1) (Keep.of_wr W74).1) (Keep.of_wr W81).1) (Keep.of_wr W88).1) (Keep.of_wr W95).1) (Keep.of_wr W102).1) (Keep.of_wr W109).1) (Keep.of_wr W116).1) (Keep.of_wr W123).1) (Keep.of_wr W130).1) (Keep.of_wr W137).1) (Keep.of_wr W144).1) (Keep.of_wr W151).1) (Keep.of_wr W158).1) (Keep.of_wr W165).1) (Keep.of_wr W172).1) (Keep.of_wr W179).1)
      obtain ⟨Ls258, X258, N258⟩ := own_hide X179 N179
      clear X179 N179
      obtain ⟨cq259, kq259, qa259, qb259, qc259⟩ := isOf hZ e179 (Exa.ext (c255).2 hx2)
      obtain ⟨_, _, ⟨T259, L259, kk259, nn259⟩, -, X259, ⟨Lc259, hQ259, l259, y259, z259⟩, st259⟩ := X258.virtualBack hx (y := (⟨"com/example/ledgerhall/ledgerhall/DeductionType", "cafe125", "()Lcom/example/ledgerhall/ledgerhall/DeductionType$Cafe125;"⟩ : MethodName)) (z := (⟨"com/example/ledgerhall/ledgerhall/DeductionType", "cafe125", "()Lcom/example/ledgerhall/ledgerhall/DeductionType$Cafe125;"⟩ : MethodName)) hown (mvT hZ (hw _ (List.mem_of_getElem? (i := 55) rfl))) (mvT hZ (hw _ (List.mem_of_getElem? (i := 56) rfl))) (notFace_of_selects (args := #[]) (mvT hZ (hw _ (List.mem_of_getElem? (i := 58) rfl)))) (mvT hZ (hw _ (List.mem_of_getElem? (i := 58) rfl))) (mvT hZ (hw _ (List.mem_of_getElem? (i := 57) rfl))) (by decide) (backOf (W := 0) (rm12 l Z a0 hw [] x a_ALLOWED a_NEVER a_ALWAYS h179 n0 c257 c255 S_ALLOWED E_ALLOWED S_NEVER E_NEVER S_ALWAYS E_ALWAYS F_NEVER_ordinal F_ALLOWED_ordinal F_ALWAYS_ordinal (Exa.ext (c255).2 hx2) (Fld.ext (c255).2 hx3)) hZ (hw _ (List.mem_of_getElem? (i := 59) rfl)) (hw _ (List.mem_of_getElem? (i := 3) rfl)) (by decide) (by decide)) qa259 qc259 (g := (mkF mM 199 #[.val (.int p1), .val (.int p2), .val (.ref b2), .val (.ref x), .val (.int (0 : Int32)), .unset, .unset] [(.ref x)])) rfl (by rw [hml]; rfl) (Steps.refl _) (argsL := []) (rest := []) (lenOf pd_0 rfl) rfl (by show 2 * 0 + _ ≤ _; exact Nat.le_of_eq rfl) (hb hby at_199) (fun _ _ => ⟨rfl, e179, (by decide : 1 + 0 ≤ _), (by decide : 25 + 0 ≤ _)⟩)
      dsimp only [Pt.U, Pt.locs, Pt.cells, Pt.slots] at X259 l259 y259 z259 st259 hQ259
      subst l259 y259 z259
      obtain ⟨rfl, Nq259, e259⟩ := hQ259
      have N259 := Fr.app N258 Nq259
      have pr260 : ∀ tg, Steps pP.tables eE below (T259.setTop (mkF mM 202 #[.val (.int p1), .val (.int p2), .val (.ref b2), .val (.ref x), .val (.int (0 : Int32)), .unset, .unset] [(.ref a_ALWAYS)])) tg → Steps pP.tables eE below (s₁.setTop (entryFrame mM #[(.int p1), (.int p2)] maxLocals)) tg := fun tg kg => pr256 _ (st259.trans kg)
      clear pr256 st259 X258 e179
      have pr261 : ∀ tg, Steps pP.tables eE below (T259.setTop (mkF mM 206 #[.val (.int p1), .val (.int p2), .val (.ref b2), .val (.ref x), .val (.int (0 : Int32)), .val (.ref a_ALWAYS), .unset] [(.ref a_ALWAYS)])) tg → Steps pP.tables eE below (s₁.setTop (entryFrame mM #[(.int p1), (.int p2)] maxLocals)) tg := fun tg kg => pr260 _ (by
        show Steps pP.tables eE below (T259.setTop (mkF mM 202 #[.val (.int p1), .val (.int p2), .val (.ref b2), .val (.ref x), .val (.int (0 : Int32)), .unset, .unset] [(.ref a_ALWAYS)])) _
        refine XS.astore X259.here hx rfl (hb hby at_202) rfl rfl (l' := #[.val (.int p1), .val (.int p2), .val (.ref b2), .val (.ref x), .val (.int (0 : Int32)), .val (.ref a_ALWAYS), .unset]) rfl ?_
        show Steps pP.tables eE below (T259.setTop (mkF mM 204 #[.val (.int p1), .val (.int p2), .val (.ref b2), .val (.ref x), .val (.int (0 : Int32)), .val (.ref a_ALWAYS), .unset] [])) _
        refine XS.aload X259.here hx rfl (hb hby at_204) rfl rfl ?_
        exact kg)
      clear pr260
      obtain ⟨T262, X262, e262, st262⟩ := getS2 X259 hx hZ hown (host := "") (Or.inl (hw _ (List.mem_of_getElem? (i := 64) rfl))) Via.refl e259 (Sta.ext (c255).2 S_ALLOWED) (g := (mkF mM 206 #[.val (.int p1), .val (.int p2), .val (.ref b2), .val (.ref x), .val (.int (0 : Int32)), .val (.ref a_ALWAYS), .unset] [(.ref a_ALWAYS)])) rfl (hb hby at_206)
      have pr263 : ∀ tg, Steps pP.tables eE below (T262.setTop (mkF mM 209 #[.val (.int p1), .val (.int p2), .val (.ref b2), .val (.ref x), .val (.int (0 : Int32)), .val (.ref a_ALWAYS), .unset] [(.ref a_ALLOWED), (.ref a_ALWAYS)])) tg → Steps pP.tables eE below (s₁.setTop (entryFrame mM #[(.int p1), (.int p2)] maxLocals)) tg := fun tg kg => pr261 _ (st262 _ kg)
      clear pr261 st262 X259 e259
      have pr264 : ∀ tg, Steps pP.tables eE below (T262.setTop (mkF mM 220 #[.val (.int p1), .val (.int p2), .val (.ref b2), .val (.ref x), .val (.int (0 : Int32)), .val (.ref a_ALWAYS), .unset] [(.ref a_ALWAYS)])) tg → Steps pP.tables eE below (s₁.setTop (entryFrame mM #[(.int p1), (.int p2)] maxLocals)) tg := fun tg kg => pr263 _ (by
        show Steps pP.tables eE below (T262.setTop (mkF mM 209 #[.val (.int p1), .val (.int p2), .val (.ref b2), .val (.ref x), .val (.int (0 : Int32)), .val (.ref a_ALWAYS), .unset] [(.ref a_ALLOWED), (.ref a_ALWAYS)])) _
        refine Jvm.RoadKit.acmp (g := (mkF mM 209 #[.val (.int p1), .val (.int p2), .val (.ref b2), .val (.ref x), .val (.int (0 : Int32)), .val (.ref a_ALWAYS), .unset] [(.ref a_ALLOWED), (.ref a_ALWAYS)])) X262 hx rfl rfl rfl (pc0 := 209) (pc' := 218) (same := false) rfl (hb hby at_209) rfl (decide_eq_false fun q => (Fld.ne F_ALWAYS_ordinal F_ALLOWED_ordinal (by decide)) (Value.ref.inj q)) (by decide) (by decide) ?_
        show Steps pP.tables eE below (T262.setTop (mkF mM 218 #[.val (.int p1), .val (.int p2), .val (.ref b2), .val (.ref x), .val (.int (0 : Int32)), .val (.ref a_ALWAYS), .unset] [])) _
        refine XS.aload X262.here hx rfl (hb hby at_218) rfl rfl ?_
        exact kg)
      clear pr263
      obtain ⟨T265, X265, e265, st265⟩ := getS2 X262 hx hZ hown (host := "") (Or.inl (hw _ (List.mem_of_getElem? (i := 66) rfl))) Via.refl e262 (Sta.ext (c255).2 S_NEVER) (g := (mkF mM 220 #[.val (.int p1), .val (.int p2), .val (.ref b2), .val (.ref x), .val (.int (0 : Int32)), .val (.ref a_ALWAYS), .unset] [(.ref a_ALWAYS)])) rfl (hb hby at_220)
      have pr266 : ∀ tg, Steps pP.tables eE below (T265.setTop (mkF mM 223 #[.val (.int p1), .val (.int p2), .val (.ref b2), .val (.ref x), .val (.int (0 : Int32)), .val (.ref a_ALWAYS), .unset] [(.ref a_NEVER), (.ref a_ALWAYS)])) tg → Steps pP.tables eE below (s₁.setTop (entryFrame mM #[(.int p1), (.int p2)] maxLocals)) tg := fun tg kg => pr264 _ (st265 _ kg)
      clear pr264 st265 X262 e262
      have pr267 : ∀ tg, Steps pP.tables eE below (T265.setTop (mkF mM 248 #[.val (.int p1), .val (.int p2), .val (.ref b2), .val (.ref x), .val (.int (0 : Int32)), .val (.ref a_ALWAYS), .val (.int (0 : Int32))] [(.int (0 : Int32)), (.ref x)])) tg → Steps pP.tables eE below (s₁.setTop (entryFrame mM #[(.int p1), (.int p2)] maxLocals)) tg := fun tg kg => pr266 _ (by
        show Steps pP.tables eE below (T265.setTop (mkF mM 223 #[.val (.int p1), .val (.int p2), .val (.ref b2), .val (.ref x), .val (.int (0 : Int32)), .val (.ref a_ALWAYS), .unset] [(.ref a_NEVER), (.ref a_ALWAYS)])) _
        refine Jvm.RoadKit.acmp (g := (mkF mM 223 #[.val (.int p1), .val (.int p2), .val (.ref b2), .val (.ref x), .val (.int (0 : Int32)), .val (.ref a_ALWAYS), .unset] [(.ref a_NEVER), (.ref a_ALWAYS)])) X265 hx rfl rfl rfl (pc0 := 223) (pc' := 241) (same := false) rfl (hb hby at_223) rfl (decide_eq_false fun q => (Fld.ne F_ALWAYS_ordinal F_NEVER_ordinal (by decide)) (Value.ref.inj q)) (by decide) (by decide) ?_
        show Steps pP.tables eE below (T265.setTop (mkF mM 241 #[.val (.int p1), .val (.int p2), .val (.ref b2), .val (.ref x), .val (.int (0 : Int32)), .val (.ref a_ALWAYS), .unset] [])) _
        refine XS.iload X265.here hx rfl (hb hby at_241) rfl ?_
        show Steps pP.tables eE below (T265.setTop (mkF mM 243 #[.val (.int p1), .val (.int p2), .val (.ref b2), .val (.ref x), .val (.int (0 : Int32)), .val (.ref a_ALWAYS), .unset] [(.int (0 : Int32))])) _
        refine XS.istore X265.here hx rfl (hb hby at_243) rfl (l' := #[.val (.int p1), .val (.int p2), .val (.ref b2), .val (.ref x), .val (.int (0 : Int32)), .val (.ref a_ALWAYS), .val (.int (0 : Int32))]) rfl ?_
        show Steps pP.tables eE below (T265.setTop (mkF mM 245 #[.val (.int p1), .val (.int p2), .val (.ref b2), .val (.ref x), .val (.int (0 : Int32)), .val (.ref a_ALWAYS), .val (.int (0 : Int32))] [])) _
        refine XS.aloadN X265.here hx rfl (hb hby at_245) rfl rfl ?_
        show Steps pP.tables eE below (T265.setTop (mkF mM 246 #[.val (.int p1), .val (.int p2), .val (.ref b2), .val (.ref x), .val (.int (0 : Int32)), .val (.ref a_ALWAYS), .val (.int (0 : Int32))] [(.ref x)])) _
        refine XS.iload X265.here hx rfl (hb hby at_246) rfl ?_
        exact kg)
      clear pr266
      obtain ⟨Ls268, X268, N268⟩ := own_hide X265 N259
      clear X265 N259
      obtain ⟨cq269, kq269, qa269, qb269, qc269⟩ := isOf hZ e265 (Exa.ext (c255).2 hx2)
      obtain ⟨_, _, ⟨T269, L269, kk269, nn269⟩, -, X269, ⟨Lc269, hQ269, l269, y269, z269⟩, st269⟩ := X268.virtualBack hx (y := (⟨"com/example/ledgerhall/ledgerhall/DeductionType", "takesCafe125", "(Z)Z"⟩ : MethodName)) (z := (⟨"com/example/ledgerhall/ledgerhall/DeductionType", "takesCafe125", "(Z)Z"⟩ : MethodName)) hown (mvT hZ (hw _ (List.mem_of_getElem? (i := 67) rfl))) (mvT hZ (hw _ (List.mem_of_getElem? (i := 68) rfl))) (notFace_of_selects (args := #[]) (mvT hZ (hw _ (List.mem_of_getElem? (i := 70) rfl)))) (mvT hZ (hw _ (List.mem_of_getElem? (i := 70) rfl))) (mvT hZ (hw _ (List.mem_of_getElem? (i := 69) rfl))) (by decide) (backOf (W := 0) (rm220 l Z a0 hw [] x a_ALLOWED a_NEVER a_ALWAYS h179 n0 c257 c255 S_ALLOWED E_ALLOWED S_NEVER E_NEVER S_ALWAYS E_ALWAYS F_NEVER_ordinal F_ALLOWED_ordinal F_ALWAYS_ordinal (Exa.ext (c255).2 hx2) (Fld.ext (c255).2 hx3)) hZ (hw _ (List.mem_of_getElem? (i := 71) rfl)) (hw _ (List.mem_of_getElem? (i := 3) rfl)) (by decide) (by decide)) qa269 qc269 (g := (mkF mM 248 #[.val (.int p1), .val (.int p2), .val (.ref b2), .val (.ref x), .val (.int (0 : Int32)), .val (.ref a_ALWAYS), .val (.int (0 : Int32))] [(.int (0 : Int32)), (.ref x)])) rfl (by rw [hml]; rfl) (Steps.refl _) (argsL := [(.int (0 : Int32))]) (rest := []) (lenOf pd_1 rfl) rfl (by show 2 * 0 + _ ≤ _; exact Nat.le_of_eq rfl) (hb hby at_248) (fun _ _ => ⟨rfl, e265, (by decide : 1 + 0 ≤ _), (by decide : 25 + 0 ≤ _)⟩)
      dsimp only [Pt.U, Pt.locs, Pt.cells, Pt.slots] at X269 l269 y269 z269 st269 hQ269
      subst l269 y269 z269
      obtain ⟨rfl, Nq269, e269⟩ := hQ269
      have N269 := Fr.app N268 Nq269
      have pr270 : ∀ tg, Steps pP.tables eE below (T269.setTop (mkF mM 251 #[.val (.int p1), .val (.int p2), .val (.ref b2), .val (.ref x), .val (.int (0 : Int32)), .val (.ref a_ALWAYS), .val (.int (0 : Int32))] [(.int (0 : Int32))])) tg → Steps pP.tables eE below (s₁.setTop (entryFrame mM #[(.int p1), (.int p2)] maxLocals)) tg := fun tg kg => pr267 _ (st269.trans kg)
      clear pr267 st269 X268 e265
      have pr271 : ∀ tg, Steps pP.tables eE below (T269.setTop (mkF mM 261 #[.val (.int p1), .val (.int p2), .val (.ref b2), .val (.ref x), .val (.int (0 : Int32)), .val (.ref a_ALWAYS), .val (.int (0 : Int32))] [(.int (1 : Int32))])) tg → Steps pP.tables eE below (s₁.setTop (entryFrame mM #[(.int p1), (.int p2)] maxLocals)) tg := fun tg kg => pr270 _ (by
        show Steps pP.tables eE below (T269.setTop (mkF mM 251 #[.val (.int p1), .val (.int p2), .val (.ref b2), .val (.ref x), .val (.int (0 : Int32)), .val (.ref a_ALWAYS), .val (.int (0 : Int32))] [(.int (0 : Int32))])) _
        refine XS.iload X269.here hx rfl (hb hby at_251) rfl ?_
        show Steps pP.tables eE below (T269.setTop (mkF mM 253 #[.val (.int p1), .val (.int p2), .val (.ref b2), .val (.ref x), .val (.int (0 : Int32)), .val (.ref a_ALWAYS), .val (.int (0 : Int32))] [(.int (0 : Int32)), (.int (0 : Int32))])) _
        refine XS.icmpNo X269.here hx rfl (hb hby at_253) rfl (teq (by decide)).2 ?_
        show Steps pP.tables eE below (T269.setTop (mkF mM 256 #[.val (.int p1), .val (.int p2), .val (.ref b2), .val (.ref x), .val (.int (0 : Int32)), .val (.ref a_ALWAYS), .val (.int (0 : Int32))] [])) _
        refine XS.iconst X269.here hx rfl (hb hby at_256) ?_
        show Steps pP.tables eE below (T269.setTop (mkF mM 257 #[.val (.int p1), .val (.int p2), .val (.ref b2), .val (.ref x), .val (.int (0 : Int32)), .val (.ref a_ALWAYS), .val (.int (0 : Int32))] [(.int (1 : Int32))])) _
        refine XS.goto X269.here hx rfl (pc0 := 257) (pc' := 261) rfl (hb hby at_257) (by decide) (by decide) ?_
        exact kg)
      clear pr270
      obtain ⟨fs, hr, hrun, hended, hW, hsame⟩ := X269.leave (v := some (.int (1 : Int32))) (fun h => by rw [Bd.returns] at h; cases h)
      refine ⟨_, _, pr271 _ (retOut X269 hx (t := .boolean) Bd.returns rfl (Or.inl ⟨rfl, Or.inr (Or.inl rfl), _, rfl⟩) (hb hby at_261) hr), hrun, hended, _, _, rfl, ?_, ⟨_, rfl⟩, hW, hsame.mono (by decide) (by decide)⟩
      show Q0 Z p1 p2 a_FICA_ALTERNATIVE_ANNUITY a_TRS_HEALTH_INSURANCE a_ANNUITY a_CREDIT_UNION a_DEFERRED_COMPENSATION a_DEFERRED_COMPENSATION_LUMP a_DEPENDENT_CARE a_HEALTH_INSURANCE a_HEALTH_SAVINGS a_INCOME_REPLACEMENT a_LIFE_INSURANCE a_MISCELLANEOUS_1 a_MISCELLANEOUS_2 a_MISCELLANEOUS_3 a_ROTH_403B a_ROTH_457B a_RETIREE_TRS_CARE a_SAVINGS_BOND a_WHOLE_LIFE_CONTRIBUTION a_GROUP_LIFE_CONTRIBUTION a_TRS_SERVICE_BUY_BACK a_TSTA_DUES a_UNION_DUES a_UNITED_FUND a_ADDITIONAL_WITHHOLDING a_ALLOWED a_NEVER a_ALWAYS h0 n0 _ T269.heap _
      rw [e269]
      exact ⟨rfl, N269⟩
    ·
      have c272 := (Old.wr c176 W179 gn3)
      have pr273 : ∀ tg, Steps pP.tables eE below (T179.setTop (mkF mM 199 #[.val (.int p1), .val (.int p2), .val (.ref b2), .val (.ref x), .val (.int (1 : Int32)), .unset, .unset] [(.ref x)])) tg → Steps pP.tables eE below (s₁.setTop (entryFrame mM #[(.int p1), (.int p2)] maxLocals)) tg := fun tg kg => pr254 _ (by
        show Steps pP.tables eE below (T179.setTop (mkF mM 188 #[.val (.int p1), .val (.int p2), .val (.ref b2), .val (.ref x), .unset, .unset, .unset] [(.int (p2 &&& (1 : Int32)))])) _
        refine XS.ifNo X179.here hx rfl (hb hby at_188) rfl ((if0 _ _).trans (feq hc188_253).1) ?_
        show Steps pP.tables eE below (T179.setTop (mkF mM 191 #[.val (.int p1), .val (.int p2), .val (.ref b2), .val (.ref x), .unset, .unset, .unset] [])) _
        refine XS.iconst X179.here hx rfl (hb hby at_191) ?_
        show Steps pP.tables eE below (T179.setTop (mkF mM 192 #[.val (.int p1), .val (.int p2), .val (.ref b2), .val (.ref x), .unset, .unset, .unset] [(.int (1 : Int32))])) _
        refine XS.goto X179.here hx rfl (pc0 := 192) (pc' := 196) rfl (hb hby at_192) (by decide) (by decide) ?_
        show Steps pP.tables eE below (T179.setTop (mkF mM 196 #[.val (.int p1), .val (.int p2), .val (.ref b2), .val (.ref x), .unset, .unset, .unset] [(.int (1 : Int32))])) _
        refine XS.istore X179.here hx rfl (hb hby at_196) rfl (l' := #[.val (.int p1), .val (.int p2), .val (.ref b2), .val (.ref x), .val (.int (1 : Int32)), .unset, .unset]) rfl ?_
        show Steps pP.tables eE below (T179.setTop (mkF mM 198 #[.val (.int p1), .val (.int p2), .val (.ref b2), .val (.ref x), .val (.int (1 : Int32)), .unset, .unset] [])) _
        refine XS.aloadN X179.here hx rfl (hb hby at_198) rfl rfl ?_
        exact kg)
      clear pr254
      have c274 := (Nat.le_trans (Nat.le_trans (Nat.le_trans (Nat.le_trans (Nat.le_trans (Nat.le_trans (Nat.le_trans (Nat.le_trans (Nat.le_trans (Nat.le_trans (Nat.le_trans (Nat.le_trans (Nat.le_trans (Nat.le_trans (Nat.le_trans (Nat.le_trans (Nat.le_trans (Nat.le_trans (Nat.le_trans (Nat.le_trans (Nat.le_trans (Nat.le_trans (Nat.le_trans (Nat.le_trans (Nat.le_trans (Nat.le_trans Z0 E2.1) (Keep.of_wr W11).1) (Keep.of_wr W18).1) (Keep.of_wr W25).1) (Keep.of_wr W32).1) (Keep.of_wr W39).1) (Keep.of_wr W46).1) (Keep.of_wr W53).1) (Keep.of_wr W60).1) (Keep.of_wr W67).1) (Keep.of_wr W74).1) (Keep.of_wr W81).1) (Keep.of_wr W88).1) (Keep.of_wr W95).1) (Keep.of_wr W102).1) (Keep.of_wr W109).1) (Keep.of_wr W116).1) (Keep.of_wr W123).1) (Keep.of_wr W130).1) (Keep.of_wr W137).1) (Keep.of_wr W144).1) (Keep.of_wr W151).1) (Keep.of_wr W158).1) (Keep.of_wr W165).1) (Keep.of_wr W172).1) (Keep.of_wr W179).1)
      obtain ⟨Ls275, X275, N275⟩ := own_hide X179 N179
      clear X179 N179
      obtain ⟨cq276, kq276, qa276, qb276, qc276⟩ := isOf hZ e179 (Exa.ext (c272).2 hx2)
      obtain ⟨_, _, ⟨T276, L276, kk276, nn276⟩, -, X276, ⟨Lc276, hQ276, l276, y276, z276⟩, st276⟩ := X275.virtualBack hx (y := (⟨"com/example/ledgerhall/ledgerhall/DeductionType", "cafe125", "()Lcom/example/ledgerhall/ledgerhall/DeductionType$Cafe125;"⟩ : MethodName)) (z := (⟨"com/example/ledgerhall/ledgerhall/DeductionType", "cafe125", "()Lcom/example/ledgerhall/ledgerhall/DeductionType$Cafe125;"⟩ : MethodName)) hown (mvT hZ (hw _ (List.mem_of_getElem? (i := 55) rfl))) (mvT hZ (hw _ (List.mem_of_getElem? (i := 56) rfl))) (notFace_of_selects (args := #[]) (mvT hZ (hw _ (List.mem_of_getElem? (i := 58) rfl)))) (mvT hZ (hw _ (List.mem_of_getElem? (i := 58) rfl))) (mvT hZ (hw _ (List.mem_of_getElem? (i := 57) rfl))) (by decide) (backOf (W := 0) (rm12 l Z a0 hw [] x a_ALLOWED a_NEVER a_ALWAYS h179 n0 c274 c272 S_ALLOWED E_ALLOWED S_NEVER E_NEVER S_ALWAYS E_ALWAYS F_NEVER_ordinal F_ALLOWED_ordinal F_ALWAYS_ordinal (Exa.ext (c272).2 hx2) (Fld.ext (c272).2 hx3)) hZ (hw _ (List.mem_of_getElem? (i := 59) rfl)) (hw _ (List.mem_of_getElem? (i := 3) rfl)) (by decide) (by decide)) qa276 qc276 (g := (mkF mM 199 #[.val (.int p1), .val (.int p2), .val (.ref b2), .val (.ref x), .val (.int (1 : Int32)), .unset, .unset] [(.ref x)])) rfl (by rw [hml]; rfl) (Steps.refl _) (argsL := []) (rest := []) (lenOf pd_0 rfl) rfl (by show 2 * 0 + _ ≤ _; exact Nat.le_of_eq rfl) (hb hby at_199) (fun _ _ => ⟨rfl, e179, (by decide : 1 + 0 ≤ _), (by decide : 25 + 0 ≤ _)⟩)
      dsimp only [Pt.U, Pt.locs, Pt.cells, Pt.slots] at X276 l276 y276 z276 st276 hQ276
      subst l276 y276 z276
      obtain ⟨rfl, Nq276, e276⟩ := hQ276
      have N276 := Fr.app N275 Nq276
      have pr277 : ∀ tg, Steps pP.tables eE below (T276.setTop (mkF mM 202 #[.val (.int p1), .val (.int p2), .val (.ref b2), .val (.ref x), .val (.int (1 : Int32)), .unset, .unset] [(.ref a_ALWAYS)])) tg → Steps pP.tables eE below (s₁.setTop (entryFrame mM #[(.int p1), (.int p2)] maxLocals)) tg := fun tg kg => pr273 _ (st276.trans kg)
      clear pr273 st276 X275 e179
      have pr278 : ∀ tg, Steps pP.tables eE below (T276.setTop (mkF mM 206 #[.val (.int p1), .val (.int p2), .val (.ref b2), .val (.ref x), .val (.int (1 : Int32)), .val (.ref a_ALWAYS), .unset] [(.ref a_ALWAYS)])) tg → Steps pP.tables eE below (s₁.setTop (entryFrame mM #[(.int p1), (.int p2)] maxLocals)) tg := fun tg kg => pr277 _ (by
        show Steps pP.tables eE below (T276.setTop (mkF mM 202 #[.val (.int p1), .val (.int p2), .val (.ref b2), .val (.ref x), .val (.int (1 : Int32)), .unset, .unset] [(.ref a_ALWAYS)])) _
        refine XS.astore X276.here hx rfl (hb hby at_202) rfl rfl (l' := #[.val (.int p1), .val (.int p2), .val (.ref b2), .val (.ref x), .val (.int (1 : Int32)), .val (.ref a_ALWAYS), .unset]) rfl ?_
        show Steps pP.tables eE below (T276.setTop (mkF mM 204 #[.val (.int p1), .val (.int p2), .val (.ref b2), .val (.ref x), .val (.int (1 : Int32)), .val (.ref a_ALWAYS), .unset] [])) _
        refine XS.aload X276.here hx rfl (hb hby at_204) rfl rfl ?_
        exact kg)
      clear pr277
      obtain ⟨T279, X279, e279, st279⟩ := getS2 X276 hx hZ hown (host := "") (Or.inl (hw _ (List.mem_of_getElem? (i := 64) rfl))) Via.refl e276 (Sta.ext (c272).2 S_ALLOWED) (g := (mkF mM 206 #[.val (.int p1), .val (.int p2), .val (.ref b2), .val (.ref x), .val (.int (1 : Int32)), .val (.ref a_ALWAYS), .unset] [(.ref a_ALWAYS)])) rfl (hb hby at_206)
      have pr280 : ∀ tg, Steps pP.tables eE below (T279.setTop (mkF mM 209 #[.val (.int p1), .val (.int p2), .val (.ref b2), .val (.ref x), .val (.int (1 : Int32)), .val (.ref a_ALWAYS), .unset] [(.ref a_ALLOWED), (.ref a_ALWAYS)])) tg → Steps pP.tables eE below (s₁.setTop (entryFrame mM #[(.int p1), (.int p2)] maxLocals)) tg := fun tg kg => pr278 _ (st279 _ kg)
      clear pr278 st279 X276 e276
      have pr281 : ∀ tg, Steps pP.tables eE below (T279.setTop (mkF mM 220 #[.val (.int p1), .val (.int p2), .val (.ref b2), .val (.ref x), .val (.int (1 : Int32)), .val (.ref a_ALWAYS), .unset] [(.ref a_ALWAYS)])) tg → Steps pP.tables eE below (s₁.setTop (entryFrame mM #[(.int p1), (.int p2)] maxLocals)) tg := fun tg kg => pr280 _ (by
        show Steps pP.tables eE below (T279.setTop (mkF mM 209 #[.val (.int p1), .val (.int p2), .val (.ref b2), .val (.ref x), .val (.int (1 : Int32)), .val (.ref a_ALWAYS), .unset] [(.ref a_ALLOWED), (.ref a_ALWAYS)])) _
        refine Jvm.RoadKit.acmp (g := (mkF mM 209 #[.val (.int p1), .val (.int p2), .val (.ref b2), .val (.ref x), .val (.int (1 : Int32)), .val (.ref a_ALWAYS), .unset] [(.ref a_ALLOWED), (.ref a_ALWAYS)])) X279 hx rfl rfl rfl (pc0 := 209) (pc' := 218) (same := false) rfl (hb hby at_209) rfl (decide_eq_false fun q => (Fld.ne F_ALWAYS_ordinal F_ALLOWED_ordinal (by decide)) (Value.ref.inj q)) (by decide) (by decide) ?_
        show Steps pP.tables eE below (T279.setTop (mkF mM 218 #[.val (.int p1), .val (.int p2), .val (.ref b2), .val (.ref x), .val (.int (1 : Int32)), .val (.ref a_ALWAYS), .unset] [])) _
        refine XS.aload X279.here hx rfl (hb hby at_218) rfl rfl ?_
        exact kg)
      clear pr280
      obtain ⟨T282, X282, e282, st282⟩ := getS2 X279 hx hZ hown (host := "") (Or.inl (hw _ (List.mem_of_getElem? (i := 66) rfl))) Via.refl e279 (Sta.ext (c272).2 S_NEVER) (g := (mkF mM 220 #[.val (.int p1), .val (.int p2), .val (.ref b2), .val (.ref x), .val (.int (1 : Int32)), .val (.ref a_ALWAYS), .unset] [(.ref a_ALWAYS)])) rfl (hb hby at_220)
      have pr283 : ∀ tg, Steps pP.tables eE below (T282.setTop (mkF mM 223 #[.val (.int p1), .val (.int p2), .val (.ref b2), .val (.ref x), .val (.int (1 : Int32)), .val (.ref a_ALWAYS), .unset] [(.ref a_NEVER), (.ref a_ALWAYS)])) tg → Steps pP.tables eE below (s₁.setTop (entryFrame mM #[(.int p1), (.int p2)] maxLocals)) tg := fun tg kg => pr281 _ (st282 _ kg)
      clear pr281 st282 X279 e279
      have pr284 : ∀ tg, Steps pP.tables eE below (T282.setTop (mkF mM 248 #[.val (.int p1), .val (.int p2), .val (.ref b2), .val (.ref x), .val (.int (1 : Int32)), .val (.ref a_ALWAYS), .val (.int (1 : Int32))] [(.int (1 : Int32)), (.ref x)])) tg → Steps pP.tables eE below (s₁.setTop (entryFrame mM #[(.int p1), (.int p2)] maxLocals)) tg := fun tg kg => pr283 _ (by
        show Steps pP.tables eE below (T282.setTop (mkF mM 223 #[.val (.int p1), .val (.int p2), .val (.ref b2), .val (.ref x), .val (.int (1 : Int32)), .val (.ref a_ALWAYS), .unset] [(.ref a_NEVER), (.ref a_ALWAYS)])) _
        refine Jvm.RoadKit.acmp (g := (mkF mM 223 #[.val (.int p1), .val (.int p2), .val (.ref b2), .val (.ref x), .val (.int (1 : Int32)), .val (.ref a_ALWAYS), .unset] [(.ref a_NEVER), (.ref a_ALWAYS)])) X282 hx rfl rfl rfl (pc0 := 223) (pc' := 241) (same := false) rfl (hb hby at_223) rfl (decide_eq_false fun q => (Fld.ne F_ALWAYS_ordinal F_NEVER_ordinal (by decide)) (Value.ref.inj q)) (by decide) (by decide) ?_
        show Steps pP.tables eE below (T282.setTop (mkF mM 241 #[.val (.int p1), .val (.int p2), .val (.ref b2), .val (.ref x), .val (.int (1 : Int32)), .val (.ref a_ALWAYS), .unset] [])) _
        refine XS.iload X282.here hx rfl (hb hby at_241) rfl ?_
        show Steps pP.tables eE below (T282.setTop (mkF mM 243 #[.val (.int p1), .val (.int p2), .val (.ref b2), .val (.ref x), .val (.int (1 : Int32)), .val (.ref a_ALWAYS), .unset] [(.int (1 : Int32))])) _
        refine XS.istore X282.here hx rfl (hb hby at_243) rfl (l' := #[.val (.int p1), .val (.int p2), .val (.ref b2), .val (.ref x), .val (.int (1 : Int32)), .val (.ref a_ALWAYS), .val (.int (1 : Int32))]) rfl ?_
        show Steps pP.tables eE below (T282.setTop (mkF mM 245 #[.val (.int p1), .val (.int p2), .val (.ref b2), .val (.ref x), .val (.int (1 : Int32)), .val (.ref a_ALWAYS), .val (.int (1 : Int32))] [])) _
        refine XS.aloadN X282.here hx rfl (hb hby at_245) rfl rfl ?_
        show Steps pP.tables eE below (T282.setTop (mkF mM 246 #[.val (.int p1), .val (.int p2), .val (.ref b2), .val (.ref x), .val (.int (1 : Int32)), .val (.ref a_ALWAYS), .val (.int (1 : Int32))] [(.ref x)])) _
        refine XS.iload X282.here hx rfl (hb hby at_246) rfl ?_
        exact kg)
      clear pr283
      obtain ⟨Ls285, X285, N285⟩ := own_hide X282 N276
      clear X282 N276
      obtain ⟨cq286, kq286, qa286, qb286, qc286⟩ := isOf hZ e282 (Exa.ext (c272).2 hx2)
      obtain ⟨_, _, ⟨T286, L286, kk286, nn286⟩, -, X286, ⟨Lc286, hQ286, l286, y286, z286⟩, st286⟩ := X285.virtualBack hx (y := (⟨"com/example/ledgerhall/ledgerhall/DeductionType", "takesCafe125", "(Z)Z"⟩ : MethodName)) (z := (⟨"com/example/ledgerhall/ledgerhall/DeductionType", "takesCafe125", "(Z)Z"⟩ : MethodName)) hown (mvT hZ (hw _ (List.mem_of_getElem? (i := 67) rfl))) (mvT hZ (hw _ (List.mem_of_getElem? (i := 68) rfl))) (notFace_of_selects (args := #[]) (mvT hZ (hw _ (List.mem_of_getElem? (i := 70) rfl)))) (mvT hZ (hw _ (List.mem_of_getElem? (i := 70) rfl))) (mvT hZ (hw _ (List.mem_of_getElem? (i := 69) rfl))) (by decide) (backOf (W := 0) (rm221 l Z a0 hw [] x a_ALLOWED a_NEVER a_ALWAYS h179 n0 c274 c272 S_ALLOWED E_ALLOWED S_NEVER E_NEVER S_ALWAYS E_ALWAYS F_NEVER_ordinal F_ALLOWED_ordinal F_ALWAYS_ordinal (Exa.ext (c272).2 hx2) (Fld.ext (c272).2 hx3)) hZ (hw _ (List.mem_of_getElem? (i := 71) rfl)) (hw _ (List.mem_of_getElem? (i := 3) rfl)) (by decide) (by decide)) qa286 qc286 (g := (mkF mM 248 #[.val (.int p1), .val (.int p2), .val (.ref b2), .val (.ref x), .val (.int (1 : Int32)), .val (.ref a_ALWAYS), .val (.int (1 : Int32))] [(.int (1 : Int32)), (.ref x)])) rfl (by rw [hml]; rfl) (Steps.refl _) (argsL := [(.int (1 : Int32))]) (rest := []) (lenOf pd_1 rfl) rfl (by show 2 * 0 + _ ≤ _; exact Nat.le_of_eq rfl) (hb hby at_248) (fun _ _ => ⟨rfl, e282, (by decide : 1 + 0 ≤ _), (by decide : 25 + 0 ≤ _)⟩)
      dsimp only [Pt.U, Pt.locs, Pt.cells, Pt.slots] at X286 l286 y286 z286 st286 hQ286
      subst l286 y286 z286
      obtain ⟨rfl, Nq286, e286⟩ := hQ286
      have N286 := Fr.app N285 Nq286
      have pr287 : ∀ tg, Steps pP.tables eE below (T286.setTop (mkF mM 251 #[.val (.int p1), .val (.int p2), .val (.ref b2), .val (.ref x), .val (.int (1 : Int32)), .val (.ref a_ALWAYS), .val (.int (1 : Int32))] [(.int (1 : Int32))])) tg → Steps pP.tables eE below (s₁.setTop (entryFrame mM #[(.int p1), (.int p2)] maxLocals)) tg := fun tg kg => pr284 _ (st286.trans kg)
      clear pr284 st286 X285 e282
      have pr288 : ∀ tg, Steps pP.tables eE below (T286.setTop (mkF mM 261 #[.val (.int p1), .val (.int p2), .val (.ref b2), .val (.ref x), .val (.int (1 : Int32)), .val (.ref a_ALWAYS), .val (.int (1 : Int32))] [(.int (1 : Int32))])) tg → Steps pP.tables eE below (s₁.setTop (entryFrame mM #[(.int p1), (.int p2)] maxLocals)) tg := fun tg kg => pr287 _ (by
        show Steps pP.tables eE below (T286.setTop (mkF mM 251 #[.val (.int p1), .val (.int p2), .val (.ref b2), .val (.ref x), .val (.int (1 : Int32)), .val (.ref a_ALWAYS), .val (.int (1 : Int32))] [(.int (1 : Int32))])) _
        refine XS.iload X286.here hx rfl (hb hby at_251) rfl ?_
        show Steps pP.tables eE below (T286.setTop (mkF mM 253 #[.val (.int p1), .val (.int p2), .val (.ref b2), .val (.ref x), .val (.int (1 : Int32)), .val (.ref a_ALWAYS), .val (.int (1 : Int32))] [(.int (1 : Int32)), (.int (1 : Int32))])) _
        refine XS.icmpNo X286.here hx rfl (hb hby at_253) rfl (teq (by decide)).2 ?_
        show Steps pP.tables eE below (T286.setTop (mkF mM 256 #[.val (.int p1), .val (.int p2), .val (.ref b2), .val (.ref x), .val (.int (1 : Int32)), .val (.ref a_ALWAYS), .val (.int (1 : Int32))] [])) _
        refine XS.iconst X286.here hx rfl (hb hby at_256) ?_
        show Steps pP.tables eE below (T286.setTop (mkF mM 257 #[.val (.int p1), .val (.int p2), .val (.ref b2), .val (.ref x), .val (.int (1 : Int32)), .val (.ref a_ALWAYS), .val (.int (1 : Int32))] [(.int (1 : Int32))])) _
        refine XS.goto X286.here hx rfl (pc0 := 257) (pc' := 261) rfl (hb hby at_257) (by decide) (by decide) ?_
        exact kg)
      clear pr287
      obtain ⟨fs, hr, hrun, hended, hW, hsame⟩ := X286.leave (v := some (.int (1 : Int32))) (fun h => by rw [Bd.returns] at h; cases h)
      refine ⟨_, _, pr288 _ (retOut X286 hx (t := .boolean) Bd.returns rfl (Or.inl ⟨rfl, Or.inr (Or.inl rfl), _, rfl⟩) (hb hby at_261) hr), hrun, hended, _, _, rfl, ?_, ⟨_, rfl⟩, hW, hsame.mono (by decide) (by decide)⟩
      show Q0 Z p1 p2 a_FICA_ALTERNATIVE_ANNUITY a_TRS_HEALTH_INSURANCE a_ANNUITY a_CREDIT_UNION a_DEFERRED_COMPENSATION a_DEFERRED_COMPENSATION_LUMP a_DEPENDENT_CARE a_HEALTH_INSURANCE a_HEALTH_SAVINGS a_INCOME_REPLACEMENT a_LIFE_INSURANCE a_MISCELLANEOUS_1 a_MISCELLANEOUS_2 a_MISCELLANEOUS_3 a_ROTH_403B a_ROTH_457B a_RETIREE_TRS_CARE a_SAVINGS_BOND a_WHOLE_LIFE_CONTRIBUTION a_GROUP_LIFE_CONTRIBUTION a_TRS_SERVICE_BUY_BACK a_TSTA_DUES a_UNION_DUES a_UNITED_FUND a_ADDITIONAL_WITHHOLDING a_ALLOWED a_NEVER a_ALWAYS h0 n0 _ T286.heap _
      rw [e286]
      exact ⟨rfl, N286⟩
set_option maxRecDepth 65536 in
set_option maxHeartbeats 40000000 in
theorem comes_1 {Post : Tables → Env → Array Value → State → Outcome → State → Prop} (hpost : ∀ tb e args s v u, (limb_1_1.after args s (.returned v) u = true ∧ limb_1_2.after args s (.returned v) u = true ∧ True) → FrameEnd s (.returned v) u (Jvm.fieldLocs frame_1_writes args s ++ Jvm.arrayLocs frame_1_arrays args s ++ Jvm.staticLocs frame_1_statics s) 16 128 → Post tb e args s (.returned v) u) :
    ArmFor flags0 classFile x code maxLocals ret World_1 tables_1 room_1 Calls_1 rest_1 Pre_1 Post := by
  intro l hfl _ _ p e ha hc hk s m args below hf hA hF happ hP
  obtain ⟨hcalls, hrest, hpre⟩ := hP
  obtain ⟨-, -, -, hnamed, -, -, -, hat⟩ := (Spec.applies_iff hf).mp happ
  obtain ⟨hg, hn⟩ := and_e (Cond.before_iff.mp (show (Jvm.Cond.and given_1 narrow_1).before args s = true from hpre))
  obtain ⟨n1, n2⟩ := and_e hg
  obtain ⟨n3, n4⟩ := and_e n2
  obtain ⟨w0, w1, rfl⟩ : ∃ w0 w1 : Value, args = #[w0, w1] := by
    have hs : args.size = 2 := by simpa [Cond.value, given_1] using n1
    obtain ⟨L⟩ := args
    match L, hs with
    | [w0, w1], _ => exact ⟨w0, w1, rfl⟩
  have hw := fun d (hd : d ∈ tables_1) => atoms_spec (ws := Jvm.Cond.code x code maxLocals ret :: tables_1) hat d (List.mem_cons_of_mem _ hd)
  have hfit : Fit s := fun {y c} hc i hi => by
    obtain ⟨ha, rfl⟩ := Array.getElem?_eq_some_iff.mp hc
    have q := List.all_eq_true.mp ((Array.all_eq_true_iff_forall_mem.mp hF) _ (Array.getElem_mem ha)) i (List.mem_range.mpr hi)
    simpa [Array.getElem?_eq_getElem hi] using q
  obtain ⟨i0, ei0⟩ := is_v n3
  obtain rfl : w0 = (.int i0) := Option.some.inj ei0
  obtain ⟨i1, ei1⟩ := is_v n4
  obtain rfl : w1 = (.int i1) := Option.some.inj ei1
  obtain ⟨n5, n6⟩ := and_e hn
  obtain ⟨n7, n8⟩ := and_e n6
  obtain ⟨n9, n10⟩ := and_e n8
  obtain ⟨n11, n12⟩ := and_e n10
  obtain ⟨n13, n14⟩ := and_e n12
  obtain ⟨n15, n16⟩ := and_e n14
  obtain ⟨n17, n18⟩ := and_e n16
  obtain ⟨n19, n20⟩ := and_e n18
  obtain ⟨n21, n22⟩ := and_e n20
  obtain ⟨n23, n24⟩ := and_e n22
  obtain ⟨n25, n26⟩ := and_e n24
  obtain ⟨n27, n28⟩ := and_e n26
  obtain ⟨n29, n30⟩ := and_e n28
  obtain ⟨n31, n32⟩ := and_e n30
  obtain ⟨n33, n34⟩ := and_e n32
  obtain ⟨n35, n36⟩ := and_e n34
  obtain ⟨n37, n38⟩ := and_e n36
  obtain ⟨n39, n40⟩ := and_e n38
  obtain ⟨n41, n42⟩ := and_e n40
  obtain ⟨n43, n44⟩ := and_e n42
  obtain ⟨n45, n46⟩ := and_e n44
  obtain ⟨n47, n48⟩ := and_e n46
  obtain ⟨n49, n50⟩ := and_e n48
  obtain ⟨n51, n52⟩ := and_e n50
  obtain ⟨n53, n54⟩ := and_e n52
  obtain ⟨n55, n56⟩ := and_e n54
  obtain ⟨n57, n58⟩ := and_e n56
  obtain ⟨n59, n60⟩ := and_e n58
  obtain ⟨n61, n62⟩ := and_e n60
  obtain ⟨n63, n64⟩ := and_e n62
  obtain ⟨n65, n66⟩ := and_e n64
  obtain ⟨n67, n68⟩ := and_e n66
  obtain ⟨n69, n70⟩ := and_e n68
  obtain ⟨n71, n72⟩ := and_e n70
  obtain ⟨n73, n74⟩ := and_e n72
  obtain ⟨n75, n76⟩ := and_e n74
  obtain ⟨n77, n78⟩ := and_e n76
  obtain ⟨n79, n80⟩ := and_e n78
  obtain ⟨n81, n82⟩ := and_e n80
  obtain ⟨n83, n84⟩ := and_e n82
  obtain ⟨n85, n86⟩ := and_e n84
  obtain ⟨n87, n88⟩ := and_e n86
  obtain ⟨n89, n90⟩ := and_e n88
  obtain ⟨n91, n92⟩ := and_e n90
  obtain ⟨n93, n94⟩ := and_e n92
  obtain ⟨n95, n96⟩ := and_e n94
  obtain ⟨n97, n98⟩ := and_e n96
  obtain ⟨n99, n100⟩ := and_e n98
  obtain ⟨n101, n102⟩ := and_e n100
  obtain ⟨n103, n104⟩ := and_e n102
  obtain ⟨n105, n106⟩ := and_e n104
  obtain ⟨n107, n108⟩ := and_e n106
  obtain ⟨n109, n110⟩ := and_e n108
  obtain ⟨n111, n112⟩ := and_e n110
  obtain ⟨n113, n114⟩ := and_e n112
  obtain ⟨a_FICA_ALTERNATIVE_ANNUITY, ea_FICA_ALTERNATIVE_ANNUITY⟩ := exa_v n5
  have S_FICA_ALTERNATIVE_ANNUITY : Sta s s.heap "com/example/ledgerhall/ledgerhall/DeductionType" "FICA_ALTERNATIVE_ANNUITY" "Lcom/example/ledgerhall/ledgerhall/DeductionType;" (.ref a_FICA_ALTERNATIVE_ANNUITY) := Sta.start ea_FICA_ALTERNATIVE_ANNUITY (Or.inr ⟨(hw _ (List.mem_of_getElem? (i := 3) rfl)), (hw _ (List.mem_of_getElem? (i := 4) rfl))⟩)
  have E_FICA_ALTERNATIVE_ANNUITY : Exa s s.heap a_FICA_ALTERNATIVE_ANNUITY "com/example/ledgerhall/ledgerhall/DeductionType" := Exa.start ea_FICA_ALTERNATIVE_ANNUITY n5
  obtain ⟨a_TRS_HEALTH_INSURANCE, ea_TRS_HEALTH_INSURANCE⟩ := exa_v n7
  have S_TRS_HEALTH_INSURANCE : Sta s s.heap "com/example/ledgerhall/ledgerhall/DeductionType" "TRS_HEALTH_INSURANCE" "Lcom/example/ledgerhall/ledgerhall/DeductionType;" (.ref a_TRS_HEALTH_INSURANCE) := Sta.start ea_TRS_HEALTH_INSURANCE (Or.inr ⟨(hw _ (List.mem_of_getElem? (i := 3) rfl)), (hw _ (List.mem_of_getElem? (i := 7) rfl))⟩)
  have E_TRS_HEALTH_INSURANCE : Exa s s.heap a_TRS_HEALTH_INSURANCE "com/example/ledgerhall/ledgerhall/DeductionType" := Exa.start ea_TRS_HEALTH_INSURANCE n7
  obtain ⟨a_ANNUITY, ea_ANNUITY⟩ := exa_v n9
  have S_ANNUITY : Sta s s.heap "com/example/ledgerhall/ledgerhall/DeductionType" "ANNUITY" "Lcom/example/ledgerhall/ledgerhall/DeductionType;" (.ref a_ANNUITY) := Sta.start ea_ANNUITY (Or.inr ⟨(hw _ (List.mem_of_getElem? (i := 3) rfl)), (hw _ (List.mem_of_getElem? (i := 9) rfl))⟩)
  have E_ANNUITY : Exa s s.heap a_ANNUITY "com/example/ledgerhall/ledgerhall/DeductionType" := Exa.start ea_ANNUITY n9
  obtain ⟨a_CREDIT_UNION, ea_CREDIT_UNION⟩ := exa_v n11
  have S_CREDIT_UNION : Sta s s.heap "com/example/ledgerhall/ledgerhall/DeductionType" "CREDIT_UNION" "Lcom/example/ledgerhall/ledgerhall/DeductionType;" (.ref a_CREDIT_UNION) := Sta.start ea_CREDIT_UNION (Or.inr ⟨(hw _ (List.mem_of_getElem? (i := 3) rfl)), (hw _ (List.mem_of_getElem? (i := 11) rfl))⟩)
  have E_CREDIT_UNION : Exa s s.heap a_CREDIT_UNION "com/example/ledgerhall/ledgerhall/DeductionType" := Exa.start ea_CREDIT_UNION n11
  obtain ⟨a_DEFERRED_COMPENSATION, ea_DEFERRED_COMPENSATION⟩ := exa_v n13
  have S_DEFERRED_COMPENSATION : Sta s s.heap "com/example/ledgerhall/ledgerhall/DeductionType" "DEFERRED_COMPENSATION" "Lcom/example/ledgerhall/ledgerhall/DeductionType;" (.ref a_DEFERRED_COMPENSATION) := Sta.start ea_DEFERRED_COMPENSATION (Or.inr ⟨(hw _ (List.mem_of_getElem? (i := 3) rfl)), (hw _ (List.mem_of_getElem? (i := 13) rfl))⟩)
  have E_DEFERRED_COMPENSATION : Exa s s.heap a_DEFERRED_COMPENSATION "com/example/ledgerhall/ledgerhall/DeductionType" := Exa.start ea_DEFERRED_COMPENSATION n13
  obtain ⟨a_DEFERRED_COMPENSATION_LUMP, ea_DEFERRED_COMPENSATION_LUMP⟩ := exa_v n15
  have S_DEFERRED_COMPENSATION_LUMP : Sta s s.heap "com/example/ledgerhall/ledgerhall/DeductionType" "DEFERRED_COMPENSATION_LUMP" "Lcom/example/ledgerhall/ledgerhall/DeductionType;" (.ref a_DEFERRED_COMPENSATION_LUMP) := Sta.start ea_DEFERRED_COMPENSATION_LUMP (Or.inr ⟨(hw _ (List.mem_of_getElem? (i := 3) rfl)), (hw _ (List.mem_of_getElem? (i := 15) rfl))⟩)
  have E_DEFERRED_COMPENSATION_LUMP : Exa s s.heap a_DEFERRED_COMPENSATION_LUMP "com/example/ledgerhall/ledgerhall/DeductionType" := Exa.start ea_DEFERRED_COMPENSATION_LUMP n15
  obtain ⟨a_DEPENDENT_CARE, ea_DEPENDENT_CARE⟩ := exa_v n17
  have S_DEPENDENT_CARE : Sta s s.heap "com/example/ledgerhall/ledgerhall/DeductionType" "DEPENDENT_CARE" "Lcom/example/ledgerhall/ledgerhall/DeductionType;" (.ref a_DEPENDENT_CARE) := Sta.start ea_DEPENDENT_CARE (Or.inr ⟨(hw _ (List.mem_of_getElem? (i := 3) rfl)), (hw _ (List.mem_of_getElem? (i := 17) rfl))⟩)
  have E_DEPENDENT_CARE : Exa s s.heap a_DEPENDENT_CARE "com/example/ledgerhall/ledgerhall/DeductionType" := Exa.start ea_DEPENDENT_CARE n17
  obtain ⟨a_HEALTH_INSURANCE, ea_HEALTH_INSURANCE⟩ := exa_v n19
  have S_HEALTH_INSURANCE : Sta s s.heap "com/example/ledgerhall/ledgerhall/DeductionType" "HEALTH_INSURANCE" "Lcom/example/ledgerhall/ledgerhall/DeductionType;" (.ref a_HEALTH_INSURANCE) := Sta.start ea_HEALTH_INSURANCE (Or.inr ⟨(hw _ (List.mem_of_getElem? (i := 3) rfl)), (hw _ (List.mem_of_getElem? (i := 19) rfl))⟩)
  have E_HEALTH_INSURANCE : Exa s s.heap a_HEALTH_INSURANCE "com/example/ledgerhall/ledgerhall/DeductionType" := Exa.start ea_HEALTH_INSURANCE n19
  obtain ⟨a_HEALTH_SAVINGS, ea_HEALTH_SAVINGS⟩ := exa_v n21
  have S_HEALTH_SAVINGS : Sta s s.heap "com/example/ledgerhall/ledgerhall/DeductionType" "HEALTH_SAVINGS" "Lcom/example/ledgerhall/ledgerhall/DeductionType;" (.ref a_HEALTH_SAVINGS) := Sta.start ea_HEALTH_SAVINGS (Or.inr ⟨(hw _ (List.mem_of_getElem? (i := 3) rfl)), (hw _ (List.mem_of_getElem? (i := 21) rfl))⟩)
  have E_HEALTH_SAVINGS : Exa s s.heap a_HEALTH_SAVINGS "com/example/ledgerhall/ledgerhall/DeductionType" := Exa.start ea_HEALTH_SAVINGS n21
  obtain ⟨a_INCOME_REPLACEMENT, ea_INCOME_REPLACEMENT⟩ := exa_v n23
  have S_INCOME_REPLACEMENT : Sta s s.heap "com/example/ledgerhall/ledgerhall/DeductionType" "INCOME_REPLACEMENT" "Lcom/example/ledgerhall/ledgerhall/DeductionType;" (.ref a_INCOME_REPLACEMENT) := Sta.start ea_INCOME_REPLACEMENT (Or.inr ⟨(hw _ (List.mem_of_getElem? (i := 3) rfl)), (hw _ (List.mem_of_getElem? (i := 23) rfl))⟩)
  have E_INCOME_REPLACEMENT : Exa s s.heap a_INCOME_REPLACEMENT "com/example/ledgerhall/ledgerhall/DeductionType" := Exa.start ea_INCOME_REPLACEMENT n23
  obtain ⟨a_LIFE_INSURANCE, ea_LIFE_INSURANCE⟩ := exa_v n25
  have S_LIFE_INSURANCE : Sta s s.heap "com/example/ledgerhall/ledgerhall/DeductionType" "LIFE_INSURANCE" "Lcom/example/ledgerhall/ledgerhall/DeductionType;" (.ref a_LIFE_INSURANCE) := Sta.start ea_LIFE_INSURANCE (Or.inr ⟨(hw _ (List.mem_of_getElem? (i := 3) rfl)), (hw _ (List.mem_of_getElem? (i := 25) rfl))⟩)
  have E_LIFE_INSURANCE : Exa s s.heap a_LIFE_INSURANCE "com/example/ledgerhall/ledgerhall/DeductionType" := Exa.start ea_LIFE_INSURANCE n25
  obtain ⟨a_MISCELLANEOUS_1, ea_MISCELLANEOUS_1⟩ := exa_v n27
  have S_MISCELLANEOUS_1 : Sta s s.heap "com/example/ledgerhall/ledgerhall/DeductionType" "MISCELLANEOUS_1" "Lcom/example/ledgerhall/ledgerhall/DeductionType;" (.ref a_MISCELLANEOUS_1) := Sta.start ea_MISCELLANEOUS_1 (Or.inr ⟨(hw _ (List.mem_of_getElem? (i := 3) rfl)), (hw _ (List.mem_of_getElem? (i := 27) rfl))⟩)
  have E_MISCELLANEOUS_1 : Exa s s.heap a_MISCELLANEOUS_1 "com/example/ledgerhall/ledgerhall/DeductionType" := Exa.start ea_MISCELLANEOUS_1 n27
  obtain ⟨a_MISCELLANEOUS_2, ea_MISCELLANEOUS_2⟩ := exa_v n29
  have S_MISCELLANEOUS_2 : Sta s s.heap "com/example/ledgerhall/ledgerhall/DeductionType" "MISCELLANEOUS_2" "Lcom/example/ledgerhall/ledgerhall/DeductionType;" (.ref a_MISCELLANEOUS_2) := Sta.start ea_MISCELLANEOUS_2 (Or.inr ⟨(hw _ (List.mem_of_getElem? (i := 3) rfl)), (hw _ (List.mem_of_getElem? (i := 29) rfl))⟩)
  have E_MISCELLANEOUS_2 : Exa s s.heap a_MISCELLANEOUS_2 "com/example/ledgerhall/ledgerhall/DeductionType" := Exa.start ea_MISCELLANEOUS_2 n29
  obtain ⟨a_MISCELLANEOUS_3, ea_MISCELLANEOUS_3⟩ := exa_v n31
  have S_MISCELLANEOUS_3 : Sta s s.heap "com/example/ledgerhall/ledgerhall/DeductionType" "MISCELLANEOUS_3" "Lcom/example/ledgerhall/ledgerhall/DeductionType;" (.ref a_MISCELLANEOUS_3) := Sta.start ea_MISCELLANEOUS_3 (Or.inr ⟨(hw _ (List.mem_of_getElem? (i := 3) rfl)), (hw _ (List.mem_of_getElem? (i := 31) rfl))⟩)
  have E_MISCELLANEOUS_3 : Exa s s.heap a_MISCELLANEOUS_3 "com/example/ledgerhall/ledgerhall/DeductionType" := Exa.start ea_MISCELLANEOUS_3 n31
  obtain ⟨a_ROTH_403B, ea_ROTH_403B⟩ := exa_v n33
  have S_ROTH_403B : Sta s s.heap "com/example/ledgerhall/ledgerhall/DeductionType" "ROTH_403B" "Lcom/example/ledgerhall/ledgerhall/DeductionType;" (.ref a_ROTH_403B) := Sta.start ea_ROTH_403B (Or.inr ⟨(hw _ (List.mem_of_getElem? (i := 3) rfl)), (hw _ (List.mem_of_getElem? (i := 33) rfl))⟩)
  have E_ROTH_403B : Exa s s.heap a_ROTH_403B "com/example/ledgerhall/ledgerhall/DeductionType" := Exa.start ea_ROTH_403B n33
  obtain ⟨a_ROTH_457B, ea_ROTH_457B⟩ := exa_v n35
  have S_ROTH_457B : Sta s s.heap "com/example/ledgerhall/ledgerhall/DeductionType" "ROTH_457B" "Lcom/example/ledgerhall/ledgerhall/DeductionType;" (.ref a_ROTH_457B) := Sta.start ea_ROTH_457B (Or.inr ⟨(hw _ (List.mem_of_getElem? (i := 3) rfl)), (hw _ (List.mem_of_getElem? (i := 35) rfl))⟩)
  have E_ROTH_457B : Exa s s.heap a_ROTH_457B "com/example/ledgerhall/ledgerhall/DeductionType" := Exa.start ea_ROTH_457B n35
  obtain ⟨a_RETIREE_TRS_CARE, ea_RETIREE_TRS_CARE⟩ := exa_v n37
  have S_RETIREE_TRS_CARE : Sta s s.heap "com/example/ledgerhall/ledgerhall/DeductionType" "RETIREE_TRS_CARE" "Lcom/example/ledgerhall/ledgerhall/DeductionType;" (.ref a_RETIREE_TRS_CARE) := Sta.start ea_RETIREE_TRS_CARE (Or.inr ⟨(hw _ (List.mem_of_getElem? (i := 3) rfl)), (hw _ (List.mem_of_getElem? (i := 37) rfl))⟩)
  have E_RETIREE_TRS_CARE : Exa s s.heap a_RETIREE_TRS_CARE "com/example/ledgerhall/ledgerhall/DeductionType" := Exa.start ea_RETIREE_TRS_CARE n37
  obtain ⟨a_SAVINGS_BOND, ea_SAVINGS_BOND⟩ := exa_v n39
  have S_SAVINGS_BOND : Sta s s.heap "com/example/ledgerhall/ledgerhall/DeductionType" "SAVINGS_BOND" "Lcom/example/ledgerhall/ledgerhall/DeductionType;" (.ref a_SAVINGS_BOND) := Sta.start ea_SAVINGS_BOND (Or.inr ⟨(hw _ (List.mem_of_getElem? (i := 3) rfl)), (hw _ (List.mem_of_getElem? (i := 39) rfl))⟩)
  have E_SAVINGS_BOND : Exa s s.heap a_SAVINGS_BOND "com/example/ledgerhall/ledgerhall/DeductionType" := Exa.start ea_SAVINGS_BOND n39
  obtain ⟨a_WHOLE_LIFE_CONTRIBUTION, ea_WHOLE_LIFE_CONTRIBUTION⟩ := exa_v n41
  have S_WHOLE_LIFE_CONTRIBUTION : Sta s s.heap "com/example/ledgerhall/ledgerhall/DeductionType" "WHOLE_LIFE_CONTRIBUTION" "Lcom/example/ledgerhall/ledgerhall/DeductionType;" (.ref a_WHOLE_LIFE_CONTRIBUTION) := Sta.start ea_WHOLE_LIFE_CONTRIBUTION (Or.inr ⟨(hw _ (List.mem_of_getElem? (i := 3) rfl)), (hw _ (List.mem_of_getElem? (i := 41) rfl))⟩)
  have E_WHOLE_LIFE_CONTRIBUTION : Exa s s.heap a_WHOLE_LIFE_CONTRIBUTION "com/example/ledgerhall/ledgerhall/DeductionType" := Exa.start ea_WHOLE_LIFE_CONTRIBUTION n41
  obtain ⟨a_GROUP_LIFE_CONTRIBUTION, ea_GROUP_LIFE_CONTRIBUTION⟩ := exa_v n43
  have S_GROUP_LIFE_CONTRIBUTION : Sta s s.heap "com/example/ledgerhall/ledgerhall/DeductionType" "GROUP_LIFE_CONTRIBUTION" "Lcom/example/ledgerhall/ledgerhall/DeductionType;" (.ref a_GROUP_LIFE_CONTRIBUTION) := Sta.start ea_GROUP_LIFE_CONTRIBUTION (Or.inr ⟨(hw _ (List.mem_of_getElem? (i := 3) rfl)), (hw _ (List.mem_of_getElem? (i := 43) rfl))⟩)
  have E_GROUP_LIFE_CONTRIBUTION : Exa s s.heap a_GROUP_LIFE_CONTRIBUTION "com/example/ledgerhall/ledgerhall/DeductionType" := Exa.start ea_GROUP_LIFE_CONTRIBUTION n43
  obtain ⟨a_TRS_SERVICE_BUY_BACK, ea_TRS_SERVICE_BUY_BACK⟩ := exa_v n45
  have S_TRS_SERVICE_BUY_BACK : Sta s s.heap "com/example/ledgerhall/ledgerhall/DeductionType" "TRS_SERVICE_BUY_BACK" "Lcom/example/ledgerhall/ledgerhall/DeductionType;" (.ref a_TRS_SERVICE_BUY_BACK) := Sta.start ea_TRS_SERVICE_BUY_BACK (Or.inr ⟨(hw _ (List.mem_of_getElem? (i := 3) rfl)), (hw _ (List.mem_of_getElem? (i := 45) rfl))⟩)
  have E_TRS_SERVICE_BUY_BACK : Exa s s.heap a_TRS_SERVICE_BUY_BACK "com/example/ledgerhall/ledgerhall/DeductionType" := Exa.start ea_TRS_SERVICE_BUY_BACK n45
  obtain ⟨a_TSTA_DUES, ea_TSTA_DUES⟩ := exa_v n47
  have S_TSTA_DUES : Sta s s.heap "com/example/ledgerhall/ledgerhall/DeductionType" "TSTA_DUES" "Lcom/example/ledgerhall/ledgerhall/DeductionType;" (.ref a_TSTA_DUES) := Sta.start ea_TSTA_DUES (Or.inr ⟨(hw _ (List.mem_of_getElem? (i := 3) rfl)), (hw _ (List.mem_of_getElem? (i := 47) rfl))⟩)
  have E_TSTA_DUES : Exa s s.heap a_TSTA_DUES "com/example/ledgerhall/ledgerhall/DeductionType" := Exa.start ea_TSTA_DUES n47
  obtain ⟨a_UNION_DUES, ea_UNION_DUES⟩ := exa_v n49
  have S_UNION_DUES : Sta s s.heap "com/example/ledgerhall/ledgerhall/DeductionType" "UNION_DUES" "Lcom/example/ledgerhall/ledgerhall/DeductionType;" (.ref a_UNION_DUES) := Sta.start ea_UNION_DUES (Or.inr ⟨(hw _ (List.mem_of_getElem? (i := 3) rfl)), (hw _ (List.mem_of_getElem? (i := 49) rfl))⟩)
  have E_UNION_DUES : Exa s s.heap a_UNION_DUES "com/example/ledgerhall/ledgerhall/DeductionType" := Exa.start ea_UNION_DUES n49
  obtain ⟨a_UNITED_FUND, ea_UNITED_FUND⟩ := exa_v n51
  have S_UNITED_FUND : Sta s s.heap "com/example/ledgerhall/ledgerhall/DeductionType" "UNITED_FUND" "Lcom/example/ledgerhall/ledgerhall/DeductionType;" (.ref a_UNITED_FUND) := Sta.start ea_UNITED_FUND (Or.inr ⟨(hw _ (List.mem_of_getElem? (i := 3) rfl)), (hw _ (List.mem_of_getElem? (i := 51) rfl))⟩)
  have E_UNITED_FUND : Exa s s.heap a_UNITED_FUND "com/example/ledgerhall/ledgerhall/DeductionType" := Exa.start ea_UNITED_FUND n51
  obtain ⟨a_ADDITIONAL_WITHHOLDING, ea_ADDITIONAL_WITHHOLDING⟩ := exa_v n53
  have S_ADDITIONAL_WITHHOLDING : Sta s s.heap "com/example/ledgerhall/ledgerhall/DeductionType" "ADDITIONAL_WITHHOLDING" "Lcom/example/ledgerhall/ledgerhall/DeductionType;" (.ref a_ADDITIONAL_WITHHOLDING) := Sta.start ea_ADDITIONAL_WITHHOLDING (Or.inr ⟨(hw _ (List.mem_of_getElem? (i := 3) rfl)), (hw _ (List.mem_of_getElem? (i := 53) rfl))⟩)
  have E_ADDITIONAL_WITHHOLDING : Exa s s.heap a_ADDITIONAL_WITHHOLDING "com/example/ledgerhall/ledgerhall/DeductionType" := Exa.start ea_ADDITIONAL_WITHHOLDING n53
  obtain ⟨a_NEVER, ea_NEVER⟩ := exa_v n55
  have S_NEVER : Sta s s.heap "com/example/ledgerhall/ledgerhall/DeductionType$Cafe125" "NEVER" "Lcom/example/ledgerhall/ledgerhall/DeductionType$Cafe125;" (.ref a_NEVER) := Sta.start ea_NEVER (Or.inr ⟨(hw _ (List.mem_of_getElem? (i := 62) rfl)), (hw _ (List.mem_of_getElem? (i := 63) rfl))⟩)
  have E_NEVER : Exa s s.heap a_NEVER "com/example/ledgerhall/ledgerhall/DeductionType$Cafe125" := Exa.start ea_NEVER n55
  obtain ⟨a_ALLOWED, ea_ALLOWED⟩ := exa_v n59
  have S_ALLOWED : Sta s s.heap "com/example/ledgerhall/ledgerhall/DeductionType$Cafe125" "ALLOWED" "Lcom/example/ledgerhall/ledgerhall/DeductionType$Cafe125;" (.ref a_ALLOWED) := Sta.start ea_ALLOWED (Or.inr ⟨(hw _ (List.mem_of_getElem? (i := 62) rfl)), (hw _ (List.mem_of_getElem? (i := 65) rfl))⟩)
  have E_ALLOWED : Exa s s.heap a_ALLOWED "com/example/ledgerhall/ledgerhall/DeductionType$Cafe125" := Exa.start ea_ALLOWED n59
  obtain ⟨a_ALWAYS, ea_ALWAYS⟩ := exa_v n65
  have S_ALWAYS : Sta s s.heap "com/example/ledgerhall/ledgerhall/DeductionType$Cafe125" "ALWAYS" "Lcom/example/ledgerhall/ledgerhall/DeductionType$Cafe125;" (.ref a_ALWAYS) := Sta.start ea_ALWAYS (Or.inr ⟨(hw _ (List.mem_of_getElem? (i := 62) rfl)), (hw _ (List.mem_of_getElem? (i := 74) rfl))⟩)
  have E_ALWAYS : Exa s s.heap a_ALWAYS "com/example/ledgerhall/ledgerhall/DeductionType$Cafe125" := Exa.start ea_ALWAYS n65
  have F_NEVER_ordinal : Fld s s.heap a_NEVER "java/lang/Enum" "ordinal" "I" (.int (1 : Int32)) := Fld.start ((fld_at ea_NEVER).symm.trans (eqv_i (Term.int_eval (1)) n61))
  have F_ALLOWED_ordinal : Fld s s.heap a_ALLOWED "java/lang/Enum" "ordinal" "I" (.int (0 : Int32)) := Fld.start ((fld_at ea_ALLOWED).symm.trans (eqv_i (Term.int_eval (0)) n63))
  have F_ALWAYS_ordinal : Fld s s.heap a_ALWAYS "java/lang/Enum" "ordinal" "I" (.int (2 : Int32)) := Fld.start ((fld_at ea_ALWAYS).symm.trans (eqv_i (Term.int_eval (2)) n67))
  have F_FICA_ALTERNATIVE_ANNUITY_cafe125 : Fld s s.heap a_FICA_ALTERNATIVE_ANNUITY "com/example/ledgerhall/ledgerhall/DeductionType" "cafe125" "Lcom/example/ledgerhall/ledgerhall/DeductionType$Cafe125;" (.ref a_NEVER) := Fld.start ((fld_at ea_FICA_ALTERNATIVE_ANNUITY).symm.trans (own_eqr ea_NEVER n57))
  have F_ROTH_403B_cafe125 : Fld s s.heap a_ROTH_403B "com/example/ledgerhall/ledgerhall/DeductionType" "cafe125" "Lcom/example/ledgerhall/ledgerhall/DeductionType$Cafe125;" (.ref a_NEVER) := Fld.start ((fld_at ea_ROTH_403B).symm.trans (own_eqr ea_NEVER n69))
  have F_HEALTH_SAVINGS_cafe125 : Fld s s.heap a_HEALTH_SAVINGS "com/example/ledgerhall/ledgerhall/DeductionType" "cafe125" "Lcom/example/ledgerhall/ledgerhall/DeductionType$Cafe125;" (.ref a_ALLOWED) := Fld.start ((fld_at ea_HEALTH_SAVINGS).symm.trans (own_eqr ea_ALLOWED n71))
  have F_DEPENDENT_CARE_cafe125 : Fld s s.heap a_DEPENDENT_CARE "com/example/ledgerhall/ledgerhall/DeductionType" "cafe125" "Lcom/example/ledgerhall/ledgerhall/DeductionType$Cafe125;" (.ref a_ALWAYS) := Fld.start ((fld_at ea_DEPENDENT_CARE).symm.trans (own_eqr ea_ALWAYS n73))
  have F_DEFERRED_COMPENSATION_cafe125 : Fld s s.heap a_DEFERRED_COMPENSATION "com/example/ledgerhall/ledgerhall/DeductionType" "cafe125" "Lcom/example/ledgerhall/ledgerhall/DeductionType$Cafe125;" (.ref a_NEVER) := Fld.start ((fld_at ea_DEFERRED_COMPENSATION).symm.trans (own_eqr ea_NEVER n75))
  have F_MISCELLANEOUS_2_cafe125 : Fld s s.heap a_MISCELLANEOUS_2 "com/example/ledgerhall/ledgerhall/DeductionType" "cafe125" "Lcom/example/ledgerhall/ledgerhall/DeductionType$Cafe125;" (.ref a_ALLOWED) := Fld.start ((fld_at ea_MISCELLANEOUS_2).symm.trans (own_eqr ea_ALLOWED n77))
  have F_GROUP_LIFE_CONTRIBUTION_cafe125 : Fld s s.heap a_GROUP_LIFE_CONTRIBUTION "com/example/ledgerhall/ledgerhall/DeductionType" "cafe125" "Lcom/example/ledgerhall/ledgerhall/DeductionType$Cafe125;" (.ref a_ALLOWED) := Fld.start ((fld_at ea_GROUP_LIFE_CONTRIBUTION).symm.trans (own_eqr ea_ALLOWED n79))
  have F_CREDIT_UNION_cafe125 : Fld s s.heap a_CREDIT_UNION "com/example/ledgerhall/ledgerhall/DeductionType" "cafe125" "Lcom/example/ledgerhall/ledgerhall/DeductionType$Cafe125;" (.ref a_NEVER) := Fld.start ((fld_at ea_CREDIT_UNION).symm.trans (own_eqr ea_NEVER n81))
  have F_INCOME_REPLACEMENT_cafe125 : Fld s s.heap a_INCOME_REPLACEMENT "com/example/ledgerhall/ledgerhall/DeductionType" "cafe125" "Lcom/example/ledgerhall/ledgerhall/DeductionType$Cafe125;" (.ref a_ALLOWED) := Fld.start ((fld_at ea_INCOME_REPLACEMENT).symm.trans (own_eqr ea_ALLOWED n83))
  have F_TSTA_DUES_cafe125 : Fld s s.heap a_TSTA_DUES "com/example/ledgerhall/ledgerhall/DeductionType" "cafe125" "Lcom/example/ledgerhall/ledgerhall/DeductionType$Cafe125;" (.ref a_NEVER) := Fld.start ((fld_at ea_TSTA_DUES).symm.trans (own_eqr ea_NEVER n85))
  have F_ROTH_457B_cafe125 : Fld s s.heap a_ROTH_457B "com/example/ledgerhall/ledgerhall/DeductionType" "cafe125" "Lcom/example/ledgerhall/ledgerhall/DeductionType$Cafe125;" (.ref a_NEVER) := Fld.start ((fld_at ea_ROTH_457B).symm.trans (own_eqr ea_NEVER n87))
  have F_UNION_DUES_cafe125 : Fld s s.heap a_UNION_DUES "com/example/ledgerhall/ledgerhall/DeductionType" "cafe125" "Lcom/example/ledgerhall/ledgerhall/DeductionType$Cafe125;" (.ref a_NEVER) := Fld.start ((fld_at ea_UNION_DUES).symm.trans (own_eqr ea_NEVER n89))
  have F_TRS_HEALTH_INSURANCE_cafe125 : Fld s s.heap a_TRS_HEALTH_INSURANCE "com/example/ledgerhall/ledgerhall/DeductionType" "cafe125" "Lcom/example/ledgerhall/ledgerhall/DeductionType$Cafe125;" (.ref a_ALLOWED) := Fld.start ((fld_at ea_TRS_HEALTH_INSURANCE).symm.trans (own_eqr ea_ALLOWED n91))
  have F_ANNUITY_cafe125 : Fld s s.heap a_ANNUITY "com/example/ledgerhall/ledgerhall/DeductionType" "cafe125" "Lcom/example/ledgerhall/ledgerhall/DeductionType$Cafe125;" (.ref a_NEVER) := Fld.start ((fld_at ea_ANNUITY).symm.trans (own_eqr ea_NEVER n93))
  have F_TRS_SERVICE_BUY_BACK_cafe125 : Fld s s.heap a_TRS_SERVICE_BUY_BACK "com/example/ledgerhall/ledgerhall/DeductionType" "cafe125" "Lcom/example/ledgerhall/ledgerhall/DeductionType$Cafe125;" (.ref a_NEVER) := Fld.start ((fld_at ea_TRS_SERVICE_BUY_BACK).symm.trans (own_eqr ea_NEVER n95))
  have F_SAVINGS_BOND_cafe125 : Fld s s.heap a_SAVINGS_BOND "com/example/ledgerhall/ledgerhall/DeductionType" "cafe125" "Lcom/example/ledgerhall/ledgerhall/DeductionType$Cafe125;" (.ref a_NEVER) := Fld.start ((fld_at ea_SAVINGS_BOND).symm.trans (own_eqr ea_NEVER n97))
  have F_ADDITIONAL_WITHHOLDING_cafe125 : Fld s s.heap a_ADDITIONAL_WITHHOLDING "com/example/ledgerhall/ledgerhall/DeductionType" "cafe125" "Lcom/example/ledgerhall/ledgerhall/DeductionType$Cafe125;" (.ref a_NEVER) := Fld.start ((fld_at ea_ADDITIONAL_WITHHOLDING).symm.trans (own_eqr ea_NEVER n99))
  have F_LIFE_INSURANCE_cafe125 : Fld s s.heap a_LIFE_INSURANCE "com/example/ledgerhall/ledgerhall/DeductionType" "cafe125" "Lcom/example/ledgerhall/ledgerhall/DeductionType$Cafe125;" (.ref a_ALLOWED) := Fld.start ((fld_at ea_LIFE_INSURANCE).symm.trans (own_eqr ea_ALLOWED n101))
  have F_MISCELLANEOUS_1_cafe125 : Fld s s.heap a_MISCELLANEOUS_1 "com/example/ledgerhall/ledgerhall/DeductionType" "cafe125" "Lcom/example/ledgerhall/ledgerhall/DeductionType$Cafe125;" (.ref a_ALLOWED) := Fld.start ((fld_at ea_MISCELLANEOUS_1).symm.trans (own_eqr ea_ALLOWED n103))
  have F_DEFERRED_COMPENSATION_LUMP_cafe125 : Fld s s.heap a_DEFERRED_COMPENSATION_LUMP "com/example/ledgerhall/ledgerhall/DeductionType" "cafe125" "Lcom/example/ledgerhall/ledgerhall/DeductionType$Cafe125;" (.ref a_NEVER) := Fld.start ((fld_at ea_DEFERRED_COMPENSATION_LUMP).symm.trans (own_eqr ea_NEVER n105))
  have F_RETIREE_TRS_CARE_cafe125 : Fld s s.heap a_RETIREE_TRS_CARE "com/example/ledgerhall/ledgerhall/DeductionType" "cafe125" "Lcom/example/ledgerhall/ledgerhall/DeductionType$Cafe125;" (.ref a_NEVER) := Fld.start ((fld_at ea_RETIREE_TRS_CARE).symm.trans (own_eqr ea_NEVER n107))
  have F_HEALTH_INSURANCE_cafe125 : Fld s s.heap a_HEALTH_INSURANCE "com/example/ledgerhall/ledgerhall/DeductionType" "cafe125" "Lcom/example/ledgerhall/ledgerhall/DeductionType$Cafe125;" (.ref a_ALLOWED) := Fld.start ((fld_at ea_HEALTH_INSURANCE).symm.trans (own_eqr ea_ALLOWED n109))
  have F_WHOLE_LIFE_CONTRIBUTION_cafe125 : Fld s s.heap a_WHOLE_LIFE_CONTRIBUTION "com/example/ledgerhall/ledgerhall/DeductionType" "cafe125" "Lcom/example/ledgerhall/ledgerhall/DeductionType$Cafe125;" (.ref a_ALLOWED) := Fld.start ((fld_at ea_WHOLE_LIFE_CONTRIBUTION).symm.trans (own_eqr ea_ALLOWED n111))
  have F_MISCELLANEOUS_3_cafe125 : Fld s s.heap a_MISCELLANEOUS_3 "com/example/ledgerhall/ledgerhall/DeductionType" "cafe125" "Lcom/example/ledgerhall/ledgerhall/DeductionType$Cafe125;" (.ref a_ALLOWED) := Fld.start ((fld_at ea_MISCELLANEOUS_3).symm.trans (own_eqr ea_ALLOWED n113))
  have F_UNITED_FUND_cafe125 : Fld s s.heap a_UNITED_FUND "com/example/ledgerhall/ledgerhall/DeductionType" "cafe125" "Lcom/example/ledgerhall/ledgerhall/DeductionType$Cafe125;" (.ref a_NEVER) := Fld.start ((fld_at ea_UNITED_FUND).symm.trans (own_eqr ea_NEVER n114))
  obtain ⟨n, o, h1, h2, h3, _, L, rfl, ⟨rfl, N⟩, hq⟩ := rm0 l s _ hw tables_1 i0 i1 a_FICA_ALTERNATIVE_ANNUITY a_TRS_HEALTH_INSURANCE a_ANNUITY a_CREDIT_UNION a_DEFERRED_COMPENSATION a_DEFERRED_COMPENSATION_LUMP a_DEPENDENT_CARE a_HEALTH_INSURANCE a_HEALTH_SAVINGS a_INCOME_REPLACEMENT a_LIFE_INSURANCE a_MISCELLANEOUS_1 a_MISCELLANEOUS_2 a_MISCELLANEOUS_3 a_ROTH_403B a_ROTH_457B a_RETIREE_TRS_CARE a_SAVINGS_BOND a_WHOLE_LIFE_CONTRIBUTION a_GROUP_LIFE_CONTRIBUTION a_TRS_SERVICE_BUY_BACK a_TSTA_DUES a_UNION_DUES a_UNITED_FUND a_ADDITIONAL_WITHHOLDING a_ALLOWED a_NEVER a_ALWAYS s.heap s.heap.size (Nat.le_refl _) (Old.start s) S_ALLOWED E_ALLOWED S_NEVER E_NEVER S_ALWAYS E_ALWAYS F_NEVER_ordinal F_ALLOWED_ordinal F_ALWAYS_ordinal S_FICA_ALTERNATIVE_ANNUITY E_FICA_ALTERNATIVE_ANNUITY S_TRS_HEALTH_INSURANCE E_TRS_HEALTH_INSURANCE S_ANNUITY E_ANNUITY S_CREDIT_UNION E_CREDIT_UNION S_DEFERRED_COMPENSATION E_DEFERRED_COMPENSATION S_DEFERRED_COMPENSATION_LUMP E_DEFERRED_COMPENSATION_LUMP S_DEPENDENT_CARE E_DEPENDENT_CARE S_HEALTH_INSURANCE E_HEALTH_INSURANCE S_HEALTH_SAVINGS E_HEALTH_SAVINGS S_INCOME_REPLACEMENT E_INCOME_REPLACEMENT S_LIFE_INSURANCE E_LIFE_INSURANCE S_MISCELLANEOUS_1 E_MISCELLANEOUS_1 S_MISCELLANEOUS_2 E_MISCELLANEOUS_2 S_MISCELLANEOUS_3 E_MISCELLANEOUS_3 S_ROTH_403B E_ROTH_403B S_ROTH_457B E_ROTH_457B S_RETIREE_TRS_CARE E_RETIREE_TRS_CARE S_SAVINGS_BOND E_SAVINGS_BOND S_WHOLE_LIFE_CONTRIBUTION E_WHOLE_LIFE_CONTRIBUTION S_GROUP_LIFE_CONTRIBUTION E_GROUP_LIFE_CONTRIBUTION S_TRS_SERVICE_BUY_BACK E_TRS_SERVICE_BUY_BACK S_TSTA_DUES E_TSTA_DUES S_UNION_DUES E_UNION_DUES S_UNITED_FUND E_UNITED_FUND S_ADDITIONAL_WITHHOLDING E_ADDITIONAL_WITHHOLDING F_FICA_ALTERNATIVE_ANNUITY_cafe125 F_TRS_HEALTH_INSURANCE_cafe125 F_ANNUITY_cafe125 F_CREDIT_UNION_cafe125 F_DEFERRED_COMPENSATION_cafe125 F_DEFERRED_COMPENSATION_LUMP_cafe125 F_DEPENDENT_CARE_cafe125 F_HEALTH_INSURANCE_cafe125 F_HEALTH_SAVINGS_cafe125 F_INCOME_REPLACEMENT_cafe125 F_LIFE_INSURANCE_cafe125 F_MISCELLANEOUS_1_cafe125 F_MISCELLANEOUS_2_cafe125 F_MISCELLANEOUS_3_cafe125 F_ROTH_403B_cafe125 F_ROTH_457B_cafe125 F_RETIREE_TRS_CARE_cafe125 F_SAVINGS_BOND_cafe125 F_WHOLE_LIFE_CONTRIBUTION_cafe125 F_GROUP_LIFE_CONTRIBUTION_cafe125 F_TRS_SERVICE_BUY_BACK_cafe125 F_TSTA_DUES_cafe125 F_UNION_DUES_cafe125 F_UNITED_FUND_cafe125 F_ADDITIONAL_WITHHOLDING_cafe125 p e ha hc hk s m _ below hf ((Spec.applies_iff_loose hf).mp happ).1 ⟨rfl, State.Warmed39.refl s, rfl⟩ trivial
  refine ⟨n, _, h1, h2, h3, hpost _ _ _ _ _ _ ⟨Cond.after_iff.mpr rfl, Cond.after_iff.mpr (eq_i res_at (Term.int_eval (1)) rfl), trivial⟩ ⟨hq.1, hq.2.1, (hq.2.2.sift fun y hy => Or.inr (N y hy)).mono (by decide) (by decide)⟩⟩
theorem main_1_1 : Claimed_1_1 := comes_1 fun _ _ _ _ _ _ h hF => ⟨h.1, hF⟩
theorem main_1_2 : Claimed_1_2 := comes_1 fun _ _ _ _ _ _ h hF => ⟨h.2.1, hF⟩
end Jvm.Pilot.@@N@@
namespace Jvm.Pilot.@@N@@
open Jvm Jvm.ClassFile Sem Op Lib Jvm.Free Jvm.Stand Jvm.Pilot.@@N@@.Jvm.D
/-! MADE BY PROGRAM (witnessworld.py) out of the Statement's table words and the real class files: 14 classes; the members and pool entries that the words name. The judged class is class 1, her method 1. -/
namespace start1
open Jvm.ClassFile
def u (s : String) : CpInfo := .utf8 (stringToUtf16 s)
/-- a pool by its gaps: so many unusable entries, then the entry; so many at the end -/
def gap : Nat → List CpInfo → List CpInfo
  | 0, r => r
  | n + 1, r => .unusable :: gap n r
def poolList (es : List (Nat × CpInfo)) (last : Nat) : List CpInfo := es.foldr (fun e r => gap e.1 (e.2 :: r)) (gap last [])
def pool (es : List (Nat × CpInfo)) (last : Nat) : Array CpInfo := ⟨poolList es last⟩
def fileOf (pool : Array CpInfo) (this : Nat) (attrs : Array Attribute := #[]) (ms : Array MethodInfo := #[]) (fl : Nat := 33) (sup : Nat := 0) (ifs : Array Nat := #[]) (fds : Array FieldInfo := #[]) : ClassFile where
  minorVersion := 0
  majorVersion := 65
  constantPool := pool
  accessFlags := fl
  thisClass := this
  superClass := sup
  interfaces := ifs
  fields := fds
  methods := ms
  attributes := attrs
def plain (name : String) (sup : Option ClassId) : Class where
  name := name
  kind := .ordinary
  loader := none
  accessFlags := 33
  super := sup
  interfaces := #[]
  cf := none
  fields := #[]
  methods := #[]
  instanceTypes := #[]
  staticTypes := #[]
  resolved := #[]
  callSites := []
  init := .initialized
  statics := none
  mirror := none

def pool0 : Array CpInfo := pool [(5, u "<init>"), (0, u "()V"), (1, .class_ 10), (1, u "java/lang/Object")] 113

def k0m0 : Method := { name := "<init>", desc := "()V", sig := { parameters := [], returnType := none }, accessFlags := 1, code := none }
/-- java/lang/Object -/
def k0 : Class := { plain "java/lang/Object" none with
  accessFlags := 33
  interfaces := #[]
  cf := some (fileOf pool0 8 #[] #[{ accessFlags := 1, nameIndex := 5, descriptorIndex := 6, attributes := #[] }] 33 0 #[] #[])
  fields := #[]
  methods := #[k0m0]
  instanceTypes := #[]
  staticTypes := #[]
  resolved := Array.replicate 124 none
  statics := none }

def pool1 : Array CpInfo := pool [(2, .class_ 4), (1, u "java/lang/Object"), (0, u "<init>"), (0, u "()V"), (0, .class_ 8), (0, u "com/example/ledgerhall/ledgerhall/DeductionType"), (0, .fieldref 7 10), (0, .nameAndType 11 12), (0, u "FICA_ALTERNATIVE_ANNUITY"), (0, u "Lcom/example/ledgerhall/ledgerhall/DeductionType;"), (0, .fieldref 7 14), (0, .nameAndType 15 12), (0, u "TRS_HEALTH_INSURANCE"), (0, .fieldref 7 17), (0, .nameAndType 18 12), (0, u "ANNUITY"), (0, .fieldref 7 20), (0, .nameAndType 21 12), (0, u "CREDIT_UNION"), (0, .fieldref 7 23), (0, .nameAndType 24 12), (0, u "DEFERRED_COMPENSATION"), (0, .fieldref 7 26), (0, .nameAndType 27 12), (0, u "DEFERRED_COMPENSATION_LUMP"), (0, .fieldref 7 29), (0, .nameAndType 30 12), (0, u "DEPENDENT_CARE"), (0, .fieldref 7 32), (0, .nameAndType 33 12), (0, u "HEALTH_INSURANCE"), (0, .fieldref 7 35), (0, .nameAndType 36 12), (0, u "HEALTH_SAVINGS"), (0, .fieldref 7 38), (0, .nameAndType 39 12), (0, u "INCOME_REPLACEMENT"), (0, .fieldref 7 41), (0, .nameAndType 42 12), (0, u "LIFE_INSURANCE"), (0, .fieldref 7 44), (0, .nameAndType 45 12), (0, u "MISCELLANEOUS_1"), (0, .fieldref 7 47), (0, .nameAndType 48 12), (0, u "MISCELLANEOUS_2"), (0, .fieldref 7 50), (0, .nameAndType 51 12), (0, u "MISCELLANEOUS_3"), (0, .fieldref 7 53), (0, .nameAndType 54 12), (0, u "ROTH_403B"), (0, .fieldref 7 56), (0, .nameAndType 57 12), (0, u "ROTH_457B"), (0, .fieldref 7 59), (0, .nameAndType 60 12), (0, u "RETIREE_TRS_CARE"), (0, .fieldref 7 62), (0, .nameAndType 63 12), (0, u "SAVINGS_BOND"), (0, .fieldref 7 65), (0, .nameAndType 66 12), (0, u "WHOLE_LIFE_CONTRIBUTION"), (0, .fieldref 7 68), (0, .nameAndType 69 12), (0, u "GROUP_LIFE_CONTRIBUTION"), (0, .fieldref 7 71), (0, .nameAndType 72 12), (0, u "TRS_SERVICE_BUY_BACK"), (0, .fieldref 7 74), (0, .nameAndType 75 12), (0, u "TSTA_DUES"), (0, .fieldref 7 77), (0, .nameAndType 78 12), (0, u "UNION_DUES"), (0, .fieldref 7 80), (0, .nameAndType 81 12), (0, u "UNITED_FUND"), (0, .fieldref 7 83), (0, .nameAndType 84 12), (0, u "ADDITIONAL_WITHHOLDING"), (0, .integer 2147483647), (0, .methodref 7 87), (0, .nameAndType 88 89), (0, u "cafe125"), (0, u "()Lcom/example/ledgerhall/ledgerhall/DeductionType$Cafe125;"), (0, .fieldref 91 92), (0, .class_ 93), (0, .nameAndType 94 95), (0, u "com/example/ledgerhall/ledgerhall/DeductionType$Cafe125"), (0, u "ALLOWED"), (0, u "Lcom/example/ledgerhall/ledgerhall/DeductionType$Cafe125;"), (0, .fieldref 91 97), (0, .nameAndType 98 95), (0, u "NEVER"), (0, .methodref 7 100), (0, .nameAndType 101 102), (0, u "takesCafe125"), (0, u "(Z)Z"), (0, .class_ 104), (0, u "com/example/ledgerhall/ledgerhall/DeductionTypeTakesCafe125PinLaw"), (2, u "law"), (0, u "(II)Z")] 7

def k1m0 : Method := { name := "<init>", desc := "()V", sig := { parameters := [], returnType := none }, accessFlags := 2, code := none }
def k1c1 : Code := { maxStack := 4, maxLocals := 7, code := code, exceptionTable := #[], attributes := #[] }
def k1m1 : Method := { name := "law", desc := "(II)Z", sig := { parameters := [.int, .int], returnType := some .boolean }, accessFlags := 9, code := some k1c1 }
/-- com/example/ledgerhall/ledgerhall/DeductionTypeTakesCafe125PinLaw -/
def k1 : Class := { plain "com/example/ledgerhall/ledgerhall/DeductionTypeTakesCafe125PinLaw" (some 0) with
  accessFlags := 49
  interfaces := #[]
  cf := some (fileOf pool1 103 #[] #[{ accessFlags := 2, nameIndex := 5, descriptorIndex := 6, attributes := #[] }, { accessFlags := 9, nameIndex := 107, descriptorIndex := 108, attributes := #[] }] 49 2 #[] #[])
  fields := #[]
  methods := #[k1m0, k1m1]
  instanceTypes := #[]
  staticTypes := #[]
  resolved := Array.replicate 116 none
  statics := none }

def pool2 : Array CpInfo := pool [(1, .class_ 2), (0, u "java/lang/constant/Constable"), (0, .class_ 4), (0, u "java/lang/Object")] 6

/-- java/lang/constant/Constable -/
def k2 : Class := { plain "java/lang/constant/Constable" (some 0) with
  accessFlags := 1537
  interfaces := #[]
  cf := some (fileOf pool2 1 #[] #[] 1537 3 #[] #[])
  fields := #[]
  methods := #[]
  instanceTypes := #[]
  staticTypes := #[]
  resolved := Array.replicate 11 none
  statics := none }

def pool3 : Array CpInfo := pool [(1, .class_ 2), (0, u "java/lang/Comparable"), (0, .class_ 4), (0, u "java/lang/Object")] 7

/-- java/lang/Comparable -/
def k3 : Class := { plain "java/lang/Comparable" (some 0) with
  accessFlags := 1537
  interfaces := #[]
  cf := some (fileOf pool3 1 #[] #[] 1537 3 #[] #[])
  fields := #[]
  methods := #[]
  instanceTypes := #[]
  staticTypes := #[]
  resolved := Array.replicate 12 none
  statics := none }

def pool4 : Array CpInfo := pool [(1, .class_ 2), (0, u "java/io/Serializable"), (0, .class_ 4), (0, u "java/lang/Object")] 2

/-- java/io/Serializable -/
def k4 : Class := { plain "java/io/Serializable" (some 0) with
  accessFlags := 1537
  interfaces := #[]
  cf := some (fileOf pool4 1 #[] #[] 1537 3 #[] #[])
  fields := #[]
  methods := #[]
  instanceTypes := #[]
  staticTypes := #[]
  resolved := Array.replicate 7 none
  statics := none }

def pool5 : Array CpInfo := pool [(2, .class_ 4), (1, u "java/lang/Enum"), (0, u "name"), (0, u "Ljava/lang/String;"), (2, u "ordinal"), (0, u "I"), (1, .class_ 14), (1, u "java/lang/Object"), (4, u "hash"), (86, .class_ 108), (1, u "java/lang/Enum$EnumDesc"), (2, .class_ 112), (0, u "java/lang/constant/Constable"), (0, .class_ 114), (0, u "java/lang/Comparable"), (0, .class_ 116), (0, u "java/io/Serializable")] 87

/-- java/lang/Enum -/
def k5 : Class := { plain "java/lang/Enum" (some 0) with
  accessFlags := 1057
  interfaces := #[2, 3, 4]
  cf := some (fileOf pool5 2 #[.nestMembers #[106]] #[] 1057 12 #[111, 113, 115] #[{ accessFlags := 18, nameIndex := 5, descriptorIndex := 6, attributes := #[] }, { accessFlags := 18, nameIndex := 9, descriptorIndex := 10, attributes := #[] }, { accessFlags := 2, nameIndex := 19, descriptorIndex := 10, attributes := #[] }])
  fields := #[{ name := "name", type := (.object "java/lang/String"), accessFlags := 18, slot := 0, constantValue := 0 }, { name := "ordinal", type := .int, accessFlags := 18, slot := 1, constantValue := 0 }, { name := "hash", type := .int, accessFlags := 2, slot := 2, constantValue := 0 }]
  methods := #[]
  instanceTypes := #[(.object "java/lang/String"), .int, .int]
  staticTypes := #[]
  resolved := Array.replicate 204 none
  statics := none }

def pool6 : Array CpInfo := pool [(1, .class_ 2), (0, u "com/example/ledgerhall/ledgerhall/DeductionType"), (2, u "FICA_ALTERNATIVE_ANNUITY"), (0, u "Lcom/example/ledgerhall/ledgerhall/DeductionType;"), (2, u "TRS_HEALTH_INSURANCE"), (2, u "ANNUITY"), (2, u "CREDIT_UNION"), (2, u "DEFERRED_COMPENSATION"), (2, u "DEFERRED_COMPENSATION_LUMP"), (2, u "DEPENDENT_CARE"), (2, u "HEALTH_INSURANCE"), (2, u "HEALTH_SAVINGS"), (2, u "INCOME_REPLACEMENT"), (2, u "LIFE_INSURANCE"), (2, u "MISCELLANEOUS_1"), (2, u "MISCELLANEOUS_2"), (2, u "MISCELLANEOUS_3"), (2, u "ROTH_403B"), (2, u "ROTH_457B"), (2, u "RETIREE_TRS_CARE"), (2, u "SAVINGS_BOND"), (2, u "WHOLE_LIFE_CONTRIBUTION"), (2, u "GROUP_LIFE_CONTRIBUTION"), (2, u "TRS_SERVICE_BUY_BACK"), (2, u "TSTA_DUES"), (2, u "UNION_DUES"), (2, u "UNITED_FUND"), (2, u "ADDITIONAL_WITHHOLDING"), (2, u "$VALUES"), (0, u "[Lcom/example/ledgerhall/ledgerhall/DeductionType;"), (6, .class_ 91), (1, u "java/lang/Enum"), (8, u "code"), (0, u "Ljava/lang/String;"), (2, u "description"), (2, u "object"), (2, u "w2Box"), (2, u "w2Code"), (0, .fieldref 1 115), (0, .nameAndType 116 117), (0, u "cafe125"), (0, u "Lcom/example/ledgerhall/ledgerhall/DeductionType$Cafe125;"), (0, .fieldref 119 120), (0, .class_ 121), (0, .nameAndType 122 117), (0, u "com/example/ledgerhall/ledgerhall/DeductionType$Cafe125"), (0, u "ALLOWED"), (0, .fieldref 119 124), (0, .nameAndType 125 117), (0, u "ALWAYS"), (206, u "()Lcom/example/ledgerhall/ledgerhall/DeductionType$Cafe125;"), (0, u "takesCafe125"), (0, u "(Z)Z")] 50

def k6c0 : Code := { maxStack := 1, maxLocals := 1, code := prog_13_method_9_code, exceptionTable := #[], attributes := #[] }
def k6m0 : Method := { name := "cafe125", desc := "()Lcom/example/ledgerhall/ledgerhall/DeductionType$Cafe125;", sig := { parameters := [], returnType := some (.object "com/example/ledgerhall/ledgerhall/DeductionType$Cafe125") }, accessFlags := 1, code := some k6c0 }
def k6c1 : Code := { maxStack := 3, maxLocals := 2, code := prog_13_method_10_code, exceptionTable := #[], attributes := #[] }
def k6m1 : Method := { name := "takesCafe125", desc := "(Z)Z", sig := { parameters := [.boolean], returnType := some .boolean }, accessFlags := 0, code := some k6c1 }
/-- com/example/ledgerhall/ledgerhall/DeductionType -/
def k6 : Class := { plain "com/example/ledgerhall/ledgerhall/DeductionType" (some 5) with
  accessFlags := 16432
  interfaces := #[]
  cf := some (fileOf pool6 1 #[.nestMembers #[119]] #[{ accessFlags := 1, nameIndex := 116, descriptorIndex := 332, attributes := #[] }, { accessFlags := 0, nameIndex := 333, descriptorIndex := 334, attributes := #[] }] 16432 89 #[] #[{ accessFlags := 16409, nameIndex := 5, descriptorIndex := 6, attributes := #[] }, { accessFlags := 16409, nameIndex := 9, descriptorIndex := 6, attributes := #[] }, { accessFlags := 16409, nameIndex := 12, descriptorIndex := 6, attributes := #[] }, { accessFlags := 16409, nameIndex := 15, descriptorIndex := 6, attributes := #[] }, { accessFlags := 16409, nameIndex := 18, descriptorIndex := 6, attributes := #[] }, { accessFlags := 16409, nameIndex := 21, descriptorIndex := 6, attributes := #[] }, { accessFlags := 16409, nameIndex := 24, descriptorIndex := 6, attributes := #[] }, { accessFlags := 16409, nameIndex := 27, descriptorIndex := 6, attributes := #[] }, { accessFlags := 16409, nameIndex := 30, descriptorIndex := 6, attributes := #[] }, { accessFlags := 16409, nameIndex := 33, descriptorIndex := 6, attributes := #[] }, { accessFlags := 16409, nameIndex := 36, descriptorIndex := 6, attributes := #[] }, { accessFlags := 16409, nameIndex := 39, descriptorIndex := 6, attributes := #[] }, { accessFlags := 16409, nameIndex := 42, descriptorIndex := 6, attributes := #[] }, { accessFlags := 16409, nameIndex := 45, descriptorIndex := 6, attributes := #[] }, { accessFlags := 16409, nameIndex := 48, descriptorIndex := 6, attributes := #[] }, { accessFlags := 16409, nameIndex := 51, descriptorIndex := 6, attributes := #[] }, { accessFlags := 16409, nameIndex := 54, descriptorIndex := 6, attributes := #[] }, { accessFlags := 16409, nameIndex := 57, descriptorIndex := 6, attributes := #[] }, { accessFlags := 16409, nameIndex := 60, descriptorIndex := 6, attributes := #[] }, { accessFlags := 16409, nameIndex := 63, descriptorIndex := 6, attributes := #[] }, { accessFlags := 16409, nameIndex := 66, descriptorIndex := 6, attributes := #[] }, { accessFlags := 16409, nameIndex := 69, descriptorIndex := 6, attributes := #[] }, { accessFlags := 16409, nameIndex := 72, descriptorIndex := 6, attributes := #[] }, { accessFlags := 16409, nameIndex := 75, descriptorIndex := 6, attributes := #[] }, { accessFlags := 16409, nameIndex := 78, descriptorIndex := 6, attributes := #[] }, { accessFlags := 18, nameIndex := 100, descriptorIndex := 101, attributes := #[] }, { accessFlags := 18, nameIndex := 104, descriptorIndex := 101, attributes := #[] }, { accessFlags := 18, nameIndex := 107, descriptorIndex := 101, attributes := #[] }, { accessFlags := 18, nameIndex := 110, descriptorIndex := 101, attributes := #[] }, { accessFlags := 18, nameIndex := 113, descriptorIndex := 101, attributes := #[] }, { accessFlags := 18, nameIndex := 116, descriptorIndex := 117, attributes := #[] }, { accessFlags := 4122, nameIndex := 81, descriptorIndex := 82, attributes := #[] }])
  fields := #[{ name := "FICA_ALTERNATIVE_ANNUITY", type := (.object "com/example/ledgerhall/ledgerhall/DeductionType"), accessFlags := 16409, slot := 0, constantValue := 0 }, { name := "TRS_HEALTH_INSURANCE", type := (.object "com/example/ledgerhall/ledgerhall/DeductionType"), accessFlags := 16409, slot := 1, constantValue := 0 }, { name := "ANNUITY", type := (.object "com/example/ledgerhall/ledgerhall/DeductionType"), accessFlags := 16409, slot := 2, constantValue := 0 }, { name := "CREDIT_UNION", type := (.object "com/example/ledgerhall/ledgerhall/DeductionType"), accessFlags := 16409, slot := 3, constantValue := 0 }, { name := "DEFERRED_COMPENSATION", type := (.object "com/example/ledgerhall/ledgerhall/DeductionType"), accessFlags := 16409, slot := 4, constantValue := 0 }, { name := "DEFERRED_COMPENSATION_LUMP", type := (.object "com/example/ledgerhall/ledgerhall/DeductionType"), accessFlags := 16409, slot := 5, constantValue := 0 }, { name := "DEPENDENT_CARE", type := (.object "com/example/ledgerhall/ledgerhall/DeductionType"), accessFlags := 16409, slot := 6, constantValue := 0 }, { name := "HEALTH_INSURANCE", type := (.object "com/example/ledgerhall/ledgerhall/DeductionType"), accessFlags := 16409, slot := 7, constantValue := 0 }, { name := "HEALTH_SAVINGS", type := (.object "com/example/ledgerhall/ledgerhall/DeductionType"), accessFlags := 16409, slot := 8, constantValue := 0 }, { name := "INCOME_REPLACEMENT", type := (.object "com/example/ledgerhall/ledgerhall/DeductionType"), accessFlags := 16409, slot := 9, constantValue := 0 }, { name := "LIFE_INSURANCE", type := (.object "com/example/ledgerhall/ledgerhall/DeductionType"), accessFlags := 16409, slot := 10, constantValue := 0 }, { name := "MISCELLANEOUS_1", type := (.object "com/example/ledgerhall/ledgerhall/DeductionType"), accessFlags := 16409, slot := 11, constantValue := 0 }, { name := "MISCELLANEOUS_2", type := (.object "com/example/ledgerhall/ledgerhall/DeductionType"), accessFlags := 16409, slot := 12, constantValue := 0 }, { name := "MISCELLANEOUS_3", type := (.object "com/example/ledgerhall/ledgerhall/DeductionType"), accessFlags := 16409, slot := 13, constantValue := 0 }, { name := "ROTH_403B", type := (.object "com/example/ledgerhall/ledgerhall/DeductionType"), accessFlags := 16409, slot := 14, constantValue := 0 }, { name := "ROTH_457B", type := (.object "com/example/ledgerhall/ledgerhall/DeductionType"), accessFlags := 16409, slot := 15, constantValue := 0 }, { name := "RETIREE_TRS_CARE", type := (.object "com/example/ledgerhall/ledgerhall/DeductionType"), accessFlags := 16409, slot := 16, constantValue := 0 }, { name := "SAVINGS_BOND", type := (.object "com/example/ledgerhall/ledgerhall/DeductionType"), accessFlags := 16409, slot := 17, constantValue := 0 }, { name := "WHOLE_LIFE_CONTRIBUTION", type := (.object "com/example/ledgerhall/ledgerhall/DeductionType"), accessFlags := 16409, slot := 18, constantValue := 0 }, { name := "GROUP_LIFE_CONTRIBUTION", type := (.object "com/example/ledgerhall/ledgerhall/DeductionType"), accessFlags := 16409, slot := 19, constantValue := 0 }, { name := "TRS_SERVICE_BUY_BACK", type := (.object "com/example/ledgerhall/ledgerhall/DeductionType"), accessFlags := 16409, slot := 20, constantValue := 0 }, { name := "TSTA_DUES", type := (.object "com/example/ledgerhall/ledgerhall/DeductionType"), accessFlags := 16409, slot := 21, constantValue := 0 }, { name := "UNION_DUES", type := (.object "com/example/ledgerhall/ledgerhall/DeductionType"), accessFlags := 16409, slot := 22, constantValue := 0 }, { name := "UNITED_FUND", type := (.object "com/example/ledgerhall/ledgerhall/DeductionType"), accessFlags := 16409, slot := 23, constantValue := 0 }, { name := "ADDITIONAL_WITHHOLDING", type := (.object "com/example/ledgerhall/ledgerhall/DeductionType"), accessFlags := 16409, slot := 24, constantValue := 0 }, { name := "code", type := (.object "java/lang/String"), accessFlags := 18, slot := 3, constantValue := 0 }, { name := "description", type := (.object "java/lang/String"), accessFlags := 18, slot := 4, constantValue := 0 }, { name := "object", type := (.object "java/lang/String"), accessFlags := 18, slot := 5, constantValue := 0 }, { name := "w2Box", type := (.object "java/lang/String"), accessFlags := 18, slot := 6, constantValue := 0 }, { name := "w2Code", type := (.object "java/lang/String"), accessFlags := 18, slot := 7, constantValue := 0 }, { name := "cafe125", type := (.object "com/example/ledgerhall/ledgerhall/DeductionType$Cafe125"), accessFlags := 18, slot := 8, constantValue := 0 }, { name := "$VALUES", type := (.array (.object "com/example/ledgerhall/ledgerhall/DeductionType")), accessFlags := 4122, slot := 25, constantValue := 0 }]
  methods := #[k6m0, k6m1]
  instanceTypes := #[(.object "java/lang/String"), .int, .int, (.object "java/lang/String"), (.object "java/lang/String"), (.object "java/lang/String"), (.object "java/lang/String"), (.object "java/lang/String"), (.object "com/example/ledgerhall/ledgerhall/DeductionType$Cafe125")]
  staticTypes := #[(.object "com/example/ledgerhall/ledgerhall/DeductionType"), (.object "com/example/ledgerhall/ledgerhall/DeductionType"), (.object "com/example/ledgerhall/ledgerhall/DeductionType"), (.object "com/example/ledgerhall/ledgerhall/DeductionType"), (.object "com/example/ledgerhall/ledgerhall/DeductionType"), (.object "com/example/ledgerhall/ledgerhall/DeductionType"), (.object "com/example/ledgerhall/ledgerhall/DeductionType"), (.object "com/example/ledgerhall/ledgerhall/DeductionType"), (.object "com/example/ledgerhall/ledgerhall/DeductionType"), (.object "com/example/ledgerhall/ledgerhall/DeductionType"), (.object "com/example/ledgerhall/ledgerhall/DeductionType"), (.object "com/example/ledgerhall/ledgerhall/DeductionType"), (.object "com/example/ledgerhall/ledgerhall/DeductionType"), (.object "com/example/ledgerhall/ledgerhall/DeductionType"), (.object "com/example/ledgerhall/ledgerhall/DeductionType"), (.object "com/example/ledgerhall/ledgerhall/DeductionType"), (.object "com/example/ledgerhall/ledgerhall/DeductionType"), (.object "com/example/ledgerhall/ledgerhall/DeductionType"), (.object "com/example/ledgerhall/ledgerhall/DeductionType"), (.object "com/example/ledgerhall/ledgerhall/DeductionType"), (.object "com/example/ledgerhall/ledgerhall/DeductionType"), (.object "com/example/ledgerhall/ledgerhall/DeductionType"), (.object "com/example/ledgerhall/ledgerhall/DeductionType"), (.object "com/example/ledgerhall/ledgerhall/DeductionType"), (.object "com/example/ledgerhall/ledgerhall/DeductionType"), (.array (.object "com/example/ledgerhall/ledgerhall/DeductionType"))]
  resolved := Array.replicate 385 none
  statics := some 0 }

def pool7 : Array CpInfo := pool [(1, .class_ 2), (0, u "com/example/ledgerhall/ledgerhall/DeductionType$Cafe125"), (2, u "ALLOWED"), (0, u "Lcom/example/ledgerhall/ledgerhall/DeductionType$Cafe125;"), (2, u "NEVER"), (2, u "ALWAYS"), (2, u "$VALUES"), (0, u "[Lcom/example/ledgerhall/ledgerhall/DeductionType$Cafe125;"), (6, .class_ 25), (1, u "java/lang/Enum"), (8, u "label"), (0, u "Ljava/lang/String;"), (30, .class_ 67), (0, u "com/example/ledgerhall/ledgerhall/DeductionType")] 2

/-- com/example/ledgerhall/ledgerhall/DeductionType$Cafe125 -/
def k7 : Class := { plain "com/example/ledgerhall/ledgerhall/DeductionType$Cafe125" (some 5) with
  accessFlags := 16432
  interfaces := #[]
  cf := some (fileOf pool7 1 #[.nestHost 66] #[] 16432 23 #[] #[{ accessFlags := 16409, nameIndex := 5, descriptorIndex := 6, attributes := #[] }, { accessFlags := 16409, nameIndex := 9, descriptorIndex := 6, attributes := #[] }, { accessFlags := 16409, nameIndex := 12, descriptorIndex := 6, attributes := #[] }, { accessFlags := 18, nameIndex := 34, descriptorIndex := 35, attributes := #[] }, { accessFlags := 4122, nameIndex := 15, descriptorIndex := 16, attributes := #[] }])
  fields := #[{ name := "ALLOWED", type := (.object "com/example/ledgerhall/ledgerhall/DeductionType$Cafe125"), accessFlags := 16409, slot := 0, constantValue := 0 }, { name := "NEVER", type := (.object "com/example/ledgerhall/ledgerhall/DeductionType$Cafe125"), accessFlags := 16409, slot := 1, constantValue := 0 }, { name := "ALWAYS", type := (.object "com/example/ledgerhall/ledgerhall/DeductionType$Cafe125"), accessFlags := 16409, slot := 2, constantValue := 0 }, { name := "label", type := (.object "java/lang/String"), accessFlags := 18, slot := 3, constantValue := 0 }, { name := "$VALUES", type := (.array (.object "com/example/ledgerhall/ledgerhall/DeductionType$Cafe125")), accessFlags := 4122, slot := 3, constantValue := 0 }]
  methods := #[]
  instanceTypes := #[(.object "java/lang/String"), .int, .int, (.object "java/lang/String")]
  staticTypes := #[(.object "com/example/ledgerhall/ledgerhall/DeductionType$Cafe125"), (.object "com/example/ledgerhall/ledgerhall/DeductionType$Cafe125"), (.object "com/example/ledgerhall/ledgerhall/DeductionType$Cafe125"), (.array (.object "com/example/ledgerhall/ledgerhall/DeductionType$Cafe125"))]
  resolved := Array.replicate 70 none
  statics := some 1 }

def pool8 : Array CpInfo := pool [(1, u "java/lang/Cloneable"), (0, .class_ 1), (0, u "java/lang/Object"), (0, .class_ 3)] 3

/-- java/lang/Cloneable -/
def k8 : Class := { plain "java/lang/Cloneable" (some 0) with
  accessFlags := 1537
  interfaces := #[]
  cf := some (fileOf pool8 2 #[] #[] 1537 4 #[] #[])
  fields := #[]
  methods := #[]
  instanceTypes := #[]
  staticTypes := #[]
  resolved := Array.replicate 8 none
  statics := none }

/-- the primitive byte -/
def k9 : Class := { plain "byte" none with kind := .primitive 'B', accessFlags := 0x411 }
/-- [B -/
def k10 : Class := { plain "[B" (some 0) with kind := .array 9 .byte, interfaces := #[8, 4], accessFlags := 1041 }

/-- the primitive int -/
def k11 : Class := { plain "int" none with kind := .primitive 'I', accessFlags := 0x411 }
/-- [I -/
def k12 : Class := { plain "[I" (some 0) with kind := .array 11 .int, interfaces := #[8, 4], accessFlags := 1041 }

/-- [Lcom/example/ledgerhall/ledgerhall/DeductionType; -/
def k13 : Class := { plain "[Lcom/example/ledgerhall/ledgerhall/DeductionType;" (some 0) with kind := .array 6 (.object "com/example/ledgerhall/ledgerhall/DeductionType"), interfaces := #[8, 4], accessFlags := 1041 }

def heap : Heap := #[{ cls := 6, slots := #[.ref 5, .ref 6, .ref 7, .ref 8, .ref 9, .ref 10, .ref 11, .ref 12, .ref 13, .ref 14, .ref 15, .ref 16, .ref 17, .ref 18, .ref 19, .ref 20, .ref 21, .ref 22, .ref 23, .ref 24, .ref 25, .ref 26, .ref 27, .ref 28, .ref 29, .null], vm := .statics 6 },
  { cls := 7, slots := #[.ref 2, .ref 3, .ref 4, .null], vm := .statics 7 },
  { cls := 7, slots := #[.null, .int 0, .int 0, .null], vm := .none },
  { cls := 7, slots := #[.null, .int 1, .int 0, .null], vm := .none },
  { cls := 7, slots := #[.null, .int 2, .int 0, .null], vm := .none },
  { cls := 6, slots := #[.null, .int 0, .int 0, .null, .null, .null, .null, .null, .ref 3], vm := .none },
  { cls := 6, slots := #[.null, .int 0, .int 0, .null, .null, .null, .null, .null, .ref 2], vm := .none },
  { cls := 6, slots := #[.null, .int 0, .int 0, .null, .null, .null, .null, .null, .ref 3], vm := .none },
  { cls := 6, slots := #[.null, .int 0, .int 0, .null, .null, .null, .null, .null, .ref 3], vm := .none },
  { cls := 6, slots := #[.null, .int 0, .int 0, .null, .null, .null, .null, .null, .ref 3], vm := .none },
  { cls := 6, slots := #[.null, .int 0, .int 0, .null, .null, .null, .null, .null, .ref 3], vm := .none },
  { cls := 6, slots := #[.null, .int 0, .int 0, .null, .null, .null, .null, .null, .ref 4], vm := .none },
  { cls := 6, slots := #[.null, .int 0, .int 0, .null, .null, .null, .null, .null, .ref 2], vm := .none },
  { cls := 6, slots := #[.null, .int 0, .int 0, .null, .null, .null, .null, .null, .ref 2], vm := .none },
  { cls := 6, slots := #[.null, .int 0, .int 0, .null, .null, .null, .null, .null, .ref 2], vm := .none },
  { cls := 6, slots := #[.null, .int 0, .int 0, .null, .null, .null, .null, .null, .ref 2], vm := .none },
  { cls := 6, slots := #[.null, .int 0, .int 0, .null, .null, .null, .null, .null, .ref 2], vm := .none },
  { cls := 6, slots := #[.null, .int 0, .int 0, .null, .null, .null, .null, .null, .ref 2], vm := .none },
  { cls := 6, slots := #[.null, .int 0, .int 0, .null, .null, .null, .null, .null, .ref 2], vm := .none },
  { cls := 6, slots := #[.null, .int 0, .int 0, .null, .null, .null, .null, .null, .ref 3], vm := .none },
  { cls := 6, slots := #[.null, .int 0, .int 0, .null, .null, .null, .null, .null, .ref 3], vm := .none },
  { cls := 6, slots := #[.null, .int 0, .int 0, .null, .null, .null, .null, .null, .ref 3], vm := .none },
  { cls := 6, slots := #[.null, .int 0, .int 0, .null, .null, .null, .null, .null, .ref 3], vm := .none },
  { cls := 6, slots := #[.null, .int 0, .int 0, .null, .null, .null, .null, .null, .ref 2], vm := .none },
  { cls := 6, slots := #[.null, .int 0, .int 0, .null, .null, .null, .null, .null, .ref 2], vm := .none },
  { cls := 6, slots := #[.null, .int 0, .int 0, .null, .null, .null, .null, .null, .ref 3], vm := .none },
  { cls := 6, slots := #[.null, .int 0, .int 0, .null, .null, .null, .null, .null, .ref 3], vm := .none },
  { cls := 6, slots := #[.null, .int 0, .int 0, .null, .null, .null, .null, .null, .ref 3], vm := .none },
  { cls := 6, slots := #[.null, .int 0, .int 0, .null, .null, .null, .null, .null, .ref 3], vm := .none },
  { cls := 6, slots := #[.null, .int 0, .int 0, .null, .null, .null, .null, .null, .ref 3], vm := .none }]
def classes : Array Class := #[k0, k1, k2, k3, k4, k5, k6, k7, k8, k9, k10, k11, k12, k13]
def interned : List (Array UInt16 × Addr) := []
def slotsUsed : Nat := 267
def theMethod : MethodId := ⟨1, 1⟩
def args0 : Array Value := #[.int 5, .int 3]
def aboutOver (below : List Frame) : State where
  vm := { classes := classes, interned := interned.toArray }
  heap := heap
  slotsUsed := slotsUsed
  threads := #[{ frames := .invoking theMethod args0 :: below }]
def below0 : List Frame := [.native { method := ⟨0, 0⟩, args := #[] }]
def about1 : State := aboutOver below0
def p0 : Program := .bare "" "" ""
def e0 : Env := launch0.env 0 0 0
theorem w_frames : about1.frames = Frame.invoking theMethod args0 :: below0 := rfl
set_option maxRecDepth 65536 in
theorem w_args : argsFit about1.vm theMethod args0 = true := by decide +kernel
set_option maxRecDepth 65536 in
theorem w_heap : heapFits about1 = true := by decide +kernel
set_option maxRecDepth 65536 in
theorem w_runnable : about1.curStatus? = some .runnable := by decide +kernel
set_option maxRecDepth 65536 in
theorem w_alone : about1.alone = true := by decide +kernel
set_option maxRecDepth 65536 in
theorem w_named : about1.methodNamed? x = some theMethod := by decide +kernel
set_option maxRecDepth 65536 in
theorem w_hears : about1.hears theMethod below0 = true := by decide +kernel
set_option maxRecDepth 65536 in
theorem w_ripe : about1.ripe theMethod args0 below0 = true := by decide +kernel
theorem w_running : about1.status = .running := rfl
set_option maxRecDepth 65536 in
theorem w_room : about1.hasRoom e0.platform room_1 = true :=
  launch0.hasRoom_least _ room_1 (by decide +kernel) (by decide +kernel) (by decide +kernel) (by decide +kernel) (by decide +kernel) (by decide +kernel)
theorem allAtoms_all (ts : List Jvm.Cond) (a : Array Jvm.Value) (st : Jvm.State) : (allAtoms ts).before a st = ts.all (fun c => c.before a st) := by
  induction ts with
  | nil => rfl
  | cons c t ih =>
    show (Jvm.Cond.and c (allAtoms t)).before a st = _
    rw [Jvm.Cond.before_and, ih, List.all_cons]
def words1 : List Jvm.Cond := Jvm.Cond.code x code maxLocals ret :: tables_1
/-- a 'code' word, met by the world's own term for the bytes: nothing is compared byte by byte -/
theorem code_word {y : MethodName} {bytes : ByteArray} {mx : Nat} {rt : Option FieldType} {a : Array Value} {s : State} {m : MethodId} {meth : Method} {c : Code} (h1 : s.methodNamed? y = some m) (h2 : s.vm.method? m = some meth) (h3 : meth.code = some c) (h4 : c.code = bytes)
    (h5 : (c.maxLocals == mx && c.exceptionTable.isEmpty && decide (c.maxStack ≤ mostOperands) && decide (meth.sig.returnType = rt) && !meth.locks && decide (parseMethodDescriptor y.desc = some meth.sig)) = true) : (Jvm.Cond.code y bytes mx rt).before a s = true := by
  simp only [Bool.and_eq_true, beq_iff_eq, Bool.not_eq_true', decide_eq_true_eq] at h5
  obtain ⟨⟨⟨⟨⟨g1, g2⟩, g3⟩, g4⟩, g5⟩, g6⟩ := h5
  simp [Cond.before, Cond.holds, Cond.value, h1, h2, h3, h4, g1, g2, g3, g4, g5, g6]
def isCode : Jvm.Cond → Bool
  | .code _ _ _ _ => true
  | _ => false
theorem all_split {L : List Jvm.Cond} {P : Jvm.Cond → Bool} (h1 : L.all (fun c => isCode c || P c) = true) (h2 : ∀ c ∈ L.filter isCode, P c = true) : L.all P = true := by
  refine List.all_eq_true.mpr fun c hc => ?_
  have h := List.all_eq_true.mp h1 c hc
  rcases Bool.eq_false_or_eq_true (isCode c) with hi | hi
  · exact h2 c (List.mem_filter.mpr ⟨hc, hi⟩)
  · simpa [hi] using h
set_option maxRecDepth 65536 in
theorem w_c0 : (Jvm.Cond.code x code maxLocals ret).before args0 about1 = true := code_word (m := ⟨1, 1⟩) (meth := k1m1) (c := k1c1) (by decide +kernel) rfl rfl rfl (by decide +kernel)
set_option maxRecDepth 65536 in
theorem w_c1 : (Jvm.Cond.code ({ cls := "com/example/ledgerhall/ledgerhall/DeductionType", name := "cafe125", desc := "()Lcom/example/ledgerhall/ledgerhall/DeductionType$Cafe125;" } : Jvm.MethodName) prog_13_method_9_code (1 : Nat) (Option.some (Jvm.ClassFile.FieldType.object "com/example/ledgerhall/ledgerhall/DeductionType$Cafe125"))).before args0 about1 = true := code_word (m := ⟨6, 0⟩) (meth := k6m0) (c := k6c0) (by decide +kernel) rfl rfl rfl (by decide +kernel)
set_option maxRecDepth 65536 in
theorem w_c2 : (Jvm.Cond.code ({ cls := "com/example/ledgerhall/ledgerhall/DeductionType", name := "takesCafe125", desc := "(Z)Z" } : Jvm.MethodName) prog_13_method_10_code (2 : Nat) (Option.some Jvm.ClassFile.FieldType.boolean)).before args0 about1 = true := code_word (m := ⟨6, 1⟩) (meth := k6m1) (c := k6c1) (by decide +kernel) rfl rfl rfl (by decide +kernel)
def codes1 : List Jvm.Cond := [Jvm.Cond.code x code maxLocals ret, Jvm.Cond.code ({ cls := "com/example/ledgerhall/ledgerhall/DeductionType", name := "cafe125", desc := "()Lcom/example/ledgerhall/ledgerhall/DeductionType$Cafe125;" } : Jvm.MethodName) prog_13_method_9_code (1 : Nat) (Option.some (Jvm.ClassFile.FieldType.object "com/example/ledgerhall/ledgerhall/DeductionType$Cafe125")), Jvm.Cond.code ({ cls := "com/example/ledgerhall/ledgerhall/DeductionType", name := "takesCafe125", desc := "(Z)Z" } : Jvm.MethodName) prog_13_method_10_code (2 : Nat) (Option.some Jvm.ClassFile.FieldType.boolean)]
set_option maxRecDepth 65536 in
theorem codes_eq : words1.filter isCode = codes1 := rfl
theorem w_codes : ∀ c ∈ words1.filter isCode, c.before args0 about1 = true := by
  rw [codes_eq]
  intro c hc
  simp only [codes1, List.mem_cons, List.not_mem_nil, or_false] at hc
  rcases hc with rfl | rfl | rfl
  · exact w_c0
  · exact w_c1
  · exact w_c2
set_option maxRecDepth 65536 in
theorem w_t1 : (words1.take 24).all (fun c => isCode c || c.before args0 about1) = true := by decide +kernel
set_option maxRecDepth 65536 in
theorem w_t2 : ((words1.drop 24).take 24).all (fun c => isCode c || c.before args0 about1) = true := by decide +kernel
set_option maxRecDepth 65536 in
theorem w_t3 : (((words1.drop 24).drop 24).take 24).all (fun c => isCode c || c.before args0 about1) = true := by decide +kernel
set_option maxRecDepth 65536 in
theorem w_t4 : (((words1.drop 24).drop 24).drop 24).all (fun c => isCode c || c.before args0 about1) = true := by decide +kernel
theorem w_tables : (allAtoms (Jvm.Cond.code x code maxLocals ret :: tables_1)).before args0 about1 = true := by
  rw [allAtoms_all]
  show words1.all (fun c => c.before args0 about1) = true
  refine all_split ?_ w_codes
  rw [← List.take_append_drop 24 words1, List.all_append, w_t1, ← List.take_append_drop 24 (words1.drop 24), List.all_append, w_t2, ← List.take_append_drop 24 ((words1.drop 24).drop 24), List.all_append, w_t3, w_t4]
  rfl
set_option maxRecDepth 65536 in
theorem w_case : (Jvm.Cond.and given_1 narrow_1).before args0 about1 = true := by decide +kernel
theorem w_applies : (headSpec (Jvm.Cond.code x code maxLocals ret :: tables_1) room_1).applies x e0.platform about1 = true :=
  (Spec.applies_iff w_frames).mpr ⟨w_running, w_runnable, w_alone, w_named, w_hears, w_ripe, w_room, w_tables⟩
theorem atStart : AtStart classFile x code maxLocals ret World_1 tables_1 room_1 Calls_1 rest_1 Pre_1 launch0 p0 e0 about1 theMethod args0 below0 :=
  ⟨lists_1, trivial, launch0.admits_env _ _ _, launch0.least_env, fairChoices_fair.cas, fairChoices_fair.clock, w_frames, w_args, w_heap, w_applies, trivial, trivial, w_case⟩
end start1
theorem witness_1 : WitnessClaimed_1 := ⟨start1.p0, start1.e0, start1.about1, start1.theMethod, start1.args0, start1.below0, start1.atStart⟩
end Jvm.Pilot.@@N@@
