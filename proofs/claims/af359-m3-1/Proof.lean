import JvmDerived
import JvmDerived.Pilot.@@N@@Statement
import JvmDerived.Pilot.@@N@@Code
set_option linter.unusedVariables false
set_option linter.unusedSimpArgs false
namespace Jvm.Pilot.@@N@@
open Jvm Jvm.ClassFile Sem Op Lib Jvm.Free Jvm.Stand Jvm.LawKit Jvm.RoadKit Bundle Jvm.Pilot.@@N@@.Jvm.D
theorem d1_0 : decode prog_46_method_1_code 0 = .ok (.aload_n 0, 1) := by decide +kernel
theorem d1_1 : decode prog_46_method_1_code 1 = .ok (.invokespecial 1, 3) := by decide +kernel
theorem d1_4 : decode prog_46_method_1_code 4 = .ok (.aload_n 0, 1) := by decide +kernel
theorem d1_5 : decode prog_46_method_1_code 5 = .ok (.lload_n 1, 1) := by decide +kernel
theorem d1_6 : decode prog_46_method_1_code 6 = .ok (.putfield 7, 3) := by decide +kernel
theorem d1_9 : decode prog_46_method_1_code 9 = .ok (.aload_n 0, 1) := by decide +kernel
theorem d1_10 : decode prog_46_method_1_code 10 = .ok (.iload_n 3, 1) := by decide +kernel
theorem d1_11 : decode prog_46_method_1_code 11 = .ok (.putfield 13, 3) := by decide +kernel
theorem d1_14 : decode prog_46_method_1_code 14 = .ok (.return_, 1) := by decide +kernel
theorem pn_0 : plainName "com/example/settle/settle/service/FileSum" = true := by first | (simp [plainName, overriddenIn]; done) | decide +kernel
theorem ef_1 (mM : MethodId) (x0 : Addr) (x1 : Int64) (x2 : Int32) : entryFrame mM #[(.ref x0), (.long x1), (.int x2)] 4 = mkF mM 0 #[.val (.ref x0), .val (.long x1), .second, .val (.int x2)] [] := by first | (simp [entryFrame, mkF, argsToLocals, Value.category]; done) | rfl
def Q1 (Z : State) (a : Addr) (q : Int64) (p : Int32) (h0 : Heap) (n0 : Nat) (v : Option Value) (h : Heap) (L : List Loc) : Prop := v = none ∧ Fr n0 L ∧ Keep h0 h [a] ∧ Exa Z h a "com/example/settle/settle/service/FileSum" ∧ Fld Z h a "com/example/settle/settle/service/FileSum" "length" "J" (.long q) ∧ Fld Z h a "com/example/settle/settle/service/FileSum" "crc" "I" (.int p)
set_option maxRecDepth 65536 in
set_option maxHeartbeats 40000000 in
theorem rm1 (l : Launch) (Z : State) (a0 : Array Value) (hw : ∀ d ∈ tables_1, d.before a0 Z = true) (ws : List Jvm.Cond) (a : Addr) (q : Int64) (p : Int32) (h0 : Heap) (n0 : Nat) (Z0 : n0 ≤ h0.size) (E_a : Exa Z h0 a "com/example/settle/settle/service/FileSum") (g_a : n0 ≤ a) (F_length : Fld Z h0 a "com/example/settle/settle/service/FileSum" "length" "J" (.long (0 : Int64))) (F_crc : Fld Z h0 a "com/example/settle/settle/service/FileSum" "crc" "I" (.int (0 : Int32))) :
    MetFree l (⟨"com/example/settle/settle/service/FileSum", "<init>", "(JI)V"⟩ : MethodName) (head1 (Jvm.Cond.code (⟨"com/example/settle/settle/service/FileSum", "<init>", "(JI)V"⟩ : MethodName) prog_46_method_1_code 4 none :: ws) ({ frames := 1, cells := 0, slots := 0, locals := 12 } : Room)) (fun aA uU => aA = #[(.ref a), (.long q), (.int p)] ∧ Z.Warmed39 uU.vm ∧ uU.heap = h0) (fun _ _ _ _ _ => True) (fun _ uU oO uU' => ∃ vV lL, oO = .returned vV ∧ Q1 Z a q p h0 n0 vV uU'.heap lL ∧ FrameEnd uU oO uU' lL ({ frames := 1, cells := 0, slots := 0, locals := 12 } : Room).cells ({ frames := 1, cells := 0, slots := 0, locals := 12 } : Room).slots) := by
  refine MetFree.of_bodySF (plainFor_of_name pn_0) hisR ?_
  intro pP eE sS mM args below meth cC s₁ Bd hml0 hP hK
  obtain ⟨rfl, hZ, hh⟩ := hP
  have hx := Bd.exec
  have hby := Bd.bytes
  have hml : cC.maxLocals = 4 := hml0
  have hown : sS.vm.findClass "com/example/settle/settle/service/FileSum" = some mM.cls := findClass_of_methodNamed Bd.named
  have hnm := (name_of_methodNamed Bd.named Bd.method).1
  have X0 : Stand pP l eE ({ frames := 1, cells := 0, slots := 0, locals := 12 } : Room) sS mM #[(.ref a), (.long q), (.int p)] below meth cC s₁ [] 0 0 := Stand.of_body Bd
  have e0 : s₁.heap = h0 := by rw [← hh, Bd.state]; rfl
  have N0 := Fr.nil n0
  have pre0 : ∀ tg, Steps pP.tables eE below (s₁.setTop (mkF mM 0 #[.val (.ref a), .val (.long q), .second, .val (.int p)] [])) tg → Steps pP.tables eE below (s₁.setTop (entryFrame mM #[(.ref a), (.long q), (.int p)] 4)) tg := fun tg kg => castTop (ef_1 mM a q p) kg
  have pr1 : ∀ tg, Steps pP.tables eE below (s₁.setTop (mkF mM 1 #[.val (.ref a), .val (.long q), .second, .val (.int p)] [(.ref a)])) tg → Steps pP.tables eE below (s₁.setTop (entryFrame mM #[(.ref a), (.long q), (.int p)] 4)) tg := fun tg kg => pre0 _ (by
    show Steps pP.tables eE below (s₁.setTop (mkF mM 0 #[.val (.ref a), .val (.long q), .second, .val (.int p)] [])) _
    refine XS.aloadN X0.here hx rfl (hb hby d1_0) rfl rfl ?_
    exact kg)
  obtain ⟨T2, X2, e2, st2⟩ := initO X0 hx hZ hown (hw _ (List.mem_of_getElem? (i := 6) rfl)) (hw _ (List.mem_of_getElem? (i := 7) rfl)) (hw _ (List.mem_of_getElem? (i := 8) rfl)) e0 (g := (mkF mM 1 #[.val (.ref a), .val (.long q), .second, .val (.int p)] [(.ref a)])) rfl (by rw [hml]; rfl) rfl (hb hby d1_1) (by decide) (W := 0) (by show 2 * 0 + _ ≤ _; exact Nat.le_of_eq rfl) (by decide)
  have pr3 : ∀ tg, Steps pP.tables eE below (T2.setTop (mkF mM 4 #[.val (.ref a), .val (.long q), .second, .val (.int p)] [])) tg → Steps pP.tables eE below (s₁.setTop (entryFrame mM #[(.ref a), (.long q), (.int p)] 4)) tg := fun tg kg => pr1 _ (st2 _ kg)
  have pr4 : ∀ tg, Steps pP.tables eE below (T2.setTop (mkF mM 6 #[.val (.ref a), .val (.long q), .second, .val (.int p)] [(.long q), (.ref a)])) tg → Steps pP.tables eE below (s₁.setTop (entryFrame mM #[(.ref a), (.long q), (.int p)] 4)) tg := fun tg kg => pr3 _ (by
    show Steps pP.tables eE below (T2.setTop (mkF mM 4 #[.val (.ref a), .val (.long q), .second, .val (.int p)] [])) _
    refine XS.aloadN X2.here hx rfl (hb hby d1_4) rfl rfl ?_
    show Steps pP.tables eE below (T2.setTop (mkF mM 5 #[.val (.ref a), .val (.long q), .second, .val (.int p)] [(.ref a)])) _
    refine XS.lloadN X2.here hx rfl (hb hby d1_5) rfl ?_
    exact kg)
  obtain ⟨T5, h5, X5, e5, W5, st5⟩ := putF X2 hx hZ hown (host := "") (Or.inl (hw _ (List.mem_of_getElem? (i := 9) rfl))) Via.refl e2 F_length E_a (Or.inr ⟨(hw _ (List.mem_of_getElem? (i := 10) rfl)), rfl, hnm⟩) (hw _ (List.mem_of_getElem? (i := 1) rfl)) (ty := .long) (by decide) rfl rfl (g := (mkF mM 6 #[.val (.ref a), .val (.long q), .second, .val (.int p)] [(.long q), (.ref a)])) rfl rfl (hb hby d1_6)
  have Fw5 := Fld.same W5 F_length
  have N5 := Fr.snoc X5 N0 g_a
  have pr6 : ∀ tg, Steps pP.tables eE below (T5.setTop (mkF mM 9 #[.val (.ref a), .val (.long q), .second, .val (.int p)] [])) tg → Steps pP.tables eE below (s₁.setTop (entryFrame mM #[(.ref a), (.long q), (.int p)] 4)) tg := fun tg kg => pr4 _ (st5 _ kg)
  have c7 := (Fld.other W5 F_crc (Or.inr (slot_ne (C := "com/example/settle/settle/service/FileSum") (Or.inr (hw _ (List.mem_of_getElem? (i := 12) rfl))) (Or.inr (hw _ (List.mem_of_getElem? (i := 10) rfl))) (by decide) (t := .int) (t' := .long) (by decide) (by decide))))
  have c8 := (Exa.wr W5 E_a)
  have pr9 : ∀ tg, Steps pP.tables eE below (T5.setTop (mkF mM 11 #[.val (.ref a), .val (.long q), .second, .val (.int p)] [(.int p), (.ref a)])) tg → Steps pP.tables eE below (s₁.setTop (entryFrame mM #[(.ref a), (.long q), (.int p)] 4)) tg := fun tg kg => pr6 _ (by
    show Steps pP.tables eE below (T5.setTop (mkF mM 9 #[.val (.ref a), .val (.long q), .second, .val (.int p)] [])) _
    refine XS.aloadN X5.here hx rfl (hb hby d1_9) rfl rfl ?_
    show Steps pP.tables eE below (T5.setTop (mkF mM 10 #[.val (.ref a), .val (.long q), .second, .val (.int p)] [(.ref a)])) _
    refine XS.iloadN X5.here hx rfl (hb hby d1_10) rfl ?_
    exact kg)
  obtain ⟨T10, h10, X10, e10, W10, st10⟩ := putF X5 hx hZ hown (host := "") (Or.inl (hw _ (List.mem_of_getElem? (i := 11) rfl))) Via.refl e5 c7 c8 (Or.inr ⟨(hw _ (List.mem_of_getElem? (i := 12) rfl)), rfl, hnm⟩) (hw _ (List.mem_of_getElem? (i := 1) rfl)) (ty := .int) (by decide) rfl rfl (g := (mkF mM 11 #[.val (.ref a), .val (.long q), .second, .val (.int p)] [(.int p), (.ref a)])) rfl rfl (hb hby d1_11)
  have Fw10 := Fld.same W10 c7
  have N10 := Fr.snoc X10 N5 g_a
  have pr11 : ∀ tg, Steps pP.tables eE below (T10.setTop (mkF mM 14 #[.val (.ref a), .val (.long q), .second, .val (.int p)] [])) tg → Steps pP.tables eE below (s₁.setTop (entryFrame mM #[(.ref a), (.long q), (.int p)] 4)) tg := fun tg kg => pr9 _ (st10 _ kg)
  have c12 := (Keep.wr (Keep.wr (Keep.refl h0 [a]) W5 (Or.inl (List.mem_of_getElem? (i := 0) rfl))) W10 (Or.inl (List.mem_of_getElem? (i := 0) rfl)))
  have c13 := (Exa.wr W10 c8)
  have c14 := (Fld.other W10 Fw5 (Or.inr (slot_ne (C := "com/example/settle/settle/service/FileSum") (Or.inr (hw _ (List.mem_of_getElem? (i := 10) rfl))) (Or.inr (hw _ (List.mem_of_getElem? (i := 12) rfl))) (by decide) (t := .long) (t' := .int) (by decide) (by decide))))
  obtain ⟨fs, hr, hrun, hended, hW, hsame⟩ := X10.leave (v := none) (fun _ => rfl)
  refine ⟨_, _, pr11 _ (X10.returnOut hx Bd.returns (hb hby d1_14) hr), hrun, hended, _, _, rfl, ?_, ⟨_, rfl⟩, hW, hsame.mono (by decide) (by decide)⟩
  show Q1 Z a q p h0 n0 _ T10.heap _
  rw [e10]
  exact ⟨rfl, N10, c12, c13, c14, Fw10⟩
theorem d2_0 : decode jdk_35_method_36_code 0 = .ok (.lload_n 0, 1) := by decide +kernel
theorem d2_1 : decode jdk_35_method_36_code 1 = .ok (.lload_n 0, 1) := by decide +kernel
theorem d2_2 : decode jdk_35_method_36_code 2 = .ok (.bipush 32, 2) := by decide +kernel
theorem d2_4 : decode jdk_35_method_36_code 4 = .ok (.lushr, 1) := by decide +kernel
theorem d2_5 : decode jdk_35_method_36_code 5 = .ok (.lxor, 1) := by decide +kernel
theorem d2_6 : decode jdk_35_method_36_code 6 = .ok (.l2i, 1) := by decide +kernel
theorem d2_7 : decode jdk_35_method_36_code 7 = .ok (.ireturn, 1) := by decide +kernel
theorem pn_1 : plainName "java/lang/Long" = true := by first | (simp [plainName, overriddenIn]; done) | decide +kernel
theorem ef_2 (mM : MethodId) (x0 : Int64) : entryFrame mM #[(.long x0)] 2 = mkF mM 0 #[.val (.long x0), .second] [] := by first | (simp [entryFrame, mkF, argsToLocals, Value.category]; done) | rfl
def Q2 (Z : State) (q : Int64) (h0 : Heap) (n0 : Nat) (v : Option Value) (h : Heap) (L : List Loc) : Prop := v = some (.int (q ^^^ ((q.toUInt64 >>> ((32 : Int32) &&& 0x3f).toInt64.toUInt64).toInt64)).toInt32) ∧ Fr n0 L ∧ h = h0
set_option maxRecDepth 65536 in
set_option maxHeartbeats 40000000 in
theorem rm2 (l : Launch) (Z : State) (a0 : Array Value) (hw : ∀ d ∈ tables_1, d.before a0 Z = true) (ws : List Jvm.Cond) (q : Int64) (h0 : Heap) (n0 : Nat) (Z0 : n0 ≤ h0.size) :
    MetFree l (⟨"java/lang/Long", "hashCode", "(J)I"⟩ : MethodName) (head1 (Jvm.Cond.code (⟨"java/lang/Long", "hashCode", "(J)I"⟩ : MethodName) jdk_35_method_36_code 2 (some .int) :: ws) ({ frames := 0, cells := 0, slots := 0, locals := 0 } : Room)) (fun aA uU => aA = #[(.long q)] ∧ Z.Warmed39 uU.vm ∧ uU.heap = h0) (fun _ _ _ _ _ => True) (fun _ uU oO uU' => ∃ vV lL, oO = .returned vV ∧ Q2 Z q h0 n0 vV uU'.heap lL ∧ FrameEnd uU oO uU' lL ({ frames := 0, cells := 0, slots := 0, locals := 0 } : Room).cells ({ frames := 0, cells := 0, slots := 0, locals := 0 } : Room).slots) := by
  refine MetFree.of_bodySF (plainFor_of_name pn_1) hisR ?_
  intro pP eE sS mM args below meth cC s₁ Bd hml0 hP hK
  obtain ⟨rfl, hZ, hh⟩ := hP
  have hx := Bd.exec
  have hby := Bd.bytes
  have hml : cC.maxLocals = 2 := hml0
  have hown : sS.vm.findClass "java/lang/Long" = some mM.cls := findClass_of_methodNamed Bd.named
  have hnm := (name_of_methodNamed Bd.named Bd.method).1
  have X0 : Stand pP l eE ({ frames := 0, cells := 0, slots := 0, locals := 0 } : Room) sS mM #[(.long q)] below meth cC s₁ [] 0 0 := Stand.of_body Bd
  have e0 : s₁.heap = h0 := by rw [← hh, Bd.state]; rfl
  have N0 := Fr.nil n0
  have pre0 : ∀ tg, Steps pP.tables eE below (s₁.setTop (mkF mM 0 #[.val (.long q), .second] [])) tg → Steps pP.tables eE below (s₁.setTop (entryFrame mM #[(.long q)] 2)) tg := fun tg kg => castTop (ef_2 mM q) kg
  have pr1 : ∀ tg, Steps pP.tables eE below (s₁.setTop (mkF mM 7 #[.val (.long q), .second] [(.int (q ^^^ ((q.toUInt64 >>> ((32 : Int32) &&& 0x3f).toInt64.toUInt64).toInt64)).toInt32)])) tg → Steps pP.tables eE below (s₁.setTop (entryFrame mM #[(.long q)] 2)) tg := fun tg kg => pre0 _ (by
    show Steps pP.tables eE below (s₁.setTop (mkF mM 0 #[.val (.long q), .second] [])) _
    refine XS.lloadN X0.here hx rfl (hb hby d2_0) rfl ?_
    show Steps pP.tables eE below (s₁.setTop (mkF mM 1 #[.val (.long q), .second] [(.long q)])) _
    refine XS.lloadN X0.here hx rfl (hb hby d2_1) rfl ?_
    show Steps pP.tables eE below (s₁.setTop (mkF mM 2 #[.val (.long q), .second] [(.long q), (.long q)])) _
    refine XS.bipush X0.here hx rfl (hb hby d2_2) ?_
    show Steps pP.tables eE below (s₁.setTop (mkF mM 4 #[.val (.long q), .second] [(.int (32 : Int32)), (.long q), (.long q)])) _
    refine XS.lushr X0.here hx rfl (hb hby d2_4) rfl ?_
    show Steps pP.tables eE below (s₁.setTop (mkF mM 5 #[.val (.long q), .second] [(.long ((q.toUInt64 >>> ((32 : Int32) &&& 0x3f).toInt64.toUInt64).toInt64)), (.long q)])) _
    refine XS.lxor X0.here hx rfl (hb hby d2_5) rfl ?_
    show Steps pP.tables eE below (s₁.setTop (mkF mM 6 #[.val (.long q), .second] [(.long (q ^^^ ((q.toUInt64 >>> ((32 : Int32) &&& 0x3f).toInt64.toUInt64).toInt64)))])) _
    refine XS.l2i X0.here hx rfl (hb hby d2_6) rfl ?_
    exact kg)
  obtain ⟨fs, hr, hrun, hended, hW, hsame⟩ := X0.leave (v := some (.int (q ^^^ ((q.toUInt64 >>> ((32 : Int32) &&& 0x3f).toInt64.toUInt64).toInt64)).toInt32)) (fun h => by rw [Bd.returns] at h; cases h)
  refine ⟨_, _, pr1 _ (retOut X0 hx (t := .int) Bd.returns rfl (Or.inl ⟨rfl, Or.inl rfl, _, rfl⟩) (hb hby d2_7) hr), hrun, hended, _, _, rfl, ?_, ⟨_, rfl⟩, hW, hsame.mono (by decide) (by decide)⟩
  show Q2 Z q h0 n0 _ s₁.heap _
  rw [e0]
  exact ⟨rfl, N0, rfl⟩
def own_hash (q : Int64) (p : Int32) : Int32 := (((q ^^^ ((q.toUInt64 >>> ((32 : Int32) &&& 0x3f).toInt64.toUInt64).toInt64)).toInt32 * (31 : Int32)) + p)
theorem pd_0 : parseMethodDescriptor "(J)I" = some ⟨[.long], some .int⟩ := by decide +kernel
theorem d3_0 : decode prog_46_method_7_code 0 = .ok (.aload_n 0, 1) := by decide +kernel
theorem d3_1 : decode prog_46_method_7_code 1 = .ok (.getfield 7, 3) := by decide +kernel
theorem d3_4 : decode prog_46_method_7_code 4 = .ok (.invokestatic 95, 3) := by decide +kernel
theorem d3_7 : decode prog_46_method_7_code 7 = .ok (.bipush 31, 2) := by decide +kernel
theorem d3_9 : decode prog_46_method_7_code 9 = .ok (.imul, 1) := by decide +kernel
theorem d3_10 : decode prog_46_method_7_code 10 = .ok (.aload_n 0, 1) := by decide +kernel
theorem d3_11 : decode prog_46_method_7_code 11 = .ok (.getfield 13, 3) := by decide +kernel
theorem d3_14 : decode prog_46_method_7_code 14 = .ok (.iadd, 1) := by decide +kernel
theorem d3_15 : decode prog_46_method_7_code 15 = .ok (.ireturn, 1) := by decide +kernel
theorem ef_3 (mM : MethodId) (x0 : Addr) : entryFrame mM #[(.ref x0)] 1 = mkF mM 0 #[.val (.ref x0)] [] := by first | (simp [entryFrame, mkF, argsToLocals, Value.category]; done) | rfl
def Q3 (Z : State) (a : Addr) (q : Int64) (p : Int32) (h0 : Heap) (n0 : Nat) (v : Option Value) (h : Heap) (L : List Loc) : Prop := v = some (.int (own_hash q p)) ∧ Fr n0 L ∧ h = h0
set_option maxRecDepth 65536 in
set_option maxHeartbeats 40000000 in
theorem rm3 (l : Launch) (Z : State) (a0 : Array Value) (hw : ∀ d ∈ tables_1, d.before a0 Z = true) (ws : List Jvm.Cond) (a : Addr) (q : Int64) (p : Int32) (h0 : Heap) (n0 : Nat) (Z0 : n0 ≤ h0.size) (E_a : Exa Z h0 a "com/example/settle/settle/service/FileSum") (F_length : Fld Z h0 a "com/example/settle/settle/service/FileSum" "length" "J" (.long q)) (F_crc : Fld Z h0 a "com/example/settle/settle/service/FileSum" "crc" "I" (.int p)) :
    MetFree l (⟨"com/example/settle/settle/service/FileSum", "hashCode", "()I"⟩ : MethodName) (head1 (Jvm.Cond.code (⟨"com/example/settle/settle/service/FileSum", "hashCode", "()I"⟩ : MethodName) prog_46_method_7_code 1 (some .int) :: ws) ({ frames := 1, cells := 0, slots := 0, locals := 13 } : Room)) (fun aA uU => aA = #[(.ref a)] ∧ Z.Warmed39 uU.vm ∧ uU.heap = h0) (fun _ _ _ _ _ => True) (fun _ uU oO uU' => ∃ vV lL, oO = .returned vV ∧ Q3 Z a q p h0 n0 vV uU'.heap lL ∧ FrameEnd uU oO uU' lL ({ frames := 1, cells := 0, slots := 0, locals := 13 } : Room).cells ({ frames := 1, cells := 0, slots := 0, locals := 13 } : Room).slots) := by
  refine MetFree.of_bodySF (plainFor_of_name pn_0) hisR ?_
  intro pP eE sS mM args below meth cC s₁ Bd hml0 hP hK
  obtain ⟨rfl, hZ, hh⟩ := hP
  have hx := Bd.exec
  have hby := Bd.bytes
  have hml : cC.maxLocals = 1 := hml0
  have hown : sS.vm.findClass "com/example/settle/settle/service/FileSum" = some mM.cls := findClass_of_methodNamed Bd.named
  have hnm := (name_of_methodNamed Bd.named Bd.method).1
  have X0 : Stand pP l eE ({ frames := 1, cells := 0, slots := 0, locals := 13 } : Room) sS mM #[(.ref a)] below meth cC s₁ [] 0 0 := Stand.of_body Bd
  have e0 : s₁.heap = h0 := by rw [← hh, Bd.state]; rfl
  have N0 := Fr.nil n0
  have pre0 : ∀ tg, Steps pP.tables eE below (s₁.setTop (mkF mM 0 #[.val (.ref a)] [])) tg → Steps pP.tables eE below (s₁.setTop (entryFrame mM #[(.ref a)] 1)) tg := fun tg kg => castTop (ef_3 mM a) kg
  have pr1 : ∀ tg, Steps pP.tables eE below (s₁.setTop (mkF mM 1 #[.val (.ref a)] [(.ref a)])) tg → Steps pP.tables eE below (s₁.setTop (entryFrame mM #[(.ref a)] 1)) tg := fun tg kg => pre0 _ (by
    show Steps pP.tables eE below (s₁.setTop (mkF mM 0 #[.val (.ref a)] [])) _
    refine XS.aloadN X0.here hx rfl (hb hby d3_0) rfl rfl ?_
    exact kg)
  obtain ⟨T2, X2, e2, st2⟩ := getF X0 hx hZ hown (host := "") (Or.inl (hw _ (List.mem_of_getElem? (i := 9) rfl))) Via.refl e0 F_length (g := (mkF mM 1 #[.val (.ref a)] [(.ref a)])) rfl rfl (hb hby d3_1)
  have pr3 : ∀ tg, Steps pP.tables eE below (T2.setTop (mkF mM 4 #[.val (.ref a)] [(.long q)])) tg → Steps pP.tables eE below (s₁.setTop (entryFrame mM #[(.ref a)] 1)) tg := fun tg kg => pr1 _ (st2 _ kg)
  obtain ⟨_, _, ⟨T4, L4, kk4, nn4⟩, -, X4, ⟨Lc4, hQ4, l4, y4, z4⟩, st4⟩ := Jvm.LawKit.callS X2 hx (y := (⟨"java/lang/Long", "hashCode", "(J)I"⟩ : MethodName)) hown (mvT hZ (hw _ (List.mem_of_getElem? (i := 18) rfl))) (mvT hZ (hw _ (List.mem_of_getElem? (i := 19) rfl))) (mvT hZ (hw _ (List.mem_of_getElem? (i := 20) rfl))) (mvT hZ (hw _ (List.mem_of_getElem? (i := 21) rfl))) (by decide) (backOf (W := 0) (rm2 l Z a0 hw [] q h0 n0 Z0) hZ (hw _ (List.mem_of_getElem? (i := 21) rfl)) (hw _ (List.mem_of_getElem? (i := 20) rfl)) (by decide) (by decide)) (g := (mkF mM 4 #[.val (.ref a)] [(.long q)])) rfl (by rw [hml]; rfl) (argsL := [(.long q)]) (rest := []) (lenOf pd_0 rfl) rfl (by show 2 * 0 + _ ≤ _; exact Nat.le_of_eq rfl) (hb hby d3_4) (fun _ _ => ⟨rfl, e2, (by decide : 0 + 0 ≤ _), (by decide : 0 + 0 ≤ _)⟩)
  dsimp only [Pt.U, Pt.locs, Pt.cells, Pt.slots] at X4 l4 y4 z4 st4 hQ4
  subst l4 y4 z4
  obtain ⟨rfl, Nq4, e4⟩ := hQ4
  have N4 := Fr.app N0 Nq4
  have pr5 : ∀ tg, Steps pP.tables eE below (T4.setTop (mkF mM 7 #[.val (.ref a)] [(.int (q ^^^ ((q.toUInt64 >>> ((32 : Int32) &&& 0x3f).toInt64.toUInt64).toInt64)).toInt32)])) tg → Steps pP.tables eE below (s₁.setTop (entryFrame mM #[(.ref a)] 1)) tg := fun tg kg => pr3 _ (st4 _ kg)
  have pr6 : ∀ tg, Steps pP.tables eE below (T4.setTop (mkF mM 11 #[.val (.ref a)] [(.ref a), (.int ((q ^^^ ((q.toUInt64 >>> ((32 : Int32) &&& 0x3f).toInt64.toUInt64).toInt64)).toInt32 * (31 : Int32)))])) tg → Steps pP.tables eE below (s₁.setTop (entryFrame mM #[(.ref a)] 1)) tg := fun tg kg => pr5 _ (by
    show Steps pP.tables eE below (T4.setTop (mkF mM 7 #[.val (.ref a)] [(.int (q ^^^ ((q.toUInt64 >>> ((32 : Int32) &&& 0x3f).toInt64.toUInt64).toInt64)).toInt32)])) _
    refine XS.bipush X4.here hx rfl (hb hby d3_7) ?_
    show Steps pP.tables eE below (T4.setTop (mkF mM 9 #[.val (.ref a)] [(.int (31 : Int32)), (.int (q ^^^ ((q.toUInt64 >>> ((32 : Int32) &&& 0x3f).toInt64.toUInt64).toInt64)).toInt32)])) _
    refine XS.imul X4.here hx rfl (hb hby d3_9) rfl ?_
    show Steps pP.tables eE below (T4.setTop (mkF mM 10 #[.val (.ref a)] [(.int ((q ^^^ ((q.toUInt64 >>> ((32 : Int32) &&& 0x3f).toInt64.toUInt64).toInt64)).toInt32 * (31 : Int32)))])) _
    refine XS.aloadN X4.here hx rfl (hb hby d3_10) rfl rfl ?_
    exact kg)
  obtain ⟨T7, X7, e7, st7⟩ := getF X4 hx hZ hown (host := "") (Or.inl (hw _ (List.mem_of_getElem? (i := 11) rfl))) Via.refl e4 F_crc (g := (mkF mM 11 #[.val (.ref a)] [(.ref a), (.int ((q ^^^ ((q.toUInt64 >>> ((32 : Int32) &&& 0x3f).toInt64.toUInt64).toInt64)).toInt32 * (31 : Int32)))])) rfl rfl (hb hby d3_11)
  have pr8 : ∀ tg, Steps pP.tables eE below (T7.setTop (mkF mM 14 #[.val (.ref a)] [(.int p), (.int ((q ^^^ ((q.toUInt64 >>> ((32 : Int32) &&& 0x3f).toInt64.toUInt64).toInt64)).toInt32 * (31 : Int32)))])) tg → Steps pP.tables eE below (s₁.setTop (entryFrame mM #[(.ref a)] 1)) tg := fun tg kg => pr6 _ (st7 _ kg)
  have pr9 : ∀ tg, Steps pP.tables eE below (T7.setTop (mkF mM 15 #[.val (.ref a)] [(.int (((q ^^^ ((q.toUInt64 >>> ((32 : Int32) &&& 0x3f).toInt64.toUInt64).toInt64)).toInt32 * (31 : Int32)) + p))])) tg → Steps pP.tables eE below (s₁.setTop (entryFrame mM #[(.ref a)] 1)) tg := fun tg kg => pr8 _ (by
    show Steps pP.tables eE below (T7.setTop (mkF mM 14 #[.val (.ref a)] [(.int p), (.int ((q ^^^ ((q.toUInt64 >>> ((32 : Int32) &&& 0x3f).toInt64.toUInt64).toInt64)).toInt32 * (31 : Int32)))])) _
    refine XS.iadd X7.here hx rfl (hb hby d3_14) rfl ?_
    exact kg)
  obtain ⟨fs, hr, hrun, hended, hW, hsame⟩ := X7.leave (v := some (.int (((q ^^^ ((q.toUInt64 >>> ((32 : Int32) &&& 0x3f).toInt64.toUInt64).toInt64)).toInt32 * (31 : Int32)) + p))) (fun h => by rw [Bd.returns] at h; cases h)
  refine ⟨_, _, pr9 _ (retOut X7 hx (t := .int) Bd.returns rfl (Or.inl ⟨rfl, Or.inl rfl, _, rfl⟩) (hb hby d3_15) hr), hrun, hended, _, _, rfl, ?_, ⟨_, rfl⟩, hW, hsame.mono (by decide) (by decide)⟩
  show Q3 Z a q p h0 n0 _ T7.heap _
  rw [e7]
  exact ⟨rfl, N4, rfl⟩
theorem pd_1 : parseMethodDescriptor "(JI)V" = some ⟨[.long, .int], none⟩ := by decide +kernel
theorem pd_2 : parseMethodDescriptor "()I" = some ⟨[], some .int⟩ := by decide +kernel
theorem pn_2 : plainName "com/example/settle/settle/service/FileSumHashCodePinLaw" = true := by first | (simp [plainName, overriddenIn]; done) | decide +kernel
theorem ef_0 (mM : MethodId) (x0 : Int64) (x1 : Int32) (x2 : Int64) (x3 : Int32) (x4 : Int32) : entryFrame mM #[(.long x0), (.int x1), (.long x2), (.int x3), (.int x4)] maxLocals = mkF mM 0 #[.val (.long x0), .second, .val (.int x1), .val (.long x2), .second, .val (.int x3), .val (.int x4), .unset, .unset, .unset, .unset, .unset, .unset, .unset, .unset] [] := by first | (simp [entryFrame, mkF, argsToLocals, Value.category, maxLocals]; done) | rfl
def Q0 (Z : State) (q0 : Int64) (p0 : Int32) (dl : Int64) (dc : Int32) (fl : Int32) (h0 : Heap) (n0 : Nat) (v : Option Value) (h : Heap) (L : List Loc) : Prop := v = some (.int (1 : Int32)) ∧ Fr n0 L
set_option maxRecDepth 65536 in
set_option maxHeartbeats 40000000 in
theorem rm0 (l : Launch) (Z : State) (a0 : Array Value) (hw : ∀ d ∈ tables_1, d.before a0 Z = true) (ws : List Jvm.Cond) (q0 : Int64) (p0 : Int32) (dl : Int64) (dc : Int32) (fl : Int32) (h0 : Heap) (n0 : Nat) (Z0 : n0 ≤ h0.size) :
    MetFree l x (head1 (Jvm.Cond.code x code maxLocals ret :: ws) room_1) (fun aA uU => aA = #[(.long q0), (.int p0), (.long dl), (.int dc), (.int fl)] ∧ Z.Warmed39 uU.vm ∧ uU.heap = h0) (fun _ _ _ _ _ => True) (fun _ uU oO uU' => ∃ vV lL, oO = .returned vV ∧ Q0 Z q0 p0 dl dc fl h0 n0 vV uU'.heap lL ∧ FrameEnd uU oO uU' lL room_1.cells room_1.slots) := by
  refine MetFree.of_bodySF (plainFor_of_name pn_2) hisR ?_
  intro pP eE sS mM args below meth cC s₁ Bd hml0 hP hK
  obtain ⟨rfl, hZ, hh⟩ := hP
  have hx := Bd.exec
  have hby := Bd.bytes
  have hml : cC.maxLocals = 15 := hml0
  have hown : sS.vm.findClass "com/example/settle/settle/service/FileSumHashCodePinLaw" = some mM.cls := findClass_of_methodNamed Bd.named
  have hnm := (name_of_methodNamed Bd.named Bd.method).1
  have X0 : Stand pP l eE room_1 sS mM #[(.long q0), (.int p0), (.long dl), (.int dc), (.int fl)] below meth cC s₁ [] 0 0 := Stand.of_body Bd
  have e0 : s₁.heap = h0 := by rw [← hh, Bd.state]; rfl
  have N0 := Fr.nil n0
  have pre0 : ∀ tg, Steps pP.tables eE below (s₁.setTop (mkF mM 0 #[.val (.long q0), .second, .val (.int p0), .val (.long dl), .second, .val (.int dc), .val (.int fl), .unset, .unset, .unset, .unset, .unset, .unset, .unset, .unset] [])) tg → Steps pP.tables eE below (s₁.setTop (entryFrame mM #[(.long q0), (.int p0), (.long dl), (.int dc), (.int fl)] maxLocals)) tg := fun tg kg => castTop (ef_0 mM q0 p0 dl dc fl) kg
  obtain ⟨T1, h1, X1, e1, E1, A1, D1, -, st1⟩ := newO X0 hx hZ hown (hw _ (List.mem_of_getElem? (i := 0) rfl)) (hw _ (List.mem_of_getElem? (i := 1) rfl)) (hw _ (List.mem_of_getElem? (i := 2) rfl)) e0 (g := (mkF mM 0 #[.val (.long q0), .second, .val (.int p0), .val (.long dl), .second, .val (.int dc), .val (.int fl), .unset, .unset, .unset, .unset, .unset, .unset, .unset, .unset] [])) rfl (hb hby at_0) (by decide) (by decide)
  obtain ⟨b1, g1⟩ : ∃ z, z = (h0).size := ⟨_, rfl⟩
  rw [← g1] at A1 D1 st1
  have gn2 : n0 ≤ b1 := Nat.le_trans Z0 (Nat.le_of_eq g1.symm)
  have gs3 : h0.size ≤ b1 := Nat.le_trans (Keep.refl h0 []).1 (Nat.le_of_eq g1.symm)
  have F1_length : Fld Z h1 b1 "com/example/settle/settle/service/FileSum" "length" "J" (.long (0 : Int64)) := D1 (Or.inr (hw _ (List.mem_of_getElem? (i := 10) rfl))) (ty := .long) (by decide)
  have F1_crc : Fld Z h1 b1 "com/example/settle/settle/service/FileSum" "crc" "I" (.int (0 : Int32)) := D1 (Or.inr (hw _ (List.mem_of_getElem? (i := 12) rfl))) (ty := .int) (by decide)
  have pr4 : ∀ tg, Steps pP.tables eE below (T1.setTop (mkF mM 3 #[.val (.long q0), .second, .val (.int p0), .val (.long dl), .second, .val (.int dc), .val (.int fl), .unset, .unset, .unset, .unset, .unset, .unset, .unset, .unset] [(.ref b1)])) tg → Steps pP.tables eE below (s₁.setTop (entryFrame mM #[(.long q0), (.int p0), (.long dl), (.int dc), (.int fl)] maxLocals)) tg := fun tg kg => pre0 _ (st1 _ kg)
  have pr5 : ∀ tg, Steps pP.tables eE below (T1.setTop (mkF mM 6 #[.val (.long q0), .second, .val (.int p0), .val (.long dl), .second, .val (.int dc), .val (.int fl), .unset, .unset, .unset, .unset, .unset, .unset, .unset, .unset] [(.int p0), (.long q0), (.ref b1), (.ref b1)])) tg → Steps pP.tables eE below (s₁.setTop (entryFrame mM #[(.long q0), (.int p0), (.long dl), (.int dc), (.int fl)] maxLocals)) tg := fun tg kg => pr4 _ (by
    show Steps pP.tables eE below (T1.setTop (mkF mM 3 #[.val (.long q0), .second, .val (.int p0), .val (.long dl), .second, .val (.int dc), .val (.int fl), .unset, .unset, .unset, .unset, .unset, .unset, .unset, .unset] [(.ref b1)])) _
    refine XS.dup X1.here hx rfl (hb hby at_3) rfl rfl ?_
    show Steps pP.tables eE below (T1.setTop (mkF mM 4 #[.val (.long q0), .second, .val (.int p0), .val (.long dl), .second, .val (.int dc), .val (.int fl), .unset, .unset, .unset, .unset, .unset, .unset, .unset, .unset] [(.ref b1), (.ref b1)])) _
    refine XS.lloadN X1.here hx rfl (hb hby at_4) rfl ?_
    show Steps pP.tables eE below (T1.setTop (mkF mM 5 #[.val (.long q0), .second, .val (.int p0), .val (.long dl), .second, .val (.int dc), .val (.int fl), .unset, .unset, .unset, .unset, .unset, .unset, .unset, .unset] [(.long q0), (.ref b1), (.ref b1)])) _
    refine XS.iloadN X1.here hx rfl (hb hby at_5) rfl ?_
    exact kg)
  have c6 := (Nat.le_trans Z0 E1.1)
  obtain ⟨_, _, ⟨T7, L7, kk7, nn7⟩, -, X7, ⟨Lc7, hQ7, l7, y7, z7⟩, st7⟩ := X1.specialBack hx (y := (⟨"com/example/settle/settle/service/FileSum", "<init>", "(JI)V"⟩ : MethodName)) rfl hown (mvT hZ (hw _ (List.mem_of_getElem? (i := 3) rfl))) (mvT hZ (hw _ (List.mem_of_getElem? (i := 4) rfl))) (mvT hZ (hw _ (List.mem_of_getElem? (i := 5) rfl))) (by decide) (backOf (W := 1) (rm1 l Z a0 hw [] b1 q0 p0 h1 n0 c6 A1 gn2 F1_length F1_crc ) hZ (hw _ (List.mem_of_getElem? (i := 5) rfl)) (hw _ (List.mem_of_getElem? (i := 2) rfl)) (by decide) (by decide)) (g := (mkF mM 6 #[.val (.long q0), .second, .val (.int p0), .val (.long dl), .second, .val (.int dc), .val (.int fl), .unset, .unset, .unset, .unset, .unset, .unset, .unset, .unset] [(.int p0), (.long q0), (.ref b1), (.ref b1)])) rfl (by rw [hml]; rfl) (Steps.refl _) (a := b1) (argsL := [(.long q0), (.int p0)]) (rest := [(.ref b1)]) (lenOf pd_1 rfl) rfl (by show 2 * 0 + _ ≤ _; exact Nat.le_of_eq rfl) (hb hby at_6) (fun _ _ => ⟨rfl, e1, (by decide : 1 + 0 ≤ _), (by decide : 2 + 0 ≤ _)⟩)
  dsimp only [Pt.U, Pt.locs, Pt.cells, Pt.slots] at X7 l7 y7 z7 st7 hQ7
  subst l7 y7 z7
  obtain ⟨rfl, Nq7, K7, E7, F7_0, F7_1⟩ := hQ7
  have N7 := Fr.app N0 Nq7
  have pr8 : ∀ tg, Steps pP.tables eE below (T7.setTop (mkF mM 9 #[.val (.long q0), .second, .val (.int p0), .val (.long dl), .second, .val (.int dc), .val (.int fl), .unset, .unset, .unset, .unset, .unset, .unset, .unset, .unset] [(.ref b1)])) tg → Steps pP.tables eE below (s₁.setTop (entryFrame mM #[(.long q0), (.int p0), (.long dl), (.int dc), (.int fl)] maxLocals)) tg := fun tg kg => pr5 _ (st7.trans kg)
  have pr9 : ∀ tg, Steps pP.tables eE below (T7.setTop (mkF mM 11 #[.val (.long q0), .second, .val (.int p0), .val (.long dl), .second, .val (.int dc), .val (.int fl), .val (.ref b1), .unset, .unset, .unset, .unset, .unset, .unset, .unset] [])) tg → Steps pP.tables eE below (s₁.setTop (entryFrame mM #[(.long q0), (.int p0), (.long dl), (.int dc), (.int fl)] maxLocals)) tg := fun tg kg => pr8 _ (by
    show Steps pP.tables eE below (T7.setTop (mkF mM 9 #[.val (.long q0), .second, .val (.int p0), .val (.long dl), .second, .val (.int dc), .val (.int fl), .unset, .unset, .unset, .unset, .unset, .unset, .unset, .unset] [(.ref b1)])) _
    refine XS.astore X7.here hx rfl (hb hby at_9) rfl rfl (l' := #[.val (.long q0), .second, .val (.int p0), .val (.long dl), .second, .val (.int dc), .val (.int fl), .val (.ref b1), .unset, .unset, .unset, .unset, .unset, .unset, .unset]) rfl ?_
    exact kg)
  obtain ⟨T10, h10, X10, e10, E10, A10, D10, -, st10⟩ := newO X7 hx hZ hown (hw _ (List.mem_of_getElem? (i := 0) rfl)) (hw _ (List.mem_of_getElem? (i := 1) rfl)) (hw _ (List.mem_of_getElem? (i := 2) rfl)) rfl (g := (mkF mM 11 #[.val (.long q0), .second, .val (.int p0), .val (.long dl), .second, .val (.int dc), .val (.int fl), .val (.ref b1), .unset, .unset, .unset, .unset, .unset, .unset, .unset] [])) rfl (hb hby at_11) (by decide) (by decide)
  obtain ⟨b10, g10⟩ : ∃ z, z = (T7.heap).size := ⟨_, rfl⟩
  rw [← g10] at A10 D10 st10
  have ne11 : b1 ≠ b10 := Nat.ne_of_lt (Nat.lt_of_lt_of_le (E7).lt (Nat.le_of_eq g10.symm))
  have c13 := (Nat.le_trans c6 K7.1)
  have gn12 : n0 ≤ b10 := Nat.le_trans c13 (Nat.le_of_eq g10.symm)
  have c15 := (Keep.trans (Keep.ext (Keep.refl h0 []) E1) K7 (allS (Or.inr gs3) all0))
  have gs14 : h0.size ≤ b10 := Nat.le_trans c15.1 (Nat.le_of_eq g10.symm)
  have F10_length : Fld Z h10 b10 "com/example/settle/settle/service/FileSum" "length" "J" (.long (0 : Int64)) := D10 (Or.inr (hw _ (List.mem_of_getElem? (i := 10) rfl))) (ty := .long) (by decide)
  have F10_crc : Fld Z h10 b10 "com/example/settle/settle/service/FileSum" "crc" "I" (.int (0 : Int32)) := D10 (Or.inr (hw _ (List.mem_of_getElem? (i := 12) rfl))) (ty := .int) (by decide)
  have pr16 : ∀ tg, Steps pP.tables eE below (T10.setTop (mkF mM 14 #[.val (.long q0), .second, .val (.int p0), .val (.long dl), .second, .val (.int dc), .val (.int fl), .val (.ref b1), .unset, .unset, .unset, .unset, .unset, .unset, .unset] [(.ref b10)])) tg → Steps pP.tables eE below (s₁.setTop (entryFrame mM #[(.long q0), (.int p0), (.long dl), (.int dc), (.int fl)] maxLocals)) tg := fun tg kg => pr9 _ (st10 _ kg)
  have pr17 : ∀ tg, Steps pP.tables eE below (T10.setTop (mkF mM 17 #[.val (.long q0), .second, .val (.int p0), .val (.long dl), .second, .val (.int dc), .val (.int fl), .val (.ref b1), .unset, .unset, .unset, .unset, .unset, .unset, .unset] [(.int p0), (.long q0), (.ref b10), (.ref b10)])) tg → Steps pP.tables eE below (s₁.setTop (entryFrame mM #[(.long q0), (.int p0), (.long dl), (.int dc), (.int fl)] maxLocals)) tg := fun tg kg => pr16 _ (by
    show Steps pP.tables eE below (T10.setTop (mkF mM 14 #[.val (.long q0), .second, .val (.int p0), .val (.long dl), .second, .val (.int dc), .val (.int fl), .val (.ref b1), .unset, .unset, .unset, .unset, .unset, .unset, .unset] [(.ref b10)])) _
    refine XS.dup X10.here hx rfl (hb hby at_14) rfl rfl ?_
    show Steps pP.tables eE below (T10.setTop (mkF mM 15 #[.val (.long q0), .second, .val (.int p0), .val (.long dl), .second, .val (.int dc), .val (.int fl), .val (.ref b1), .unset, .unset, .unset, .unset, .unset, .unset, .unset] [(.ref b10), (.ref b10)])) _
    refine XS.lloadN X10.here hx rfl (hb hby at_15) rfl ?_
    show Steps pP.tables eE below (T10.setTop (mkF mM 16 #[.val (.long q0), .second, .val (.int p0), .val (.long dl), .second, .val (.int dc), .val (.int fl), .val (.ref b1), .unset, .unset, .unset, .unset, .unset, .unset, .unset] [(.long q0), (.ref b10), (.ref b10)])) _
    refine XS.iloadN X10.here hx rfl (hb hby at_16) rfl ?_
    exact kg)
  have c18 := (Nat.le_trans c13 E10.1)
  obtain ⟨_, _, ⟨T19, L19, kk19, nn19⟩, -, X19, ⟨Lc19, hQ19, l19, y19, z19⟩, st19⟩ := X10.specialBack hx (y := (⟨"com/example/settle/settle/service/FileSum", "<init>", "(JI)V"⟩ : MethodName)) rfl hown (mvT hZ (hw _ (List.mem_of_getElem? (i := 3) rfl))) (mvT hZ (hw _ (List.mem_of_getElem? (i := 4) rfl))) (mvT hZ (hw _ (List.mem_of_getElem? (i := 5) rfl))) (by decide) (backOf (W := 1) (rm1 l Z a0 hw [] b10 q0 p0 h10 n0 c18 A10 gn12 F10_length F10_crc ) hZ (hw _ (List.mem_of_getElem? (i := 5) rfl)) (hw _ (List.mem_of_getElem? (i := 2) rfl)) (by decide) (by decide)) (g := (mkF mM 17 #[.val (.long q0), .second, .val (.int p0), .val (.long dl), .second, .val (.int dc), .val (.int fl), .val (.ref b1), .unset, .unset, .unset, .unset, .unset, .unset, .unset] [(.int p0), (.long q0), (.ref b10), (.ref b10)])) rfl (by rw [hml]; rfl) (Steps.refl _) (a := b10) (argsL := [(.long q0), (.int p0)]) (rest := [(.ref b10)]) (lenOf pd_1 rfl) rfl (by show 2 * 0 + _ ≤ _; exact Nat.le_of_eq rfl) (hb hby at_17) (fun _ _ => ⟨rfl, e10, (by decide : 2 + 0 ≤ _), (by decide : 4 + 0 ≤ _)⟩)
  dsimp only [Pt.U, Pt.locs, Pt.cells, Pt.slots] at X19 l19 y19 z19 st19 hQ19
  subst l19 y19 z19
  obtain ⟨rfl, Nq19, K19, E19, F19_0, F19_1⟩ := hQ19
  have N19 := Fr.app N7 Nq19
  have pr20 : ∀ tg, Steps pP.tables eE below (T19.setTop (mkF mM 20 #[.val (.long q0), .second, .val (.int p0), .val (.long dl), .second, .val (.int dc), .val (.int fl), .val (.ref b1), .unset, .unset, .unset, .unset, .unset, .unset, .unset] [(.ref b10)])) tg → Steps pP.tables eE below (s₁.setTop (entryFrame mM #[(.long q0), (.int p0), (.long dl), (.int dc), (.int fl)] maxLocals)) tg := fun tg kg => pr17 _ (st19.trans kg)
  have pr21 : ∀ tg, Steps pP.tables eE below (T19.setTop (mkF mM 26 #[.val (.long q0), .second, .val (.int p0), .val (.long dl), .second, .val (.int dc), .val (.int fl), .val (.ref b1), .val (.ref b10), .unset, .unset, .unset, .unset, .unset, .unset] [(.int (fl &&& (1 : Int32)))])) tg → Steps pP.tables eE below (s₁.setTop (entryFrame mM #[(.long q0), (.int p0), (.long dl), (.int dc), (.int fl)] maxLocals)) tg := fun tg kg => pr20 _ (by
    show Steps pP.tables eE below (T19.setTop (mkF mM 20 #[.val (.long q0), .second, .val (.int p0), .val (.long dl), .second, .val (.int dc), .val (.int fl), .val (.ref b1), .unset, .unset, .unset, .unset, .unset, .unset, .unset] [(.ref b10)])) _
    refine XS.astore X19.here hx rfl (hb hby at_20) rfl rfl (l' := #[.val (.long q0), .second, .val (.int p0), .val (.long dl), .second, .val (.int dc), .val (.int fl), .val (.ref b1), .val (.ref b10), .unset, .unset, .unset, .unset, .unset, .unset]) rfl ?_
    show Steps pP.tables eE below (T19.setTop (mkF mM 22 #[.val (.long q0), .second, .val (.int p0), .val (.long dl), .second, .val (.int dc), .val (.int fl), .val (.ref b1), .val (.ref b10), .unset, .unset, .unset, .unset, .unset, .unset] [])) _
    refine XS.iload X19.here hx rfl (hb hby at_22) rfl ?_
    show Steps pP.tables eE below (T19.setTop (mkF mM 24 #[.val (.long q0), .second, .val (.int p0), .val (.long dl), .second, .val (.int dc), .val (.int fl), .val (.ref b1), .val (.ref b10), .unset, .unset, .unset, .unset, .unset, .unset] [(.int fl)])) _
    refine XS.iconst X19.here hx rfl (hb hby at_24) ?_
    show Steps pP.tables eE below (T19.setTop (mkF mM 25 #[.val (.long q0), .second, .val (.int p0), .val (.long dl), .second, .val (.int dc), .val (.int fl), .val (.ref b1), .val (.ref b10), .unset, .unset, .unset, .unset, .unset, .unset] [(.int (1 : Int32)), (.int fl)])) _
    refine XS.iand X19.here hx rfl (hb hby at_25) rfl ?_
    exact kg)
  obtain ⟨j23, hj23, st24⟩ : ∃ (j23 : Int64), j23 = (if (fl &&& (1 : Int32)) = (0 : Int32) then (q0 ^^^ dl) else q0) ∧ ∀ tg, Steps pP.tables eE below (T19.setTop (mkF mM 36 #[.val (.long q0), .second, .val (.int p0), .val (.long dl), .second, .val (.int dc), .val (.int fl), .val (.ref b1), .val (.ref b10), .unset, .unset, .unset, .unset, .unset, .unset] [(.long j23)])) tg → Steps pP.tables eE below (T19.setTop (mkF mM 26 #[.val (.long q0), .second, .val (.int p0), .val (.long dl), .second, .val (.int dc), .val (.int fl), .val (.ref b1), .val (.ref b10), .unset, .unset, .unset, .unset, .unset, .unset] [(.int (fl &&& (1 : Int32)))])) tg := by
    by_cases hj26_22 : (fl &&& (1 : Int32)) = (0 : Int32)
    ·
      refine ⟨(q0 ^^^ dl), (by rw [if_pos hj26_22]), fun tg kg => ?_⟩
      show Steps pP.tables eE below (T19.setTop (mkF mM 26 #[.val (.long q0), .second, .val (.int p0), .val (.long dl), .second, .val (.int dc), .val (.int fl), .val (.ref b1), .val (.ref b10), .unset, .unset, .unset, .unset, .unset, .unset] [(.int (fl &&& (1 : Int32)))])) _
      refine XS.ifYes X19.here hx rfl (pc0 := 26) (pc' := 33) rfl (hb hby at_26) rfl ((if0 _ _).trans (teq hj26_22).1) (by decide) (by decide) ?_
      show Steps pP.tables eE below (T19.setTop (mkF mM 33 #[.val (.long q0), .second, .val (.int p0), .val (.long dl), .second, .val (.int dc), .val (.int fl), .val (.ref b1), .val (.ref b10), .unset, .unset, .unset, .unset, .unset, .unset] [])) _
      refine XS.lloadN X19.here hx rfl (hb hby at_33) rfl ?_
      show Steps pP.tables eE below (T19.setTop (mkF mM 34 #[.val (.long q0), .second, .val (.int p0), .val (.long dl), .second, .val (.int dc), .val (.int fl), .val (.ref b1), .val (.ref b10), .unset, .unset, .unset, .unset, .unset, .unset] [(.long q0)])) _
      refine XS.lloadN X19.here hx rfl (hb hby at_34) rfl ?_
      show Steps pP.tables eE below (T19.setTop (mkF mM 35 #[.val (.long q0), .second, .val (.int p0), .val (.long dl), .second, .val (.int dc), .val (.int fl), .val (.ref b1), .val (.ref b10), .unset, .unset, .unset, .unset, .unset, .unset] [(.long dl), (.long q0)])) _
      refine XS.lxor X19.here hx rfl (hb hby at_35) rfl ?_
      exact kg
    ·
      refine ⟨q0, (by rw [if_neg hj26_22]), fun tg kg => ?_⟩
      show Steps pP.tables eE below (T19.setTop (mkF mM 26 #[.val (.long q0), .second, .val (.int p0), .val (.long dl), .second, .val (.int dc), .val (.int fl), .val (.ref b1), .val (.ref b10), .unset, .unset, .unset, .unset, .unset, .unset] [(.int (fl &&& (1 : Int32)))])) _
      refine XS.ifNo X19.here hx rfl (hb hby at_26) rfl ((if0 _ _).trans (feq hj26_22).1) ?_
      show Steps pP.tables eE below (T19.setTop (mkF mM 29 #[.val (.long q0), .second, .val (.int p0), .val (.long dl), .second, .val (.int dc), .val (.int fl), .val (.ref b1), .val (.ref b10), .unset, .unset, .unset, .unset, .unset, .unset] [])) _
      refine XS.lloadN X19.here hx rfl (hb hby at_29) rfl ?_
      show Steps pP.tables eE below (T19.setTop (mkF mM 30 #[.val (.long q0), .second, .val (.int p0), .val (.long dl), .second, .val (.int dc), .val (.int fl), .val (.ref b1), .val (.ref b10), .unset, .unset, .unset, .unset, .unset, .unset] [(.long q0)])) _
      refine XS.goto X19.here hx rfl (pc0 := 30) (pc' := 36) rfl (hb hby at_30) (by decide) (by decide) ?_
      exact kg
  have pr25 : ∀ tg, Steps pP.tables eE below (T19.setTop (mkF mM 36 #[.val (.long q0), .second, .val (.int p0), .val (.long dl), .second, .val (.int dc), .val (.int fl), .val (.ref b1), .val (.ref b10), .unset, .unset, .unset, .unset, .unset, .unset] [(.long j23)])) tg → Steps pP.tables eE below (s₁.setTop (entryFrame mM #[(.long q0), (.int p0), (.long dl), (.int dc), (.int fl)] maxLocals)) tg := fun tg kg => pr21 _ (st24 _ kg)
  have pr26 : ∀ tg, Steps pP.tables eE below (T19.setTop (mkF mM 42 #[.val (.long q0), .second, .val (.int p0), .val (.long dl), .second, .val (.int dc), .val (.int fl), .val (.ref b1), .val (.ref b10), .val (.long j23), .second, .unset, .unset, .unset, .unset] [(.int (fl &&& (2 : Int32)))])) tg → Steps pP.tables eE below (s₁.setTop (entryFrame mM #[(.long q0), (.int p0), (.long dl), (.int dc), (.int fl)] maxLocals)) tg := fun tg kg => pr25 _ (by
    show Steps pP.tables eE below (T19.setTop (mkF mM 36 #[.val (.long q0), .second, .val (.int p0), .val (.long dl), .second, .val (.int dc), .val (.int fl), .val (.ref b1), .val (.ref b10), .unset, .unset, .unset, .unset, .unset, .unset] [(.long j23)])) _
    refine XS.lstore X19.here hx rfl (hb hby at_36) rfl (l' := #[.val (.long q0), .second, .val (.int p0), .val (.long dl), .second, .val (.int dc), .val (.int fl), .val (.ref b1), .val (.ref b10), .val (.long j23), .second, .unset, .unset, .unset, .unset]) rfl ?_
    show Steps pP.tables eE below (T19.setTop (mkF mM 38 #[.val (.long q0), .second, .val (.int p0), .val (.long dl), .second, .val (.int dc), .val (.int fl), .val (.ref b1), .val (.ref b10), .val (.long j23), .second, .unset, .unset, .unset, .unset] [])) _
    refine XS.iload X19.here hx rfl (hb hby at_38) rfl ?_
    show Steps pP.tables eE below (T19.setTop (mkF mM 40 #[.val (.long q0), .second, .val (.int p0), .val (.long dl), .second, .val (.int dc), .val (.int fl), .val (.ref b1), .val (.ref b10), .val (.long j23), .second, .unset, .unset, .unset, .unset] [(.int fl)])) _
    refine XS.iconst X19.here hx rfl (hb hby at_40) ?_
    show Steps pP.tables eE below (T19.setTop (mkF mM 41 #[.val (.long q0), .second, .val (.int p0), .val (.long dl), .second, .val (.int dc), .val (.int fl), .val (.ref b1), .val (.ref b10), .val (.long j23), .second, .unset, .unset, .unset, .unset] [(.int (2 : Int32)), (.int fl)])) _
    refine XS.iand X19.here hx rfl (hb hby at_41) rfl ?_
    exact kg)
  obtain ⟨j28, hj28, st29⟩ : ∃ (j28 : Int32), j28 = (if (fl &&& (2 : Int32)) = (0 : Int32) then (p0 ^^^ dc) else p0) ∧ ∀ tg, Steps pP.tables eE below (T19.setTop (mkF mM 53 #[.val (.long q0), .second, .val (.int p0), .val (.long dl), .second, .val (.int dc), .val (.int fl), .val (.ref b1), .val (.ref b10), .val (.long j23), .second, .unset, .unset, .unset, .unset] [(.int j28)])) tg → Steps pP.tables eE below (T19.setTop (mkF mM 42 #[.val (.long q0), .second, .val (.int p0), .val (.long dl), .second, .val (.int dc), .val (.int fl), .val (.ref b1), .val (.ref b10), .val (.long j23), .second, .unset, .unset, .unset, .unset] [(.int (fl &&& (2 : Int32)))])) tg := by
    by_cases hj42_27 : (fl &&& (2 : Int32)) = (0 : Int32)
    ·
      refine ⟨(p0 ^^^ dc), (by rw [if_pos hj42_27]), fun tg kg => ?_⟩
      show Steps pP.tables eE below (T19.setTop (mkF mM 42 #[.val (.long q0), .second, .val (.int p0), .val (.long dl), .second, .val (.int dc), .val (.int fl), .val (.ref b1), .val (.ref b10), .val (.long j23), .second, .unset, .unset, .unset, .unset] [(.int (fl &&& (2 : Int32)))])) _
      refine XS.ifYes X19.here hx rfl (pc0 := 42) (pc' := 49) rfl (hb hby at_42) rfl ((if0 _ _).trans (teq hj42_27).1) (by decide) (by decide) ?_
      show Steps pP.tables eE below (T19.setTop (mkF mM 49 #[.val (.long q0), .second, .val (.int p0), .val (.long dl), .second, .val (.int dc), .val (.int fl), .val (.ref b1), .val (.ref b10), .val (.long j23), .second, .unset, .unset, .unset, .unset] [])) _
      refine XS.iloadN X19.here hx rfl (hb hby at_49) rfl ?_
      show Steps pP.tables eE below (T19.setTop (mkF mM 50 #[.val (.long q0), .second, .val (.int p0), .val (.long dl), .second, .val (.int dc), .val (.int fl), .val (.ref b1), .val (.ref b10), .val (.long j23), .second, .unset, .unset, .unset, .unset] [(.int p0)])) _
      refine XS.iload X19.here hx rfl (hb hby at_50) rfl ?_
      show Steps pP.tables eE below (T19.setTop (mkF mM 52 #[.val (.long q0), .second, .val (.int p0), .val (.long dl), .second, .val (.int dc), .val (.int fl), .val (.ref b1), .val (.ref b10), .val (.long j23), .second, .unset, .unset, .unset, .unset] [(.int dc), (.int p0)])) _
      refine XS.ixor X19.here hx rfl (hb hby at_52) rfl ?_
      exact kg
    ·
      refine ⟨p0, (by rw [if_neg hj42_27]), fun tg kg => ?_⟩
      show Steps pP.tables eE below (T19.setTop (mkF mM 42 #[.val (.long q0), .second, .val (.int p0), .val (.long dl), .second, .val (.int dc), .val (.int fl), .val (.ref b1), .val (.ref b10), .val (.long j23), .second, .unset, .unset, .unset, .unset] [(.int (fl &&& (2 : Int32)))])) _
      refine XS.ifNo X19.here hx rfl (hb hby at_42) rfl ((if0 _ _).trans (feq hj42_27).1) ?_
      show Steps pP.tables eE below (T19.setTop (mkF mM 45 #[.val (.long q0), .second, .val (.int p0), .val (.long dl), .second, .val (.int dc), .val (.int fl), .val (.ref b1), .val (.ref b10), .val (.long j23), .second, .unset, .unset, .unset, .unset] [])) _
      refine XS.iloadN X19.here hx rfl (hb hby at_45) rfl ?_
      show Steps pP.tables eE below (T19.setTop (mkF mM 46 #[.val (.long q0), .second, .val (.int p0), .val (.long dl), .second, .val (.int dc), .val (.int fl), .val (.ref b1), .val (.ref b10), .val (.long j23), .second, .unset, .unset, .unset, .unset] [(.int p0)])) _
      refine XS.goto X19.here hx rfl (pc0 := 46) (pc' := 53) rfl (hb hby at_46) (by decide) (by decide) ?_
      exact kg
  have pr30 : ∀ tg, Steps pP.tables eE below (T19.setTop (mkF mM 53 #[.val (.long q0), .second, .val (.int p0), .val (.long dl), .second, .val (.int dc), .val (.int fl), .val (.ref b1), .val (.ref b10), .val (.long j23), .second, .unset, .unset, .unset, .unset] [(.int j28)])) tg → Steps pP.tables eE below (s₁.setTop (entryFrame mM #[(.long q0), (.int p0), (.long dl), (.int dc), (.int fl)] maxLocals)) tg := fun tg kg => pr26 _ (st29 _ kg)
  have pr31 : ∀ tg, Steps pP.tables eE below (T19.setTop (mkF mM 55 #[.val (.long q0), .second, .val (.int p0), .val (.long dl), .second, .val (.int dc), .val (.int fl), .val (.ref b1), .val (.ref b10), .val (.long j23), .second, .val (.int j28), .unset, .unset, .unset] [])) tg → Steps pP.tables eE below (s₁.setTop (entryFrame mM #[(.long q0), (.int p0), (.long dl), (.int dc), (.int fl)] maxLocals)) tg := fun tg kg => pr30 _ (by
    show Steps pP.tables eE below (T19.setTop (mkF mM 53 #[.val (.long q0), .second, .val (.int p0), .val (.long dl), .second, .val (.int dc), .val (.int fl), .val (.ref b1), .val (.ref b10), .val (.long j23), .second, .unset, .unset, .unset, .unset] [(.int j28)])) _
    refine XS.istore X19.here hx rfl (hb hby at_53) rfl (l' := #[.val (.long q0), .second, .val (.int p0), .val (.long dl), .second, .val (.int dc), .val (.int fl), .val (.ref b1), .val (.ref b10), .val (.long j23), .second, .val (.int j28), .unset, .unset, .unset]) rfl ?_
    exact kg)
  obtain ⟨T32, h32, X32, e32, E32, A32, D32, -, st32⟩ := newO X19 hx hZ hown (hw _ (List.mem_of_getElem? (i := 0) rfl)) (hw _ (List.mem_of_getElem? (i := 1) rfl)) (hw _ (List.mem_of_getElem? (i := 2) rfl)) rfl (g := (mkF mM 55 #[.val (.long q0), .second, .val (.int p0), .val (.long dl), .second, .val (.int dc), .val (.int fl), .val (.ref b1), .val (.ref b10), .val (.long j23), .second, .val (.int j28), .unset, .unset, .unset] [])) rfl (hb hby at_55) (by decide) (by decide)
  obtain ⟨b32, g32⟩ : ∃ z, z = (T19.heap).size := ⟨_, rfl⟩
  rw [← g32] at A32 D32 st32
  have c34 := (Exa.keep (Exa.ext E10 E7) K19)
  have ne33 : b1 ≠ b32 := Nat.ne_of_lt (Nat.lt_of_lt_of_le (c34).lt (Nat.le_of_eq g32.symm))
  have ne35 : b10 ≠ b32 := Nat.ne_of_lt (Nat.lt_of_lt_of_le (E19).lt (Nat.le_of_eq g32.symm))
  have c37 := (Nat.le_trans c18 K19.1)
  have gn36 : n0 ≤ b32 := Nat.le_trans c37 (Nat.le_of_eq g32.symm)
  have c39 := (Keep.trans (Keep.ext c15 E10) K19 (allS (Or.inr gs14) all0))
  have gs38 : h0.size ≤ b32 := Nat.le_trans c39.1 (Nat.le_of_eq g32.symm)
  have F32_length : Fld Z h32 b32 "com/example/settle/settle/service/FileSum" "length" "J" (.long (0 : Int64)) := D32 (Or.inr (hw _ (List.mem_of_getElem? (i := 10) rfl))) (ty := .long) (by decide)
  have F32_crc : Fld Z h32 b32 "com/example/settle/settle/service/FileSum" "crc" "I" (.int (0 : Int32)) := D32 (Or.inr (hw _ (List.mem_of_getElem? (i := 12) rfl))) (ty := .int) (by decide)
  have pr40 : ∀ tg, Steps pP.tables eE below (T32.setTop (mkF mM 58 #[.val (.long q0), .second, .val (.int p0), .val (.long dl), .second, .val (.int dc), .val (.int fl), .val (.ref b1), .val (.ref b10), .val (.long j23), .second, .val (.int j28), .unset, .unset, .unset] [(.ref b32)])) tg → Steps pP.tables eE below (s₁.setTop (entryFrame mM #[(.long q0), (.int p0), (.long dl), (.int dc), (.int fl)] maxLocals)) tg := fun tg kg => pr31 _ (st32 _ kg)
  have pr41 : ∀ tg, Steps pP.tables eE below (T32.setTop (mkF mM 63 #[.val (.long q0), .second, .val (.int p0), .val (.long dl), .second, .val (.int dc), .val (.int fl), .val (.ref b1), .val (.ref b10), .val (.long j23), .second, .val (.int j28), .unset, .unset, .unset] [(.int j28), (.long j23), (.ref b32), (.ref b32)])) tg → Steps pP.tables eE below (s₁.setTop (entryFrame mM #[(.long q0), (.int p0), (.long dl), (.int dc), (.int fl)] maxLocals)) tg := fun tg kg => pr40 _ (by
    show Steps pP.tables eE below (T32.setTop (mkF mM 58 #[.val (.long q0), .second, .val (.int p0), .val (.long dl), .second, .val (.int dc), .val (.int fl), .val (.ref b1), .val (.ref b10), .val (.long j23), .second, .val (.int j28), .unset, .unset, .unset] [(.ref b32)])) _
    refine XS.dup X32.here hx rfl (hb hby at_58) rfl rfl ?_
    show Steps pP.tables eE below (T32.setTop (mkF mM 59 #[.val (.long q0), .second, .val (.int p0), .val (.long dl), .second, .val (.int dc), .val (.int fl), .val (.ref b1), .val (.ref b10), .val (.long j23), .second, .val (.int j28), .unset, .unset, .unset] [(.ref b32), (.ref b32)])) _
    refine XS.lload X32.here hx rfl (hb hby at_59) rfl ?_
    show Steps pP.tables eE below (T32.setTop (mkF mM 61 #[.val (.long q0), .second, .val (.int p0), .val (.long dl), .second, .val (.int dc), .val (.int fl), .val (.ref b1), .val (.ref b10), .val (.long j23), .second, .val (.int j28), .unset, .unset, .unset] [(.long j23), (.ref b32), (.ref b32)])) _
    refine XS.iload X32.here hx rfl (hb hby at_61) rfl ?_
    exact kg)
  have c42 := (Nat.le_trans c37 E32.1)
  obtain ⟨_, _, ⟨T43, L43, kk43, nn43⟩, -, X43, ⟨Lc43, hQ43, l43, y43, z43⟩, st43⟩ := X32.specialBack hx (y := (⟨"com/example/settle/settle/service/FileSum", "<init>", "(JI)V"⟩ : MethodName)) rfl hown (mvT hZ (hw _ (List.mem_of_getElem? (i := 3) rfl))) (mvT hZ (hw _ (List.mem_of_getElem? (i := 4) rfl))) (mvT hZ (hw _ (List.mem_of_getElem? (i := 5) rfl))) (by decide) (backOf (W := 1) (rm1 l Z a0 hw [] b32 j23 j28 h32 n0 c42 A32 gn36 F32_length F32_crc ) hZ (hw _ (List.mem_of_getElem? (i := 5) rfl)) (hw _ (List.mem_of_getElem? (i := 2) rfl)) (by decide) (by decide)) (g := (mkF mM 63 #[.val (.long q0), .second, .val (.int p0), .val (.long dl), .second, .val (.int dc), .val (.int fl), .val (.ref b1), .val (.ref b10), .val (.long j23), .second, .val (.int j28), .unset, .unset, .unset] [(.int j28), (.long j23), (.ref b32), (.ref b32)])) rfl (by rw [hml]; rfl) (Steps.refl _) (a := b32) (argsL := [(.long j23), (.int j28)]) (rest := [(.ref b32)]) (lenOf pd_1 rfl) rfl (by show 2 * 0 + _ ≤ _; exact Nat.le_of_eq rfl) (hb hby at_63) (fun _ _ => ⟨rfl, e32, (by decide : 3 + 0 ≤ _), (by decide : 6 + 0 ≤ _)⟩)
  dsimp only [Pt.U, Pt.locs, Pt.cells, Pt.slots] at X43 l43 y43 z43 st43 hQ43
  subst l43 y43 z43
  obtain ⟨rfl, Nq43, K43, E43, F43_0, F43_1⟩ := hQ43
  have N43 := Fr.app N19 Nq43
  have pr44 : ∀ tg, Steps pP.tables eE below (T43.setTop (mkF mM 66 #[.val (.long q0), .second, .val (.int p0), .val (.long dl), .second, .val (.int dc), .val (.int fl), .val (.ref b1), .val (.ref b10), .val (.long j23), .second, .val (.int j28), .unset, .unset, .unset] [(.ref b32)])) tg → Steps pP.tables eE below (s₁.setTop (entryFrame mM #[(.long q0), (.int p0), (.long dl), (.int dc), (.int fl)] maxLocals)) tg := fun tg kg => pr41 _ (st43.trans kg)
  have c45 := (Exa.keep (Exa.ext E32 c34) K43)
  have c46 := (Fld.keep (Fld.ext E32 (Fld.keep (Fld.ext E10 F7_0) K19 (ninS ne11 nin0))) K43 (ninS ne33 nin0))
  have c47 := (Fld.keep (Fld.ext E32 (Fld.keep (Fld.ext E10 F7_1) K19 (ninS ne11 nin0))) K43 (ninS ne33 nin0))
  have pr48 : ∀ tg, Steps pP.tables eE below (T43.setTop (mkF mM 70 #[.val (.long q0), .second, .val (.int p0), .val (.long dl), .second, .val (.int dc), .val (.int fl), .val (.ref b1), .val (.ref b10), .val (.long j23), .second, .val (.int j28), .val (.ref b32), .unset, .unset] [(.ref b1)])) tg → Steps pP.tables eE below (s₁.setTop (entryFrame mM #[(.long q0), (.int p0), (.long dl), (.int dc), (.int fl)] maxLocals)) tg := fun tg kg => pr44 _ (by
    show Steps pP.tables eE below (T43.setTop (mkF mM 66 #[.val (.long q0), .second, .val (.int p0), .val (.long dl), .second, .val (.int dc), .val (.int fl), .val (.ref b1), .val (.ref b10), .val (.long j23), .second, .val (.int j28), .unset, .unset, .unset] [(.ref b32)])) _
    refine XS.astore X43.here hx rfl (hb hby at_66) rfl rfl (l' := #[.val (.long q0), .second, .val (.int p0), .val (.long dl), .second, .val (.int dc), .val (.int fl), .val (.ref b1), .val (.ref b10), .val (.long j23), .second, .val (.int j28), .val (.ref b32), .unset, .unset]) rfl ?_
    show Steps pP.tables eE below (T43.setTop (mkF mM 68 #[.val (.long q0), .second, .val (.int p0), .val (.long dl), .second, .val (.int dc), .val (.int fl), .val (.ref b1), .val (.ref b10), .val (.long j23), .second, .val (.int j28), .val (.ref b32), .unset, .unset] [])) _
    refine XS.aload X43.here hx rfl (hb hby at_68) rfl rfl ?_
    exact kg)
  have c49 := (Nat.le_trans c42 K43.1)
  obtain ⟨cq50, kq50, qa50, qb50, qc50⟩ := isOf hZ rfl c45
  obtain ⟨_, _, ⟨T50, L50, kk50, nn50⟩, -, X50, ⟨Lc50, hQ50, l50, y50, z50⟩, st50⟩ := X43.virtualBack hx (y := (⟨"com/example/settle/settle/service/FileSum", "hashCode", "()I"⟩ : MethodName)) (z := (⟨"com/example/settle/settle/service/FileSum", "hashCode", "()I"⟩ : MethodName)) hown (mvT hZ (hw _ (List.mem_of_getElem? (i := 13) rfl))) (mvT hZ (hw _ (List.mem_of_getElem? (i := 14) rfl))) (notFace_of_selects (args := #[]) (mvT hZ (hw _ (List.mem_of_getElem? (i := 16) rfl)))) (mvT hZ (hw _ (List.mem_of_getElem? (i := 16) rfl))) (mvT hZ (hw _ (List.mem_of_getElem? (i := 15) rfl))) (by decide) (backOf (W := 0) (rm3 l Z a0 hw [] b1 q0 p0 T43.heap n0 c49 c45 c46 c47) hZ (hw _ (List.mem_of_getElem? (i := 17) rfl)) (hw _ (List.mem_of_getElem? (i := 2) rfl)) (by decide) (by decide)) qa50 qc50 (g := (mkF mM 70 #[.val (.long q0), .second, .val (.int p0), .val (.long dl), .second, .val (.int dc), .val (.int fl), .val (.ref b1), .val (.ref b10), .val (.long j23), .second, .val (.int j28), .val (.ref b32), .unset, .unset] [(.ref b1)])) rfl (by rw [hml]; rfl) (Steps.refl _) (argsL := []) (rest := []) (lenOf pd_2 rfl) rfl (by show 2 * 0 + _ ≤ _; exact Nat.le_of_eq rfl) (hb hby at_70) (fun _ _ => ⟨rfl, rfl, (by decide : 3 + 0 ≤ _), (by decide : 6 + 0 ≤ _)⟩)
  dsimp only [Pt.U, Pt.locs, Pt.cells, Pt.slots] at X50 l50 y50 z50 st50 hQ50
  subst l50 y50 z50
  obtain ⟨rfl, Nq50, e50⟩ := hQ50
  have N50 := Fr.app N43 Nq50
  have pr51 : ∀ tg, Steps pP.tables eE below (T50.setTop (mkF mM 73 #[.val (.long q0), .second, .val (.int p0), .val (.long dl), .second, .val (.int dc), .val (.int fl), .val (.ref b1), .val (.ref b10), .val (.long j23), .second, .val (.int j28), .val (.ref b32), .unset, .unset] [(.int (own_hash q0 p0))])) tg → Steps pP.tables eE below (s₁.setTop (entryFrame mM #[(.long q0), (.int p0), (.long dl), (.int dc), (.int fl)] maxLocals)) tg := fun tg kg => pr48 _ (st50.trans kg)
  have pr52 : ∀ tg, Steps pP.tables eE below (T50.setTop (mkF mM 79 #[.val (.long q0), .second, .val (.int p0), .val (.long dl), .second, .val (.int dc), .val (.int fl), .val (.ref b1), .val (.ref b10), .val (.long j23), .second, .val (.int j28), .val (.ref b32), .val (.int (own_hash q0 p0)), .unset] [(.ref b1), (.int (own_hash q0 p0))])) tg → Steps pP.tables eE below (s₁.setTop (entryFrame mM #[(.long q0), (.int p0), (.long dl), (.int dc), (.int fl)] maxLocals)) tg := fun tg kg => pr51 _ (by
    show Steps pP.tables eE below (T50.setTop (mkF mM 73 #[.val (.long q0), .second, .val (.int p0), .val (.long dl), .second, .val (.int dc), .val (.int fl), .val (.ref b1), .val (.ref b10), .val (.long j23), .second, .val (.int j28), .val (.ref b32), .unset, .unset] [(.int (own_hash q0 p0))])) _
    refine XS.istore X50.here hx rfl (hb hby at_73) rfl (l' := #[.val (.long q0), .second, .val (.int p0), .val (.long dl), .second, .val (.int dc), .val (.int fl), .val (.ref b1), .val (.ref b10), .val (.long j23), .second, .val (.int j28), .val (.ref b32), .val (.int (own_hash q0 p0)), .unset]) rfl ?_
    show Steps pP.tables eE below (T50.setTop (mkF mM 75 #[.val (.long q0), .second, .val (.int p0), .val (.long dl), .second, .val (.int dc), .val (.int fl), .val (.ref b1), .val (.ref b10), .val (.long j23), .second, .val (.int j28), .val (.ref b32), .val (.int (own_hash q0 p0)), .unset] [])) _
    refine XS.iload X50.here hx rfl (hb hby at_75) rfl ?_
    show Steps pP.tables eE below (T50.setTop (mkF mM 77 #[.val (.long q0), .second, .val (.int p0), .val (.long dl), .second, .val (.int dc), .val (.int fl), .val (.ref b1), .val (.ref b10), .val (.long j23), .second, .val (.int j28), .val (.ref b32), .val (.int (own_hash q0 p0)), .unset] [(.int (own_hash q0 p0))])) _
    refine XS.aload X50.here hx rfl (hb hby at_77) rfl rfl ?_
    exact kg)
  obtain ⟨cq53, kq53, qa53, qb53, qc53⟩ := isOf hZ e50 c45
  obtain ⟨_, _, ⟨T53, L53, kk53, nn53⟩, -, X53, ⟨Lc53, hQ53, l53, y53, z53⟩, st53⟩ := X50.virtualBack hx (y := (⟨"com/example/settle/settle/service/FileSum", "hashCode", "()I"⟩ : MethodName)) (z := (⟨"com/example/settle/settle/service/FileSum", "hashCode", "()I"⟩ : MethodName)) hown (mvT hZ (hw _ (List.mem_of_getElem? (i := 13) rfl))) (mvT hZ (hw _ (List.mem_of_getElem? (i := 14) rfl))) (notFace_of_selects (args := #[]) (mvT hZ (hw _ (List.mem_of_getElem? (i := 16) rfl)))) (mvT hZ (hw _ (List.mem_of_getElem? (i := 16) rfl))) (mvT hZ (hw _ (List.mem_of_getElem? (i := 15) rfl))) (by decide) (backOf (W := 1) (rm3 l Z a0 hw [] b1 q0 p0 T43.heap n0 c49 c45 c46 c47) hZ (hw _ (List.mem_of_getElem? (i := 17) rfl)) (hw _ (List.mem_of_getElem? (i := 2) rfl)) (by decide) (by decide)) qa53 qc53 (g := (mkF mM 79 #[.val (.long q0), .second, .val (.int p0), .val (.long dl), .second, .val (.int dc), .val (.int fl), .val (.ref b1), .val (.ref b10), .val (.long j23), .second, .val (.int j28), .val (.ref b32), .val (.int (own_hash q0 p0)), .unset] [(.ref b1), (.int (own_hash q0 p0))])) rfl (by rw [hml]; rfl) (Steps.refl _) (argsL := []) (rest := [(.int (own_hash q0 p0))]) (lenOf pd_2 rfl) rfl (by show 2 * 0 + _ ≤ _; exact Nat.le_of_eq rfl) (hb hby at_79) (fun _ _ => ⟨rfl, e50, (by decide : 3 + 0 ≤ _), (by decide : 6 + 0 ≤ _)⟩)
  dsimp only [Pt.U, Pt.locs, Pt.cells, Pt.slots] at X53 l53 y53 z53 st53 hQ53
  subst l53 y53 z53
  obtain ⟨rfl, Nq53, e53⟩ := hQ53
  have N53 := Fr.app N50 Nq53
  have pr54 : ∀ tg, Steps pP.tables eE below (T53.setTop (mkF mM 82 #[.val (.long q0), .second, .val (.int p0), .val (.long dl), .second, .val (.int dc), .val (.int fl), .val (.ref b1), .val (.ref b10), .val (.long j23), .second, .val (.int j28), .val (.ref b32), .val (.int (own_hash q0 p0)), .unset] [(.int (own_hash q0 p0)), (.int (own_hash q0 p0))])) tg → Steps pP.tables eE below (s₁.setTop (entryFrame mM #[(.long q0), (.int p0), (.long dl), (.int dc), (.int fl)] maxLocals)) tg := fun tg kg => pr52 _ (st53.trans kg)
  have c55 := (Exa.keep (Exa.ext E32 E19) K43)
  have c56 := (Fld.keep (Fld.ext E32 F19_0) K43 (ninS ne35 nin0))
  have c57 := (Fld.keep (Fld.ext E32 F19_1) K43 (ninS ne35 nin0))
  have pr58 : ∀ tg, Steps pP.tables eE below (T53.setTop (mkF mM 91 #[.val (.long q0), .second, .val (.int p0), .val (.long dl), .second, .val (.int dc), .val (.int fl), .val (.ref b1), .val (.ref b10), .val (.long j23), .second, .val (.int j28), .val (.ref b32), .val (.int (own_hash q0 p0)), .unset] [(.ref b10), (.int (own_hash q0 p0))])) tg → Steps pP.tables eE below (s₁.setTop (entryFrame mM #[(.long q0), (.int p0), (.long dl), (.int dc), (.int fl)] maxLocals)) tg := fun tg kg => pr54 _ (by
    show Steps pP.tables eE below (T53.setTop (mkF mM 82 #[.val (.long q0), .second, .val (.int p0), .val (.long dl), .second, .val (.int dc), .val (.int fl), .val (.ref b1), .val (.ref b10), .val (.long j23), .second, .val (.int j28), .val (.ref b32), .val (.int (own_hash q0 p0)), .unset] [(.int (own_hash q0 p0)), (.int (own_hash q0 p0))])) _
    refine XS.icmpYes X53.here hx rfl (pc0 := 82) (pc' := 87) rfl (hb hby at_82) rfl (teq rfl).1 (by decide) (by decide) ?_
    show Steps pP.tables eE below (T53.setTop (mkF mM 87 #[.val (.long q0), .second, .val (.int p0), .val (.long dl), .second, .val (.int dc), .val (.int fl), .val (.ref b1), .val (.ref b10), .val (.long j23), .second, .val (.int j28), .val (.ref b32), .val (.int (own_hash q0 p0)), .unset] [])) _
    refine XS.iload X53.here hx rfl (hb hby at_87) rfl ?_
    show Steps pP.tables eE below (T53.setTop (mkF mM 89 #[.val (.long q0), .second, .val (.int p0), .val (.long dl), .second, .val (.int dc), .val (.int fl), .val (.ref b1), .val (.ref b10), .val (.long j23), .second, .val (.int j28), .val (.ref b32), .val (.int (own_hash q0 p0)), .unset] [(.int (own_hash q0 p0))])) _
    refine XS.aload X53.here hx rfl (hb hby at_89) rfl rfl ?_
    exact kg)
  obtain ⟨cq59, kq59, qa59, qb59, qc59⟩ := isOf hZ e53 c55
  obtain ⟨_, _, ⟨T59, L59, kk59, nn59⟩, -, X59, ⟨Lc59, hQ59, l59, y59, z59⟩, st59⟩ := X53.virtualBack hx (y := (⟨"com/example/settle/settle/service/FileSum", "hashCode", "()I"⟩ : MethodName)) (z := (⟨"com/example/settle/settle/service/FileSum", "hashCode", "()I"⟩ : MethodName)) hown (mvT hZ (hw _ (List.mem_of_getElem? (i := 13) rfl))) (mvT hZ (hw _ (List.mem_of_getElem? (i := 14) rfl))) (notFace_of_selects (args := #[]) (mvT hZ (hw _ (List.mem_of_getElem? (i := 16) rfl)))) (mvT hZ (hw _ (List.mem_of_getElem? (i := 16) rfl))) (mvT hZ (hw _ (List.mem_of_getElem? (i := 15) rfl))) (by decide) (backOf (W := 1) (rm3 l Z a0 hw [] b10 q0 p0 T43.heap n0 c49 c55 c56 c57) hZ (hw _ (List.mem_of_getElem? (i := 17) rfl)) (hw _ (List.mem_of_getElem? (i := 2) rfl)) (by decide) (by decide)) qa59 qc59 (g := (mkF mM 91 #[.val (.long q0), .second, .val (.int p0), .val (.long dl), .second, .val (.int dc), .val (.int fl), .val (.ref b1), .val (.ref b10), .val (.long j23), .second, .val (.int j28), .val (.ref b32), .val (.int (own_hash q0 p0)), .unset] [(.ref b10), (.int (own_hash q0 p0))])) rfl (by rw [hml]; rfl) (Steps.refl _) (argsL := []) (rest := [(.int (own_hash q0 p0))]) (lenOf pd_2 rfl) rfl (by show 2 * 0 + _ ≤ _; exact Nat.le_of_eq rfl) (hb hby at_91) (fun _ _ => ⟨rfl, e53, (by decide : 3 + 0 ≤ _), (by decide : 6 + 0 ≤ _)⟩)
  dsimp only [Pt.U, Pt.locs, Pt.cells, Pt.slots] at X59 l59 y59 z59 st59 hQ59
  subst l59 y59 z59
  obtain ⟨rfl, Nq59, e59⟩ := hQ59
  have N59 := Fr.app N53 Nq59
  have pr60 : ∀ tg, Steps pP.tables eE below (T59.setTop (mkF mM 94 #[.val (.long q0), .second, .val (.int p0), .val (.long dl), .second, .val (.int dc), .val (.int fl), .val (.ref b1), .val (.ref b10), .val (.long j23), .second, .val (.int j28), .val (.ref b32), .val (.int (own_hash q0 p0)), .unset] [(.int (own_hash q0 p0)), (.int (own_hash q0 p0))])) tg → Steps pP.tables eE below (s₁.setTop (entryFrame mM #[(.long q0), (.int p0), (.long dl), (.int dc), (.int fl)] maxLocals)) tg := fun tg kg => pr58 _ (st59.trans kg)
  have pr62 : ∀ tg, Steps pP.tables eE below (T59.setTop (mkF mM 103 #[.val (.long q0), .second, .val (.int p0), .val (.long dl), .second, .val (.int dc), .val (.int fl), .val (.ref b1), .val (.ref b10), .val (.long j23), .second, .val (.int j28), .val (.ref b32), .val (.int (own_hash q0 p0)), .unset] [(.int (lcmpW j23 q0))])) tg → Steps pP.tables eE below (s₁.setTop (entryFrame mM #[(.long q0), (.int p0), (.long dl), (.int dc), (.int fl)] maxLocals)) tg := fun tg kg => pr60 _ (by
    show Steps pP.tables eE below (T59.setTop (mkF mM 94 #[.val (.long q0), .second, .val (.int p0), .val (.long dl), .second, .val (.int dc), .val (.int fl), .val (.ref b1), .val (.ref b10), .val (.long j23), .second, .val (.int j28), .val (.ref b32), .val (.int (own_hash q0 p0)), .unset] [(.int (own_hash q0 p0)), (.int (own_hash q0 p0))])) _
    refine XS.icmpYes X59.here hx rfl (pc0 := 94) (pc' := 99) rfl (hb hby at_94) rfl (teq rfl).1 (by decide) (by decide) ?_
    show Steps pP.tables eE below (T59.setTop (mkF mM 99 #[.val (.long q0), .second, .val (.int p0), .val (.long dl), .second, .val (.int dc), .val (.int fl), .val (.ref b1), .val (.ref b10), .val (.long j23), .second, .val (.int j28), .val (.ref b32), .val (.int (own_hash q0 p0)), .unset] [])) _
    refine XS.lload X59.here hx rfl (hb hby at_99) rfl ?_
    show Steps pP.tables eE below (T59.setTop (mkF mM 101 #[.val (.long q0), .second, .val (.int p0), .val (.long dl), .second, .val (.int dc), .val (.int fl), .val (.ref b1), .val (.ref b10), .val (.long j23), .second, .val (.int j28), .val (.ref b32), .val (.int (own_hash q0 p0)), .unset] [(.long j23)])) _
    refine XS.lloadN X59.here hx rfl (hb hby at_101) rfl ?_
    show Steps pP.tables eE below (T59.setTop (mkF mM 102 #[.val (.long q0), .second, .val (.int p0), .val (.long dl), .second, .val (.int dc), .val (.int fl), .val (.ref b1), .val (.ref b10), .val (.long j23), .second, .val (.int j28), .val (.ref b32), .val (.int (own_hash q0 p0)), .unset] [(.long q0), (.long j23)])) _
    refine XS.lcmp X59.here hx rfl (hb hby at_102) rfl ?_
    exact kg)
  by_cases hc103_61 : j23 = q0
  ·
    have pr64 : ∀ tg, Steps pP.tables eE below (T59.setTop (mkF mM 109 #[.val (.long q0), .second, .val (.int p0), .val (.long dl), .second, .val (.int dc), .val (.int fl), .val (.ref b1), .val (.ref b10), .val (.long j23), .second, .val (.int j28), .val (.ref b32), .val (.int (own_hash q0 p0)), .unset] [(.int p0), (.int j28)])) tg → Steps pP.tables eE below (s₁.setTop (entryFrame mM #[(.long q0), (.int p0), (.long dl), (.int dc), (.int fl)] maxLocals)) tg := fun tg kg => pr62 _ (by
      show Steps pP.tables eE below (T59.setTop (mkF mM 103 #[.val (.long q0), .second, .val (.int p0), .val (.long dl), .second, .val (.int dc), .val (.int fl), .val (.ref b1), .val (.ref b10), .val (.long j23), .second, .val (.int j28), .val (.ref b32), .val (.int (own_hash q0 p0)), .unset] [(.int (lcmpW j23 q0))])) _
      refine XS.ifNo X59.here hx rfl (hb hby at_103) rfl ((if0 _ _).trans (teq ((lw_eq _ _).mpr hc103_61)).2) ?_
      show Steps pP.tables eE below (T59.setTop (mkF mM 106 #[.val (.long q0), .second, .val (.int p0), .val (.long dl), .second, .val (.int dc), .val (.int fl), .val (.ref b1), .val (.ref b10), .val (.long j23), .second, .val (.int j28), .val (.ref b32), .val (.int (own_hash q0 p0)), .unset] [])) _
      refine XS.iload X59.here hx rfl (hb hby at_106) rfl ?_
      show Steps pP.tables eE below (T59.setTop (mkF mM 108 #[.val (.long q0), .second, .val (.int p0), .val (.long dl), .second, .val (.int dc), .val (.int fl), .val (.ref b1), .val (.ref b10), .val (.long j23), .second, .val (.int j28), .val (.ref b32), .val (.int (own_hash q0 p0)), .unset] [(.int j28)])) _
      refine XS.iloadN X59.here hx rfl (hb hby at_108) rfl ?_
      exact kg)
    by_cases hc109_63 : j28 = p0
    ·
      have pr65 : ∀ tg, Steps pP.tables eE below (T59.setTop (mkF mM 128 #[.val (.long q0), .second, .val (.int p0), .val (.long dl), .second, .val (.int dc), .val (.int fl), .val (.ref b1), .val (.ref b10), .val (.long j23), .second, .val (.int j28), .val (.ref b32), .val (.int (own_hash q0 p0)), .val (.int (1 : Int32))] [(.ref b32), (.int (own_hash q0 p0))])) tg → Steps pP.tables eE below (s₁.setTop (entryFrame mM #[(.long q0), (.int p0), (.long dl), (.int dc), (.int fl)] maxLocals)) tg := fun tg kg => pr64 _ (by
        show Steps pP.tables eE below (T59.setTop (mkF mM 109 #[.val (.long q0), .second, .val (.int p0), .val (.long dl), .second, .val (.int dc), .val (.int fl), .val (.ref b1), .val (.ref b10), .val (.long j23), .second, .val (.int j28), .val (.ref b32), .val (.int (own_hash q0 p0)), .unset] [(.int p0), (.int j28)])) _
        refine XS.icmpNo X59.here hx rfl (hb hby at_109) rfl (teq hc109_63).2 ?_
        show Steps pP.tables eE below (T59.setTop (mkF mM 112 #[.val (.long q0), .second, .val (.int p0), .val (.long dl), .second, .val (.int dc), .val (.int fl), .val (.ref b1), .val (.ref b10), .val (.long j23), .second, .val (.int j28), .val (.ref b32), .val (.int (own_hash q0 p0)), .unset] [])) _
        refine XS.iconst X59.here hx rfl (hb hby at_112) ?_
        show Steps pP.tables eE below (T59.setTop (mkF mM 113 #[.val (.long q0), .second, .val (.int p0), .val (.long dl), .second, .val (.int dc), .val (.int fl), .val (.ref b1), .val (.ref b10), .val (.long j23), .second, .val (.int j28), .val (.ref b32), .val (.int (own_hash q0 p0)), .unset] [(.int (1 : Int32))])) _
        refine XS.goto X59.here hx rfl (pc0 := 113) (pc' := 117) rfl (hb hby at_113) (by decide) (by decide) ?_
        show Steps pP.tables eE below (T59.setTop (mkF mM 117 #[.val (.long q0), .second, .val (.int p0), .val (.long dl), .second, .val (.int dc), .val (.int fl), .val (.ref b1), .val (.ref b10), .val (.long j23), .second, .val (.int j28), .val (.ref b32), .val (.int (own_hash q0 p0)), .unset] [(.int (1 : Int32))])) _
        refine XS.istore X59.here hx rfl (hb hby at_117) rfl (l' := #[.val (.long q0), .second, .val (.int p0), .val (.long dl), .second, .val (.int dc), .val (.int fl), .val (.ref b1), .val (.ref b10), .val (.long j23), .second, .val (.int j28), .val (.ref b32), .val (.int (own_hash q0 p0)), .val (.int (1 : Int32))]) rfl ?_
        show Steps pP.tables eE below (T59.setTop (mkF mM 119 #[.val (.long q0), .second, .val (.int p0), .val (.long dl), .second, .val (.int dc), .val (.int fl), .val (.ref b1), .val (.ref b10), .val (.long j23), .second, .val (.int j28), .val (.ref b32), .val (.int (own_hash q0 p0)), .val (.int (1 : Int32))] [])) _
        refine XS.iload X59.here hx rfl (hb hby at_119) rfl ?_
        show Steps pP.tables eE below (T59.setTop (mkF mM 121 #[.val (.long q0), .second, .val (.int p0), .val (.long dl), .second, .val (.int dc), .val (.int fl), .val (.ref b1), .val (.ref b10), .val (.long j23), .second, .val (.int j28), .val (.ref b32), .val (.int (own_hash q0 p0)), .val (.int (1 : Int32))] [(.int (1 : Int32))])) _
        refine XS.ifNo X59.here hx rfl (hb hby at_121) rfl ((if0 _ _).trans (feq (by decide)).1) ?_
        show Steps pP.tables eE below (T59.setTop (mkF mM 124 #[.val (.long q0), .second, .val (.int p0), .val (.long dl), .second, .val (.int dc), .val (.int fl), .val (.ref b1), .val (.ref b10), .val (.long j23), .second, .val (.int j28), .val (.ref b32), .val (.int (own_hash q0 p0)), .val (.int (1 : Int32))] [])) _
        refine XS.iload X59.here hx rfl (hb hby at_124) rfl ?_
        show Steps pP.tables eE below (T59.setTop (mkF mM 126 #[.val (.long q0), .second, .val (.int p0), .val (.long dl), .second, .val (.int dc), .val (.int fl), .val (.ref b1), .val (.ref b10), .val (.long j23), .second, .val (.int j28), .val (.ref b32), .val (.int (own_hash q0 p0)), .val (.int (1 : Int32))] [(.int (own_hash q0 p0))])) _
        refine XS.aload X59.here hx rfl (hb hby at_126) rfl rfl ?_
        exact kg)
      obtain ⟨cq66, kq66, qa66, qb66, qc66⟩ := isOf hZ e59 E43
      obtain ⟨_, _, ⟨T66, L66, kk66, nn66⟩, -, X66, ⟨Lc66, hQ66, l66, y66, z66⟩, st66⟩ := X59.virtualBack hx (y := (⟨"com/example/settle/settle/service/FileSum", "hashCode", "()I"⟩ : MethodName)) (z := (⟨"com/example/settle/settle/service/FileSum", "hashCode", "()I"⟩ : MethodName)) hown (mvT hZ (hw _ (List.mem_of_getElem? (i := 13) rfl))) (mvT hZ (hw _ (List.mem_of_getElem? (i := 14) rfl))) (notFace_of_selects (args := #[]) (mvT hZ (hw _ (List.mem_of_getElem? (i := 16) rfl)))) (mvT hZ (hw _ (List.mem_of_getElem? (i := 16) rfl))) (mvT hZ (hw _ (List.mem_of_getElem? (i := 15) rfl))) (by decide) (backOf (W := 1) (rm3 l Z a0 hw [] b32 j23 j28 T43.heap n0 c49 E43 F43_0 F43_1) hZ (hw _ (List.mem_of_getElem? (i := 17) rfl)) (hw _ (List.mem_of_getElem? (i := 2) rfl)) (by decide) (by decide)) qa66 qc66 (g := (mkF mM 128 #[.val (.long q0), .second, .val (.int p0), .val (.long dl), .second, .val (.int dc), .val (.int fl), .val (.ref b1), .val (.ref b10), .val (.long j23), .second, .val (.int j28), .val (.ref b32), .val (.int (own_hash q0 p0)), .val (.int (1 : Int32))] [(.ref b32), (.int (own_hash q0 p0))])) rfl (by rw [hml]; rfl) (Steps.refl _) (argsL := []) (rest := [(.int (own_hash q0 p0))]) (lenOf pd_2 rfl) rfl (by show 2 * 0 + _ ≤ _; exact Nat.le_of_eq rfl) (hb hby at_128) (fun _ _ => ⟨rfl, e59, (by decide : 3 + 0 ≤ _), (by decide : 6 + 0 ≤ _)⟩)
      dsimp only [Pt.U, Pt.locs, Pt.cells, Pt.slots] at X66 l66 y66 z66 st66 hQ66
      subst l66 y66 z66
      obtain ⟨rfl, Nq66, e66⟩ := hQ66
      have N66 := Fr.app N59 Nq66
      have pr67 : ∀ tg, Steps pP.tables eE below (T66.setTop (mkF mM 131 #[.val (.long q0), .second, .val (.int p0), .val (.long dl), .second, .val (.int dc), .val (.int fl), .val (.ref b1), .val (.ref b10), .val (.long j23), .second, .val (.int j28), .val (.ref b32), .val (.int (own_hash q0 p0)), .val (.int (1 : Int32))] [(.int (own_hash j23 j28)), (.int (own_hash q0 p0))])) tg → Steps pP.tables eE below (s₁.setTop (entryFrame mM #[(.long q0), (.int p0), (.long dl), (.int dc), (.int fl)] maxLocals)) tg := fun tg kg => pr65 _ (st66.trans kg)
      have pr68 : ∀ tg, Steps pP.tables eE below (T66.setTop (mkF mM 139 #[.val (.long q0), .second, .val (.int p0), .val (.long dl), .second, .val (.int dc), .val (.int fl), .val (.ref b1), .val (.ref b10), .val (.long j23), .second, .val (.int j28), .val (.ref b32), .val (.int (own_hash q0 p0)), .val (.int (1 : Int32))] [(.int (1 : Int32))])) tg → Steps pP.tables eE below (s₁.setTop (entryFrame mM #[(.long q0), (.int p0), (.long dl), (.int dc), (.int fl)] maxLocals)) tg := fun tg kg => pr67 _ (by
        show Steps pP.tables eE below (T66.setTop (mkF mM 131 #[.val (.long q0), .second, .val (.int p0), .val (.long dl), .second, .val (.int dc), .val (.int fl), .val (.ref b1), .val (.ref b10), .val (.long j23), .second, .val (.int j28), .val (.ref b32), .val (.int (own_hash q0 p0)), .val (.int (1 : Int32))] [(.int (own_hash j23 j28)), (.int (own_hash q0 p0))])) _
        refine XS.icmpNo X66.here hx rfl (hb hby at_131) rfl (teq (by rw [hc103_61, hc109_63])).2 ?_
        show Steps pP.tables eE below (T66.setTop (mkF mM 134 #[.val (.long q0), .second, .val (.int p0), .val (.long dl), .second, .val (.int dc), .val (.int fl), .val (.ref b1), .val (.ref b10), .val (.long j23), .second, .val (.int j28), .val (.ref b32), .val (.int (own_hash q0 p0)), .val (.int (1 : Int32))] [])) _
        refine XS.iconst X66.here hx rfl (hb hby at_134) ?_
        show Steps pP.tables eE below (T66.setTop (mkF mM 135 #[.val (.long q0), .second, .val (.int p0), .val (.long dl), .second, .val (.int dc), .val (.int fl), .val (.ref b1), .val (.ref b10), .val (.long j23), .second, .val (.int j28), .val (.ref b32), .val (.int (own_hash q0 p0)), .val (.int (1 : Int32))] [(.int (1 : Int32))])) _
        refine XS.goto X66.here hx rfl (pc0 := 135) (pc' := 139) rfl (hb hby at_135) (by decide) (by decide) ?_
        exact kg)
      obtain ⟨fs, hr, hrun, hended, hW, hsame⟩ := X66.leave (v := some (.int (1 : Int32))) (fun h => by rw [Bd.returns] at h; cases h)
      refine ⟨_, _, pr68 _ (retOut X66 hx (t := .boolean) Bd.returns rfl (Or.inl ⟨rfl, Or.inr (Or.inl rfl), _, rfl⟩) (hb hby at_139) hr), hrun, hended, _, _, rfl, ?_, ⟨_, rfl⟩, hW, hsame.mono (by decide) (by decide)⟩
      show Q0 Z q0 p0 dl dc fl h0 n0 _ T66.heap _
      rw [e66]
      exact ⟨rfl, N66⟩
    ·
      have pr69 : ∀ tg, Steps pP.tables eE below (T59.setTop (mkF mM 139 #[.val (.long q0), .second, .val (.int p0), .val (.long dl), .second, .val (.int dc), .val (.int fl), .val (.ref b1), .val (.ref b10), .val (.long j23), .second, .val (.int j28), .val (.ref b32), .val (.int (own_hash q0 p0)), .val (.int (0 : Int32))] [(.int (1 : Int32))])) tg → Steps pP.tables eE below (s₁.setTop (entryFrame mM #[(.long q0), (.int p0), (.long dl), (.int dc), (.int fl)] maxLocals)) tg := fun tg kg => pr64 _ (by
        show Steps pP.tables eE below (T59.setTop (mkF mM 109 #[.val (.long q0), .second, .val (.int p0), .val (.long dl), .second, .val (.int dc), .val (.int fl), .val (.ref b1), .val (.ref b10), .val (.long j23), .second, .val (.int j28), .val (.ref b32), .val (.int (own_hash q0 p0)), .unset] [(.int p0), (.int j28)])) _
        refine XS.icmpYes X59.here hx rfl (pc0 := 109) (pc' := 116) rfl (hb hby at_109) rfl (feq hc109_63).2 (by decide) (by decide) ?_
        show Steps pP.tables eE below (T59.setTop (mkF mM 116 #[.val (.long q0), .second, .val (.int p0), .val (.long dl), .second, .val (.int dc), .val (.int fl), .val (.ref b1), .val (.ref b10), .val (.long j23), .second, .val (.int j28), .val (.ref b32), .val (.int (own_hash q0 p0)), .unset] [])) _
        refine XS.iconst X59.here hx rfl (hb hby at_116) ?_
        show Steps pP.tables eE below (T59.setTop (mkF mM 117 #[.val (.long q0), .second, .val (.int p0), .val (.long dl), .second, .val (.int dc), .val (.int fl), .val (.ref b1), .val (.ref b10), .val (.long j23), .second, .val (.int j28), .val (.ref b32), .val (.int (own_hash q0 p0)), .unset] [(.int (0 : Int32))])) _
        refine XS.istore X59.here hx rfl (hb hby at_117) rfl (l' := #[.val (.long q0), .second, .val (.int p0), .val (.long dl), .second, .val (.int dc), .val (.int fl), .val (.ref b1), .val (.ref b10), .val (.long j23), .second, .val (.int j28), .val (.ref b32), .val (.int (own_hash q0 p0)), .val (.int (0 : Int32))]) rfl ?_
        show Steps pP.tables eE below (T59.setTop (mkF mM 119 #[.val (.long q0), .second, .val (.int p0), .val (.long dl), .second, .val (.int dc), .val (.int fl), .val (.ref b1), .val (.ref b10), .val (.long j23), .second, .val (.int j28), .val (.ref b32), .val (.int (own_hash q0 p0)), .val (.int (0 : Int32))] [])) _
        refine XS.iload X59.here hx rfl (hb hby at_119) rfl ?_
        show Steps pP.tables eE below (T59.setTop (mkF mM 121 #[.val (.long q0), .second, .val (.int p0), .val (.long dl), .second, .val (.int dc), .val (.int fl), .val (.ref b1), .val (.ref b10), .val (.long j23), .second, .val (.int j28), .val (.ref b32), .val (.int (own_hash q0 p0)), .val (.int (0 : Int32))] [(.int (0 : Int32))])) _
        refine XS.ifYes X59.here hx rfl (pc0 := 121) (pc' := 134) rfl (hb hby at_121) rfl ((if0 _ _).trans (teq (by decide)).1) (by decide) (by decide) ?_
        show Steps pP.tables eE below (T59.setTop (mkF mM 134 #[.val (.long q0), .second, .val (.int p0), .val (.long dl), .second, .val (.int dc), .val (.int fl), .val (.ref b1), .val (.ref b10), .val (.long j23), .second, .val (.int j28), .val (.ref b32), .val (.int (own_hash q0 p0)), .val (.int (0 : Int32))] [])) _
        refine XS.iconst X59.here hx rfl (hb hby at_134) ?_
        show Steps pP.tables eE below (T59.setTop (mkF mM 135 #[.val (.long q0), .second, .val (.int p0), .val (.long dl), .second, .val (.int dc), .val (.int fl), .val (.ref b1), .val (.ref b10), .val (.long j23), .second, .val (.int j28), .val (.ref b32), .val (.int (own_hash q0 p0)), .val (.int (0 : Int32))] [(.int (1 : Int32))])) _
        refine XS.goto X59.here hx rfl (pc0 := 135) (pc' := 139) rfl (hb hby at_135) (by decide) (by decide) ?_
        exact kg)
      obtain ⟨fs, hr, hrun, hended, hW, hsame⟩ := X59.leave (v := some (.int (1 : Int32))) (fun h => by rw [Bd.returns] at h; cases h)
      refine ⟨_, _, pr69 _ (retOut X59 hx (t := .boolean) Bd.returns rfl (Or.inl ⟨rfl, Or.inr (Or.inl rfl), _, rfl⟩) (hb hby at_139) hr), hrun, hended, _, _, rfl, ?_, ⟨_, rfl⟩, hW, hsame.mono (by decide) (by decide)⟩
      show Q0 Z q0 p0 dl dc fl h0 n0 _ T59.heap _
      rw [e59]
      exact ⟨rfl, N59⟩
  ·
    have pr70 : ∀ tg, Steps pP.tables eE below (T59.setTop (mkF mM 139 #[.val (.long q0), .second, .val (.int p0), .val (.long dl), .second, .val (.int dc), .val (.int fl), .val (.ref b1), .val (.ref b10), .val (.long j23), .second, .val (.int j28), .val (.ref b32), .val (.int (own_hash q0 p0)), .val (.int (0 : Int32))] [(.int (1 : Int32))])) tg → Steps pP.tables eE below (s₁.setTop (entryFrame mM #[(.long q0), (.int p0), (.long dl), (.int dc), (.int fl)] maxLocals)) tg := fun tg kg => pr62 _ (by
      show Steps pP.tables eE below (T59.setTop (mkF mM 103 #[.val (.long q0), .second, .val (.int p0), .val (.long dl), .second, .val (.int dc), .val (.int fl), .val (.ref b1), .val (.ref b10), .val (.long j23), .second, .val (.int j28), .val (.ref b32), .val (.int (own_hash q0 p0)), .unset] [(.int (lcmpW j23 q0))])) _
      refine XS.ifYes X59.here hx rfl (pc0 := 103) (pc' := 116) rfl (hb hby at_103) rfl ((if0 _ _).trans (feq (fun q => hc103_61 ((lw_eq _ _).mp q))).2) (by decide) (by decide) ?_
      show Steps pP.tables eE below (T59.setTop (mkF mM 116 #[.val (.long q0), .second, .val (.int p0), .val (.long dl), .second, .val (.int dc), .val (.int fl), .val (.ref b1), .val (.ref b10), .val (.long j23), .second, .val (.int j28), .val (.ref b32), .val (.int (own_hash q0 p0)), .unset] [])) _
      refine XS.iconst X59.here hx rfl (hb hby at_116) ?_
      show Steps pP.tables eE below (T59.setTop (mkF mM 117 #[.val (.long q0), .second, .val (.int p0), .val (.long dl), .second, .val (.int dc), .val (.int fl), .val (.ref b1), .val (.ref b10), .val (.long j23), .second, .val (.int j28), .val (.ref b32), .val (.int (own_hash q0 p0)), .unset] [(.int (0 : Int32))])) _
      refine XS.istore X59.here hx rfl (hb hby at_117) rfl (l' := #[.val (.long q0), .second, .val (.int p0), .val (.long dl), .second, .val (.int dc), .val (.int fl), .val (.ref b1), .val (.ref b10), .val (.long j23), .second, .val (.int j28), .val (.ref b32), .val (.int (own_hash q0 p0)), .val (.int (0 : Int32))]) rfl ?_
      show Steps pP.tables eE below (T59.setTop (mkF mM 119 #[.val (.long q0), .second, .val (.int p0), .val (.long dl), .second, .val (.int dc), .val (.int fl), .val (.ref b1), .val (.ref b10), .val (.long j23), .second, .val (.int j28), .val (.ref b32), .val (.int (own_hash q0 p0)), .val (.int (0 : Int32))] [])) _
      refine XS.iload X59.here hx rfl (hb hby at_119) rfl ?_
      show Steps pP.tables eE below (T59.setTop (mkF mM 121 #[.val (.long q0), .second, .val (.int p0), .val (.long dl), .second, .val (.int dc), .val (.int fl), .val (.ref b1), .val (.ref b10), .val (.long j23), .second, .val (.int j28), .val (.ref b32), .val (.int (own_hash q0 p0)), .val (.int (0 : Int32))] [(.int (0 : Int32))])) _
      refine XS.ifYes X59.here hx rfl (pc0 := 121) (pc' := 134) rfl (hb hby at_121) rfl ((if0 _ _).trans (teq (by decide)).1) (by decide) (by decide) ?_
      show Steps pP.tables eE below (T59.setTop (mkF mM 134 #[.val (.long q0), .second, .val (.int p0), .val (.long dl), .second, .val (.int dc), .val (.int fl), .val (.ref b1), .val (.ref b10), .val (.long j23), .second, .val (.int j28), .val (.ref b32), .val (.int (own_hash q0 p0)), .val (.int (0 : Int32))] [])) _
      refine XS.iconst X59.here hx rfl (hb hby at_134) ?_
      show Steps pP.tables eE below (T59.setTop (mkF mM 135 #[.val (.long q0), .second, .val (.int p0), .val (.long dl), .second, .val (.int dc), .val (.int fl), .val (.ref b1), .val (.ref b10), .val (.long j23), .second, .val (.int j28), .val (.ref b32), .val (.int (own_hash q0 p0)), .val (.int (0 : Int32))] [(.int (1 : Int32))])) _
      refine XS.goto X59.here hx rfl (pc0 := 135) (pc' := 139) rfl (hb hby at_135) (by decide) (by decide) ?_
      exact kg)
    obtain ⟨fs, hr, hrun, hended, hW, hsame⟩ := X59.leave (v := some (.int (1 : Int32))) (fun h => by rw [Bd.returns] at h; cases h)
    refine ⟨_, _, pr70 _ (retOut X59 hx (t := .boolean) Bd.returns rfl (Or.inl ⟨rfl, Or.inr (Or.inl rfl), _, rfl⟩) (hb hby at_139) hr), hrun, hended, _, _, rfl, ?_, ⟨_, rfl⟩, hW, hsame.mono (by decide) (by decide)⟩
    show Q0 Z q0 p0 dl dc fl h0 n0 _ T59.heap _
    rw [e59]
    exact ⟨rfl, N59⟩
set_option maxRecDepth 65536 in
set_option maxHeartbeats 40000000 in
theorem comes_1 {Post : Tables → Env → Array Value → State → Outcome → State → Prop} (hpost : ∀ tb e args s v u, (limb_1_1.after args s (.returned v) u = true ∧ limb_1_2.after args s (.returned v) u = true ∧ True) → FrameEnd s (.returned v) u (Jvm.fieldLocs frame_1_writes args s ++ Jvm.arrayLocs frame_1_arrays args s ++ Jvm.staticLocs frame_1_statics s) 16 128 → Post tb e args s (.returned v) u) :
    ArmFor flags0 classFile x code maxLocals ret World_1 tables_1 room_1 Calls_1 rest_1 Pre_1 Post := by
  intro l hfl _ _ p e ha hc hk s m args below hf hA hF happ hP
  obtain ⟨hcalls, hrest, hpre⟩ := hP
  obtain ⟨-, -, -, hnamed, -, -, -, hat⟩ := (Spec.applies_iff hf).mp happ
  obtain ⟨hg, hn⟩ := and_e (Cond.before_iff.mp (show (Jvm.Cond.and given_1 narrow_1).before args s = true from hpre))
  obtain ⟨n1, n2⟩ := and_e hg
  obtain ⟨n3, n4⟩ := and_e n2
  obtain ⟨n5, n6⟩ := and_e n4
  obtain ⟨n7, n8⟩ := and_e n6
  obtain ⟨n9, n10⟩ := and_e n8
  obtain ⟨w0, w1, w2, w3, w4, rfl⟩ : ∃ w0 w1 w2 w3 w4 : Value, args = #[w0, w1, w2, w3, w4] := by
    have hs : args.size = 5 := by simpa [Cond.value, given_1] using n1
    obtain ⟨L⟩ := args
    match L, hs with
    | [w0, w1, w2, w3, w4], _ => exact ⟨w0, w1, w2, w3, w4, rfl⟩
  have hw := fun d (hd : d ∈ tables_1) => atoms_spec (ws := Jvm.Cond.code x code maxLocals ret :: tables_1) hat d (List.mem_cons_of_mem _ hd)
  have hfit : Fit s := fun {y c} hc i hi => by
    obtain ⟨ha, rfl⟩ := Array.getElem?_eq_some_iff.mp hc
    have q := List.all_eq_true.mp ((Array.all_eq_true_iff_forall_mem.mp hF) _ (Array.getElem_mem ha)) i (List.mem_range.mpr hi)
    simpa [Array.getElem?_eq_getElem hi] using q
  obtain ⟨i0, ei0⟩ := isL_v n3
  obtain rfl : w0 = (.long i0) := Option.some.inj ei0
  obtain ⟨i1, ei1⟩ := is_v n5
  obtain rfl : w1 = (.int i1) := Option.some.inj ei1
  obtain ⟨i2, ei2⟩ := isL_v n7
  obtain rfl : w2 = (.long i2) := Option.some.inj ei2
  obtain ⟨i3, ei3⟩ := is_v n9
  obtain rfl : w3 = (.int i3) := Option.some.inj ei3
  obtain ⟨i4, ei4⟩ := is_v n10
  obtain rfl : w4 = (.int i4) := Option.some.inj ei4
  obtain ⟨n, o, h1, h2, h3, _, L, rfl, ⟨rfl, N⟩, hq⟩ := rm0 l s _ hw tables_1 i0 i1 i2 i3 i4 s.heap s.heap.size (Nat.le_refl _)  p e ha hc hk s m _ below hf ((Spec.applies_iff_loose hf).mp happ).1 ⟨rfl, State.Warmed39.refl s, rfl⟩ trivial
  refine ⟨n, _, h1, h2, h3, hpost _ _ _ _ _ _ ⟨Cond.after_iff.mpr rfl, Cond.after_iff.mpr (eq_i res_at (Term.int_eval (1)) rfl), trivial⟩ ⟨hq.1, hq.2.1, (hq.2.2.sift fun y hy => Or.inr (N y hy)).mono (by decide) (by decide)⟩⟩
theorem main_1_1 : Claimed_1_1 := comes_1 fun _ _ _ _ _ _ h hF => ⟨h.1, hF⟩
theorem main_1_2 : Claimed_1_2 := comes_1 fun _ _ _ _ _ _ h hF => ⟨h.2.1, hF⟩
end Jvm.Pilot.@@N@@
namespace Jvm.Pilot.@@N@@
open Jvm Jvm.ClassFile Sem Op Lib Jvm.Free Jvm.Stand Jvm.Pilot.@@N@@.Jvm.D
/-! MADE BY PROGRAM (witnessworld.py) out of the Statement's table words and the real class files: 14 classes; the members and pool entries that the words name. The judged class is class 1, her method 1. -/
namespace start1
open Jvm.ClassFile
def u (s : String) : CpInfo := .utf8 (stringToUtf16 s)
/-- a pool by its gaps: so many unusable entries, then the entry; so many at the end -/
def gap : Nat → List CpInfo → List CpInfo
  | 0, r => r
  | n + 1, r => .unusable :: gap n r
def poolList (es : List (Nat × CpInfo)) (last : Nat) : List CpInfo := es.foldr (fun e r => gap e.1 (e.2 :: r)) (gap last [])
def pool (es : List (Nat × CpInfo)) (last : Nat) : Array CpInfo := ⟨poolList es last⟩
def fileOf (pool : Array CpInfo) (this : Nat) (attrs : Array Attribute := #[]) (ms : Array MethodInfo := #[]) (fl : Nat := 33) (sup : Nat := 0) (ifs : Array Nat := #[]) (fds : Array FieldInfo := #[]) : ClassFile where
  minorVersion := 0
  majorVersion := 65
  constantPool := pool
  accessFlags := fl
  thisClass := this
  superClass := sup
  interfaces := ifs
  fields := fds
  methods := ms
  attributes := attrs
def plain (name : String) (sup : Option ClassId) : Class where
  name := name
  kind := .ordinary
  loader := none
  accessFlags := 33
  super := sup
  interfaces := #[]
  cf := none
  fields := #[]
  methods := #[]
  instanceTypes := #[]
  staticTypes := #[]
  resolved := #[]
  callSites := []
  init := .initialized
  statics := none
  mirror := none

def pool0 : Array CpInfo := pool [(5, u "<init>"), (0, u "()V"), (1, .class_ 10), (1, u "java/lang/Object")] 113

def k0c0 : Code := { maxStack := 0, maxLocals := 1, code := object_method_1_code, exceptionTable := #[], attributes := #[] }
def k0m0 : Method := { name := "<init>", desc := "()V", sig := { parameters := [], returnType := none }, accessFlags := 1, code := some k0c0 }
/-- java/lang/Object -/
def k0 : Class := { plain "java/lang/Object" none with
  accessFlags := 33
  interfaces := #[]
  cf := some (fileOf pool0 8 #[] #[{ accessFlags := 1, nameIndex := 5, descriptorIndex := 6, attributes := #[] }] 33 0 #[] #[])
  fields := #[]
  methods := #[k0m0]
  instanceTypes := #[]
  staticTypes := #[]
  resolved := Array.replicate 124 none
  statics := none }

def pool1 : Array CpInfo := pool [(2, .class_ 4), (1, u "java/lang/Object"), (0, u "<init>"), (0, u "()V"), (0, .class_ 8), (0, u "com/example/settle/settle/service/FileSum"), (0, .methodref 7 10), (0, .nameAndType 5 11), (0, u "(JI)V"), (0, .methodref 7 13), (0, .nameAndType 14 15), (0, u "hashCode"), (0, u "()I"), (0, .class_ 17), (0, u "com/example/settle/settle/service/FileSumHashCodePinLaw"), (2, u "law"), (0, u "(JIJII)Z")] 3

def k1m0 : Method := { name := "<init>", desc := "()V", sig := { parameters := [], returnType := none }, accessFlags := 1, code := none }
def k1c1 : Code := { maxStack := 5, maxLocals := 15, code := code, exceptionTable := #[], attributes := #[] }
def k1m1 : Method := { name := "law", desc := "(JIJII)Z", sig := { parameters := [.long, .int, .long, .int, .int], returnType := some .boolean }, accessFlags := 9, code := some k1c1 }
/-- com/example/settle/settle/service/FileSumHashCodePinLaw -/
def k1 : Class := { plain "com/example/settle/settle/service/FileSumHashCodePinLaw" (some 0) with
  accessFlags := 49
  interfaces := #[]
  cf := some (fileOf pool1 16 #[] #[{ accessFlags := 1, nameIndex := 5, descriptorIndex := 6, attributes := #[] }, { accessFlags := 9, nameIndex := 20, descriptorIndex := 21, attributes := #[] }] 49 2 #[] #[])
  fields := #[]
  methods := #[k1m0, k1m1]
  instanceTypes := #[]
  staticTypes := #[]
  resolved := Array.replicate 25 none
  statics := none }

def pool2 : Array CpInfo := pool [(1, .methodref 2 3), (0, .class_ 4), (0, .nameAndType 5 6), (0, u "java/lang/Object"), (0, u "<init>"), (0, u "()V"), (0, .fieldref 8 9), (0, .class_ 10), (0, .nameAndType 11 12), (0, u "com/example/settle/settle/service/FileSum"), (0, u "length"), (0, u "J"), (0, .fieldref 8 14), (0, .nameAndType 15 16), (0, u "crc"), (0, u "I"), (24, u "(JI)V"), (53, .methodref 96 97), (0, .class_ 98), (0, .nameAndType 99 100), (0, u "java/lang/Long"), (0, u "hashCode"), (0, u "(J)I"), (11, u "()I")] 4

def k2c0 : Code := { maxStack := 3, maxLocals := 4, code := prog_46_method_1_code, exceptionTable := #[], attributes := #[] }
def k2m0 : Method := { name := "<init>", desc := "(JI)V", sig := { parameters := [.long, .int], returnType := none }, accessFlags := 0, code := some k2c0 }
def k2c1 : Code := { maxStack := 2, maxLocals := 1, code := prog_46_method_7_code, exceptionTable := #[], attributes := #[] }
def k2m1 : Method := { name := "hashCode", desc := "()I", sig := { parameters := [], returnType := some .int }, accessFlags := 1, code := some k2c1 }
/-- com/example/settle/settle/service/FileSum -/
def k2 : Class := { plain "com/example/settle/settle/service/FileSum" (some 0) with
  accessFlags := 32
  interfaces := #[]
  cf := some (fileOf pool2 8 #[] #[{ accessFlags := 0, nameIndex := 5, descriptorIndex := 41, attributes := #[] }, { accessFlags := 1, nameIndex := 99, descriptorIndex := 112, attributes := #[] }] 32 2 #[] #[{ accessFlags := 18, nameIndex := 11, descriptorIndex := 12, attributes := #[] }, { accessFlags := 18, nameIndex := 15, descriptorIndex := 16, attributes := #[] }])
  fields := #[{ name := "length", type := .long, accessFlags := 18, slot := 0, constantValue := 0 }, { name := "crc", type := .int, accessFlags := 18, slot := 1, constantValue := 0 }]
  methods := #[k2m0, k2m1]
  instanceTypes := #[.long, .int]
  staticTypes := #[]
  resolved := Array.replicate 117 none
  statics := none }

def pool3 : Array CpInfo := pool [(1, .class_ 2), (0, u "java/io/Serializable"), (0, .class_ 4), (0, u "java/lang/Object")] 2

/-- java/io/Serializable -/
def k3 : Class := { plain "java/io/Serializable" (some 0) with
  accessFlags := 1537
  interfaces := #[]
  cf := some (fileOf pool3 1 #[] #[] 1537 3 #[] #[])
  fields := #[]
  methods := #[]
  instanceTypes := #[]
  staticTypes := #[]
  resolved := Array.replicate 7 none
  statics := none }

def pool4 : Array CpInfo := pool [(2, .class_ 4), (1, u "java/lang/Object"), (0, u "<init>"), (0, u "()V"), (1, .class_ 10), (1, u "java/lang/Number"), (2, .class_ 14), (0, u "java/io/Serializable"), (0, u "serialVersionUID"), (0, u "J")] 20

def k4m0 : Method := { name := "<init>", desc := "()V", sig := { parameters := [], returnType := none }, accessFlags := 1, code := none }
/-- java/lang/Number -/
def k4 : Class := { plain "java/lang/Number" (some 0) with
  accessFlags := 1057
  interfaces := #[3]
  cf := some (fileOf pool4 8 #[] #[{ accessFlags := 1, nameIndex := 5, descriptorIndex := 6, attributes := #[] }] 1057 2 #[13] #[{ accessFlags := 26, nameIndex := 15, descriptorIndex := 16, attributes := #[] }])
  fields := #[{ name := "serialVersionUID", type := .long, accessFlags := 26, slot := 0, constantValue := 0 }]
  methods := #[k4m0]
  instanceTypes := #[]
  staticTypes := #[.long]
  resolved := Array.replicate 37 none
  statics := none }

def pool5 : Array CpInfo := pool [(1, .class_ 2), (0, u "java/lang/Comparable"), (0, .class_ 4), (0, u "java/lang/Object")] 7

/-- java/lang/Comparable -/
def k5 : Class := { plain "java/lang/Comparable" (some 0) with
  accessFlags := 1537
  interfaces := #[]
  cf := some (fileOf pool5 1 #[] #[] 1537 3 #[] #[])
  fields := #[]
  methods := #[]
  instanceTypes := #[]
  staticTypes := #[]
  resolved := Array.replicate 12 none
  statics := none }

def pool6 : Array CpInfo := pool [(1, .class_ 2), (0, u "java/lang/constant/Constable"), (0, .class_ 4), (0, u "java/lang/Object")] 6

/-- java/lang/constant/Constable -/
def k6 : Class := { plain "java/lang/constant/Constable" (some 0) with
  accessFlags := 1537
  interfaces := #[]
  cf := some (fileOf pool6 1 #[] #[] 1537 3 #[] #[])
  fields := #[]
  methods := #[]
  instanceTypes := #[]
  staticTypes := #[]
  resolved := Array.replicate 11 none
  statics := none }

def pool7 : Array CpInfo := pool [(1, .class_ 2), (0, u "java/lang/constant/ConstantDesc"), (0, .class_ 4), (0, u "java/lang/Object")] 32

/-- java/lang/constant/ConstantDesc -/
def k7 : Class := { plain "java/lang/constant/ConstantDesc" (some 0) with
  accessFlags := 1537
  interfaces := #[]
  cf := some (fileOf pool7 1 #[] #[] 1537 3 #[] #[])
  fields := #[]
  methods := #[]
  instanceTypes := #[]
  staticTypes := #[]
  resolved := Array.replicate 37 none
  statics := none }

def pool8 : Array CpInfo := pool [(1, .class_ 2), (0, u "java/lang/Long"), (98, u "(J)I"), (133, .class_ 237), (1, u "java/lang/Long$LongCache"), (33, .class_ 272), (0, u "java/lang/Number"), (2, u "value"), (0, u "J"), (2, u "hashCode"), (81, u "TYPE"), (0, u "Ljava/lang/Class;"), (0, .class_ 364), (0, u "java/lang/Comparable"), (0, .class_ 366), (0, u "java/lang/constant/Constable"), (0, .class_ 368), (0, u "java/lang/constant/ConstantDesc"), (0, u "MIN_VALUE"), (1, u "MAX_VALUE"), (4, u "SIZE"), (0, u "I"), (1, u "BYTES"), (1, u "serialVersionUID")] 142

def k8c0 : Code := { maxStack := 5, maxLocals := 2, code := jdk_35_method_36_code, exceptionTable := #[], attributes := #[] }
def k8m0 : Method := { name := "hashCode", desc := "(J)I", sig := { parameters := [.long], returnType := some .int }, accessFlags := 9, code := some k8c0 }
/-- java/lang/Long -/
def k8 : Class := { plain "java/lang/Long" (some 4) with
  accessFlags := 49
  interfaces := #[5, 6, 7]
  cf := some (fileOf pool8 1 #[.nestMembers #[235]] #[{ accessFlags := 9, nameIndex := 279, descriptorIndex := 101, attributes := #[] }] 49 271 #[363, 365, 367] #[{ accessFlags := 25, nameIndex := 369, descriptorIndex := 276, attributes := #[] }, { accessFlags := 25, nameIndex := 371, descriptorIndex := 276, attributes := #[] }, { accessFlags := 25, nameIndex := 361, descriptorIndex := 362, attributes := #[] }, { accessFlags := 18, nameIndex := 275, descriptorIndex := 276, attributes := #[] }, { accessFlags := 25, nameIndex := 376, descriptorIndex := 377, attributes := #[] }, { accessFlags := 25, nameIndex := 379, descriptorIndex := 377, attributes := #[] }, { accessFlags := 26, nameIndex := 381, descriptorIndex := 276, attributes := #[] }])
  fields := #[{ name := "MIN_VALUE", type := .long, accessFlags := 25, slot := 0, constantValue := 0 }, { name := "MAX_VALUE", type := .long, accessFlags := 25, slot := 1, constantValue := 0 }, { name := "TYPE", type := (.object "java/lang/Class"), accessFlags := 25, slot := 2, constantValue := 0 }, { name := "value", type := .long, accessFlags := 18, slot := 0, constantValue := 0 }, { name := "SIZE", type := .int, accessFlags := 25, slot := 3, constantValue := 0 }, { name := "BYTES", type := .int, accessFlags := 25, slot := 4, constantValue := 0 }, { name := "serialVersionUID", type := .long, accessFlags := 26, slot := 5, constantValue := 0 }]
  methods := #[k8m0]
  instanceTypes := #[.long]
  staticTypes := #[.long, .long, (.object "java/lang/Class"), .int, .int, .long]
  resolved := Array.replicate 524 none
  statics := none }

def pool9 : Array CpInfo := pool [(1, u "java/lang/Cloneable"), (0, .class_ 1), (0, u "java/lang/Object"), (0, .class_ 3)] 3

/-- java/lang/Cloneable -/
def k9 : Class := { plain "java/lang/Cloneable" (some 0) with
  accessFlags := 1537
  interfaces := #[]
  cf := some (fileOf pool9 2 #[] #[] 1537 4 #[] #[])
  fields := #[]
  methods := #[]
  instanceTypes := #[]
  staticTypes := #[]
  resolved := Array.replicate 8 none
  statics := none }

/-- the primitive byte -/
def k10 : Class := { plain "byte" none with kind := .primitive 'B', accessFlags := 0x411 }
/-- [B -/
def k11 : Class := { plain "[B" (some 0) with kind := .array 10 .byte, interfaces := #[9, 3], accessFlags := 1041 }

/-- the primitive int -/
def k12 : Class := { plain "int" none with kind := .primitive 'I', accessFlags := 0x411 }
/-- [I -/
def k13 : Class := { plain "[I" (some 0) with kind := .array 12 .int, interfaces := #[9, 3], accessFlags := 1041 }

def heap : Heap := #[]
def classes : Array Class := #[k0, k1, k2, k3, k4, k5, k6, k7, k8, k9, k10, k11, k12, k13]
def interned : List (Array UInt16 × Addr) := []
def slotsUsed : Nat := 0
def theMethod : MethodId := ⟨1, 1⟩
def args0 : Array Value := #[.long 5, .int 9, .long 3, .int 4, .int 1]
def aboutOver (below : List Frame) : State where
  vm := { classes := classes, interned := interned.toArray }
  heap := heap
  slotsUsed := slotsUsed
  threads := #[{ frames := .invoking theMethod args0 :: below }]
def below0 : List Frame := [.native { method := ⟨0, 0⟩, args := #[] }]
def about1 : State := aboutOver below0
def p0 : Program := .bare "" "" ""
def e0 : Env := launch0.env 0 0 0
theorem w_frames : about1.frames = Frame.invoking theMethod args0 :: below0 := rfl
set_option maxRecDepth 65536 in
theorem w_args : argsFit about1.vm theMethod args0 = true := by decide +kernel
set_option maxRecDepth 65536 in
theorem w_heap : heapFits about1 = true := by decide +kernel
set_option maxRecDepth 65536 in
theorem w_runnable : about1.curStatus? = some .runnable := by decide +kernel
set_option maxRecDepth 65536 in
theorem w_alone : about1.alone = true := by decide +kernel
set_option maxRecDepth 65536 in
theorem w_named : about1.methodNamed? x = some theMethod := by decide +kernel
set_option maxRecDepth 65536 in
theorem w_hears : about1.hears theMethod below0 = true := by decide +kernel
set_option maxRecDepth 65536 in
theorem w_ripe : about1.ripe theMethod args0 below0 = true := by decide +kernel
theorem w_running : about1.status = .running := rfl
set_option maxRecDepth 65536 in
theorem w_room : about1.hasRoom e0.platform room_1 = true :=
  launch0.hasRoom_least _ room_1 (by decide +kernel) (by decide +kernel) (by decide +kernel) (by decide +kernel) (by decide +kernel) (by decide +kernel)
theorem allAtoms_all (ts : List Jvm.Cond) (a : Array Jvm.Value) (st : Jvm.State) : (allAtoms ts).before a st = ts.all (fun c => c.before a st) := by
  induction ts with
  | nil => rfl
  | cons c t ih =>
    show (Jvm.Cond.and c (allAtoms t)).before a st = _
    rw [Jvm.Cond.before_and, ih, List.all_cons]
def words1 : List Jvm.Cond := Jvm.Cond.code x code maxLocals ret :: tables_1
/-- a 'code' word, met by the world's own term for the bytes: nothing is compared byte by byte -/
theorem code_word {y : MethodName} {bytes : ByteArray} {mx : Nat} {rt : Option FieldType} {a : Array Value} {s : State} {m : MethodId} {meth : Method} {c : Code} (h1 : s.methodNamed? y = some m) (h2 : s.vm.method? m = some meth) (h3 : meth.code = some c) (h4 : c.code = bytes)
    (h5 : (c.maxLocals == mx && c.exceptionTable.isEmpty && decide (c.maxStack ≤ mostOperands) && decide (meth.sig.returnType = rt) && !meth.locks && decide (parseMethodDescriptor y.desc = some meth.sig)) = true) : (Jvm.Cond.code y bytes mx rt).before a s = true := by
  simp only [Bool.and_eq_true, beq_iff_eq, Bool.not_eq_true', decide_eq_true_eq] at h5
  obtain ⟨⟨⟨⟨⟨g1, g2⟩, g3⟩, g4⟩, g5⟩, g6⟩ := h5
  simp [Cond.before, Cond.holds, Cond.value, h1, h2, h3, h4, g1, g2, g3, g4, g5, g6]
def isCode : Jvm.Cond → Bool
  | .code _ _ _ _ => true
  | _ => false
theorem all_split {L : List Jvm.Cond} {P : Jvm.Cond → Bool} (h1 : L.all (fun c => isCode c || P c) = true) (h2 : ∀ c ∈ L.filter isCode, P c = true) : L.all P = true := by
  refine List.all_eq_true.mpr fun c hc => ?_
  have h := List.all_eq_true.mp h1 c hc
  rcases Bool.eq_false_or_eq_true (isCode c) with hi | hi
  · exact h2 c (List.mem_filter.mpr ⟨hc, hi⟩)
  · simpa [hi] using h
set_option maxRecDepth 65536 in
theorem w_c0 : (Jvm.Cond.code x code maxLocals ret).before args0 about1 = true := code_word (m := ⟨1, 1⟩) (meth := k1m1) (c := k1c1) (by decide +kernel) rfl rfl rfl (by decide +kernel)
set_option maxRecDepth 65536 in
theorem w_c1 : (Jvm.Cond.code ({ cls := "com/example/settle/settle/service/FileSum", name := "<init>", desc := "(JI)V" } : Jvm.MethodName) prog_46_method_1_code (4 : Nat) (Option.none : Option Jvm.ClassFile.FieldType)).before args0 about1 = true := code_word (m := ⟨2, 0⟩) (meth := k2m0) (c := k2c0) (by decide +kernel) rfl rfl rfl (by decide +kernel)
set_option maxRecDepth 65536 in
theorem w_c2 : (Jvm.Cond.code ({ cls := "java/lang/Object", name := "<init>", desc := "()V" } : Jvm.MethodName) object_method_1_code (1 : Nat) (Option.none : Option Jvm.ClassFile.FieldType)).before args0 about1 = true := code_word (m := ⟨0, 0⟩) (meth := k0m0) (c := k0c0) (by decide +kernel) rfl rfl rfl (by decide +kernel)
set_option maxRecDepth 65536 in
theorem w_c3 : (Jvm.Cond.code ({ cls := "com/example/settle/settle/service/FileSum", name := "hashCode", desc := "()I" } : Jvm.MethodName) prog_46_method_7_code (1 : Nat) (Option.some Jvm.ClassFile.FieldType.int)).before args0 about1 = true := code_word (m := ⟨2, 1⟩) (meth := k2m1) (c := k2c1) (by decide +kernel) rfl rfl rfl (by decide +kernel)
set_option maxRecDepth 65536 in
theorem w_c4 : (Jvm.Cond.code ({ cls := "java/lang/Long", name := "hashCode", desc := "(J)I" } : Jvm.MethodName) jdk_35_method_36_code (2 : Nat) (Option.some Jvm.ClassFile.FieldType.int)).before args0 about1 = true := code_word (m := ⟨8, 0⟩) (meth := k8m0) (c := k8c0) (by decide +kernel) rfl rfl rfl (by decide +kernel)
def codes1 : List Jvm.Cond := [Jvm.Cond.code x code maxLocals ret, Jvm.Cond.code ({ cls := "com/example/settle/settle/service/FileSum", name := "<init>", desc := "(JI)V" } : Jvm.MethodName) prog_46_method_1_code (4 : Nat) (Option.none : Option Jvm.ClassFile.FieldType), Jvm.Cond.code ({ cls := "java/lang/Object", name := "<init>", desc := "()V" } : Jvm.MethodName) object_method_1_code (1 : Nat) (Option.none : Option Jvm.ClassFile.FieldType), Jvm.Cond.code ({ cls := "com/example/settle/settle/service/FileSum", name := "hashCode", desc := "()I" } : Jvm.MethodName) prog_46_method_7_code (1 : Nat) (Option.some Jvm.ClassFile.FieldType.int), Jvm.Cond.code ({ cls := "java/lang/Long", name := "hashCode", desc := "(J)I" } : Jvm.MethodName) jdk_35_method_36_code (2 : Nat) (Option.some Jvm.ClassFile.FieldType.int)]
set_option maxRecDepth 65536 in
theorem codes_eq : words1.filter isCode = codes1 := rfl
theorem w_codes : ∀ c ∈ words1.filter isCode, c.before args0 about1 = true := by
  rw [codes_eq]
  intro c hc
  simp only [codes1, List.mem_cons, List.not_mem_nil, or_false] at hc
  rcases hc with rfl | rfl | rfl | rfl | rfl
  · exact w_c0
  · exact w_c1
  · exact w_c2
  · exact w_c3
  · exact w_c4
set_option maxRecDepth 65536 in
theorem w_t1 : words1.all (fun c => isCode c || c.before args0 about1) = true := by decide +kernel
theorem w_tables : (allAtoms (Jvm.Cond.code x code maxLocals ret :: tables_1)).before args0 about1 = true := by
  rw [allAtoms_all]
  show words1.all (fun c => c.before args0 about1) = true
  refine all_split ?_ w_codes
  rw [w_t1]
set_option maxRecDepth 65536 in
theorem w_case : (Jvm.Cond.and given_1 narrow_1).before args0 about1 = true := by decide +kernel
theorem w_applies : (headSpec (Jvm.Cond.code x code maxLocals ret :: tables_1) room_1).applies x e0.platform about1 = true :=
  (Spec.applies_iff w_frames).mpr ⟨w_running, w_runnable, w_alone, w_named, w_hears, w_ripe, w_room, w_tables⟩
theorem atStart : AtStart classFile x code maxLocals ret World_1 tables_1 room_1 Calls_1 rest_1 Pre_1 launch0 p0 e0 about1 theMethod args0 below0 :=
  ⟨lists_1, trivial, launch0.admits_env _ _ _, launch0.least_env, fairChoices_fair.cas, fairChoices_fair.clock, w_frames, w_args, w_heap, w_applies, trivial, trivial, w_case⟩
end start1
theorem witness_1 : WitnessClaimed_1 := ⟨start1.p0, start1.e0, start1.about1, start1.theMethod, start1.args0, start1.below0, start1.atStart⟩
end Jvm.Pilot.@@N@@
