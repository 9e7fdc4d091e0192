import JvmDerived
import JvmDerived.Pilot.@@N@@Statement
import JvmDerived.Pilot.@@N@@Code
set_option linter.unusedVariables false
set_option linter.unusedSimpArgs false
@@BLOCK:NumsL.lean.txt@@
namespace Jvm.Pilot.@@N@@
open Jvm Jvm.ClassFile Sem Op Lib Jvm.Free Jvm.Stand Jvm.LawKit Jvm.RoadKit Bundle Jvm.Pilot.@@N@@.Jvm.D
theorem own_ti {i : Nat} (h : i ≤ 1000) : (Int32.ofNat i).toInt = i := Int32.toInt_ofNat_small (by omega)
theorem own_tn {i : Nat} (h : i ≤ 1000) : (Int32.ofNat i).toNatClampNeg = i := by
  simp only [Int32.toNatClampNeg, own_ti h]; rfl
theorem own_lt {i n : Nat} (h : i < n) (hn : n ≤ 1000) : Int32.ofNat i < Int32.ofNat n := by
  rw [Int32.lt_iff_toInt_lt, own_ti (by omega), own_ti hn]; omega
theorem own_nn {i : Nat} (h : i ≤ 1000) : ¬ Int32.ofNat i < 0 := by
  rw [Int32.lt_iff_toInt_lt, own_ti h, show (0 : Int32).toInt = 0 from rfl]; omega
theorem own_ne {i n : Nat} (h : i ≠ n) (hi : i ≤ 1000) (hn : n ≤ 1000) : ¬ Int32.ofNat i = Int32.ofNat n := fun q => by
  have := congrArg Int32.toInt q; rw [own_ti hi, own_ti hn] at this; omega
theorem own_up {i : Nat} (h : i + 1 ≤ 1000) : Int32.ofNat i + (1 : Int32) = Int32.ofNat (i + 1) := by
  apply Int32.toInt_inj.mp
  rw [own_ti h, Jvm.Kit.i32_add (by rw [own_ti (by omega), show (1 : Int32).toInt = 1 from rfl]; omega) (by rw [own_ti (by omega), show (1 : Int32).toInt = 1 from rfl]; omega), own_ti (by omega)]; rfl
theorem own_at {xs : List Int32} {i : Nat} {x : Int32} (h : xs[i]? = some x) (hi : i ≤ 1000) : (xs.map Value.int).getD (Int32.ofNat i).toNatClampNeg (.int (0 : Int32)) = .int x := by
  rw [own_tn hi, List.getD_eq_getElem?_getD, List.getElem?_map, h]; rfl
theorem own_drop {xs : List Int32} {i : Nat} {x : Int32} (h : xs[i]? = some x) : xs.drop i = x :: xs.drop (i + 1) := by
  obtain ⟨hi, rfl⟩ := List.getElem?_eq_some_iff.mp h
  exact List.drop_eq_getElem_cons hi
def own_skip (x : Int32) : List Int32 → List Int32
  | [] => []
  | y :: ys => if y < x then own_skip x ys else y :: ys
def own_fni : List Int32 → List Int32 → Int32
  | [], _ => -1
  | x :: xs, ys => match own_skip x ys with
    | [] => x
    | y :: zs => if y = x then own_fni xs (y :: zs) else x
def own_pick (u0 u1 u2 u3 m : Int32) : List Int32 := (if (m &&& (1 : Int32)) = (0 : Int32) then [] else [u0]) ++ ((if (m &&& (2 : Int32)) = (0 : Int32) then [] else [u1]) ++ ((if (m &&& (4 : Int32)) = (0 : Int32) then [] else [u2]) ++ (if (m &&& (8 : Int32)) = (0 : Int32) then [] else [u3])))
theorem own_plen (u0 u1 u2 u3 m : Int32) : (own_pick u0 u1 u2 u3 m).length ≤ 4 := by
  unfold own_pick; simp only [List.length_append]; split <;> split <;> split <;> split <;> simp
theorem own_sk {x y : Int32} {ys : List Int32} (h : y < x) : own_skip x (y :: ys) = own_skip x ys := if_pos h
theorem own_sn {x y : Int32} {ys : List Int32} (h : ¬ y < x) : own_skip x (y :: ys) = y :: ys := if_neg h
theorem own_f0 (ys : List Int32) : own_fni [] ys = -1 := rfl
theorem own_fN {x : Int32} {xs ys : List Int32} (h : own_skip x ys = []) : own_fni (x :: xs) ys = x := by rw [own_fni, h]
theorem own_fE {x y : Int32} {xs ys zs : List Int32} (h : own_skip x ys = y :: zs) (q : y = x) : own_fni (x :: xs) ys = own_fni xs (y :: zs) := by rw [own_fni, h]; exact if_pos q
theorem own_fD {x y : Int32} {xs ys zs : List Int32} (h : own_skip x ys = y :: zs) (q : ¬ y = x) : own_fni (x :: xs) ys = x := by rw [own_fni, h]; exact if_neg q
theorem d1_0 : decode jdk_29_method_69_code 0 = .ok (.iload_n 0, 1) := by decide +kernel
theorem d1_1 : decode jdk_29_method_69_code 1 = .ok (.iload_n 1, 1) := by decide +kernel
theorem d1_2 : decode jdk_29_method_69_code 2 = .ok (.if_icmp .gt 7, 3) := by decide +kernel
theorem d1_5 : decode jdk_29_method_69_code 5 = .ok (.iload_n 0, 1) := by decide +kernel
theorem d1_6 : decode jdk_29_method_69_code 6 = .ok (.goto 4, 3) := by decide +kernel
theorem d1_9 : decode jdk_29_method_69_code 9 = .ok (.iload_n 1, 1) := by decide +kernel
theorem d1_10 : decode jdk_29_method_69_code 10 = .ok (.ireturn, 1) := by decide +kernel
theorem ef_1 (mM : MethodId) (x0 : Int32) (x1 : Int32) : entryFrame mM #[(.int x0), (.int x1)] 2 = mkF mM 0 #[.val (.int x0), .val (.int x1)] [] := by first | (simp [entryFrame, mkF, argsToLocals, Value.category]; done) | rfl
def Q1 (Z : State) (p : Int32) (q : Int32) (h0 : Heap) (n0 : Nat) (v : Option Value) (h : Heap) (L : List Loc) : Prop := ∃ r : Int32, v = some (.int r) ∧ r = (if q < p then q else p) ∧ Fr n0 L ∧ h = h0
set_option maxRecDepth 65536 in
set_option maxHeartbeats 40000000 in
theorem rm1 (l : Launch) (Z : State) (a0 : Array Value) (hw : ∀ d ∈ tables_1, d.before a0 Z = true) (ws : List Jvm.Cond) (p : Int32) (q : Int32) (h0 : Heap) (n0 : Nat) (Z0 : n0 ≤ h0.size) :
    MetFree l (⟨"java/lang/Math", "min", "(II)I"⟩ : MethodName) (head1 (Jvm.Cond.code (⟨"java/lang/Math", "min", "(II)I"⟩ : MethodName) jdk_29_method_69_code 2 (some .int) :: ws) ({ frames := 0, cells := 0, slots := 0, locals := 0 } : Room)) (fun aA uU => aA = #[(.int p), (.int q)] ∧ Z.Warmed39 uU.vm ∧ uU.heap = h0) (fun _ _ _ _ _ => True) (fun _ uU oO uU' => ∃ vV lL, oO = .returned vV ∧ Q1 Z p q h0 n0 vV uU'.heap lL ∧ FrameEnd uU oO uU' lL ({ frames := 0, cells := 0, slots := 0, locals := 0 } : Room).cells ({ frames := 0, cells := 0, slots := 0, locals := 0 } : Room).slots) := by
  refine MetFree.of_bodySF (Jvm.Free.JP.mathPlain rfl (by decide +kernel)) hisR ?_
  intro pP eE sS mM args below meth cC s₁ Bd hml0 hP hK
  obtain ⟨rfl, hZ, hh⟩ := hP
  have hx := Bd.exec
  have hby := Bd.bytes
  have hml : cC.maxLocals = 2 := hml0
  have hown : sS.vm.findClass "java/lang/Math" = some mM.cls := findClass_of_methodNamed Bd.named
  have hnm := (name_of_methodNamed Bd.named Bd.method).1
  have X0 : Stand pP l eE ({ frames := 0, cells := 0, slots := 0, locals := 0 } : Room) sS mM #[(.int p), (.int q)] below meth cC s₁ [] 0 0 := Stand.of_body Bd
  have e0 : s₁.heap = h0 := by rw [← hh, Bd.state]; rfl
  have N0 := Fr.nil n0
  have pre0 : ∀ tg, Steps pP.tables eE below (s₁.setTop (mkF mM 0 #[.val (.int p), .val (.int q)] [])) tg → Steps pP.tables eE below (s₁.setTop (entryFrame mM #[(.int p), (.int q)] 2)) tg := fun tg kg => castTop (ef_1 mM p q) kg
  have pr2 : ∀ tg, Steps pP.tables eE below (s₁.setTop (mkF mM 2 #[.val (.int p), .val (.int q)] [(.int q), (.int p)])) tg → Steps pP.tables eE below (s₁.setTop (entryFrame mM #[(.int p), (.int q)] 2)) tg := fun tg kg => pre0 _ (by
    show Steps pP.tables eE below (s₁.setTop (mkF mM 0 #[.val (.int p), .val (.int q)] [])) _
    refine XS.iloadN X0.here hx rfl (hb hby d1_0) rfl ?_
    show Steps pP.tables eE below (s₁.setTop (mkF mM 1 #[.val (.int p), .val (.int q)] [(.int p)])) _
    refine XS.iloadN X0.here hx rfl (hb hby d1_1) rfl ?_
    exact kg)
  by_cases hc2_1 : q < p
  ·
    have pr3 : ∀ tg, Steps pP.tables eE below (s₁.setTop (mkF mM 10 #[.val (.int p), .val (.int q)] [(.int q)])) tg → Steps pP.tables eE below (s₁.setTop (entryFrame mM #[(.int p), (.int q)] 2)) tg := fun tg kg => pr2 _ (by
      show Steps pP.tables eE below (s₁.setTop (mkF mM 2 #[.val (.int p), .val (.int q)] [(.int q), (.int p)])) _
      refine XS.icmpYes X0.here hx rfl (pc0 := 2) (pc' := 9) rfl (hb hby d1_2) rfl (tlt hc2_1).2.2.1 (by decide) (by decide) ?_
      show Steps pP.tables eE below (s₁.setTop (mkF mM 9 #[.val (.int p), .val (.int q)] [])) _
      refine XS.iloadN X0.here hx rfl (hb hby d1_9) rfl ?_
      exact kg)
    obtain ⟨fs, hr, hrun, hended, hW, hsame⟩ := X0.leave (v := some (.int q)) (fun h => by rw [Bd.returns] at h; cases h)
    refine ⟨_, _, pr3 _ (retOut X0 hx (t := .int) Bd.returns rfl (Or.inl ⟨rfl, Or.inl rfl, _, rfl⟩) (hb hby d1_10) hr), hrun, hended, _, _, rfl, ?_, ⟨_, rfl⟩, hW, hsame.mono (by decide) (by decide)⟩
    show Q1 Z p q h0 n0 _ s₁.heap _
    rw [e0]
    exact ⟨_, rfl, by rw [if_pos hc2_1], N0, rfl⟩
  ·
    have pr4 : ∀ tg, Steps pP.tables eE below (s₁.setTop (mkF mM 10 #[.val (.int p), .val (.int q)] [(.int p)])) tg → Steps pP.tables eE below (s₁.setTop (entryFrame mM #[(.int p), (.int q)] 2)) tg := fun tg kg => pr2 _ (by
      show Steps pP.tables eE below (s₁.setTop (mkF mM 2 #[.val (.int p), .val (.int q)] [(.int q), (.int p)])) _
      refine XS.icmpNo X0.here hx rfl (hb hby d1_2) rfl (flt hc2_1).2.2.1 ?_
      show Steps pP.tables eE below (s₁.setTop (mkF mM 5 #[.val (.int p), .val (.int q)] [])) _
      refine XS.iloadN X0.here hx rfl (hb hby d1_5) rfl ?_
      show Steps pP.tables eE below (s₁.setTop (mkF mM 6 #[.val (.int p), .val (.int q)] [(.int p)])) _
      refine XS.goto X0.here hx rfl (pc0 := 6) (pc' := 10) rfl (hb hby d1_6) (by decide) (by decide) ?_
      exact kg)
    obtain ⟨fs, hr, hrun, hended, hW, hsame⟩ := X0.leave (v := some (.int p)) (fun h => by rw [Bd.returns] at h; cases h)
    refine ⟨_, _, pr4 _ (retOut X0 hx (t := .int) Bd.returns rfl (Or.inl ⟨rfl, Or.inl rfl, _, rfl⟩) (hb hby d1_10) hr), hrun, hended, _, _, rfl, ?_, ⟨_, rfl⟩, hW, hsame.mono (by decide) (by decide)⟩
    show Q1 Z p q h0 n0 _ s₁.heap _
    rw [e0]
    exact ⟨_, rfl, by rw [if_neg hc2_1], N0, rfl⟩
theorem d20_0 : decode method_4_code 0 = .ok (.iload_n 1, 1) := by decide +kernel
theorem d20_1 : decode method_4_code 1 = .ok (.ifCond .ne 7, 3) := by decide +kernel
theorem d20_4 : decode method_4_code 4 = .ok (.iconst 0, 1) := by decide +kernel
theorem d20_5 : decode method_4_code 5 = .ok (.newarray .int, 2) := by decide +kernel
theorem d20_7 : decode method_4_code 7 = .ok (.areturn, 1) := by decide +kernel
theorem pn_0 : plainName "com/example/refine/refine/refinement/NormalisedLtsFirstNotInPinLaw" = true := by first | (simp [plainName, overriddenIn]; done) | decide +kernel
theorem ef_20 (mM : MethodId) (x0 : Addr) (x1 : Int32) : entryFrame mM #[(.ref x0), (.int x1)] 2 = mkF mM 0 #[.val (.ref x0), .val (.int x1)] [] := by first | (simp [entryFrame, mkF, argsToLocals, Value.category]; done) | rfl
def Q20 (Z : State) (x : Addr) (kx : ClassId) (v0 : Int32) (v1 : Int32) (v2 : Int32) (v3 : Int32) (h0 : Heap) (n0 : Nat) (v : Option Value) (h : Heap) (L : List Loc) : Prop := ∃ b : Addr, v = some (.ref b) ∧ h0.size ≤ b ∧ Fr n0 L ∧ Keep h0 h [] ∧ ∃ k : ClassId, Arv Z h b k .int (0 : Int32) [] (.int (0 : Int32))
set_option maxRecDepth 65536 in
set_option maxHeartbeats 40000000 in
theorem rm20 (l : Launch) (Z : State) (a0 : Array Value) (hw : ∀ d ∈ tables_1, d.before a0 Z = true) (ws : List Jvm.Cond) (x : Addr) (kx : ClassId) (v0 : Int32) (v1 : Int32) (v2 : Int32) (v3 : Int32) (h0 : Heap) (n0 : Nat) (Z0 : n0 ≤ h0.size) (V_x : Arv Z h0 x kx .int (4 : Int32) [.int v0, .int v1, .int v2, .int v3] (.int (0 : Int32))) :
    MetFree l (⟨"com/example/refine/refine/refinement/NormalisedLtsFirstNotInPinLaw", "take", "([II)[I"⟩ : MethodName) (head1 (Jvm.Cond.code (⟨"com/example/refine/refine/refinement/NormalisedLtsFirstNotInPinLaw", "take", "([II)[I"⟩ : MethodName) method_4_code 2 (some (.array .int)) :: ws) ({ frames := 0, cells := 1, slots := 0, locals := 0 } : Room)) (fun aA uU => aA = #[(.ref x), (.int (0 : Int32))] ∧ Z.Warmed39 uU.vm ∧ uU.heap = h0) (fun _ _ _ _ _ => True) (fun _ uU oO uU' => ∃ vV lL, oO = .returned vV ∧ Q20 Z x kx v0 v1 v2 v3 h0 n0 vV uU'.heap lL ∧ FrameEnd uU oO uU' lL ({ frames := 0, cells := 1, slots := 0, locals := 0 } : Room).cells ({ frames := 0, cells := 1, slots := 0, locals := 0 } : Room).slots) := by
  refine MetFree.of_bodySF (plainFor_of_name pn_0) hisR ?_
  intro pP eE sS mM args below meth cC s₁ Bd hml0 hP hK
  obtain ⟨rfl, hZ, hh⟩ := hP
  have hx := Bd.exec
  have hby := Bd.bytes
  have hml : cC.maxLocals = 2 := hml0
  have hown : sS.vm.findClass "com/example/refine/refine/refinement/NormalisedLtsFirstNotInPinLaw" = some mM.cls := findClass_of_methodNamed Bd.named
  have hnm := (name_of_methodNamed Bd.named Bd.method).1
  have X0 : Stand pP l eE ({ frames := 0, cells := 1, slots := 0, locals := 0 } : Room) sS mM #[(.ref x), (.int (0 : Int32))] below meth cC s₁ [] 0 0 := Stand.of_body Bd
  have e0 : s₁.heap = h0 := by rw [← hh, Bd.state]; rfl
  have N0 := Fr.nil n0
  have pre0 : ∀ tg, Steps pP.tables eE below (s₁.setTop (mkF mM 0 #[.val (.ref x), .val (.int (0 : Int32))] [])) tg → Steps pP.tables eE below (s₁.setTop (entryFrame mM #[(.ref x), (.int (0 : Int32))] 2)) tg := fun tg kg => castTop (ef_20 mM x (0 : Int32)) kg
  have pr1 : ∀ tg, Steps pP.tables eE below (s₁.setTop (mkF mM 5 #[.val (.ref x), .val (.int (0 : Int32))] [(.int (0 : Int32))])) tg → Steps pP.tables eE below (s₁.setTop (entryFrame mM #[(.ref x), (.int (0 : Int32))] 2)) tg := fun tg kg => pre0 _ (by
    show Steps pP.tables eE below (s₁.setTop (mkF mM 0 #[.val (.ref x), .val (.int (0 : Int32))] [])) _
    refine XS.iloadN X0.here hx rfl (hb hby d20_0) rfl ?_
    show Steps pP.tables eE below (s₁.setTop (mkF mM 1 #[.val (.ref x), .val (.int (0 : Int32))] [(.int (0 : Int32))])) _
    refine XS.ifNo X0.here hx rfl (hb hby d20_1) rfl ((if0 _ _).trans (teq (by decide)).2) ?_
    show Steps pP.tables eE below (s₁.setTop (mkF mM 4 #[.val (.ref x), .val (.int (0 : Int32))] [])) _
    refine XS.iconst X0.here hx rfl (hb hby d20_4) ?_
    exact kg)
  obtain ⟨T2, h2, k2, X2, e2, E2, A2, Ex2, st2⟩ := newPE X0 hx hZ (hw _ (List.mem_of_getElem? (i := 10) rfl)) e0 (g := (mkF mM 5 #[.val (.ref x), .val (.int (0 : Int32))] [(.int (0 : Int32))])) rfl (hb hby d20_5) rfl (by decide) (cap := 0) (by decide) (by decide) (by decide) (by decide) (ad := "[I") rfl
  obtain ⟨b2, g2⟩ : ∃ z, z = (h0).size := ⟨_, rfl⟩
  rw [← g2] at A2 Ex2 st2
  have ne3 : x ≠ b2 := Nat.ne_of_lt (Nat.lt_of_lt_of_le (V_x).lt (Nat.le_of_eq g2.symm))
  have gn4 : n0 ≤ b2 := Nat.le_trans Z0 (Nat.le_of_eq g2.symm)
  have gs5 : h0.size ≤ b2 := Nat.le_trans (Keep.refl h0 []).1 (Nat.le_of_eq g2.symm)
  have V2 : Arv Z h2 b2 k2 .int (0 : Int32) [] (.int (0 : Int32)) := Arv.new A2 (by decide)
  have pr6 : ∀ tg, Steps pP.tables eE below (T2.setTop (mkF mM 7 #[.val (.ref x), .val (.int (0 : Int32))] [(.ref b2)])) tg → Steps pP.tables eE below (s₁.setTop (entryFrame mM #[(.ref x), (.int (0 : Int32))] 2)) tg := fun tg kg => pr1 _ (st2 _ kg)
  have c7 := (Keep.ext (Keep.refl h0 []) E2)
  obtain ⟨fs, hr, hrun, hended, hW, hsame⟩ := X2.leave (v := some (.ref b2)) (fun h => by rw [Bd.returns] at h; cases h)
  refine ⟨_, _, pr6 _ (retOut X2 hx (t := (.array .int)) Bd.returns rfl (Or.inr (Or.inr (Or.inr (Or.inr ⟨rfl, rfl, rfl⟩)))) (hb hby d20_7) hr), hrun, hended, _, _, rfl, ?_, ⟨_, rfl⟩, hW, hsame.mono (by decide) (by decide)⟩
  show Q20 Z x kx v0 v1 v2 v3 h0 n0 _ T2.heap _
  rw [e2]
  exact ⟨_, rfl, gs5, N0, c7, _, V2⟩
theorem d21_0 : decode method_4_code 0 = .ok (.iload_n 1, 1) := by decide +kernel
theorem d21_1 : decode method_4_code 1 = .ok (.ifCond .ne 7, 3) := by decide +kernel
theorem d21_8 : decode method_4_code 8 = .ok (.iload_n 1, 1) := by decide +kernel
theorem d21_9 : decode method_4_code 9 = .ok (.iconst 1, 1) := by decide +kernel
theorem d21_10 : decode method_4_code 10 = .ok (.if_icmp .ne 13, 3) := by decide +kernel
theorem d21_13 : decode method_4_code 13 = .ok (.iconst 1, 1) := by decide +kernel
theorem d21_14 : decode method_4_code 14 = .ok (.newarray .int, 2) := by decide +kernel
theorem d21_16 : decode method_4_code 16 = .ok (.dup, 1) := by decide +kernel
theorem d21_17 : decode method_4_code 17 = .ok (.iconst 0, 1) := by decide +kernel
theorem d21_18 : decode method_4_code 18 = .ok (.aload_n 0, 1) := by decide +kernel
theorem d21_19 : decode method_4_code 19 = .ok (.iconst 0, 1) := by decide +kernel
theorem d21_20 : decode method_4_code 20 = .ok (.iaload, 1) := by decide +kernel
theorem d21_21 : decode method_4_code 21 = .ok (.iastore, 1) := by decide +kernel
theorem d21_22 : decode method_4_code 22 = .ok (.areturn, 1) := by decide +kernel
theorem ef_21 (mM : MethodId) (x0 : Addr) (x1 : Int32) : entryFrame mM #[(.ref x0), (.int x1)] 2 = mkF mM 0 #[.val (.ref x0), .val (.int x1)] [] := by first | (simp [entryFrame, mkF, argsToLocals, Value.category]; done) | rfl
def Q21 (Z : State) (x : Addr) (kx : ClassId) (v0 : Int32) (v1 : Int32) (v2 : Int32) (v3 : Int32) (h0 : Heap) (n0 : Nat) (v : Option Value) (h : Heap) (L : List Loc) : Prop := ∃ b : Addr, v = some (.ref b) ∧ h0.size ≤ b ∧ Fr n0 L ∧ Keep h0 h [] ∧ ∃ k : ClassId, Arv Z h b k .int (1 : Int32) [.int v0] (.int (0 : Int32))
set_option maxRecDepth 65536 in
set_option maxHeartbeats 40000000 in
theorem rm21 (l : Launch) (Z : State) (a0 : Array Value) (hw : ∀ d ∈ tables_1, d.before a0 Z = true) (ws : List Jvm.Cond) (x : Addr) (kx : ClassId) (v0 : Int32) (v1 : Int32) (v2 : Int32) (v3 : Int32) (h0 : Heap) (n0 : Nat) (Z0 : n0 ≤ h0.size) (V_x : Arv Z h0 x kx .int (4 : Int32) [.int v0, .int v1, .int v2, .int v3] (.int (0 : Int32))) :
    MetFree l (⟨"com/example/refine/refine/refinement/NormalisedLtsFirstNotInPinLaw", "take", "([II)[I"⟩ : MethodName) (head1 (Jvm.Cond.code (⟨"com/example/refine/refine/refinement/NormalisedLtsFirstNotInPinLaw", "take", "([II)[I"⟩ : MethodName) method_4_code 2 (some (.array .int)) :: ws) ({ frames := 0, cells := 1, slots := 1, locals := 0 } : Room)) (fun aA uU => aA = #[(.ref x), (.int (1 : Int32))] ∧ Z.Warmed39 uU.vm ∧ uU.heap = h0) (fun _ _ _ _ _ => True) (fun _ uU oO uU' => ∃ vV lL, oO = .returned vV ∧ Q21 Z x kx v0 v1 v2 v3 h0 n0 vV uU'.heap lL ∧ FrameEnd uU oO uU' lL ({ frames := 0, cells := 1, slots := 1, locals := 0 } : Room).cells ({ frames := 0, cells := 1, slots := 1, locals := 0 } : Room).slots) := by
  refine MetFree.of_bodySF (plainFor_of_name pn_0) hisR ?_
  intro pP eE sS mM args below meth cC s₁ Bd hml0 hP hK
  obtain ⟨rfl, hZ, hh⟩ := hP
  have hx := Bd.exec
  have hby := Bd.bytes
  have hml : cC.maxLocals = 2 := hml0
  have hown : sS.vm.findClass "com/example/refine/refine/refinement/NormalisedLtsFirstNotInPinLaw" = some mM.cls := findClass_of_methodNamed Bd.named
  have hnm := (name_of_methodNamed Bd.named Bd.method).1
  have X0 : Stand pP l eE ({ frames := 0, cells := 1, slots := 1, locals := 0 } : Room) sS mM #[(.ref x), (.int (1 : Int32))] below meth cC s₁ [] 0 0 := Stand.of_body Bd
  have e0 : s₁.heap = h0 := by rw [← hh, Bd.state]; rfl
  have N0 := Fr.nil n0
  have pre0 : ∀ tg, Steps pP.tables eE below (s₁.setTop (mkF mM 0 #[.val (.ref x), .val (.int (1 : Int32))] [])) tg → Steps pP.tables eE below (s₁.setTop (entryFrame mM #[(.ref x), (.int (1 : Int32))] 2)) tg := fun tg kg => castTop (ef_21 mM x (1 : Int32)) kg
  have pr1 : ∀ tg, Steps pP.tables eE below (s₁.setTop (mkF mM 14 #[.val (.ref x), .val (.int (1 : Int32))] [(.int (1 : Int32))])) tg → Steps pP.tables eE below (s₁.setTop (entryFrame mM #[(.ref x), (.int (1 : Int32))] 2)) tg := fun tg kg => pre0 _ (by
    show Steps pP.tables eE below (s₁.setTop (mkF mM 0 #[.val (.ref x), .val (.int (1 : Int32))] [])) _
    refine XS.iloadN X0.here hx rfl (hb hby d21_0) rfl ?_
    show Steps pP.tables eE below (s₁.setTop (mkF mM 1 #[.val (.ref x), .val (.int (1 : Int32))] [(.int (1 : Int32))])) _
    refine XS.ifYes X0.here hx rfl (pc0 := 1) (pc' := 8) rfl (hb hby d21_1) rfl ((if0 _ _).trans (feq (by decide)).2) (by decide) (by decide) ?_
    show Steps pP.tables eE below (s₁.setTop (mkF mM 8 #[.val (.ref x), .val (.int (1 : Int32))] [])) _
    refine XS.iloadN X0.here hx rfl (hb hby d21_8) rfl ?_
    show Steps pP.tables eE below (s₁.setTop (mkF mM 9 #[.val (.ref x), .val (.int (1 : Int32))] [(.int (1 : Int32))])) _
    refine XS.iconst X0.here hx rfl (hb hby d21_9) ?_
    show Steps pP.tables eE below (s₁.setTop (mkF mM 10 #[.val (.ref x), .val (.int (1 : Int32))] [(.int (1 : Int32)), (.int (1 : Int32))])) _
    refine XS.icmpNo X0.here hx rfl (hb hby d21_10) rfl (teq (by decide)).2 ?_
    show Steps pP.tables eE below (s₁.setTop (mkF mM 13 #[.val (.ref x), .val (.int (1 : Int32))] [])) _
    refine XS.iconst X0.here hx rfl (hb hby d21_13) ?_
    exact kg)
  obtain ⟨T2, h2, k2, X2, e2, E2, A2, Ex2, st2⟩ := newPE X0 hx hZ (hw _ (List.mem_of_getElem? (i := 10) rfl)) e0 (g := (mkF mM 14 #[.val (.ref x), .val (.int (1 : Int32))] [(.int (1 : Int32))])) rfl (hb hby d21_14) rfl (by decide) (cap := 1) (by decide) (by decide) (by decide) (by decide) (ad := "[I") rfl
  obtain ⟨b2, g2⟩ : ∃ z, z = (h0).size := ⟨_, rfl⟩
  rw [← g2] at A2 Ex2 st2
  have ne3 : x ≠ b2 := Nat.ne_of_lt (Nat.lt_of_lt_of_le (V_x).lt (Nat.le_of_eq g2.symm))
  have gn4 : n0 ≤ b2 := Nat.le_trans Z0 (Nat.le_of_eq g2.symm)
  have gs5 : h0.size ≤ b2 := Nat.le_trans (Keep.refl h0 []).1 (Nat.le_of_eq g2.symm)
  have V2 : Arv Z h2 b2 k2 .int (1 : Int32) [(.int (0 : Int32))] (.int (0 : Int32)) := (Arv.new A2 (by decide)).pad (pad_rep [] (.int (0 : Int32)) 1)
  have pr6 : ∀ tg, Steps pP.tables eE below (T2.setTop (mkF mM 16 #[.val (.ref x), .val (.int (1 : Int32))] [(.ref b2)])) tg → Steps pP.tables eE below (s₁.setTop (entryFrame mM #[(.ref x), (.int (1 : Int32))] 2)) tg := fun tg kg => pr1 _ (st2 _ kg)
  have c7 := (Arv.ext V_x E2)
  obtain ⟨cla8, Ara8, qa8, Sa8, Ma8, Ha8, Ga8⟩ := id c7
  have hin9 : ¬ ((0 : Int32) < 0 ∨ cla8.slots.size ≤ ((0 : Int32)).toNatClampNeg) := inb_of Sa8 ⟨by decide, by decide⟩
  have hat9 : cla8.slots[((0 : Int32)).toNatClampNeg]? = some (.int v0) := Has.at Ha8 hin9 rfl
  have pr10 : ∀ tg, Steps pP.tables eE below (T2.setTop (mkF mM 21 #[.val (.ref x), .val (.int (1 : Int32))] [(.int v0), (.int (0 : Int32)), (.ref b2), (.ref b2)])) tg → Steps pP.tables eE below (s₁.setTop (entryFrame mM #[(.ref x), (.int (1 : Int32))] 2)) tg := fun tg kg => pr6 _ (by
    show Steps pP.tables eE below (T2.setTop (mkF mM 16 #[.val (.ref x), .val (.int (1 : Int32))] [(.ref b2)])) _
    refine XS.dup X2.here hx rfl (hb hby d21_16) rfl rfl ?_
    show Steps pP.tables eE below (T2.setTop (mkF mM 17 #[.val (.ref x), .val (.int (1 : Int32))] [(.ref b2), (.ref b2)])) _
    refine XS.iconst X2.here hx rfl (hb hby d21_17) ?_
    show Steps pP.tables eE below (T2.setTop (mkF mM 18 #[.val (.ref x), .val (.int (1 : Int32))] [(.int (0 : Int32)), (.ref b2), (.ref b2)])) _
    refine XS.aloadN X2.here hx rfl (hb hby d21_18) rfl rfl ?_
    show Steps pP.tables eE below (T2.setTop (mkF mM 19 #[.val (.ref x), .val (.int (1 : Int32))] [(.ref x), (.int (0 : Int32)), (.ref b2), (.ref b2)])) _
    refine XS.iconst X2.here hx rfl (hb hby d21_19) ?_
    show Steps pP.tables eE below (T2.setTop (mkF mM 20 #[.val (.ref x), .val (.int (1 : Int32))] [(.int (0 : Int32)), (.ref x), (.int (0 : Int32)), (.ref b2), (.ref b2)])) _
    refine X2.iaload hx (j := (0 : Int32)) (v := (.int v0)) (by rw [e2]; exact Ara8.1) (State.isArrayOf_alike hZ.alike Ara8.2.1) Ara8.2.2 hin9 hat9 (g := (mkF mM 20 #[.val (.ref x), .val (.int (1 : Int32))] [(.int (0 : Int32)), (.ref x), (.int (0 : Int32)), (.ref b2), (.ref b2)])) rfl rfl (hb hby d21_20) _ ?_
    exact kg)
  obtain ⟨cla11, Ara11, qa11, Sa11, Ma11, Ha11, Ga11⟩ := id V2
  have hin12 : ¬ ((0 : Int32) < 0 ∨ cla11.slots.size ≤ ((0 : Int32)).toNatClampNeg) := inb_of Sa11 ⟨by decide, by decide⟩
  obtain ⟨T12, h12, X12, e12, W12, st12⟩ := stI X2 hx hZ e2 Ara11 (j := (0 : Int32)) hin12 (g := (mkF mM 21 #[.val (.ref x), .val (.int (1 : Int32))] [(.int v0), (.int (0 : Int32)), (.ref b2), (.ref b2)])) rfl rfl (hb hby d21_21)
  have V12 : Arv Z h12 b2 k2 .int (1 : Int32) [(.int v0)] (.int (0 : Int32)) := Arv.set Ara11 qa11 Sa11 Ma11 Ha11 Ga11 rfl W12 0 rfl (Nat.le_of_ble_eq_true rfl)
  have N12 := Fr.snoc X12 N0 gn4
  have pr13 : ∀ tg, Steps pP.tables eE below (T12.setTop (mkF mM 22 #[.val (.ref x), .val (.int (1 : Int32))] [(.ref b2)])) tg → Steps pP.tables eE below (s₁.setTop (entryFrame mM #[(.ref x), (.int (1 : Int32))] 2)) tg := fun tg kg => pr10 _ (st12 _ kg)
  have c14 := (Keep.wr (Keep.ext (Keep.refl h0 []) E2) W12 (Or.inr gs5))
  obtain ⟨fs, hr, hrun, hended, hW, hsame⟩ := X12.leave (v := some (.ref b2)) (fun h => by rw [Bd.returns] at h; cases h)
  refine ⟨_, _, pr13 _ (retOut X12 hx (t := (.array .int)) Bd.returns rfl (Or.inr (Or.inr (Or.inr (Or.inr ⟨rfl, rfl, rfl⟩)))) (hb hby d21_22) hr), hrun, hended, _, _, rfl, ?_, ⟨_, rfl⟩, hW, hsame.mono (by decide) (by decide)⟩
  show Q21 Z x kx v0 v1 v2 v3 h0 n0 _ T12.heap _
  rw [e12]
  exact ⟨_, rfl, gs5, N12, c14, _, V12⟩
theorem d22_0 : decode method_4_code 0 = .ok (.iload_n 1, 1) := by decide +kernel
theorem d22_1 : decode method_4_code 1 = .ok (.ifCond .ne 7, 3) := by decide +kernel
theorem d22_8 : decode method_4_code 8 = .ok (.iload_n 1, 1) := by decide +kernel
theorem d22_9 : decode method_4_code 9 = .ok (.iconst 1, 1) := by decide +kernel
theorem d22_10 : decode method_4_code 10 = .ok (.if_icmp .ne 13, 3) := by decide +kernel
theorem d22_23 : decode method_4_code 23 = .ok (.iload_n 1, 1) := by decide +kernel
theorem d22_24 : decode method_4_code 24 = .ok (.iconst 2, 1) := by decide +kernel
theorem d22_25 : decode method_4_code 25 = .ok (.if_icmp .ne 19, 3) := by decide +kernel
theorem d22_28 : decode method_4_code 28 = .ok (.iconst 2, 1) := by decide +kernel
theorem d22_29 : decode method_4_code 29 = .ok (.newarray .int, 2) := by decide +kernel
theorem d22_31 : decode method_4_code 31 = .ok (.dup, 1) := by decide +kernel
theorem d22_32 : decode method_4_code 32 = .ok (.iconst 0, 1) := by decide +kernel
theorem d22_33 : decode method_4_code 33 = .ok (.aload_n 0, 1) := by decide +kernel
theorem d22_34 : decode method_4_code 34 = .ok (.iconst 0, 1) := by decide +kernel
theorem d22_35 : decode method_4_code 35 = .ok (.iaload, 1) := by decide +kernel
theorem d22_36 : decode method_4_code 36 = .ok (.iastore, 1) := by decide +kernel
theorem d22_37 : decode method_4_code 37 = .ok (.dup, 1) := by decide +kernel
theorem d22_38 : decode method_4_code 38 = .ok (.iconst 1, 1) := by decide +kernel
theorem d22_39 : decode method_4_code 39 = .ok (.aload_n 0, 1) := by decide +kernel
theorem d22_40 : decode method_4_code 40 = .ok (.iconst 1, 1) := by decide +kernel
theorem d22_41 : decode method_4_code 41 = .ok (.iaload, 1) := by decide +kernel
theorem d22_42 : decode method_4_code 42 = .ok (.iastore, 1) := by decide +kernel
theorem d22_43 : decode method_4_code 43 = .ok (.areturn, 1) := by decide +kernel
theorem ef_22 (mM : MethodId) (x0 : Addr) (x1 : Int32) : entryFrame mM #[(.ref x0), (.int x1)] 2 = mkF mM 0 #[.val (.ref x0), .val (.int x1)] [] := by first | (simp [entryFrame, mkF, argsToLocals, Value.category]; done) | rfl
def Q22 (Z : State) (x : Addr) (kx : ClassId) (v0 : Int32) (v1 : Int32) (v2 : Int32) (v3 : Int32) (h0 : Heap) (n0 : Nat) (v : Option Value) (h : Heap) (L : List Loc) : Prop := ∃ b : Addr, v = some (.ref b) ∧ h0.size ≤ b ∧ Fr n0 L ∧ Keep h0 h [] ∧ ∃ k : ClassId, Arv Z h b k .int (2 : Int32) [.int v0, .int v1] (.int (0 : Int32))
set_option maxRecDepth 65536 in
set_option maxHeartbeats 40000000 in
theorem rm22 (l : Launch) (Z : State) (a0 : Array Value) (hw : ∀ d ∈ tables_1, d.before a0 Z = true) (ws : List Jvm.Cond) (x : Addr) (kx : ClassId) (v0 : Int32) (v1 : Int32) (v2 : Int32) (v3 : Int32) (h0 : Heap) (n0 : Nat) (Z0 : n0 ≤ h0.size) (V_x : Arv Z h0 x kx .int (4 : Int32) [.int v0, .int v1, .int v2, .int v3] (.int (0 : Int32))) :
    MetFree l (⟨"com/example/refine/refine/refinement/NormalisedLtsFirstNotInPinLaw", "take", "([II)[I"⟩ : MethodName) (head1 (Jvm.Cond.code (⟨"com/example/refine/refine/refinement/NormalisedLtsFirstNotInPinLaw", "take", "([II)[I"⟩ : MethodName) method_4_code 2 (some (.array .int)) :: ws) ({ frames := 0, cells := 1, slots := 2, locals := 0 } : Room)) (fun aA uU => aA = #[(.ref x), (.int (2 : Int32))] ∧ Z.Warmed39 uU.vm ∧ uU.heap = h0) (fun _ _ _ _ _ => True) (fun _ uU oO uU' => ∃ vV lL, oO = .returned vV ∧ Q22 Z x kx v0 v1 v2 v3 h0 n0 vV uU'.heap lL ∧ FrameEnd uU oO uU' lL ({ frames := 0, cells := 1, slots := 2, locals := 0 } : Room).cells ({ frames := 0, cells := 1, slots := 2, locals := 0 } : Room).slots) := by
  refine MetFree.of_bodySF (plainFor_of_name pn_0) hisR ?_
  intro pP eE sS mM args below meth cC s₁ Bd hml0 hP hK
  obtain ⟨rfl, hZ, hh⟩ := hP
  have hx := Bd.exec
  have hby := Bd.bytes
  have hml : cC.maxLocals = 2 := hml0
  have hown : sS.vm.findClass "com/example/refine/refine/refinement/NormalisedLtsFirstNotInPinLaw" = some mM.cls := findClass_of_methodNamed Bd.named
  have hnm := (name_of_methodNamed Bd.named Bd.method).1
  have X0 : Stand pP l eE ({ frames := 0, cells := 1, slots := 2, locals := 0 } : Room) sS mM #[(.ref x), (.int (2 : Int32))] below meth cC s₁ [] 0 0 := Stand.of_body Bd
  have e0 : s₁.heap = h0 := by rw [← hh, Bd.state]; rfl
  have N0 := Fr.nil n0
  have pre0 : ∀ tg, Steps pP.tables eE below (s₁.setTop (mkF mM 0 #[.val (.ref x), .val (.int (2 : Int32))] [])) tg → Steps pP.tables eE below (s₁.setTop (entryFrame mM #[(.ref x), (.int (2 : Int32))] 2)) tg := fun tg kg => castTop (ef_22 mM x (2 : Int32)) kg
  have pr1 : ∀ tg, Steps pP.tables eE below (s₁.setTop (mkF mM 29 #[.val (.ref x), .val (.int (2 : Int32))] [(.int (2 : Int32))])) tg → Steps pP.tables eE below (s₁.setTop (entryFrame mM #[(.ref x), (.int (2 : Int32))] 2)) tg := fun tg kg => pre0 _ (by
    show Steps pP.tables eE below (s₁.setTop (mkF mM 0 #[.val (.ref x), .val (.int (2 : Int32))] [])) _
    refine XS.iloadN X0.here hx rfl (hb hby d22_0) rfl ?_
    show Steps pP.tables eE below (s₁.setTop (mkF mM 1 #[.val (.ref x), .val (.int (2 : Int32))] [(.int (2 : Int32))])) _
    refine XS.ifYes X0.here hx rfl (pc0 := 1) (pc' := 8) rfl (hb hby d22_1) rfl ((if0 _ _).trans (feq (by decide)).2) (by decide) (by decide) ?_
    show Steps pP.tables eE below (s₁.setTop (mkF mM 8 #[.val (.ref x), .val (.int (2 : Int32))] [])) _
    refine XS.iloadN X0.here hx rfl (hb hby d22_8) rfl ?_
    show Steps pP.tables eE below (s₁.setTop (mkF mM 9 #[.val (.ref x), .val (.int (2 : Int32))] [(.int (2 : Int32))])) _
    refine XS.iconst X0.here hx rfl (hb hby d22_9) ?_
    show Steps pP.tables eE below (s₁.setTop (mkF mM 10 #[.val (.ref x), .val (.int (2 : Int32))] [(.int (1 : Int32)), (.int (2 : Int32))])) _
    refine XS.icmpYes X0.here hx rfl (pc0 := 10) (pc' := 23) rfl (hb hby d22_10) rfl (feq (by decide)).2 (by decide) (by decide) ?_
    show Steps pP.tables eE below (s₁.setTop (mkF mM 23 #[.val (.ref x), .val (.int (2 : Int32))] [])) _
    refine XS.iloadN X0.here hx rfl (hb hby d22_23) rfl ?_
    show Steps pP.tables eE below (s₁.setTop (mkF mM 24 #[.val (.ref x), .val (.int (2 : Int32))] [(.int (2 : Int32))])) _
    refine XS.iconst X0.here hx rfl (hb hby d22_24) ?_
    show Steps pP.tables eE below (s₁.setTop (mkF mM 25 #[.val (.ref x), .val (.int (2 : Int32))] [(.int (2 : Int32)), (.int (2 : Int32))])) _
    refine XS.icmpNo X0.here hx rfl (hb hby d22_25) rfl (teq (by decide)).2 ?_
    show Steps pP.tables eE below (s₁.setTop (mkF mM 28 #[.val (.ref x), .val (.int (2 : Int32))] [])) _
    refine XS.iconst X0.here hx rfl (hb hby d22_28) ?_
    exact kg)
  obtain ⟨T2, h2, k2, X2, e2, E2, A2, Ex2, st2⟩ := newPE X0 hx hZ (hw _ (List.mem_of_getElem? (i := 10) rfl)) e0 (g := (mkF mM 29 #[.val (.ref x), .val (.int (2 : Int32))] [(.int (2 : Int32))])) rfl (hb hby d22_29) rfl (by decide) (cap := 2) (by decide) (by decide) (by decide) (by decide) (ad := "[I") rfl
  obtain ⟨b2, g2⟩ : ∃ z, z = (h0).size := ⟨_, rfl⟩
  rw [← g2] at A2 Ex2 st2
  have ne3 : x ≠ b2 := Nat.ne_of_lt (Nat.lt_of_lt_of_le (V_x).lt (Nat.le_of_eq g2.symm))
  have gn4 : n0 ≤ b2 := Nat.le_trans Z0 (Nat.le_of_eq g2.symm)
  have gs5 : h0.size ≤ b2 := Nat.le_trans (Keep.refl h0 []).1 (Nat.le_of_eq g2.symm)
  have V2 : Arv Z h2 b2 k2 .int (2 : Int32) [(.int (0 : Int32)), (.int (0 : Int32))] (.int (0 : Int32)) := (Arv.new A2 (by decide)).pad (pad_rep [] (.int (0 : Int32)) 2)
  have pr6 : ∀ tg, Steps pP.tables eE below (T2.setTop (mkF mM 31 #[.val (.ref x), .val (.int (2 : Int32))] [(.ref b2)])) tg → Steps pP.tables eE below (s₁.setTop (entryFrame mM #[(.ref x), (.int (2 : Int32))] 2)) tg := fun tg kg => pr1 _ (st2 _ kg)
  have c7 := (Arv.ext V_x E2)
  obtain ⟨cla8, Ara8, qa8, Sa8, Ma8, Ha8, Ga8⟩ := id c7
  have hin9 : ¬ ((0 : Int32) < 0 ∨ cla8.slots.size ≤ ((0 : Int32)).toNatClampNeg) := inb_of Sa8 ⟨by decide, by decide⟩
  have hat9 : cla8.slots[((0 : Int32)).toNatClampNeg]? = some (.int v0) := Has.at Ha8 hin9 rfl
  have pr10 : ∀ tg, Steps pP.tables eE below (T2.setTop (mkF mM 36 #[.val (.ref x), .val (.int (2 : Int32))] [(.int v0), (.int (0 : Int32)), (.ref b2), (.ref b2)])) tg → Steps pP.tables eE below (s₁.setTop (entryFrame mM #[(.ref x), (.int (2 : Int32))] 2)) tg := fun tg kg => pr6 _ (by
    show Steps pP.tables eE below (T2.setTop (mkF mM 31 #[.val (.ref x), .val (.int (2 : Int32))] [(.ref b2)])) _
    refine XS.dup X2.here hx rfl (hb hby d22_31) rfl rfl ?_
    show Steps pP.tables eE below (T2.setTop (mkF mM 32 #[.val (.ref x), .val (.int (2 : Int32))] [(.ref b2), (.ref b2)])) _
    refine XS.iconst X2.here hx rfl (hb hby d22_32) ?_
    show Steps pP.tables eE below (T2.setTop (mkF mM 33 #[.val (.ref x), .val (.int (2 : Int32))] [(.int (0 : Int32)), (.ref b2), (.ref b2)])) _
    refine XS.aloadN X2.here hx rfl (hb hby d22_33) rfl rfl ?_
    show Steps pP.tables eE below (T2.setTop (mkF mM 34 #[.val (.ref x), .val (.int (2 : Int32))] [(.ref x), (.int (0 : Int32)), (.ref b2), (.ref b2)])) _
    refine XS.iconst X2.here hx rfl (hb hby d22_34) ?_
    show Steps pP.tables eE below (T2.setTop (mkF mM 35 #[.val (.ref x), .val (.int (2 : Int32))] [(.int (0 : Int32)), (.ref x), (.int (0 : Int32)), (.ref b2), (.ref b2)])) _
    refine X2.iaload hx (j := (0 : Int32)) (v := (.int v0)) (by rw [e2]; exact Ara8.1) (State.isArrayOf_alike hZ.alike Ara8.2.1) Ara8.2.2 hin9 hat9 (g := (mkF mM 35 #[.val (.ref x), .val (.int (2 : Int32))] [(.int (0 : Int32)), (.ref x), (.int (0 : Int32)), (.ref b2), (.ref b2)])) rfl rfl (hb hby d22_35) _ ?_
    exact kg)
  obtain ⟨cla11, Ara11, qa11, Sa11, Ma11, Ha11, Ga11⟩ := id V2
  have hin12 : ¬ ((0 : Int32) < 0 ∨ cla11.slots.size ≤ ((0 : Int32)).toNatClampNeg) := inb_of Sa11 ⟨by decide, by decide⟩
  obtain ⟨T12, h12, X12, e12, W12, st12⟩ := stI X2 hx hZ e2 Ara11 (j := (0 : Int32)) hin12 (g := (mkF mM 36 #[.val (.ref x), .val (.int (2 : Int32))] [(.int v0), (.int (0 : Int32)), (.ref b2), (.ref b2)])) rfl rfl (hb hby d22_36)
  have V12 : Arv Z h12 b2 k2 .int (2 : Int32) [(.int v0), (.int (0 : Int32))] (.int (0 : Int32)) := Arv.set Ara11 qa11 Sa11 Ma11 Ha11 Ga11 rfl W12 0 rfl (Nat.le_of_ble_eq_true rfl)
  have N12 := Fr.snoc X12 N0 gn4
  have pr13 : ∀ tg, Steps pP.tables eE below (T12.setTop (mkF mM 37 #[.val (.ref x), .val (.int (2 : Int32))] [(.ref b2)])) tg → Steps pP.tables eE below (s₁.setTop (entryFrame mM #[(.ref x), (.int (2 : Int32))] 2)) tg := fun tg kg => pr10 _ (st12 _ kg)
  have c14 := (Arv.other c7 W12 ne3)
  obtain ⟨cla15, Ara15, qa15, Sa15, Ma15, Ha15, Ga15⟩ := id c14
  have hin16 : ¬ ((1 : Int32) < 0 ∨ cla15.slots.size ≤ ((1 : Int32)).toNatClampNeg) := inb_of Sa15 ⟨by decide, by decide⟩
  have hat16 : cla15.slots[((1 : Int32)).toNatClampNeg]? = some (.int v1) := Has.at Ha15 hin16 rfl
  have pr17 : ∀ tg, Steps pP.tables eE below (T12.setTop (mkF mM 42 #[.val (.ref x), .val (.int (2 : Int32))] [(.int v1), (.int (1 : Int32)), (.ref b2), (.ref b2)])) tg → Steps pP.tables eE below (s₁.setTop (entryFrame mM #[(.ref x), (.int (2 : Int32))] 2)) tg := fun tg kg => pr13 _ (by
    show Steps pP.tables eE below (T12.setTop (mkF mM 37 #[.val (.ref x), .val (.int (2 : Int32))] [(.ref b2)])) _
    refine XS.dup X12.here hx rfl (hb hby d22_37) rfl rfl ?_
    show Steps pP.tables eE below (T12.setTop (mkF mM 38 #[.val (.ref x), .val (.int (2 : Int32))] [(.ref b2), (.ref b2)])) _
    refine XS.iconst X12.here hx rfl (hb hby d22_38) ?_
    show Steps pP.tables eE below (T12.setTop (mkF mM 39 #[.val (.ref x), .val (.int (2 : Int32))] [(.int (1 : Int32)), (.ref b2), (.ref b2)])) _
    refine XS.aloadN X12.here hx rfl (hb hby d22_39) rfl rfl ?_
    show Steps pP.tables eE below (T12.setTop (mkF mM 40 #[.val (.ref x), .val (.int (2 : Int32))] [(.ref x), (.int (1 : Int32)), (.ref b2), (.ref b2)])) _
    refine XS.iconst X12.here hx rfl (hb hby d22_40) ?_
    show Steps pP.tables eE below (T12.setTop (mkF mM 41 #[.val (.ref x), .val (.int (2 : Int32))] [(.int (1 : Int32)), (.ref x), (.int (1 : Int32)), (.ref b2), (.ref b2)])) _
    refine X12.iaload hx (j := (1 : Int32)) (v := (.int v1)) (by rw [e12]; exact Ara15.1) (State.isArrayOf_alike hZ.alike Ara15.2.1) Ara15.2.2 hin16 hat16 (g := (mkF mM 41 #[.val (.ref x), .val (.int (2 : Int32))] [(.int (1 : Int32)), (.ref x), (.int (1 : Int32)), (.ref b2), (.ref b2)])) rfl rfl (hb hby d22_41) _ ?_
    exact kg)
  obtain ⟨cla18, Ara18, qa18, Sa18, Ma18, Ha18, Ga18⟩ := id V12
  have hin19 : ¬ ((1 : Int32) < 0 ∨ cla18.slots.size ≤ ((1 : Int32)).toNatClampNeg) := inb_of Sa18 ⟨by decide, by decide⟩
  obtain ⟨T19, h19, X19, e19, W19, st19⟩ := stI X12 hx hZ e12 Ara18 (j := (1 : Int32)) hin19 (g := (mkF mM 42 #[.val (.ref x), .val (.int (2 : Int32))] [(.int v1), (.int (1 : Int32)), (.ref b2), (.ref b2)])) rfl rfl (hb hby d22_42)
  have V19 : Arv Z h19 b2 k2 .int (2 : Int32) [(.int v0), (.int v1)] (.int (0 : Int32)) := Arv.set Ara18 qa18 Sa18 Ma18 Ha18 Ga18 rfl W19 1 rfl (Nat.le_of_ble_eq_true rfl)
  have N19 := Fr.snoc X19 N12 gn4
  have pr20 : ∀ tg, Steps pP.tables eE below (T19.setTop (mkF mM 43 #[.val (.ref x), .val (.int (2 : Int32))] [(.ref b2)])) tg → Steps pP.tables eE below (s₁.setTop (entryFrame mM #[(.ref x), (.int (2 : Int32))] 2)) tg := fun tg kg => pr17 _ (st19 _ kg)
  have c21 := (Keep.wr (Keep.wr (Keep.ext (Keep.refl h0 []) E2) W12 (Or.inr gs5)) W19 (Or.inr gs5))
  obtain ⟨fs, hr, hrun, hended, hW, hsame⟩ := X19.leave (v := some (.ref b2)) (fun h => by rw [Bd.returns] at h; cases h)
  refine ⟨_, _, pr20 _ (retOut X19 hx (t := (.array .int)) Bd.returns rfl (Or.inr (Or.inr (Or.inr (Or.inr ⟨rfl, rfl, rfl⟩)))) (hb hby d22_43) hr), hrun, hended, _, _, rfl, ?_, ⟨_, rfl⟩, hW, hsame.mono (by decide) (by decide)⟩
  show Q22 Z x kx v0 v1 v2 v3 h0 n0 _ T19.heap _
  rw [e19]
  exact ⟨_, rfl, gs5, N19, c21, _, V19⟩
theorem d23_0 : decode method_4_code 0 = .ok (.iload_n 1, 1) := by decide +kernel
theorem d23_1 : decode method_4_code 1 = .ok (.ifCond .ne 7, 3) := by decide +kernel
theorem d23_8 : decode method_4_code 8 = .ok (.iload_n 1, 1) := by decide +kernel
theorem d23_9 : decode method_4_code 9 = .ok (.iconst 1, 1) := by decide +kernel
theorem d23_10 : decode method_4_code 10 = .ok (.if_icmp .ne 13, 3) := by decide +kernel
theorem d23_23 : decode method_4_code 23 = .ok (.iload_n 1, 1) := by decide +kernel
theorem d23_24 : decode method_4_code 24 = .ok (.iconst 2, 1) := by decide +kernel
theorem d23_25 : decode method_4_code 25 = .ok (.if_icmp .ne 19, 3) := by decide +kernel
theorem d23_44 : decode method_4_code 44 = .ok (.iload_n 1, 1) := by decide +kernel
theorem d23_45 : decode method_4_code 45 = .ok (.iconst 3, 1) := by decide +kernel
theorem d23_46 : decode method_4_code 46 = .ok (.if_icmp .ne 25, 3) := by decide +kernel
theorem d23_49 : decode method_4_code 49 = .ok (.iconst 3, 1) := by decide +kernel
theorem d23_50 : decode method_4_code 50 = .ok (.newarray .int, 2) := by decide +kernel
theorem d23_52 : decode method_4_code 52 = .ok (.dup, 1) := by decide +kernel
theorem d23_53 : decode method_4_code 53 = .ok (.iconst 0, 1) := by decide +kernel
theorem d23_54 : decode method_4_code 54 = .ok (.aload_n 0, 1) := by decide +kernel
theorem d23_55 : decode method_4_code 55 = .ok (.iconst 0, 1) := by decide +kernel
theorem d23_56 : decode method_4_code 56 = .ok (.iaload, 1) := by decide +kernel
theorem d23_57 : decode method_4_code 57 = .ok (.iastore, 1) := by decide +kernel
theorem d23_58 : decode method_4_code 58 = .ok (.dup, 1) := by decide +kernel
theorem d23_59 : decode method_4_code 59 = .ok (.iconst 1, 1) := by decide +kernel
theorem d23_60 : decode method_4_code 60 = .ok (.aload_n 0, 1) := by decide +kernel
theorem d23_61 : decode method_4_code 61 = .ok (.iconst 1, 1) := by decide +kernel
theorem d23_62 : decode method_4_code 62 = .ok (.iaload, 1) := by decide +kernel
theorem d23_63 : decode method_4_code 63 = .ok (.iastore, 1) := by decide +kernel
theorem d23_64 : decode method_4_code 64 = .ok (.dup, 1) := by decide +kernel
theorem d23_65 : decode method_4_code 65 = .ok (.iconst 2, 1) := by decide +kernel
theorem d23_66 : decode method_4_code 66 = .ok (.aload_n 0, 1) := by decide +kernel
theorem d23_67 : decode method_4_code 67 = .ok (.iconst 2, 1) := by decide +kernel
theorem d23_68 : decode method_4_code 68 = .ok (.iaload, 1) := by decide +kernel
theorem d23_69 : decode method_4_code 69 = .ok (.iastore, 1) := by decide +kernel
theorem d23_70 : decode method_4_code 70 = .ok (.areturn, 1) := by decide +kernel
theorem ef_23 (mM : MethodId) (x0 : Addr) (x1 : Int32) : entryFrame mM #[(.ref x0), (.int x1)] 2 = mkF mM 0 #[.val (.ref x0), .val (.int x1)] [] := by first | (simp [entryFrame, mkF, argsToLocals, Value.category]; done) | rfl
def Q23 (Z : State) (x : Addr) (kx : ClassId) (v0 : Int32) (v1 : Int32) (v2 : Int32) (v3 : Int32) (h0 : Heap) (n0 : Nat) (v : Option Value) (h : Heap) (L : List Loc) : Prop := ∃ b : Addr, v = some (.ref b) ∧ h0.size ≤ b ∧ Fr n0 L ∧ Keep h0 h [] ∧ ∃ k : ClassId, Arv Z h b k .int (3 : Int32) [.int v0, .int v1, .int v2] (.int (0 : Int32))
set_option maxRecDepth 65536 in
set_option maxHeartbeats 40000000 in
theorem rm23 (l : Launch) (Z : State) (a0 : Array Value) (hw : ∀ d ∈ tables_1, d.before a0 Z = true) (ws : List Jvm.Cond) (x : Addr) (kx : ClassId) (v0 : Int32) (v1 : Int32) (v2 : Int32) (v3 : Int32) (h0 : Heap) (n0 : Nat) (Z0 : n0 ≤ h0.size) (V_x : Arv Z h0 x kx .int (4 : Int32) [.int v0, .int v1, .int v2, .int v3] (.int (0 : Int32))) :
    MetFree l (⟨"com/example/refine/refine/refinement/NormalisedLtsFirstNotInPinLaw", "take", "([II)[I"⟩ : MethodName) (head1 (Jvm.Cond.code (⟨"com/example/refine/refine/refinement/NormalisedLtsFirstNotInPinLaw", "take", "([II)[I"⟩ : MethodName) method_4_code 2 (some (.array .int)) :: ws) ({ frames := 0, cells := 1, slots := 3, locals := 0 } : Room)) (fun aA uU => aA = #[(.ref x), (.int (3 : Int32))] ∧ Z.Warmed39 uU.vm ∧ uU.heap = h0) (fun _ _ _ _ _ => True) (fun _ uU oO uU' => ∃ vV lL, oO = .returned vV ∧ Q23 Z x kx v0 v1 v2 v3 h0 n0 vV uU'.heap lL ∧ FrameEnd uU oO uU' lL ({ frames := 0, cells := 1, slots := 3, locals := 0 } : Room).cells ({ frames := 0, cells := 1, slots := 3, locals := 0 } : Room).slots) := by
  refine MetFree.of_bodySF (plainFor_of_name pn_0) hisR ?_
  intro pP eE sS mM args below meth cC s₁ Bd hml0 hP hK
  obtain ⟨rfl, hZ, hh⟩ := hP
  have hx := Bd.exec
  have hby := Bd.bytes
  have hml : cC.maxLocals = 2 := hml0
  have hown : sS.vm.findClass "com/example/refine/refine/refinement/NormalisedLtsFirstNotInPinLaw" = some mM.cls := findClass_of_methodNamed Bd.named
  have hnm := (name_of_methodNamed Bd.named Bd.method).1
  have X0 : Stand pP l eE ({ frames := 0, cells := 1, slots := 3, locals := 0 } : Room) sS mM #[(.ref x), (.int (3 : Int32))] below meth cC s₁ [] 0 0 := Stand.of_body Bd
  have e0 : s₁.heap = h0 := by rw [← hh, Bd.state]; rfl
  have N0 := Fr.nil n0
  have pre0 : ∀ tg, Steps pP.tables eE below (s₁.setTop (mkF mM 0 #[.val (.ref x), .val (.int (3 : Int32))] [])) tg → Steps pP.tables eE below (s₁.setTop (entryFrame mM #[(.ref x), (.int (3 : Int32))] 2)) tg := fun tg kg => castTop (ef_23 mM x (3 : Int32)) kg
  have pr1 : ∀ tg, Steps pP.tables eE below (s₁.setTop (mkF mM 50 #[.val (.ref x), .val (.int (3 : Int32))] [(.int (3 : Int32))])) tg → Steps pP.tables eE below (s₁.setTop (entryFrame mM #[(.ref x), (.int (3 : Int32))] 2)) tg := fun tg kg => pre0 _ (by
    show Steps pP.tables eE below (s₁.setTop (mkF mM 0 #[.val (.ref x), .val (.int (3 : Int32))] [])) _
    refine XS.iloadN X0.here hx rfl (hb hby d23_0) rfl ?_
    show Steps pP.tables eE below (s₁.setTop (mkF mM 1 #[.val (.ref x), .val (.int (3 : Int32))] [(.int (3 : Int32))])) _
    refine XS.ifYes X0.here hx rfl (pc0 := 1) (pc' := 8) rfl (hb hby d23_1) rfl ((if0 _ _).trans (feq (by decide)).2) (by decide) (by decide) ?_
    show Steps pP.tables eE below (s₁.setTop (mkF mM 8 #[.val (.ref x), .val (.int (3 : Int32))] [])) _
    refine XS.iloadN X0.here hx rfl (hb hby d23_8) rfl ?_
    show Steps pP.tables eE below (s₁.setTop (mkF mM 9 #[.val (.ref x), .val (.int (3 : Int32))] [(.int (3 : Int32))])) _
    refine XS.iconst X0.here hx rfl (hb hby d23_9) ?_
    show Steps pP.tables eE below (s₁.setTop (mkF mM 10 #[.val (.ref x), .val (.int (3 : Int32))] [(.int (1 : Int32)), (.int (3 : Int32))])) _
    refine XS.icmpYes X0.here hx rfl (pc0 := 10) (pc' := 23) rfl (hb hby d23_10) rfl (feq (by decide)).2 (by decide) (by decide) ?_
    show Steps pP.tables eE below (s₁.setTop (mkF mM 23 #[.val (.ref x), .val (.int (3 : Int32))] [])) _
    refine XS.iloadN X0.here hx rfl (hb hby d23_23) rfl ?_
    show Steps pP.tables eE below (s₁.setTop (mkF mM 24 #[.val (.ref x), .val (.int (3 : Int32))] [(.int (3 : Int32))])) _
    refine XS.iconst X0.here hx rfl (hb hby d23_24) ?_
    show Steps pP.tables eE below (s₁.setTop (mkF mM 25 #[.val (.ref x), .val (.int (3 : Int32))] [(.int (2 : Int32)), (.int (3 : Int32))])) _
    refine XS.icmpYes X0.here hx rfl (pc0 := 25) (pc' := 44) rfl (hb hby d23_25) rfl (feq (by decide)).2 (by decide) (by decide) ?_
    show Steps pP.tables eE below (s₁.setTop (mkF mM 44 #[.val (.ref x), .val (.int (3 : Int32))] [])) _
    refine XS.iloadN X0.here hx rfl (hb hby d23_44) rfl ?_
    show Steps pP.tables eE below (s₁.setTop (mkF mM 45 #[.val (.ref x), .val (.int (3 : Int32))] [(.int (3 : Int32))])) _
    refine XS.iconst X0.here hx rfl (hb hby d23_45) ?_
    show Steps pP.tables eE below (s₁.setTop (mkF mM 46 #[.val (.ref x), .val (.int (3 : Int32))] [(.int (3 : Int32)), (.int (3 : Int32))])) _
    refine XS.icmpNo X0.here hx rfl (hb hby d23_46) rfl (teq (by decide)).2 ?_
    show Steps pP.tables eE below (s₁.setTop (mkF mM 49 #[.val (.ref x), .val (.int (3 : Int32))] [])) _
    refine XS.iconst X0.here hx rfl (hb hby d23_49) ?_
    exact kg)
  obtain ⟨T2, h2, k2, X2, e2, E2, A2, Ex2, st2⟩ := newPE X0 hx hZ (hw _ (List.mem_of_getElem? (i := 10) rfl)) e0 (g := (mkF mM 50 #[.val (.ref x), .val (.int (3 : Int32))] [(.int (3 : Int32))])) rfl (hb hby d23_50) rfl (by decide) (cap := 3) (by decide) (by decide) (by decide) (by decide) (ad := "[I") rfl
  obtain ⟨b2, g2⟩ : ∃ z, z = (h0).size := ⟨_, rfl⟩
  rw [← g2] at A2 Ex2 st2
  have ne3 : x ≠ b2 := Nat.ne_of_lt (Nat.lt_of_lt_of_le (V_x).lt (Nat.le_of_eq g2.symm))
  have gn4 : n0 ≤ b2 := Nat.le_trans Z0 (Nat.le_of_eq g2.symm)
  have gs5 : h0.size ≤ b2 := Nat.le_trans (Keep.refl h0 []).1 (Nat.le_of_eq g2.symm)
  have V2 : Arv Z h2 b2 k2 .int (3 : Int32) [(.int (0 : Int32)), (.int (0 : Int32)), (.int (0 : Int32))] (.int (0 : Int32)) := (Arv.new A2 (by decide)).pad (pad_rep [] (.int (0 : Int32)) 3)
  have pr6 : ∀ tg, Steps pP.tables eE below (T2.setTop (mkF mM 52 #[.val (.ref x), .val (.int (3 : Int32))] [(.ref b2)])) tg → Steps pP.tables eE below (s₁.setTop (entryFrame mM #[(.ref x), (.int (3 : Int32))] 2)) tg := fun tg kg => pr1 _ (st2 _ kg)
  have c7 := (Arv.ext V_x E2)
  obtain ⟨cla8, Ara8, qa8, Sa8, Ma8, Ha8, Ga8⟩ := id c7
  have hin9 : ¬ ((0 : Int32) < 0 ∨ cla8.slots.size ≤ ((0 : Int32)).toNatClampNeg) := inb_of Sa8 ⟨by decide, by decide⟩
  have hat9 : cla8.slots[((0 : Int32)).toNatClampNeg]? = some (.int v0) := Has.at Ha8 hin9 rfl
  have pr10 : ∀ tg, Steps pP.tables eE below (T2.setTop (mkF mM 57 #[.val (.ref x), .val (.int (3 : Int32))] [(.int v0), (.int (0 : Int32)), (.ref b2), (.ref b2)])) tg → Steps pP.tables eE below (s₁.setTop (entryFrame mM #[(.ref x), (.int (3 : Int32))] 2)) tg := fun tg kg => pr6 _ (by
    show Steps pP.tables eE below (T2.setTop (mkF mM 52 #[.val (.ref x), .val (.int (3 : Int32))] [(.ref b2)])) _
    refine XS.dup X2.here hx rfl (hb hby d23_52) rfl rfl ?_
    show Steps pP.tables eE below (T2.setTop (mkF mM 53 #[.val (.ref x), .val (.int (3 : Int32))] [(.ref b2), (.ref b2)])) _
    refine XS.iconst X2.here hx rfl (hb hby d23_53) ?_
    show Steps pP.tables eE below (T2.setTop (mkF mM 54 #[.val (.ref x), .val (.int (3 : Int32))] [(.int (0 : Int32)), (.ref b2), (.ref b2)])) _
    refine XS.aloadN X2.here hx rfl (hb hby d23_54) rfl rfl ?_
    show Steps pP.tables eE below (T2.setTop (mkF mM 55 #[.val (.ref x), .val (.int (3 : Int32))] [(.ref x), (.int (0 : Int32)), (.ref b2), (.ref b2)])) _
    refine XS.iconst X2.here hx rfl (hb hby d23_55) ?_
    show Steps pP.tables eE below (T2.setTop (mkF mM 56 #[.val (.ref x), .val (.int (3 : Int32))] [(.int (0 : Int32)), (.ref x), (.int (0 : Int32)), (.ref b2), (.ref b2)])) _
    refine X2.iaload hx (j := (0 : Int32)) (v := (.int v0)) (by rw [e2]; exact Ara8.1) (State.isArrayOf_alike hZ.alike Ara8.2.1) Ara8.2.2 hin9 hat9 (g := (mkF mM 56 #[.val (.ref x), .val (.int (3 : Int32))] [(.int (0 : Int32)), (.ref x), (.int (0 : Int32)), (.ref b2), (.ref b2)])) rfl rfl (hb hby d23_56) _ ?_
    exact kg)
  obtain ⟨cla11, Ara11, qa11, Sa11, Ma11, Ha11, Ga11⟩ := id V2
  have hin12 : ¬ ((0 : Int32) < 0 ∨ cla11.slots.size ≤ ((0 : Int32)).toNatClampNeg) := inb_of Sa11 ⟨by decide, by decide⟩
  obtain ⟨T12, h12, X12, e12, W12, st12⟩ := stI X2 hx hZ e2 Ara11 (j := (0 : Int32)) hin12 (g := (mkF mM 57 #[.val (.ref x), .val (.int (3 : Int32))] [(.int v0), (.int (0 : Int32)), (.ref b2), (.ref b2)])) rfl rfl (hb hby d23_57)
  have V12 : Arv Z h12 b2 k2 .int (3 : Int32) [(.int v0), (.int (0 : Int32)), (.int (0 : Int32))] (.int (0 : Int32)) := Arv.set Ara11 qa11 Sa11 Ma11 Ha11 Ga11 rfl W12 0 rfl (Nat.le_of_ble_eq_true rfl)
  have N12 := Fr.snoc X12 N0 gn4
  have pr13 : ∀ tg, Steps pP.tables eE below (T12.setTop (mkF mM 58 #[.val (.ref x), .val (.int (3 : Int32))] [(.ref b2)])) tg → Steps pP.tables eE below (s₁.setTop (entryFrame mM #[(.ref x), (.int (3 : Int32))] 2)) tg := fun tg kg => pr10 _ (st12 _ kg)
  have c14 := (Arv.other c7 W12 ne3)
  obtain ⟨cla15, Ara15, qa15, Sa15, Ma15, Ha15, Ga15⟩ := id c14
  have hin16 : ¬ ((1 : Int32) < 0 ∨ cla15.slots.size ≤ ((1 : Int32)).toNatClampNeg) := inb_of Sa15 ⟨by decide, by decide⟩
  have hat16 : cla15.slots[((1 : Int32)).toNatClampNeg]? = some (.int v1) := Has.at Ha15 hin16 rfl
  have pr17 : ∀ tg, Steps pP.tables eE below (T12.setTop (mkF mM 63 #[.val (.ref x), .val (.int (3 : Int32))] [(.int v1), (.int (1 : Int32)), (.ref b2), (.ref b2)])) tg → Steps pP.tables eE below (s₁.setTop (entryFrame mM #[(.ref x), (.int (3 : Int32))] 2)) tg := fun tg kg => pr13 _ (by
    show Steps pP.tables eE below (T12.setTop (mkF mM 58 #[.val (.ref x), .val (.int (3 : Int32))] [(.ref b2)])) _
    refine XS.dup X12.here hx rfl (hb hby d23_58) rfl rfl ?_
    show Steps pP.tables eE below (T12.setTop (mkF mM 59 #[.val (.ref x), .val (.int (3 : Int32))] [(.ref b2), (.ref b2)])) _
    refine XS.iconst X12.here hx rfl (hb hby d23_59) ?_
    show Steps pP.tables eE below (T12.setTop (mkF mM 60 #[.val (.ref x), .val (.int (3 : Int32))] [(.int (1 : Int32)), (.ref b2), (.ref b2)])) _
    refine XS.aloadN X12.here hx rfl (hb hby d23_60) rfl rfl ?_
    show Steps pP.tables eE below (T12.setTop (mkF mM 61 #[.val (.ref x), .val (.int (3 : Int32))] [(.ref x), (.int (1 : Int32)), (.ref b2), (.ref b2)])) _
    refine XS.iconst X12.here hx rfl (hb hby d23_61) ?_
    show Steps pP.tables eE below (T12.setTop (mkF mM 62 #[.val (.ref x), .val (.int (3 : Int32))] [(.int (1 : Int32)), (.ref x), (.int (1 : Int32)), (.ref b2), (.ref b2)])) _
    refine X12.iaload hx (j := (1 : Int32)) (v := (.int v1)) (by rw [e12]; exact Ara15.1) (State.isArrayOf_alike hZ.alike Ara15.2.1) Ara15.2.2 hin16 hat16 (g := (mkF mM 62 #[.val (.ref x), .val (.int (3 : Int32))] [(.int (1 : Int32)), (.ref x), (.int (1 : Int32)), (.ref b2), (.ref b2)])) rfl rfl (hb hby d23_62) _ ?_
    exact kg)
  obtain ⟨cla18, Ara18, qa18, Sa18, Ma18, Ha18, Ga18⟩ := id V12
  have hin19 : ¬ ((1 : Int32) < 0 ∨ cla18.slots.size ≤ ((1 : Int32)).toNatClampNeg) := inb_of Sa18 ⟨by decide, by decide⟩
  obtain ⟨T19, h19, X19, e19, W19, st19⟩ := stI X12 hx hZ e12 Ara18 (j := (1 : Int32)) hin19 (g := (mkF mM 63 #[.val (.ref x), .val (.int (3 : Int32))] [(.int v1), (.int (1 : Int32)), (.ref b2), (.ref b2)])) rfl rfl (hb hby d23_63)
  have V19 : Arv Z h19 b2 k2 .int (3 : Int32) [(.int v0), (.int v1), (.int (0 : Int32))] (.int (0 : Int32)) := Arv.set Ara18 qa18 Sa18 Ma18 Ha18 Ga18 rfl W19 1 rfl (Nat.le_of_ble_eq_true rfl)
  have N19 := Fr.snoc X19 N12 gn4
  have pr20 : ∀ tg, Steps pP.tables eE below (T19.setTop (mkF mM 64 #[.val (.ref x), .val (.int (3 : Int32))] [(.ref b2)])) tg → Steps pP.tables eE below (s₁.setTop (entryFrame mM #[(.ref x), (.int (3 : Int32))] 2)) tg := fun tg kg => pr17 _ (st19 _ kg)
  have c21 := (Arv.other c14 W19 ne3)
  obtain ⟨cla22, Ara22, qa22, Sa22, Ma22, Ha22, Ga22⟩ := id c21
  have hin23 : ¬ ((2 : Int32) < 0 ∨ cla22.slots.size ≤ ((2 : Int32)).toNatClampNeg) := inb_of Sa22 ⟨by decide, by decide⟩
  have hat23 : cla22.slots[((2 : Int32)).toNatClampNeg]? = some (.int v2) := Has.at Ha22 hin23 rfl
  have pr24 : ∀ tg, Steps pP.tables eE below (T19.setTop (mkF mM 69 #[.val (.ref x), .val (.int (3 : Int32))] [(.int v2), (.int (2 : Int32)), (.ref b2), (.ref b2)])) tg → Steps pP.tables eE below (s₁.setTop (entryFrame mM #[(.ref x), (.int (3 : Int32))] 2)) tg := fun tg kg => pr20 _ (by
    show Steps pP.tables eE below (T19.setTop (mkF mM 64 #[.val (.ref x), .val (.int (3 : Int32))] [(.ref b2)])) _
    refine XS.dup X19.here hx rfl (hb hby d23_64) rfl rfl ?_
    show Steps pP.tables eE below (T19.setTop (mkF mM 65 #[.val (.ref x), .val (.int (3 : Int32))] [(.ref b2), (.ref b2)])) _
    refine XS.iconst X19.here hx rfl (hb hby d23_65) ?_
    show Steps pP.tables eE below (T19.setTop (mkF mM 66 #[.val (.ref x), .val (.int (3 : Int32))] [(.int (2 : Int32)), (.ref b2), (.ref b2)])) _
    refine XS.aloadN X19.here hx rfl (hb hby d23_66) rfl rfl ?_
    show Steps pP.tables eE below (T19.setTop (mkF mM 67 #[.val (.ref x), .val (.int (3 : Int32))] [(.ref x), (.int (2 : Int32)), (.ref b2), (.ref b2)])) _
    refine XS.iconst X19.here hx rfl (hb hby d23_67) ?_
    show Steps pP.tables eE below (T19.setTop (mkF mM 68 #[.val (.ref x), .val (.int (3 : Int32))] [(.int (2 : Int32)), (.ref x), (.int (2 : Int32)), (.ref b2), (.ref b2)])) _
    refine X19.iaload hx (j := (2 : Int32)) (v := (.int v2)) (by rw [e19]; exact Ara22.1) (State.isArrayOf_alike hZ.alike Ara22.2.1) Ara22.2.2 hin23 hat23 (g := (mkF mM 68 #[.val (.ref x), .val (.int (3 : Int32))] [(.int (2 : Int32)), (.ref x), (.int (2 : Int32)), (.ref b2), (.ref b2)])) rfl rfl (hb hby d23_68) _ ?_
    exact kg)
  obtain ⟨cla25, Ara25, qa25, Sa25, Ma25, Ha25, Ga25⟩ := id V19
  have hin26 : ¬ ((2 : Int32) < 0 ∨ cla25.slots.size ≤ ((2 : Int32)).toNatClampNeg) := inb_of Sa25 ⟨by decide, by decide⟩
  obtain ⟨T26, h26, X26, e26, W26, st26⟩ := stI X19 hx hZ e19 Ara25 (j := (2 : Int32)) hin26 (g := (mkF mM 69 #[.val (.ref x), .val (.int (3 : Int32))] [(.int v2), (.int (2 : Int32)), (.ref b2), (.ref b2)])) rfl rfl (hb hby d23_69)
  have V26 : Arv Z h26 b2 k2 .int (3 : Int32) [(.int v0), (.int v1), (.int v2)] (.int (0 : Int32)) := Arv.set Ara25 qa25 Sa25 Ma25 Ha25 Ga25 rfl W26 2 rfl (Nat.le_of_ble_eq_true rfl)
  have N26 := Fr.snoc X26 N19 gn4
  have pr27 : ∀ tg, Steps pP.tables eE below (T26.setTop (mkF mM 70 #[.val (.ref x), .val (.int (3 : Int32))] [(.ref b2)])) tg → Steps pP.tables eE below (s₁.setTop (entryFrame mM #[(.ref x), (.int (3 : Int32))] 2)) tg := fun tg kg => pr24 _ (st26 _ kg)
  have c28 := (Keep.wr (Keep.wr (Keep.wr (Keep.ext (Keep.refl h0 []) E2) W12 (Or.inr gs5)) W19 (Or.inr gs5)) W26 (Or.inr gs5))
  obtain ⟨fs, hr, hrun, hended, hW, hsame⟩ := X26.leave (v := some (.ref b2)) (fun h => by rw [Bd.returns] at h; cases h)
  refine ⟨_, _, pr27 _ (retOut X26 hx (t := (.array .int)) Bd.returns rfl (Or.inr (Or.inr (Or.inr (Or.inr ⟨rfl, rfl, rfl⟩)))) (hb hby d23_70) hr), hrun, hended, _, _, rfl, ?_, ⟨_, rfl⟩, hW, hsame.mono (by decide) (by decide)⟩
  show Q23 Z x kx v0 v1 v2 v3 h0 n0 _ T26.heap _
  rw [e26]
  exact ⟨_, rfl, gs5, N26, c28, _, V26⟩
theorem d24_0 : decode method_4_code 0 = .ok (.iload_n 1, 1) := by decide +kernel
theorem d24_1 : decode method_4_code 1 = .ok (.ifCond .ne 7, 3) := by decide +kernel
theorem d24_8 : decode method_4_code 8 = .ok (.iload_n 1, 1) := by decide +kernel
theorem d24_9 : decode method_4_code 9 = .ok (.iconst 1, 1) := by decide +kernel
theorem d24_10 : decode method_4_code 10 = .ok (.if_icmp .ne 13, 3) := by decide +kernel
theorem d24_23 : decode method_4_code 23 = .ok (.iload_n 1, 1) := by decide +kernel
theorem d24_24 : decode method_4_code 24 = .ok (.iconst 2, 1) := by decide +kernel
theorem d24_25 : decode method_4_code 25 = .ok (.if_icmp .ne 19, 3) := by decide +kernel
theorem d24_44 : decode method_4_code 44 = .ok (.iload_n 1, 1) := by decide +kernel
theorem d24_45 : decode method_4_code 45 = .ok (.iconst 3, 1) := by decide +kernel
theorem d24_46 : decode method_4_code 46 = .ok (.if_icmp .ne 25, 3) := by decide +kernel
theorem d24_71 : decode method_4_code 71 = .ok (.iconst 4, 1) := by decide +kernel
theorem d24_72 : decode method_4_code 72 = .ok (.newarray .int, 2) := by decide +kernel
theorem d24_74 : decode method_4_code 74 = .ok (.dup, 1) := by decide +kernel
theorem d24_75 : decode method_4_code 75 = .ok (.iconst 0, 1) := by decide +kernel
theorem d24_76 : decode method_4_code 76 = .ok (.aload_n 0, 1) := by decide +kernel
theorem d24_77 : decode method_4_code 77 = .ok (.iconst 0, 1) := by decide +kernel
theorem d24_78 : decode method_4_code 78 = .ok (.iaload, 1) := by decide +kernel
theorem d24_79 : decode method_4_code 79 = .ok (.iastore, 1) := by decide +kernel
theorem d24_80 : decode method_4_code 80 = .ok (.dup, 1) := by decide +kernel
theorem d24_81 : decode method_4_code 81 = .ok (.iconst 1, 1) := by decide +kernel
theorem d24_82 : decode method_4_code 82 = .ok (.aload_n 0, 1) := by decide +kernel
theorem d24_83 : decode method_4_code 83 = .ok (.iconst 1, 1) := by decide +kernel
theorem d24_84 : decode method_4_code 84 = .ok (.iaload, 1) := by decide +kernel
theorem d24_85 : decode method_4_code 85 = .ok (.iastore, 1) := by decide +kernel
theorem d24_86 : decode method_4_code 86 = .ok (.dup, 1) := by decide +kernel
theorem d24_87 : decode method_4_code 87 = .ok (.iconst 2, 1) := by decide +kernel
theorem d24_88 : decode method_4_code 88 = .ok (.aload_n 0, 1) := by decide +kernel
theorem d24_89 : decode method_4_code 89 = .ok (.iconst 2, 1) := by decide +kernel
theorem d24_90 : decode method_4_code 90 = .ok (.iaload, 1) := by decide +kernel
theorem d24_91 : decode method_4_code 91 = .ok (.iastore, 1) := by decide +kernel
theorem d24_92 : decode method_4_code 92 = .ok (.dup, 1) := by decide +kernel
theorem d24_93 : decode method_4_code 93 = .ok (.iconst 3, 1) := by decide +kernel
theorem d24_94 : decode method_4_code 94 = .ok (.aload_n 0, 1) := by decide +kernel
theorem d24_95 : decode method_4_code 95 = .ok (.iconst 3, 1) := by decide +kernel
theorem d24_96 : decode method_4_code 96 = .ok (.iaload, 1) := by decide +kernel
theorem d24_97 : decode method_4_code 97 = .ok (.iastore, 1) := by decide +kernel
theorem d24_98 : decode method_4_code 98 = .ok (.areturn, 1) := by decide +kernel
theorem ef_24 (mM : MethodId) (x0 : Addr) (x1 : Int32) : entryFrame mM #[(.ref x0), (.int x1)] 2 = mkF mM 0 #[.val (.ref x0), .val (.int x1)] [] := by first | (simp [entryFrame, mkF, argsToLocals, Value.category]; done) | rfl
def Q24 (Z : State) (x : Addr) (kx : ClassId) (v0 : Int32) (v1 : Int32) (v2 : Int32) (v3 : Int32) (h0 : Heap) (n0 : Nat) (v : Option Value) (h : Heap) (L : List Loc) : Prop := ∃ b : Addr, v = some (.ref b) ∧ h0.size ≤ b ∧ Fr n0 L ∧ Keep h0 h [] ∧ ∃ k : ClassId, Arv Z h b k .int (4 : Int32) [.int v0, .int v1, .int v2, .int v3] (.int (0 : Int32))
set_option maxRecDepth 65536 in
set_option maxHeartbeats 40000000 in
theorem rm24 (l : Launch) (Z : State) (a0 : Array Value) (hw : ∀ d ∈ tables_1, d.before a0 Z = true) (ws : List Jvm.Cond) (x : Addr) (kx : ClassId) (v0 : Int32) (v1 : Int32) (v2 : Int32) (v3 : Int32) (h0 : Heap) (n0 : Nat) (Z0 : n0 ≤ h0.size) (V_x : Arv Z h0 x kx .int (4 : Int32) [.int v0, .int v1, .int v2, .int v3] (.int (0 : Int32))) :
    MetFree l (⟨"com/example/refine/refine/refinement/NormalisedLtsFirstNotInPinLaw", "take", "([II)[I"⟩ : MethodName) (head1 (Jvm.Cond.code (⟨"com/example/refine/refine/refinement/NormalisedLtsFirstNotInPinLaw", "take", "([II)[I"⟩ : MethodName) method_4_code 2 (some (.array .int)) :: ws) ({ frames := 0, cells := 1, slots := 4, locals := 0 } : Room)) (fun aA uU => aA = #[(.ref x), (.int (4 : Int32))] ∧ Z.Warmed39 uU.vm ∧ uU.heap = h0) (fun _ _ _ _ _ => True) (fun _ uU oO uU' => ∃ vV lL, oO = .returned vV ∧ Q24 Z x kx v0 v1 v2 v3 h0 n0 vV uU'.heap lL ∧ FrameEnd uU oO uU' lL ({ frames := 0, cells := 1, slots := 4, locals := 0 } : Room).cells ({ frames := 0, cells := 1, slots := 4, locals := 0 } : Room).slots) := by
  refine MetFree.of_bodySF (plainFor_of_name pn_0) hisR ?_
  intro pP eE sS mM args below meth cC s₁ Bd hml0 hP hK
  obtain ⟨rfl, hZ, hh⟩ := hP
  have hx := Bd.exec
  have hby := Bd.bytes
  have hml : cC.maxLocals = 2 := hml0
  have hown : sS.vm.findClass "com/example/refine/refine/refinement/NormalisedLtsFirstNotInPinLaw" = some mM.cls := findClass_of_methodNamed Bd.named
  have hnm := (name_of_methodNamed Bd.named Bd.method).1
  have X0 : Stand pP l eE ({ frames := 0, cells := 1, slots := 4, locals := 0 } : Room) sS mM #[(.ref x), (.int (4 : Int32))] below meth cC s₁ [] 0 0 := Stand.of_body Bd
  have e0 : s₁.heap = h0 := by rw [← hh, Bd.state]; rfl
  have N0 := Fr.nil n0
  have pre0 : ∀ tg, Steps pP.tables eE below (s₁.setTop (mkF mM 0 #[.val (.ref x), .val (.int (4 : Int32))] [])) tg → Steps pP.tables eE below (s₁.setTop (entryFrame mM #[(.ref x), (.int (4 : Int32))] 2)) tg := fun tg kg => castTop (ef_24 mM x (4 : Int32)) kg
  have pr1 : ∀ tg, Steps pP.tables eE below (s₁.setTop (mkF mM 72 #[.val (.ref x), .val (.int (4 : Int32))] [(.int (4 : Int32))])) tg → Steps pP.tables eE below (s₁.setTop (entryFrame mM #[(.ref x), (.int (4 : Int32))] 2)) tg := fun tg kg => pre0 _ (by
    show Steps pP.tables eE below (s₁.setTop (mkF mM 0 #[.val (.ref x), .val (.int (4 : Int32))] [])) _
    refine XS.iloadN X0.here hx rfl (hb hby d24_0) rfl ?_
    show Steps pP.tables eE below (s₁.setTop (mkF mM 1 #[.val (.ref x), .val (.int (4 : Int32))] [(.int (4 : Int32))])) _
    refine XS.ifYes X0.here hx rfl (pc0 := 1) (pc' := 8) rfl (hb hby d24_1) rfl ((if0 _ _).trans (feq (by decide)).2) (by decide) (by decide) ?_
    show Steps pP.tables eE below (s₁.setTop (mkF mM 8 #[.val (.ref x), .val (.int (4 : Int32))] [])) _
    refine XS.iloadN X0.here hx rfl (hb hby d24_8) rfl ?_
    show Steps pP.tables eE below (s₁.setTop (mkF mM 9 #[.val (.ref x), .val (.int (4 : Int32))] [(.int (4 : Int32))])) _
    refine XS.iconst X0.here hx rfl (hb hby d24_9) ?_
    show Steps pP.tables eE below (s₁.setTop (mkF mM 10 #[.val (.ref x), .val (.int (4 : Int32))] [(.int (1 : Int32)), (.int (4 : Int32))])) _
    refine XS.icmpYes X0.here hx rfl (pc0 := 10) (pc' := 23) rfl (hb hby d24_10) rfl (feq (by decide)).2 (by decide) (by decide) ?_
    show Steps pP.tables eE below (s₁.setTop (mkF mM 23 #[.val (.ref x), .val (.int (4 : Int32))] [])) _
    refine XS.iloadN X0.here hx rfl (hb hby d24_23) rfl ?_
    show Steps pP.tables eE below (s₁.setTop (mkF mM 24 #[.val (.ref x), .val (.int (4 : Int32))] [(.int (4 : Int32))])) _
    refine XS.iconst X0.here hx rfl (hb hby d24_24) ?_
    show Steps pP.tables eE below (s₁.setTop (mkF mM 25 #[.val (.ref x), .val (.int (4 : Int32))] [(.int (2 : Int32)), (.int (4 : Int32))])) _
    refine XS.icmpYes X0.here hx rfl (pc0 := 25) (pc' := 44) rfl (hb hby d24_25) rfl (feq (by decide)).2 (by decide) (by decide) ?_
    show Steps pP.tables eE below (s₁.setTop (mkF mM 44 #[.val (.ref x), .val (.int (4 : Int32))] [])) _
    refine XS.iloadN X0.here hx rfl (hb hby d24_44) rfl ?_
    show Steps pP.tables eE below (s₁.setTop (mkF mM 45 #[.val (.ref x), .val (.int (4 : Int32))] [(.int (4 : Int32))])) _
    refine XS.iconst X0.here hx rfl (hb hby d24_45) ?_
    show Steps pP.tables eE below (s₁.setTop (mkF mM 46 #[.val (.ref x), .val (.int (4 : Int32))] [(.int (3 : Int32)), (.int (4 : Int32))])) _
    refine XS.icmpYes X0.here hx rfl (pc0 := 46) (pc' := 71) rfl (hb hby d24_46) rfl (feq (by decide)).2 (by decide) (by decide) ?_
    show Steps pP.tables eE below (s₁.setTop (mkF mM 71 #[.val (.ref x), .val (.int (4 : Int32))] [])) _
    refine XS.iconst X0.here hx rfl (hb hby d24_71) ?_
    exact kg)
  obtain ⟨T2, h2, k2, X2, e2, E2, A2, Ex2, st2⟩ := newPE X0 hx hZ (hw _ (List.mem_of_getElem? (i := 10) rfl)) e0 (g := (mkF mM 72 #[.val (.ref x), .val (.int (4 : Int32))] [(.int (4 : Int32))])) rfl (hb hby d24_72) rfl (by decide) (cap := 4) (by decide) (by decide) (by decide) (by decide) (ad := "[I") rfl
  obtain ⟨b2, g2⟩ : ∃ z, z = (h0).size := ⟨_, rfl⟩
  rw [← g2] at A2 Ex2 st2
  have ne3 : x ≠ b2 := Nat.ne_of_lt (Nat.lt_of_lt_of_le (V_x).lt (Nat.le_of_eq g2.symm))
  have gn4 : n0 ≤ b2 := Nat.le_trans Z0 (Nat.le_of_eq g2.symm)
  have gs5 : h0.size ≤ b2 := Nat.le_trans (Keep.refl h0 []).1 (Nat.le_of_eq g2.symm)
  have V2 : Arv Z h2 b2 k2 .int (4 : Int32) [(.int (0 : Int32)), (.int (0 : Int32)), (.int (0 : Int32)), (.int (0 : Int32))] (.int (0 : Int32)) := (Arv.new A2 (by decide)).pad (pad_rep [] (.int (0 : Int32)) 4)
  have pr6 : ∀ tg, Steps pP.tables eE below (T2.setTop (mkF mM 74 #[.val (.ref x), .val (.int (4 : Int32))] [(.ref b2)])) tg → Steps pP.tables eE below (s₁.setTop (entryFrame mM #[(.ref x), (.int (4 : Int32))] 2)) tg := fun tg kg => pr1 _ (st2 _ kg)
  have c7 := (Arv.ext V_x E2)
  obtain ⟨cla8, Ara8, qa8, Sa8, Ma8, Ha8, Ga8⟩ := id c7
  have hin9 : ¬ ((0 : Int32) < 0 ∨ cla8.slots.size ≤ ((0 : Int32)).toNatClampNeg) := inb_of Sa8 ⟨by decide, by decide⟩
  have hat9 : cla8.slots[((0 : Int32)).toNatClampNeg]? = some (.int v0) := Has.at Ha8 hin9 rfl
  have pr10 : ∀ tg, Steps pP.tables eE below (T2.setTop (mkF mM 79 #[.val (.ref x), .val (.int (4 : Int32))] [(.int v0), (.int (0 : Int32)), (.ref b2), (.ref b2)])) tg → Steps pP.tables eE below (s₁.setTop (entryFrame mM #[(.ref x), (.int (4 : Int32))] 2)) tg := fun tg kg => pr6 _ (by
    show Steps pP.tables eE below (T2.setTop (mkF mM 74 #[.val (.ref x), .val (.int (4 : Int32))] [(.ref b2)])) _
    refine XS.dup X2.here hx rfl (hb hby d24_74) rfl rfl ?_
    show Steps pP.tables eE below (T2.setTop (mkF mM 75 #[.val (.ref x), .val (.int (4 : Int32))] [(.ref b2), (.ref b2)])) _
    refine XS.iconst X2.here hx rfl (hb hby d24_75) ?_
    show Steps pP.tables eE below (T2.setTop (mkF mM 76 #[.val (.ref x), .val (.int (4 : Int32))] [(.int (0 : Int32)), (.ref b2), (.ref b2)])) _
    refine XS.aloadN X2.here hx rfl (hb hby d24_76) rfl rfl ?_
    show Steps pP.tables eE below (T2.setTop (mkF mM 77 #[.val (.ref x), .val (.int (4 : Int32))] [(.ref x), (.int (0 : Int32)), (.ref b2), (.ref b2)])) _
    refine XS.iconst X2.here hx rfl (hb hby d24_77) ?_
    show Steps pP.tables eE below (T2.setTop (mkF mM 78 #[.val (.ref x), .val (.int (4 : Int32))] [(.int (0 : Int32)), (.ref x), (.int (0 : Int32)), (.ref b2), (.ref b2)])) _
    refine X2.iaload hx (j := (0 : Int32)) (v := (.int v0)) (by rw [e2]; exact Ara8.1) (State.isArrayOf_alike hZ.alike Ara8.2.1) Ara8.2.2 hin9 hat9 (g := (mkF mM 78 #[.val (.ref x), .val (.int (4 : Int32))] [(.int (0 : Int32)), (.ref x), (.int (0 : Int32)), (.ref b2), (.ref b2)])) rfl rfl (hb hby d24_78) _ ?_
    exact kg)
  obtain ⟨cla11, Ara11, qa11, Sa11, Ma11, Ha11, Ga11⟩ := id V2
  have hin12 : ¬ ((0 : Int32) < 0 ∨ cla11.slots.size ≤ ((0 : Int32)).toNatClampNeg) := inb_of Sa11 ⟨by decide, by decide⟩
  obtain ⟨T12, h12, X12, e12, W12, st12⟩ := stI X2 hx hZ e2 Ara11 (j := (0 : Int32)) hin12 (g := (mkF mM 79 #[.val (.ref x), .val (.int (4 : Int32))] [(.int v0), (.int (0 : Int32)), (.ref b2), (.ref b2)])) rfl rfl (hb hby d24_79)
  have V12 : Arv Z h12 b2 k2 .int (4 : Int32) [(.int v0), (.int (0 : Int32)), (.int (0 : Int32)), (.int (0 : Int32))] (.int (0 : Int32)) := Arv.set Ara11 qa11 Sa11 Ma11 Ha11 Ga11 rfl W12 0 rfl (Nat.le_of_ble_eq_true rfl)
  have N12 := Fr.snoc X12 N0 gn4
  have pr13 : ∀ tg, Steps pP.tables eE below (T12.setTop (mkF mM 80 #[.val (.ref x), .val (.int (4 : Int32))] [(.ref b2)])) tg → Steps pP.tables eE below (s₁.setTop (entryFrame mM #[(.ref x), (.int (4 : Int32))] 2)) tg := fun tg kg => pr10 _ (st12 _ kg)
  have c14 := (Arv.other c7 W12 ne3)
  obtain ⟨cla15, Ara15, qa15, Sa15, Ma15, Ha15, Ga15⟩ := id c14
  have hin16 : ¬ ((1 : Int32) < 0 ∨ cla15.slots.size ≤ ((1 : Int32)).toNatClampNeg) := inb_of Sa15 ⟨by decide, by decide⟩
  have hat16 : cla15.slots[((1 : Int32)).toNatClampNeg]? = some (.int v1) := Has.at Ha15 hin16 rfl
  have pr17 : ∀ tg, Steps pP.tables eE below (T12.setTop (mkF mM 85 #[.val (.ref x), .val (.int (4 : Int32))] [(.int v1), (.int (1 : Int32)), (.ref b2), (.ref b2)])) tg → Steps pP.tables eE below (s₁.setTop (entryFrame mM #[(.ref x), (.int (4 : Int32))] 2)) tg := fun tg kg => pr13 _ (by
    show Steps pP.tables eE below (T12.setTop (mkF mM 80 #[.val (.ref x), .val (.int (4 : Int32))] [(.ref b2)])) _
    refine XS.dup X12.here hx rfl (hb hby d24_80) rfl rfl ?_
    show Steps pP.tables eE below (T12.setTop (mkF mM 81 #[.val (.ref x), .val (.int (4 : Int32))] [(.ref b2), (.ref b2)])) _
    refine XS.iconst X12.here hx rfl (hb hby d24_81) ?_
    show Steps pP.tables eE below (T12.setTop (mkF mM 82 #[.val (.ref x), .val (.int (4 : Int32))] [(.int (1 : Int32)), (.ref b2), (.ref b2)])) _
    refine XS.aloadN X12.here hx rfl (hb hby d24_82) rfl rfl ?_
    show Steps pP.tables eE below (T12.setTop (mkF mM 83 #[.val (.ref x), .val (.int (4 : Int32))] [(.ref x), (.int (1 : Int32)), (.ref b2), (.ref b2)])) _
    refine XS.iconst X12.here hx rfl (hb hby d24_83) ?_
    show Steps pP.tables eE below (T12.setTop (mkF mM 84 #[.val (.ref x), .val (.int (4 : Int32))] [(.int (1 : Int32)), (.ref x), (.int (1 : Int32)), (.ref b2), (.ref b2)])) _
    refine X12.iaload hx (j := (1 : Int32)) (v := (.int v1)) (by rw [e12]; exact Ara15.1) (State.isArrayOf_alike hZ.alike Ara15.2.1) Ara15.2.2 hin16 hat16 (g := (mkF mM 84 #[.val (.ref x), .val (.int (4 : Int32))] [(.int (1 : Int32)), (.ref x), (.int (1 : Int32)), (.ref b2), (.ref b2)])) rfl rfl (hb hby d24_84) _ ?_
    exact kg)
  obtain ⟨cla18, Ara18, qa18, Sa18, Ma18, Ha18, Ga18⟩ := id V12
  have hin19 : ¬ ((1 : Int32) < 0 ∨ cla18.slots.size ≤ ((1 : Int32)).toNatClampNeg) := inb_of Sa18 ⟨by decide, by decide⟩
  obtain ⟨T19, h19, X19, e19, W19, st19⟩ := stI X12 hx hZ e12 Ara18 (j := (1 : Int32)) hin19 (g := (mkF mM 85 #[.val (.ref x), .val (.int (4 : Int32))] [(.int v1), (.int (1 : Int32)), (.ref b2), (.ref b2)])) rfl rfl (hb hby d24_85)
  have V19 : Arv Z h19 b2 k2 .int (4 : Int32) [(.int v0), (.int v1), (.int (0 : Int32)), (.int (0 : Int32))] (.int (0 : Int32)) := Arv.set Ara18 qa18 Sa18 Ma18 Ha18 Ga18 rfl W19 1 rfl (Nat.le_of_ble_eq_true rfl)
  have N19 := Fr.snoc X19 N12 gn4
  have pr20 : ∀ tg, Steps pP.tables eE below (T19.setTop (mkF mM 86 #[.val (.ref x), .val (.int (4 : Int32))] [(.ref b2)])) tg → Steps pP.tables eE below (s₁.setTop (entryFrame mM #[(.ref x), (.int (4 : Int32))] 2)) tg := fun tg kg => pr17 _ (st19 _ kg)
  have c21 := (Arv.other c14 W19 ne3)
  obtain ⟨cla22, Ara22, qa22, Sa22, Ma22, Ha22, Ga22⟩ := id c21
  have hin23 : ¬ ((2 : Int32) < 0 ∨ cla22.slots.size ≤ ((2 : Int32)).toNatClampNeg) := inb_of Sa22 ⟨by decide, by decide⟩
  have hat23 : cla22.slots[((2 : Int32)).toNatClampNeg]? = some (.int v2) := Has.at Ha22 hin23 rfl
  have pr24 : ∀ tg, Steps pP.tables eE below (T19.setTop (mkF mM 91 #[.val (.ref x), .val (.int (4 : Int32))] [(.int v2), (.int (2 : Int32)), (.ref b2), (.ref b2)])) tg → Steps pP.tables eE below (s₁.setTop (entryFrame mM #[(.ref x), (.int (4 : Int32))] 2)) tg := fun tg kg => pr20 _ (by
    show Steps pP.tables eE below (T19.setTop (mkF mM 86 #[.val (.ref x), .val (.int (4 : Int32))] [(.ref b2)])) _
    refine XS.dup X19.here hx rfl (hb hby d24_86) rfl rfl ?_
    show Steps pP.tables eE below (T19.setTop (mkF mM 87 #[.val (.ref x), .val (.int (4 : Int32))] [(.ref b2), (.ref b2)])) _
    refine XS.iconst X19.here hx rfl (hb hby d24_87) ?_
    show Steps pP.tables eE below (T19.setTop (mkF mM 88 #[.val (.ref x), .val (.int (4 : Int32))] [(.int (2 : Int32)), (.ref b2), (.ref b2)])) _
    refine XS.aloadN X19.here hx rfl (hb hby d24_88) rfl rfl ?_
    show Steps pP.tables eE below (T19.setTop (mkF mM 89 #[.val (.ref x), .val (.int (4 : Int32))] [(.ref x), (.int (2 : Int32)), (.ref b2), (.ref b2)])) _
    refine XS.iconst X19.here hx rfl (hb hby d24_89) ?_
    show Steps pP.tables eE below (T19.setTop (mkF mM 90 #[.val (.ref x), .val (.int (4 : Int32))] [(.int (2 : Int32)), (.ref x), (.int (2 : Int32)), (.ref b2), (.ref b2)])) _
    refine X19.iaload hx (j := (2 : Int32)) (v := (.int v2)) (by rw [e19]; exact Ara22.1) (State.isArrayOf_alike hZ.alike Ara22.2.1) Ara22.2.2 hin23 hat23 (g := (mkF mM 90 #[.val (.ref x), .val (.int (4 : Int32))] [(.int (2 : Int32)), (.ref x), (.int (2 : Int32)), (.ref b2), (.ref b2)])) rfl rfl (hb hby d24_90) _ ?_
    exact kg)
  obtain ⟨cla25, Ara25, qa25, Sa25, Ma25, Ha25, Ga25⟩ := id V19
  have hin26 : ¬ ((2 : Int32) < 0 ∨ cla25.slots.size ≤ ((2 : Int32)).toNatClampNeg) := inb_of Sa25 ⟨by decide, by decide⟩
  obtain ⟨T26, h26, X26, e26, W26, st26⟩ := stI X19 hx hZ e19 Ara25 (j := (2 : Int32)) hin26 (g := (mkF mM 91 #[.val (.ref x), .val (.int (4 : Int32))] [(.int v2), (.int (2 : Int32)), (.ref b2), (.ref b2)])) rfl rfl (hb hby d24_91)
  have V26 : Arv Z h26 b2 k2 .int (4 : Int32) [(.int v0), (.int v1), (.int v2), (.int (0 : Int32))] (.int (0 : Int32)) := Arv.set Ara25 qa25 Sa25 Ma25 Ha25 Ga25 rfl W26 2 rfl (Nat.le_of_ble_eq_true rfl)
  have N26 := Fr.snoc X26 N19 gn4
  have pr27 : ∀ tg, Steps pP.tables eE below (T26.setTop (mkF mM 92 #[.val (.ref x), .val (.int (4 : Int32))] [(.ref b2)])) tg → Steps pP.tables eE below (s₁.setTop (entryFrame mM #[(.ref x), (.int (4 : Int32))] 2)) tg := fun tg kg => pr24 _ (st26 _ kg)
  have c28 := (Arv.other c21 W26 ne3)
  obtain ⟨cla29, Ara29, qa29, Sa29, Ma29, Ha29, Ga29⟩ := id c28
  have hin30 : ¬ ((3 : Int32) < 0 ∨ cla29.slots.size ≤ ((3 : Int32)).toNatClampNeg) := inb_of Sa29 ⟨by decide, by decide⟩
  have hat30 : cla29.slots[((3 : Int32)).toNatClampNeg]? = some (.int v3) := Has.at Ha29 hin30 rfl
  have pr31 : ∀ tg, Steps pP.tables eE below (T26.setTop (mkF mM 97 #[.val (.ref x), .val (.int (4 : Int32))] [(.int v3), (.int (3 : Int32)), (.ref b2), (.ref b2)])) tg → Steps pP.tables eE below (s₁.setTop (entryFrame mM #[(.ref x), (.int (4 : Int32))] 2)) tg := fun tg kg => pr27 _ (by
    show Steps pP.tables eE below (T26.setTop (mkF mM 92 #[.val (.ref x), .val (.int (4 : Int32))] [(.ref b2)])) _
    refine XS.dup X26.here hx rfl (hb hby d24_92) rfl rfl ?_
    show Steps pP.tables eE below (T26.setTop (mkF mM 93 #[.val (.ref x), .val (.int (4 : Int32))] [(.ref b2), (.ref b2)])) _
    refine XS.iconst X26.here hx rfl (hb hby d24_93) ?_
    show Steps pP.tables eE below (T26.setTop (mkF mM 94 #[.val (.ref x), .val (.int (4 : Int32))] [(.int (3 : Int32)), (.ref b2), (.ref b2)])) _
    refine XS.aloadN X26.here hx rfl (hb hby d24_94) rfl rfl ?_
    show Steps pP.tables eE below (T26.setTop (mkF mM 95 #[.val (.ref x), .val (.int (4 : Int32))] [(.ref x), (.int (3 : Int32)), (.ref b2), (.ref b2)])) _
    refine XS.iconst X26.here hx rfl (hb hby d24_95) ?_
    show Steps pP.tables eE below (T26.setTop (mkF mM 96 #[.val (.ref x), .val (.int (4 : Int32))] [(.int (3 : Int32)), (.ref x), (.int (3 : Int32)), (.ref b2), (.ref b2)])) _
    refine X26.iaload hx (j := (3 : Int32)) (v := (.int v3)) (by rw [e26]; exact Ara29.1) (State.isArrayOf_alike hZ.alike Ara29.2.1) Ara29.2.2 hin30 hat30 (g := (mkF mM 96 #[.val (.ref x), .val (.int (4 : Int32))] [(.int (3 : Int32)), (.ref x), (.int (3 : Int32)), (.ref b2), (.ref b2)])) rfl rfl (hb hby d24_96) _ ?_
    exact kg)
  obtain ⟨cla32, Ara32, qa32, Sa32, Ma32, Ha32, Ga32⟩ := id V26
  have hin33 : ¬ ((3 : Int32) < 0 ∨ cla32.slots.size ≤ ((3 : Int32)).toNatClampNeg) := inb_of Sa32 ⟨by decide, by decide⟩
  obtain ⟨T33, h33, X33, e33, W33, st33⟩ := stI X26 hx hZ e26 Ara32 (j := (3 : Int32)) hin33 (g := (mkF mM 97 #[.val (.ref x), .val (.int (4 : Int32))] [(.int v3), (.int (3 : Int32)), (.ref b2), (.ref b2)])) rfl rfl (hb hby d24_97)
  have V33 : Arv Z h33 b2 k2 .int (4 : Int32) [(.int v0), (.int v1), (.int v2), (.int v3)] (.int (0 : Int32)) := Arv.set Ara32 qa32 Sa32 Ma32 Ha32 Ga32 rfl W33 3 rfl (Nat.le_of_ble_eq_true rfl)
  have N33 := Fr.snoc X33 N26 gn4
  have pr34 : ∀ tg, Steps pP.tables eE below (T33.setTop (mkF mM 98 #[.val (.ref x), .val (.int (4 : Int32))] [(.ref b2)])) tg → Steps pP.tables eE below (s₁.setTop (entryFrame mM #[(.ref x), (.int (4 : Int32))] 2)) tg := fun tg kg => pr31 _ (st33 _ kg)
  have c35 := (Keep.wr (Keep.wr (Keep.wr (Keep.wr (Keep.ext (Keep.refl h0 []) E2) W12 (Or.inr gs5)) W19 (Or.inr gs5)) W26 (Or.inr gs5)) W33 (Or.inr gs5))
  obtain ⟨fs, hr, hrun, hended, hW, hsame⟩ := X33.leave (v := some (.ref b2)) (fun h => by rw [Bd.returns] at h; cases h)
  refine ⟨_, _, pr34 _ (retOut X33 hx (t := (.array .int)) Bd.returns rfl (Or.inr (Or.inr (Or.inr (Or.inr ⟨rfl, rfl, rfl⟩)))) (hb hby d24_98) hr), hrun, hended, _, _, rfl, ?_, ⟨_, rfl⟩, hW, hsame.mono (by decide) (by decide)⟩
  show Q24 Z x kx v0 v1 v2 v3 h0 n0 _ T33.heap _
  rw [e33]
  exact ⟨_, rfl, gs5, N33, c35, _, V33⟩
theorem pd_0 : parseMethodDescriptor "([II)[I" = some ⟨[(.array .int), .int], some (.array .int)⟩ := by decide +kernel
theorem d3_0 : decode method_3_code 0 = .ok (.iconst 4, 1) := by decide +kernel
theorem d3_1 : decode method_3_code 1 = .ok (.newarray .int, 2) := by decide +kernel
theorem d3_3 : decode method_3_code 3 = .ok (.astore 5, 2) := by decide +kernel
theorem d3_5 : decode method_3_code 5 = .ok (.iconst 0, 1) := by decide +kernel
theorem d3_6 : decode method_3_code 6 = .ok (.istore 6, 2) := by decide +kernel
theorem d3_8 : decode method_3_code 8 = .ok (.iload 4, 2) := by decide +kernel
theorem d3_10 : decode method_3_code 10 = .ok (.iconst 1, 1) := by decide +kernel
theorem d3_11 : decode method_3_code 11 = .ok (.iand, 1) := by decide +kernel
theorem d3_12 : decode method_3_code 12 = .ok (.ifCond .eq 12, 3) := by decide +kernel
theorem d3_15 : decode method_3_code 15 = .ok (.aload 5, 2) := by decide +kernel
theorem d3_17 : decode method_3_code 17 = .ok (.iload 6, 2) := by decide +kernel
theorem d3_19 : decode method_3_code 19 = .ok (.iload_n 0, 1) := by decide +kernel
theorem d3_20 : decode method_3_code 20 = .ok (.iastore, 1) := by decide +kernel
theorem d3_21 : decode method_3_code 21 = .ok (.iinc 6 1, 3) := by decide +kernel
theorem d3_24 : decode method_3_code 24 = .ok (.iload 4, 2) := by decide +kernel
theorem d3_26 : decode method_3_code 26 = .ok (.iconst 2, 1) := by decide +kernel
theorem d3_27 : decode method_3_code 27 = .ok (.iand, 1) := by decide +kernel
theorem d3_28 : decode method_3_code 28 = .ok (.ifCond .eq 12, 3) := by decide +kernel
theorem d3_31 : decode method_3_code 31 = .ok (.aload 5, 2) := by decide +kernel
theorem d3_33 : decode method_3_code 33 = .ok (.iload 6, 2) := by decide +kernel
theorem d3_35 : decode method_3_code 35 = .ok (.iload_n 1, 1) := by decide +kernel
theorem d3_36 : decode method_3_code 36 = .ok (.iastore, 1) := by decide +kernel
theorem d3_37 : decode method_3_code 37 = .ok (.iinc 6 1, 3) := by decide +kernel
theorem d3_40 : decode method_3_code 40 = .ok (.iload 4, 2) := by decide +kernel
theorem d3_42 : decode method_3_code 42 = .ok (.iconst 4, 1) := by decide +kernel
theorem d3_43 : decode method_3_code 43 = .ok (.iand, 1) := by decide +kernel
theorem d3_44 : decode method_3_code 44 = .ok (.ifCond .eq 12, 3) := by decide +kernel
theorem d3_47 : decode method_3_code 47 = .ok (.aload 5, 2) := by decide +kernel
theorem d3_49 : decode method_3_code 49 = .ok (.iload 6, 2) := by decide +kernel
theorem d3_51 : decode method_3_code 51 = .ok (.iload_n 2, 1) := by decide +kernel
theorem d3_52 : decode method_3_code 52 = .ok (.iastore, 1) := by decide +kernel
theorem d3_53 : decode method_3_code 53 = .ok (.iinc 6 1, 3) := by decide +kernel
theorem d3_56 : decode method_3_code 56 = .ok (.iload 4, 2) := by decide +kernel
theorem d3_58 : decode method_3_code 58 = .ok (.bipush 8, 2) := by decide +kernel
theorem d3_60 : decode method_3_code 60 = .ok (.iand, 1) := by decide +kernel
theorem d3_61 : decode method_3_code 61 = .ok (.ifCond .eq 12, 3) := by decide +kernel
theorem d3_64 : decode method_3_code 64 = .ok (.aload 5, 2) := by decide +kernel
theorem d3_66 : decode method_3_code 66 = .ok (.iload 6, 2) := by decide +kernel
theorem d3_68 : decode method_3_code 68 = .ok (.iload_n 3, 1) := by decide +kernel
theorem d3_69 : decode method_3_code 69 = .ok (.iastore, 1) := by decide +kernel
theorem d3_70 : decode method_3_code 70 = .ok (.iinc 6 1, 3) := by decide +kernel
theorem d3_73 : decode method_3_code 73 = .ok (.aload 5, 2) := by decide +kernel
theorem d3_75 : decode method_3_code 75 = .ok (.iload 6, 2) := by decide +kernel
theorem d3_77 : decode method_3_code 77 = .ok (.invokestatic 27, 3) := by decide +kernel
theorem d3_80 : decode method_3_code 80 = .ok (.areturn, 1) := by decide +kernel
theorem ef_3 (mM : MethodId) (x0 : Int32) (x1 : Int32) (x2 : Int32) (x3 : Int32) (x4 : Int32) : entryFrame mM #[(.int x0), (.int x1), (.int x2), (.int x3), (.int x4)] 7 = mkF mM 0 #[.val (.int x0), .val (.int x1), .val (.int x2), .val (.int x3), .val (.int x4), .unset, .unset] [] := by first | (simp [entryFrame, mkF, argsToLocals, Value.category]; done) | rfl
def Q3 (Z : State) (u0 : Int32) (u1 : Int32) (u2 : Int32) (u3 : Int32) (m : Int32) (h0 : Heap) (n0 : Nat) (v : Option Value) (h : Heap) (L : List Loc) : Prop := ∃ b : Addr, v = some (.ref b) ∧ h0.size ≤ b ∧ Fr n0 L ∧ Keep h0 h [] ∧ ∃ k : ClassId, Arv Z h b k .int (Int32.ofNat (own_pick u0 u1 u2 u3 m).length) ((own_pick u0 u1 u2 u3 m).map Value.int) (.int (0 : Int32))
set_option maxRecDepth 65536 in
set_option maxHeartbeats 40000000 in
theorem rm3 (l : Launch) (Z : State) (a0 : Array Value) (hw : ∀ d ∈ tables_1, d.before a0 Z = true) (ws : List Jvm.Cond) (u0 : Int32) (u1 : Int32) (u2 : Int32) (u3 : Int32) (m : Int32) (h0 : Heap) (n0 : Nat) (Z0 : n0 ≤ h0.size) :
    MetFree l (⟨"com/example/refine/refine/refinement/NormalisedLtsFirstNotInPinLaw", "pick", "(IIIII)[I"⟩ : MethodName) (head1 (Jvm.Cond.code (⟨"com/example/refine/refine/refinement/NormalisedLtsFirstNotInPinLaw", "pick", "(IIIII)[I"⟩ : MethodName) method_3_code 7 (some (.array .int)) :: ws) ({ frames := 1, cells := 2, slots := 8, locals := 13 } : Room)) (fun aA uU => aA = #[(.int u0), (.int u1), (.int u2), (.int u3), (.int m)] ∧ Z.Warmed39 uU.vm ∧ uU.heap = h0) (fun _ _ _ _ _ => True) (fun _ uU oO uU' => ∃ vV lL, oO = .returned vV ∧ Q3 Z u0 u1 u2 u3 m h0 n0 vV uU'.heap lL ∧ FrameEnd uU oO uU' lL ({ frames := 1, cells := 2, slots := 8, locals := 13 } : Room).cells ({ frames := 1, cells := 2, slots := 8, locals := 13 } : Room).slots) := by
  refine MetFree.of_bodySF (plainFor_of_name pn_0) hisR ?_
  intro pP eE sS mM args below meth cC s₁ Bd hml0 hP hK
  obtain ⟨rfl, hZ, hh⟩ := hP
  have hx := Bd.exec
  have hby := Bd.bytes
  have hml : cC.maxLocals = 7 := hml0
  have hown : sS.vm.findClass "com/example/refine/refine/refinement/NormalisedLtsFirstNotInPinLaw" = some mM.cls := findClass_of_methodNamed Bd.named
  have hnm := (name_of_methodNamed Bd.named Bd.method).1
  have X0 : Stand pP l eE ({ frames := 1, cells := 2, slots := 8, locals := 13 } : Room) sS mM #[(.int u0), (.int u1), (.int u2), (.int u3), (.int m)] below meth cC s₁ [] 0 0 := Stand.of_body Bd
  have e0 : s₁.heap = h0 := by rw [← hh, Bd.state]; rfl
  have N0 := Fr.nil n0
  have pre0 : ∀ tg, Steps pP.tables eE below (s₁.setTop (mkF mM 0 #[.val (.int u0), .val (.int u1), .val (.int u2), .val (.int u3), .val (.int m), .unset, .unset] [])) tg → Steps pP.tables eE below (s₁.setTop (entryFrame mM #[(.int u0), (.int u1), (.int u2), (.int u3), (.int m)] 7)) tg := fun tg kg => castTop (ef_3 mM u0 u1 u2 u3 m) kg
  have pr1 : ∀ tg, Steps pP.tables eE below (s₁.setTop (mkF mM 1 #[.val (.int u0), .val (.int u1), .val (.int u2), .val (.int u3), .val (.int m), .unset, .unset] [(.int (4 : Int32))])) tg → Steps pP.tables eE below (s₁.setTop (entryFrame mM #[(.int u0), (.int u1), (.int u2), (.int u3), (.int m)] 7)) tg := fun tg kg => pre0 _ (by
    show Steps pP.tables eE below (s₁.setTop (mkF mM 0 #[.val (.int u0), .val (.int u1), .val (.int u2), .val (.int u3), .val (.int m), .unset, .unset] [])) _
    refine XS.iconst X0.here hx rfl (hb hby d3_0) ?_
    exact kg)
  obtain ⟨T2, h2, k2, X2, e2, E2, A2, Ex2, st2⟩ := newPE X0 hx hZ (hw _ (List.mem_of_getElem? (i := 10) rfl)) e0 (g := (mkF mM 1 #[.val (.int u0), .val (.int u1), .val (.int u2), .val (.int u3), .val (.int m), .unset, .unset] [(.int (4 : Int32))])) rfl (hb hby d3_1) rfl (by decide) (cap := 4) (by decide) (by decide) (by decide) (by decide) (ad := "[I") rfl
  obtain ⟨b2, g2⟩ : ∃ z, z = (h0).size := ⟨_, rfl⟩
  rw [← g2] at A2 Ex2 st2
  have gn3 : n0 ≤ b2 := Nat.le_trans Z0 (Nat.le_of_eq g2.symm)
  have gs4 : h0.size ≤ b2 := Nat.le_trans (Keep.refl h0 []).1 (Nat.le_of_eq g2.symm)
  have V2 : Arv Z h2 b2 k2 .int (4 : Int32) [(.int (0 : Int32)), (.int (0 : Int32)), (.int (0 : Int32)), (.int (0 : Int32))] (.int (0 : Int32)) := (Arv.new A2 (by decide)).pad (pad_rep [] (.int (0 : Int32)) 4)
  have pr5 : ∀ tg, Steps pP.tables eE below (T2.setTop (mkF mM 3 #[.val (.int u0), .val (.int u1), .val (.int u2), .val (.int u3), .val (.int m), .unset, .unset] [(.ref b2)])) tg → Steps pP.tables eE below (s₁.setTop (entryFrame mM #[(.int u0), (.int u1), (.int u2), (.int u3), (.int m)] 7)) tg := fun tg kg => pr1 _ (st2 _ kg)
  have pr7 : ∀ tg, Steps pP.tables eE below (T2.setTop (mkF mM 12 #[.val (.int u0), .val (.int u1), .val (.int u2), .val (.int u3), .val (.int m), .val (.ref b2), .val (.int (0 : Int32))] [(.int (m &&& (1 : Int32)))])) tg → Steps pP.tables eE below (s₁.setTop (entryFrame mM #[(.int u0), (.int u1), (.int u2), (.int u3), (.int m)] 7)) tg := fun tg kg => pr5 _ (by
    show Steps pP.tables eE below (T2.setTop (mkF mM 3 #[.val (.int u0), .val (.int u1), .val (.int u2), .val (.int u3), .val (.int m), .unset, .unset] [(.ref b2)])) _
    refine XS.astore X2.here hx rfl (hb hby d3_3) rfl rfl (l' := #[.val (.int u0), .val (.int u1), .val (.int u2), .val (.int u3), .val (.int m), .val (.ref b2), .unset]) rfl ?_
    show Steps pP.tables eE below (T2.setTop (mkF mM 5 #[.val (.int u0), .val (.int u1), .val (.int u2), .val (.int u3), .val (.int m), .val (.ref b2), .unset] [])) _
    refine XS.iconst X2.here hx rfl (hb hby d3_5) ?_
    show Steps pP.tables eE below (T2.setTop (mkF mM 6 #[.val (.int u0), .val (.int u1), .val (.int u2), .val (.int u3), .val (.int m), .val (.ref b2), .unset] [(.int (0 : Int32))])) _
    refine XS.istore X2.here hx rfl (hb hby d3_6) rfl (l' := #[.val (.int u0), .val (.int u1), .val (.int u2), .val (.int u3), .val (.int m), .val (.ref b2), .val (.int (0 : Int32))]) rfl ?_
    show Steps pP.tables eE below (T2.setTop (mkF mM 8 #[.val (.int u0), .val (.int u1), .val (.int u2), .val (.int u3), .val (.int m), .val (.ref b2), .val (.int (0 : Int32))] [])) _
    refine XS.iload X2.here hx rfl (hb hby d3_8) rfl ?_
    show Steps pP.tables eE below (T2.setTop (mkF mM 10 #[.val (.int u0), .val (.int u1), .val (.int u2), .val (.int u3), .val (.int m), .val (.ref b2), .val (.int (0 : Int32))] [(.int m)])) _
    refine XS.iconst X2.here hx rfl (hb hby d3_10) ?_
    show Steps pP.tables eE below (T2.setTop (mkF mM 11 #[.val (.int u0), .val (.int u1), .val (.int u2), .val (.int u3), .val (.int m), .val (.ref b2), .val (.int (0 : Int32))] [(.int (1 : Int32)), (.int m)])) _
    refine XS.iand X2.here hx rfl (hb hby d3_11) rfl ?_
    exact kg)
  by_cases hc12_6 : (m &&& (1 : Int32)) = (0 : Int32)
  ·
    have pr9 : ∀ tg, Steps pP.tables eE below (T2.setTop (mkF mM 28 #[.val (.int u0), .val (.int u1), .val (.int u2), .val (.int u3), .val (.int m), .val (.ref b2), .val (.int (0 : Int32))] [(.int (m &&& (2 : Int32)))])) tg → Steps pP.tables eE below (s₁.setTop (entryFrame mM #[(.int u0), (.int u1), (.int u2), (.int u3), (.int m)] 7)) tg := fun tg kg => pr7 _ (by
      show Steps pP.tables eE below (T2.setTop (mkF mM 12 #[.val (.int u0), .val (.int u1), .val (.int u2), .val (.int u3), .val (.int m), .val (.ref b2), .val (.int (0 : Int32))] [(.int (m &&& (1 : Int32)))])) _
      refine XS.ifYes X2.here hx rfl (pc0 := 12) (pc' := 24) rfl (hb hby d3_12) rfl ((if0 _ _).trans (teq hc12_6).1) (by decide) (by decide) ?_
      show Steps pP.tables eE below (T2.setTop (mkF mM 24 #[.val (.int u0), .val (.int u1), .val (.int u2), .val (.int u3), .val (.int m), .val (.ref b2), .val (.int (0 : Int32))] [])) _
      refine XS.iload X2.here hx rfl (hb hby d3_24) rfl ?_
      show Steps pP.tables eE below (T2.setTop (mkF mM 26 #[.val (.int u0), .val (.int u1), .val (.int u2), .val (.int u3), .val (.int m), .val (.ref b2), .val (.int (0 : Int32))] [(.int m)])) _
      refine XS.iconst X2.here hx rfl (hb hby d3_26) ?_
      show Steps pP.tables eE below (T2.setTop (mkF mM 27 #[.val (.int u0), .val (.int u1), .val (.int u2), .val (.int u3), .val (.int m), .val (.ref b2), .val (.int (0 : Int32))] [(.int (2 : Int32)), (.int m)])) _
      refine XS.iand X2.here hx rfl (hb hby d3_27) rfl ?_
      exact kg)
    by_cases hc28_8 : (m &&& (2 : Int32)) = (0 : Int32)
    ·
      have pr11 : ∀ tg, Steps pP.tables eE below (T2.setTop (mkF mM 44 #[.val (.int u0), .val (.int u1), .val (.int u2), .val (.int u3), .val (.int m), .val (.ref b2), .val (.int (0 : Int32))] [(.int (m &&& (4 : Int32)))])) tg → Steps pP.tables eE below (s₁.setTop (entryFrame mM #[(.int u0), (.int u1), (.int u2), (.int u3), (.int m)] 7)) tg := fun tg kg => pr9 _ (by
        show Steps pP.tables eE below (T2.setTop (mkF mM 28 #[.val (.int u0), .val (.int u1), .val (.int u2), .val (.int u3), .val (.int m), .val (.ref b2), .val (.int (0 : Int32))] [(.int (m &&& (2 : Int32)))])) _
        refine XS.ifYes X2.here hx rfl (pc0 := 28) (pc' := 40) rfl (hb hby d3_28) rfl ((if0 _ _).trans (teq hc28_8).1) (by decide) (by decide) ?_
        show Steps pP.tables eE below (T2.setTop (mkF mM 40 #[.val (.int u0), .val (.int u1), .val (.int u2), .val (.int u3), .val (.int m), .val (.ref b2), .val (.int (0 : Int32))] [])) _
        refine XS.iload X2.here hx rfl (hb hby d3_40) rfl ?_
        show Steps pP.tables eE below (T2.setTop (mkF mM 42 #[.val (.int u0), .val (.int u1), .val (.int u2), .val (.int u3), .val (.int m), .val (.ref b2), .val (.int (0 : Int32))] [(.int m)])) _
        refine XS.iconst X2.here hx rfl (hb hby d3_42) ?_
        show Steps pP.tables eE below (T2.setTop (mkF mM 43 #[.val (.int u0), .val (.int u1), .val (.int u2), .val (.int u3), .val (.int m), .val (.ref b2), .val (.int (0 : Int32))] [(.int (4 : Int32)), (.int m)])) _
        refine XS.iand X2.here hx rfl (hb hby d3_43) rfl ?_
        exact kg)
      by_cases hc44_10 : (m &&& (4 : Int32)) = (0 : Int32)
      ·
        have pr13 : ∀ tg, Steps pP.tables eE below (T2.setTop (mkF mM 61 #[.val (.int u0), .val (.int u1), .val (.int u2), .val (.int u3), .val (.int m), .val (.ref b2), .val (.int (0 : Int32))] [(.int (m &&& (8 : Int32)))])) tg → Steps pP.tables eE below (s₁.setTop (entryFrame mM #[(.int u0), (.int u1), (.int u2), (.int u3), (.int m)] 7)) tg := fun tg kg => pr11 _ (by
          show Steps pP.tables eE below (T2.setTop (mkF mM 44 #[.val (.int u0), .val (.int u1), .val (.int u2), .val (.int u3), .val (.int m), .val (.ref b2), .val (.int (0 : Int32))] [(.int (m &&& (4 : Int32)))])) _
          refine XS.ifYes X2.here hx rfl (pc0 := 44) (pc' := 56) rfl (hb hby d3_44) rfl ((if0 _ _).trans (teq hc44_10).1) (by decide) (by decide) ?_
          show Steps pP.tables eE below (T2.setTop (mkF mM 56 #[.val (.int u0), .val (.int u1), .val (.int u2), .val (.int u3), .val (.int m), .val (.ref b2), .val (.int (0 : Int32))] [])) _
          refine XS.iload X2.here hx rfl (hb hby d3_56) rfl ?_
          show Steps pP.tables eE below (T2.setTop (mkF mM 58 #[.val (.int u0), .val (.int u1), .val (.int u2), .val (.int u3), .val (.int m), .val (.ref b2), .val (.int (0 : Int32))] [(.int m)])) _
          refine XS.bipush X2.here hx rfl (hb hby d3_58) ?_
          show Steps pP.tables eE below (T2.setTop (mkF mM 60 #[.val (.int u0), .val (.int u1), .val (.int u2), .val (.int u3), .val (.int m), .val (.ref b2), .val (.int (0 : Int32))] [(.int (8 : Int32)), (.int m)])) _
          refine XS.iand X2.here hx rfl (hb hby d3_60) rfl ?_
          exact kg)
        by_cases hc61_12 : (m &&& (8 : Int32)) = (0 : Int32)
        ·
          have pr14 : ∀ tg, Steps pP.tables eE below (T2.setTop (mkF mM 77 #[.val (.int u0), .val (.int u1), .val (.int u2), .val (.int u3), .val (.int m), .val (.ref b2), .val (.int (0 : Int32))] [(.int (0 : Int32)), (.ref b2)])) tg → Steps pP.tables eE below (s₁.setTop (entryFrame mM #[(.int u0), (.int u1), (.int u2), (.int u3), (.int m)] 7)) tg := fun tg kg => pr13 _ (by
            show Steps pP.tables eE below (T2.setTop (mkF mM 61 #[.val (.int u0), .val (.int u1), .val (.int u2), .val (.int u3), .val (.int m), .val (.ref b2), .val (.int (0 : Int32))] [(.int (m &&& (8 : Int32)))])) _
            refine XS.ifYes X2.here hx rfl (pc0 := 61) (pc' := 73) rfl (hb hby d3_61) rfl ((if0 _ _).trans (teq hc61_12).1) (by decide) (by decide) ?_
            show Steps pP.tables eE below (T2.setTop (mkF mM 73 #[.val (.int u0), .val (.int u1), .val (.int u2), .val (.int u3), .val (.int m), .val (.ref b2), .val (.int (0 : Int32))] [])) _
            refine XS.aload X2.here hx rfl (hb hby d3_73) rfl rfl ?_
            show Steps pP.tables eE below (T2.setTop (mkF mM 75 #[.val (.int u0), .val (.int u1), .val (.int u2), .val (.int u3), .val (.int m), .val (.ref b2), .val (.int (0 : Int32))] [(.ref b2)])) _
            refine XS.iload X2.here hx rfl (hb hby d3_75) rfl ?_
            exact kg)
          have c15 := (Nat.le_trans Z0 E2.1)
          obtain ⟨_, _, ⟨T16, L16, kk16, nn16⟩, -, X16, ⟨Lc16, hQ16, l16, y16, z16⟩, st16⟩ := Jvm.LawKit.callS X2 hx (y := (⟨"com/example/refine/refine/refinement/NormalisedLtsFirstNotInPinLaw", "take", "([II)[I"⟩ : MethodName)) hown (mvT hZ (hw _ (List.mem_of_getElem? (i := 11) rfl))) (mvT hZ (hw _ (List.mem_of_getElem? (i := 12) rfl))) (mvT hZ (hw _ (List.mem_of_getElem? (i := 8) rfl))) (mvT hZ (hw _ (List.mem_of_getElem? (i := 13) rfl))) (by decide) (backOf (W := 0) (rm20 l Z a0 hw [] b2 k2 (0 : Int32) (0 : Int32) (0 : Int32) (0 : Int32) h2 n0 c15 V2) hZ (hw _ (List.mem_of_getElem? (i := 13) rfl)) (hw _ (List.mem_of_getElem? (i := 8) rfl)) (by decide) (by decide)) (g := (mkF mM 77 #[.val (.int u0), .val (.int u1), .val (.int u2), .val (.int u3), .val (.int m), .val (.ref b2), .val (.int (0 : Int32))] [(.int (0 : Int32)), (.ref b2)])) rfl (by rw [hml]; rfl) (argsL := [(.ref b2), (.int (0 : Int32))]) (rest := []) (lenOf pd_0 rfl) rfl (by show 2 * 0 + _ ≤ _; exact Nat.le_of_eq rfl) (hb hby d3_77) (fun _ _ => ⟨rfl, e2, (by decide : 1 + 1 ≤ _), (by decide : 4 + 0 ≤ _)⟩)
          dsimp only [Pt.U, Pt.locs, Pt.cells, Pt.slots] at X16 l16 y16 z16 st16 hQ16
          subst l16 y16 z16
          obtain ⟨bt16, rfl, ge16, Nq16, K16, kt16, V16⟩ := hQ16
          have N16 := Fr.app N0 Nq16
          have ne17 : b2 ≠ bt16 := Nat.ne_of_lt (Nat.lt_of_lt_of_le (V2).lt ge16)
          have gn18 : n0 ≤ bt16 := Nat.le_trans c15 ge16
          have c20 := (Keep.ext (Keep.refl h0 []) E2)
          have gs19 : h0.size ≤ bt16 := Nat.le_trans c20.1 ge16
          have pr21 : ∀ tg, Steps pP.tables eE below (T16.setTop (mkF mM 80 #[.val (.int u0), .val (.int u1), .val (.int u2), .val (.int u3), .val (.int m), .val (.ref b2), .val (.int (0 : Int32))] [(.ref bt16)])) tg → Steps pP.tables eE below (s₁.setTop (entryFrame mM #[(.int u0), (.int u1), (.int u2), (.int u3), (.int m)] 7)) tg := fun tg kg => pr14 _ (st16 _ kg)
          have c22 := (Keep.trans c20 K16 all0)
          obtain ⟨fs, hr, hrun, hended, hW, hsame⟩ := X16.leave (v := some (.ref bt16)) (fun h => by rw [Bd.returns] at h; cases h)
          refine ⟨_, _, pr21 _ (retOut X16 hx (t := (.array .int)) Bd.returns rfl (Or.inr (Or.inr (Or.inr (Or.inr ⟨rfl, rfl, rfl⟩)))) (hb hby d3_80) hr), hrun, hended, _, _, rfl, ?_, ⟨_, rfl⟩, hW, hsame.mono (by decide) (by decide)⟩
          show Q3 Z u0 u1 u2 u3 m h0 n0 _ T16.heap _
          exact ⟨_, rfl, gs19, N16, c22, _, by unfold own_pick; rw [if_pos hc12_6, if_pos hc28_8, if_pos hc44_10, if_pos hc61_12]; exact V16⟩
        ·
          have pr23 : ∀ tg, Steps pP.tables eE below (T2.setTop (mkF mM 69 #[.val (.int u0), .val (.int u1), .val (.int u2), .val (.int u3), .val (.int m), .val (.ref b2), .val (.int (0 : Int32))] [(.int u3), (.int (0 : Int32)), (.ref b2)])) tg → Steps pP.tables eE below (s₁.setTop (entryFrame mM #[(.int u0), (.int u1), (.int u2), (.int u3), (.int m)] 7)) tg := fun tg kg => pr13 _ (by
            show Steps pP.tables eE below (T2.setTop (mkF mM 61 #[.val (.int u0), .val (.int u1), .val (.int u2), .val (.int u3), .val (.int m), .val (.ref b2), .val (.int (0 : Int32))] [(.int (m &&& (8 : Int32)))])) _
            refine XS.ifNo X2.here hx rfl (hb hby d3_61) rfl ((if0 _ _).trans (feq hc61_12).1) ?_
            show Steps pP.tables eE below (T2.setTop (mkF mM 64 #[.val (.int u0), .val (.int u1), .val (.int u2), .val (.int u3), .val (.int m), .val (.ref b2), .val (.int (0 : Int32))] [])) _
            refine XS.aload X2.here hx rfl (hb hby d3_64) rfl rfl ?_
            show Steps pP.tables eE below (T2.setTop (mkF mM 66 #[.val (.int u0), .val (.int u1), .val (.int u2), .val (.int u3), .val (.int m), .val (.ref b2), .val (.int (0 : Int32))] [(.ref b2)])) _
            refine XS.iload X2.here hx rfl (hb hby d3_66) rfl ?_
            show Steps pP.tables eE below (T2.setTop (mkF mM 68 #[.val (.int u0), .val (.int u1), .val (.int u2), .val (.int u3), .val (.int m), .val (.ref b2), .val (.int (0 : Int32))] [(.int (0 : Int32)), (.ref b2)])) _
            refine XS.iloadN X2.here hx rfl (hb hby d3_68) rfl ?_
            exact kg)
          obtain ⟨cla24, Ara24, qa24, Sa24, Ma24, Ha24, Ga24⟩ := id V2
          have hin25 : ¬ ((0 : Int32) < 0 ∨ cla24.slots.size ≤ ((0 : Int32)).toNatClampNeg) := inb_of Sa24 ⟨by decide, by decide⟩
          obtain ⟨T25, h25, X25, e25, W25, st25⟩ := stI X2 hx hZ e2 Ara24 (j := (0 : Int32)) hin25 (g := (mkF mM 69 #[.val (.int u0), .val (.int u1), .val (.int u2), .val (.int u3), .val (.int m), .val (.ref b2), .val (.int (0 : Int32))] [(.int u3), (.int (0 : Int32)), (.ref b2)])) rfl rfl (hb hby d3_69)
          have V25 : Arv Z h25 b2 k2 .int (4 : Int32) [(.int u3), (.int (0 : Int32)), (.int (0 : Int32)), (.int (0 : Int32))] (.int (0 : Int32)) := Arv.set Ara24 qa24 Sa24 Ma24 Ha24 Ga24 rfl W25 0 rfl (Nat.le_of_ble_eq_true rfl)
          have N25 := Fr.snoc X25 N0 gn3
          have pr26 : ∀ tg, Steps pP.tables eE below (T25.setTop (mkF mM 70 #[.val (.int u0), .val (.int u1), .val (.int u2), .val (.int u3), .val (.int m), .val (.ref b2), .val (.int (0 : Int32))] [])) tg → Steps pP.tables eE below (s₁.setTop (entryFrame mM #[(.int u0), (.int u1), (.int u2), (.int u3), (.int m)] 7)) tg := fun tg kg => pr23 _ (st25 _ kg)
          have pr27 : ∀ tg, Steps pP.tables eE below (T25.setTop (mkF mM 77 #[.val (.int u0), .val (.int u1), .val (.int u2), .val (.int u3), .val (.int m), .val (.ref b2), .val (.int (1 : Int32))] [(.int (1 : Int32)), (.ref b2)])) tg → Steps pP.tables eE below (s₁.setTop (entryFrame mM #[(.int u0), (.int u1), (.int u2), (.int u3), (.int m)] 7)) tg := fun tg kg => pr26 _ (by
            show Steps pP.tables eE below (T25.setTop (mkF mM 70 #[.val (.int u0), .val (.int u1), .val (.int u2), .val (.int u3), .val (.int m), .val (.ref b2), .val (.int (0 : Int32))] [])) _
            refine XS.iinc X25.here hx rfl (hb hby d3_70) rfl (l' := #[.val (.int u0), .val (.int u1), .val (.int u2), .val (.int u3), .val (.int m), .val (.ref b2), .val (.int (1 : Int32))]) rfl ?_
            show Steps pP.tables eE below (T25.setTop (mkF mM 73 #[.val (.int u0), .val (.int u1), .val (.int u2), .val (.int u3), .val (.int m), .val (.ref b2), .val (.int (1 : Int32))] [])) _
            refine XS.aload X25.here hx rfl (hb hby d3_73) rfl rfl ?_
            show Steps pP.tables eE below (T25.setTop (mkF mM 75 #[.val (.int u0), .val (.int u1), .val (.int u2), .val (.int u3), .val (.int m), .val (.ref b2), .val (.int (1 : Int32))] [(.ref b2)])) _
            refine XS.iload X25.here hx rfl (hb hby d3_75) rfl ?_
            exact kg)
          have c28 := (Nat.le_trans (Nat.le_trans Z0 E2.1) (Keep.of_wr W25).1)
          obtain ⟨_, _, ⟨T29, L29, kk29, nn29⟩, -, X29, ⟨Lc29, hQ29, l29, y29, z29⟩, st29⟩ := Jvm.LawKit.callS X25 hx (y := (⟨"com/example/refine/refine/refinement/NormalisedLtsFirstNotInPinLaw", "take", "([II)[I"⟩ : MethodName)) hown (mvT hZ (hw _ (List.mem_of_getElem? (i := 11) rfl))) (mvT hZ (hw _ (List.mem_of_getElem? (i := 12) rfl))) (mvT hZ (hw _ (List.mem_of_getElem? (i := 8) rfl))) (mvT hZ (hw _ (List.mem_of_getElem? (i := 13) rfl))) (by decide) (backOf (W := 0) (rm21 l Z a0 hw [] b2 k2 u3 (0 : Int32) (0 : Int32) (0 : Int32) h25 n0 c28 V25) hZ (hw _ (List.mem_of_getElem? (i := 13) rfl)) (hw _ (List.mem_of_getElem? (i := 8) rfl)) (by decide) (by decide)) (g := (mkF mM 77 #[.val (.int u0), .val (.int u1), .val (.int u2), .val (.int u3), .val (.int m), .val (.ref b2), .val (.int (1 : Int32))] [(.int (1 : Int32)), (.ref b2)])) rfl (by rw [hml]; rfl) (argsL := [(.ref b2), (.int (1 : Int32))]) (rest := []) (lenOf pd_0 rfl) rfl (by show 2 * 0 + _ ≤ _; exact Nat.le_of_eq rfl) (hb hby d3_77) (fun _ _ => ⟨rfl, e25, (by decide : 1 + 1 ≤ _), (by decide : 4 + 1 ≤ _)⟩)
          dsimp only [Pt.U, Pt.locs, Pt.cells, Pt.slots] at X29 l29 y29 z29 st29 hQ29
          subst l29 y29 z29
          obtain ⟨bt29, rfl, ge29, Nq29, K29, kt29, V29⟩ := hQ29
          have N29 := Fr.app N25 Nq29
          have ne30 : b2 ≠ bt29 := Nat.ne_of_lt (Nat.lt_of_lt_of_le (V25).lt ge29)
          have gn31 : n0 ≤ bt29 := Nat.le_trans c28 ge29
          have c33 := (Keep.wr (Keep.ext (Keep.refl h0 []) E2) W25 (Or.inr gs4))
          have gs32 : h0.size ≤ bt29 := Nat.le_trans c33.1 ge29
          have pr34 : ∀ tg, Steps pP.tables eE below (T29.setTop (mkF mM 80 #[.val (.int u0), .val (.int u1), .val (.int u2), .val (.int u3), .val (.int m), .val (.ref b2), .val (.int (1 : Int32))] [(.ref bt29)])) tg → Steps pP.tables eE below (s₁.setTop (entryFrame mM #[(.int u0), (.int u1), (.int u2), (.int u3), (.int m)] 7)) tg := fun tg kg => pr27 _ (st29 _ kg)
          have c35 := (Keep.trans c33 K29 all0)
          obtain ⟨fs, hr, hrun, hended, hW, hsame⟩ := X29.leave (v := some (.ref bt29)) (fun h => by rw [Bd.returns] at h; cases h)
          refine ⟨_, _, pr34 _ (retOut X29 hx (t := (.array .int)) Bd.returns rfl (Or.inr (Or.inr (Or.inr (Or.inr ⟨rfl, rfl, rfl⟩)))) (hb hby d3_80) hr), hrun, hended, _, _, rfl, ?_, ⟨_, rfl⟩, hW, hsame.mono (by decide) (by decide)⟩
          show Q3 Z u0 u1 u2 u3 m h0 n0 _ T29.heap _
          exact ⟨_, rfl, gs32, N29, c35, _, by unfold own_pick; rw [if_pos hc12_6, if_pos hc28_8, if_pos hc44_10, if_neg hc61_12]; exact V29⟩
      ·
        have pr36 : ∀ tg, Steps pP.tables eE below (T2.setTop (mkF mM 52 #[.val (.int u0), .val (.int u1), .val (.int u2), .val (.int u3), .val (.int m), .val (.ref b2), .val (.int (0 : Int32))] [(.int u2), (.int (0 : Int32)), (.ref b2)])) tg → Steps pP.tables eE below (s₁.setTop (entryFrame mM #[(.int u0), (.int u1), (.int u2), (.int u3), (.int m)] 7)) tg := fun tg kg => pr11 _ (by
          show Steps pP.tables eE below (T2.setTop (mkF mM 44 #[.val (.int u0), .val (.int u1), .val (.int u2), .val (.int u3), .val (.int m), .val (.ref b2), .val (.int (0 : Int32))] [(.int (m &&& (4 : Int32)))])) _
          refine XS.ifNo X2.here hx rfl (hb hby d3_44) rfl ((if0 _ _).trans (feq hc44_10).1) ?_
          show Steps pP.tables eE below (T2.setTop (mkF mM 47 #[.val (.int u0), .val (.int u1), .val (.int u2), .val (.int u3), .val (.int m), .val (.ref b2), .val (.int (0 : Int32))] [])) _
          refine XS.aload X2.here hx rfl (hb hby d3_47) rfl rfl ?_
          show Steps pP.tables eE below (T2.setTop (mkF mM 49 #[.val (.int u0), .val (.int u1), .val (.int u2), .val (.int u3), .val (.int m), .val (.ref b2), .val (.int (0 : Int32))] [(.ref b2)])) _
          refine XS.iload X2.here hx rfl (hb hby d3_49) rfl ?_
          show Steps pP.tables eE below (T2.setTop (mkF mM 51 #[.val (.int u0), .val (.int u1), .val (.int u2), .val (.int u3), .val (.int m), .val (.ref b2), .val (.int (0 : Int32))] [(.int (0 : Int32)), (.ref b2)])) _
          refine XS.iloadN X2.here hx rfl (hb hby d3_51) rfl ?_
          exact kg)
        obtain ⟨cla37, Ara37, qa37, Sa37, Ma37, Ha37, Ga37⟩ := id V2
        have hin38 : ¬ ((0 : Int32) < 0 ∨ cla37.slots.size ≤ ((0 : Int32)).toNatClampNeg) := inb_of Sa37 ⟨by decide, by decide⟩
        obtain ⟨T38, h38, X38, e38, W38, st38⟩ := stI X2 hx hZ e2 Ara37 (j := (0 : Int32)) hin38 (g := (mkF mM 52 #[.val (.int u0), .val (.int u1), .val (.int u2), .val (.int u3), .val (.int m), .val (.ref b2), .val (.int (0 : Int32))] [(.int u2), (.int (0 : Int32)), (.ref b2)])) rfl rfl (hb hby d3_52)
        have V38 : Arv Z h38 b2 k2 .int (4 : Int32) [(.int u2), (.int (0 : Int32)), (.int (0 : Int32)), (.int (0 : Int32))] (.int (0 : Int32)) := Arv.set Ara37 qa37 Sa37 Ma37 Ha37 Ga37 rfl W38 0 rfl (Nat.le_of_ble_eq_true rfl)
        have N38 := Fr.snoc X38 N0 gn3
        have pr39 : ∀ tg, Steps pP.tables eE below (T38.setTop (mkF mM 53 #[.val (.int u0), .val (.int u1), .val (.int u2), .val (.int u3), .val (.int m), .val (.ref b2), .val (.int (0 : Int32))] [])) tg → Steps pP.tables eE below (s₁.setTop (entryFrame mM #[(.int u0), (.int u1), (.int u2), (.int u3), (.int m)] 7)) tg := fun tg kg => pr36 _ (st38 _ kg)
        have pr41 : ∀ tg, Steps pP.tables eE below (T38.setTop (mkF mM 61 #[.val (.int u0), .val (.int u1), .val (.int u2), .val (.int u3), .val (.int m), .val (.ref b2), .val (.int (1 : Int32))] [(.int (m &&& (8 : Int32)))])) tg → Steps pP.tables eE below (s₁.setTop (entryFrame mM #[(.int u0), (.int u1), (.int u2), (.int u3), (.int m)] 7)) tg := fun tg kg => pr39 _ (by
          show Steps pP.tables eE below (T38.setTop (mkF mM 53 #[.val (.int u0), .val (.int u1), .val (.int u2), .val (.int u3), .val (.int m), .val (.ref b2), .val (.int (0 : Int32))] [])) _
          refine XS.iinc X38.here hx rfl (hb hby d3_53) rfl (l' := #[.val (.int u0), .val (.int u1), .val (.int u2), .val (.int u3), .val (.int m), .val (.ref b2), .val (.int (1 : Int32))]) rfl ?_
          show Steps pP.tables eE below (T38.setTop (mkF mM 56 #[.val (.int u0), .val (.int u1), .val (.int u2), .val (.int u3), .val (.int m), .val (.ref b2), .val (.int (1 : Int32))] [])) _
          refine XS.iload X38.here hx rfl (hb hby d3_56) rfl ?_
          show Steps pP.tables eE below (T38.setTop (mkF mM 58 #[.val (.int u0), .val (.int u1), .val (.int u2), .val (.int u3), .val (.int m), .val (.ref b2), .val (.int (1 : Int32))] [(.int m)])) _
          refine XS.bipush X38.here hx rfl (hb hby d3_58) ?_
          show Steps pP.tables eE below (T38.setTop (mkF mM 60 #[.val (.int u0), .val (.int u1), .val (.int u2), .val (.int u3), .val (.int m), .val (.ref b2), .val (.int (1 : Int32))] [(.int (8 : Int32)), (.int m)])) _
          refine XS.iand X38.here hx rfl (hb hby d3_60) rfl ?_
          exact kg)
        by_cases hc61_40 : (m &&& (8 : Int32)) = (0 : Int32)
        ·
          have pr42 : ∀ tg, Steps pP.tables eE below (T38.setTop (mkF mM 77 #[.val (.int u0), .val (.int u1), .val (.int u2), .val (.int u3), .val (.int m), .val (.ref b2), .val (.int (1 : Int32))] [(.int (1 : Int32)), (.ref b2)])) tg → Steps pP.tables eE below (s₁.setTop (entryFrame mM #[(.int u0), (.int u1), (.int u2), (.int u3), (.int m)] 7)) tg := fun tg kg => pr41 _ (by
            show Steps pP.tables eE below (T38.setTop (mkF mM 61 #[.val (.int u0), .val (.int u1), .val (.int u2), .val (.int u3), .val (.int m), .val (.ref b2), .val (.int (1 : Int32))] [(.int (m &&& (8 : Int32)))])) _
            refine XS.ifYes X38.here hx rfl (pc0 := 61) (pc' := 73) rfl (hb hby d3_61) rfl ((if0 _ _).trans (teq hc61_40).1) (by decide) (by decide) ?_
            show Steps pP.tables eE below (T38.setTop (mkF mM 73 #[.val (.int u0), .val (.int u1), .val (.int u2), .val (.int u3), .val (.int m), .val (.ref b2), .val (.int (1 : Int32))] [])) _
            refine XS.aload X38.here hx rfl (hb hby d3_73) rfl rfl ?_
            show Steps pP.tables eE below (T38.setTop (mkF mM 75 #[.val (.int u0), .val (.int u1), .val (.int u2), .val (.int u3), .val (.int m), .val (.ref b2), .val (.int (1 : Int32))] [(.ref b2)])) _
            refine XS.iload X38.here hx rfl (hb hby d3_75) rfl ?_
            exact kg)
          have c43 := (Nat.le_trans (Nat.le_trans Z0 E2.1) (Keep.of_wr W38).1)
          obtain ⟨_, _, ⟨T44, L44, kk44, nn44⟩, -, X44, ⟨Lc44, hQ44, l44, y44, z44⟩, st44⟩ := Jvm.LawKit.callS X38 hx (y := (⟨"com/example/refine/refine/refinement/NormalisedLtsFirstNotInPinLaw", "take", "([II)[I"⟩ : MethodName)) hown (mvT hZ (hw _ (List.mem_of_getElem? (i := 11) rfl))) (mvT hZ (hw _ (List.mem_of_getElem? (i := 12) rfl))) (mvT hZ (hw _ (List.mem_of_getElem? (i := 8) rfl))) (mvT hZ (hw _ (List.mem_of_getElem? (i := 13) rfl))) (by decide) (backOf (W := 0) (rm21 l Z a0 hw [] b2 k2 u2 (0 : Int32) (0 : Int32) (0 : Int32) h38 n0 c43 V38) hZ (hw _ (List.mem_of_getElem? (i := 13) rfl)) (hw _ (List.mem_of_getElem? (i := 8) rfl)) (by decide) (by decide)) (g := (mkF mM 77 #[.val (.int u0), .val (.int u1), .val (.int u2), .val (.int u3), .val (.int m), .val (.ref b2), .val (.int (1 : Int32))] [(.int (1 : Int32)), (.ref b2)])) rfl (by rw [hml]; rfl) (argsL := [(.ref b2), (.int (1 : Int32))]) (rest := []) (lenOf pd_0 rfl) rfl (by show 2 * 0 + _ ≤ _; exact Nat.le_of_eq rfl) (hb hby d3_77) (fun _ _ => ⟨rfl, e38, (by decide : 1 + 1 ≤ _), (by decide : 4 + 1 ≤ _)⟩)
          dsimp only [Pt.U, Pt.locs, Pt.cells, Pt.slots] at X44 l44 y44 z44 st44 hQ44
          subst l44 y44 z44
          obtain ⟨bt44, rfl, ge44, Nq44, K44, kt44, V44⟩ := hQ44
          have N44 := Fr.app N38 Nq44
          have ne45 : b2 ≠ bt44 := Nat.ne_of_lt (Nat.lt_of_lt_of_le (V38).lt ge44)
          have gn46 : n0 ≤ bt44 := Nat.le_trans c43 ge44
          have c48 := (Keep.wr (Keep.ext (Keep.refl h0 []) E2) W38 (Or.inr gs4))
          have gs47 : h0.size ≤ bt44 := Nat.le_trans c48.1 ge44
          have pr49 : ∀ tg, Steps pP.tables eE below (T44.setTop (mkF mM 80 #[.val (.int u0), .val (.int u1), .val (.int u2), .val (.int u3), .val (.int m), .val (.ref b2), .val (.int (1 : Int32))] [(.ref bt44)])) tg → Steps pP.tables eE below (s₁.setTop (entryFrame mM #[(.int u0), (.int u1), (.int u2), (.int u3), (.int m)] 7)) tg := fun tg kg => pr42 _ (st44 _ kg)
          have c50 := (Keep.trans c48 K44 all0)
          obtain ⟨fs, hr, hrun, hended, hW, hsame⟩ := X44.leave (v := some (.ref bt44)) (fun h => by rw [Bd.returns] at h; cases h)
          refine ⟨_, _, pr49 _ (retOut X44 hx (t := (.array .int)) Bd.returns rfl (Or.inr (Or.inr (Or.inr (Or.inr ⟨rfl, rfl, rfl⟩)))) (hb hby d3_80) hr), hrun, hended, _, _, rfl, ?_, ⟨_, rfl⟩, hW, hsame.mono (by decide) (by decide)⟩
          show Q3 Z u0 u1 u2 u3 m h0 n0 _ T44.heap _
          exact ⟨_, rfl, gs47, N44, c50, _, by unfold own_pick; rw [if_pos hc12_6, if_pos hc28_8, if_neg hc44_10, if_pos hc61_40]; exact V44⟩
        ·
          have pr51 : ∀ tg, Steps pP.tables eE below (T38.setTop (mkF mM 69 #[.val (.int u0), .val (.int u1), .val (.int u2), .val (.int u3), .val (.int m), .val (.ref b2), .val (.int (1 : Int32))] [(.int u3), (.int (1 : Int32)), (.ref b2)])) tg → Steps pP.tables eE below (s₁.setTop (entryFrame mM #[(.int u0), (.int u1), (.int u2), (.int u3), (.int m)] 7)) tg := fun tg kg => pr41 _ (by
            show Steps pP.tables eE below (T38.setTop (mkF mM 61 #[.val (.int u0), .val (.int u1), .val (.int u2), .val (.int u3), .val (.int m), .val (.ref b2), .val (.int (1 : Int32))] [(.int (m &&& (8 : Int32)))])) _
            refine XS.ifNo X38.here hx rfl (hb hby d3_61) rfl ((if0 _ _).trans (feq hc61_40).1) ?_
            show Steps pP.tables eE below (T38.setTop (mkF mM 64 #[.val (.int u0), .val (.int u1), .val (.int u2), .val (.int u3), .val (.int m), .val (.ref b2), .val (.int (1 : Int32))] [])) _
            refine XS.aload X38.here hx rfl (hb hby d3_64) rfl rfl ?_
            show Steps pP.tables eE below (T38.setTop (mkF mM 66 #[.val (.int u0), .val (.int u1), .val (.int u2), .val (.int u3), .val (.int m), .val (.ref b2), .val (.int (1 : Int32))] [(.ref b2)])) _
            refine XS.iload X38.here hx rfl (hb hby d3_66) rfl ?_
            show Steps pP.tables eE below (T38.setTop (mkF mM 68 #[.val (.int u0), .val (.int u1), .val (.int u2), .val (.int u3), .val (.int m), .val (.ref b2), .val (.int (1 : Int32))] [(.int (1 : Int32)), (.ref b2)])) _
            refine XS.iloadN X38.here hx rfl (hb hby d3_68) rfl ?_
            exact kg)
          obtain ⟨cla52, Ara52, qa52, Sa52, Ma52, Ha52, Ga52⟩ := id V38
          have hin53 : ¬ ((1 : Int32) < 0 ∨ cla52.slots.size ≤ ((1 : Int32)).toNatClampNeg) := inb_of Sa52 ⟨by decide, by decide⟩
          obtain ⟨T53, h53, X53, e53, W53, st53⟩ := stI X38 hx hZ e38 Ara52 (j := (1 : Int32)) hin53 (g := (mkF mM 69 #[.val (.int u0), .val (.int u1), .val (.int u2), .val (.int u3), .val (.int m), .val (.ref b2), .val (.int (1 : Int32))] [(.int u3), (.int (1 : Int32)), (.ref b2)])) rfl rfl (hb hby d3_69)
          have V53 : Arv Z h53 b2 k2 .int (4 : Int32) [(.int u2), (.int u3), (.int (0 : Int32)), (.int (0 : Int32))] (.int (0 : Int32)) := Arv.set Ara52 qa52 Sa52 Ma52 Ha52 Ga52 rfl W53 1 rfl (Nat.le_of_ble_eq_true rfl)
          have N53 := Fr.snoc X53 N38 gn3
          have pr54 : ∀ tg, Steps pP.tables eE below (T53.setTop (mkF mM 70 #[.val (.int u0), .val (.int u1), .val (.int u2), .val (.int u3), .val (.int m), .val (.ref b2), .val (.int (1 : Int32))] [])) tg → Steps pP.tables eE below (s₁.setTop (entryFrame mM #[(.int u0), (.int u1), (.int u2), (.int u3), (.int m)] 7)) tg := fun tg kg => pr51 _ (st53 _ kg)
          have pr55 : ∀ tg, Steps pP.tables eE below (T53.setTop (mkF mM 77 #[.val (.int u0), .val (.int u1), .val (.int u2), .val (.int u3), .val (.int m), .val (.ref b2), .val (.int (2 : Int32))] [(.int (2 : Int32)), (.ref b2)])) tg → Steps pP.tables eE below (s₁.setTop (entryFrame mM #[(.int u0), (.int u1), (.int u2), (.int u3), (.int m)] 7)) tg := fun tg kg => pr54 _ (by
            show Steps pP.tables eE below (T53.setTop (mkF mM 70 #[.val (.int u0), .val (.int u1), .val (.int u2), .val (.int u3), .val (.int m), .val (.ref b2), .val (.int (1 : Int32))] [])) _
            refine XS.iinc X53.here hx rfl (hb hby d3_70) rfl (l' := #[.val (.int u0), .val (.int u1), .val (.int u2), .val (.int u3), .val (.int m), .val (.ref b2), .val (.int (2 : Int32))]) rfl ?_
            show Steps pP.tables eE below (T53.setTop (mkF mM 73 #[.val (.int u0), .val (.int u1), .val (.int u2), .val (.int u3), .val (.int m), .val (.ref b2), .val (.int (2 : Int32))] [])) _
            refine XS.aload X53.here hx rfl (hb hby d3_73) rfl rfl ?_
            show Steps pP.tables eE below (T53.setTop (mkF mM 75 #[.val (.int u0), .val (.int u1), .val (.int u2), .val (.int u3), .val (.int m), .val (.ref b2), .val (.int (2 : Int32))] [(.ref b2)])) _
            refine XS.iload X53.here hx rfl (hb hby d3_75) rfl ?_
            exact kg)
          have c56 := (Nat.le_trans (Nat.le_trans (Nat.le_trans Z0 E2.1) (Keep.of_wr W38).1) (Keep.of_wr W53).1)
          obtain ⟨_, _, ⟨T57, L57, kk57, nn57⟩, -, X57, ⟨Lc57, hQ57, l57, y57, z57⟩, st57⟩ := Jvm.LawKit.callS X53 hx (y := (⟨"com/example/refine/refine/refinement/NormalisedLtsFirstNotInPinLaw", "take", "([II)[I"⟩ : MethodName)) hown (mvT hZ (hw _ (List.mem_of_getElem? (i := 11) rfl))) (mvT hZ (hw _ (List.mem_of_getElem? (i := 12) rfl))) (mvT hZ (hw _ (List.mem_of_getElem? (i := 8) rfl))) (mvT hZ (hw _ (List.mem_of_getElem? (i := 13) rfl))) (by decide) (backOf (W := 0) (rm22 l Z a0 hw [] b2 k2 u2 u3 (0 : Int32) (0 : Int32) h53 n0 c56 V53) hZ (hw _ (List.mem_of_getElem? (i := 13) rfl)) (hw _ (List.mem_of_getElem? (i := 8) rfl)) (by decide) (by decide)) (g := (mkF mM 77 #[.val (.int u0), .val (.int u1), .val (.int u2), .val (.int u3), .val (.int m), .val (.ref b2), .val (.int (2 : Int32))] [(.int (2 : Int32)), (.ref b2)])) rfl (by rw [hml]; rfl) (argsL := [(.ref b2), (.int (2 : Int32))]) (rest := []) (lenOf pd_0 rfl) rfl (by show 2 * 0 + _ ≤ _; exact Nat.le_of_eq rfl) (hb hby d3_77) (fun _ _ => ⟨rfl, e53, (by decide : 1 + 1 ≤ _), (by decide : 4 + 2 ≤ _)⟩)
          dsimp only [Pt.U, Pt.locs, Pt.cells, Pt.slots] at X57 l57 y57 z57 st57 hQ57
          subst l57 y57 z57
          obtain ⟨bt57, rfl, ge57, Nq57, K57, kt57, V57⟩ := hQ57
          have N57 := Fr.app N53 Nq57
          have ne58 : b2 ≠ bt57 := Nat.ne_of_lt (Nat.lt_of_lt_of_le (V53).lt ge57)
          have gn59 : n0 ≤ bt57 := Nat.le_trans c56 ge57
          have c61 := (Keep.wr (Keep.wr (Keep.ext (Keep.refl h0 []) E2) W38 (Or.inr gs4)) W53 (Or.inr gs4))
          have gs60 : h0.size ≤ bt57 := Nat.le_trans c61.1 ge57
          have pr62 : ∀ tg, Steps pP.tables eE below (T57.setTop (mkF mM 80 #[.val (.int u0), .val (.int u1), .val (.int u2), .val (.int u3), .val (.int m), .val (.ref b2), .val (.int (2 : Int32))] [(.ref bt57)])) tg → Steps pP.tables eE below (s₁.setTop (entryFrame mM #[(.int u0), (.int u1), (.int u2), (.int u3), (.int m)] 7)) tg := fun tg kg => pr55 _ (st57 _ kg)
          have c63 := (Keep.trans c61 K57 all0)
          obtain ⟨fs, hr, hrun, hended, hW, hsame⟩ := X57.leave (v := some (.ref bt57)) (fun h => by rw [Bd.returns] at h; cases h)
          refine ⟨_, _, pr62 _ (retOut X57 hx (t := (.array .int)) Bd.returns rfl (Or.inr (Or.inr (Or.inr (Or.inr ⟨rfl, rfl, rfl⟩)))) (hb hby d3_80) hr), hrun, hended, _, _, rfl, ?_, ⟨_, rfl⟩, hW, hsame.mono (by decide) (by decide)⟩
          show Q3 Z u0 u1 u2 u3 m h0 n0 _ T57.heap _
          exact ⟨_, rfl, gs60, N57, c63, _, by unfold own_pick; rw [if_pos hc12_6, if_pos hc28_8, if_neg hc44_10, if_neg hc61_40]; exact V57⟩
    ·
      have pr64 : ∀ tg, Steps pP.tables eE below (T2.setTop (mkF mM 36 #[.val (.int u0), .val (.int u1), .val (.int u2), .val (.int u3), .val (.int m), .val (.ref b2), .val (.int (0 : Int32))] [(.int u1), (.int (0 : Int32)), (.ref b2)])) tg → Steps pP.tables eE below (s₁.setTop (entryFrame mM #[(.int u0), (.int u1), (.int u2), (.int u3), (.int m)] 7)) tg := fun tg kg => pr9 _ (by
        show Steps pP.tables eE below (T2.setTop (mkF mM 28 #[.val (.int u0), .val (.int u1), .val (.int u2), .val (.int u3), .val (.int m), .val (.ref b2), .val (.int (0 : Int32))] [(.int (m &&& (2 : Int32)))])) _
        refine XS.ifNo X2.here hx rfl (hb hby d3_28) rfl ((if0 _ _).trans (feq hc28_8).1) ?_
        show Steps pP.tables eE below (T2.setTop (mkF mM 31 #[.val (.int u0), .val (.int u1), .val (.int u2), .val (.int u3), .val (.int m), .val (.ref b2), .val (.int (0 : Int32))] [])) _
        refine XS.aload X2.here hx rfl (hb hby d3_31) rfl rfl ?_
        show Steps pP.tables eE below (T2.setTop (mkF mM 33 #[.val (.int u0), .val (.int u1), .val (.int u2), .val (.int u3), .val (.int m), .val (.ref b2), .val (.int (0 : Int32))] [(.ref b2)])) _
        refine XS.iload X2.here hx rfl (hb hby d3_33) rfl ?_
        show Steps pP.tables eE below (T2.setTop (mkF mM 35 #[.val (.int u0), .val (.int u1), .val (.int u2), .val (.int u3), .val (.int m), .val (.ref b2), .val (.int (0 : Int32))] [(.int (0 : Int32)), (.ref b2)])) _
        refine XS.iloadN X2.here hx rfl (hb hby d3_35) rfl ?_
        exact kg)
      obtain ⟨cla65, Ara65, qa65, Sa65, Ma65, Ha65, Ga65⟩ := id V2
      have hin66 : ¬ ((0 : Int32) < 0 ∨ cla65.slots.size ≤ ((0 : Int32)).toNatClampNeg) := inb_of Sa65 ⟨by decide, by decide⟩
      obtain ⟨T66, h66, X66, e66, W66, st66⟩ := stI X2 hx hZ e2 Ara65 (j := (0 : Int32)) hin66 (g := (mkF mM 36 #[.val (.int u0), .val (.int u1), .val (.int u2), .val (.int u3), .val (.int m), .val (.ref b2), .val (.int (0 : Int32))] [(.int u1), (.int (0 : Int32)), (.ref b2)])) rfl rfl (hb hby d3_36)
      have V66 : Arv Z h66 b2 k2 .int (4 : Int32) [(.int u1), (.int (0 : Int32)), (.int (0 : Int32)), (.int (0 : Int32))] (.int (0 : Int32)) := Arv.set Ara65 qa65 Sa65 Ma65 Ha65 Ga65 rfl W66 0 rfl (Nat.le_of_ble_eq_true rfl)
      have N66 := Fr.snoc X66 N0 gn3
      have pr67 : ∀ tg, Steps pP.tables eE below (T66.setTop (mkF mM 37 #[.val (.int u0), .val (.int u1), .val (.int u2), .val (.int u3), .val (.int m), .val (.ref b2), .val (.int (0 : Int32))] [])) tg → Steps pP.tables eE below (s₁.setTop (entryFrame mM #[(.int u0), (.int u1), (.int u2), (.int u3), (.int m)] 7)) tg := fun tg kg => pr64 _ (st66 _ kg)
      have pr69 : ∀ tg, Steps pP.tables eE below (T66.setTop (mkF mM 44 #[.val (.int u0), .val (.int u1), .val (.int u2), .val (.int u3), .val (.int m), .val (.ref b2), .val (.int (1 : Int32))] [(.int (m &&& (4 : Int32)))])) tg → Steps pP.tables eE below (s₁.setTop (entryFrame mM #[(.int u0), (.int u1), (.int u2), (.int u3), (.int m)] 7)) tg := fun tg kg => pr67 _ (by
        show Steps pP.tables eE below (T66.setTop (mkF mM 37 #[.val (.int u0), .val (.int u1), .val (.int u2), .val (.int u3), .val (.int m), .val (.ref b2), .val (.int (0 : Int32))] [])) _
        refine XS.iinc X66.here hx rfl (hb hby d3_37) rfl (l' := #[.val (.int u0), .val (.int u1), .val (.int u2), .val (.int u3), .val (.int m), .val (.ref b2), .val (.int (1 : Int32))]) rfl ?_
        show Steps pP.tables eE below (T66.setTop (mkF mM 40 #[.val (.int u0), .val (.int u1), .val (.int u2), .val (.int u3), .val (.int m), .val (.ref b2), .val (.int (1 : Int32))] [])) _
        refine XS.iload X66.here hx rfl (hb hby d3_40) rfl ?_
        show Steps pP.tables eE below (T66.setTop (mkF mM 42 #[.val (.int u0), .val (.int u1), .val (.int u2), .val (.int u3), .val (.int m), .val (.ref b2), .val (.int (1 : Int32))] [(.int m)])) _
        refine XS.iconst X66.here hx rfl (hb hby d3_42) ?_
        show Steps pP.tables eE below (T66.setTop (mkF mM 43 #[.val (.int u0), .val (.int u1), .val (.int u2), .val (.int u3), .val (.int m), .val (.ref b2), .val (.int (1 : Int32))] [(.int (4 : Int32)), (.int m)])) _
        refine XS.iand X66.here hx rfl (hb hby d3_43) rfl ?_
        exact kg)
      by_cases hc44_68 : (m &&& (4 : Int32)) = (0 : Int32)
      ·
        have pr71 : ∀ tg, Steps pP.tables eE below (T66.setTop (mkF mM 61 #[.val (.int u0), .val (.int u1), .val (.int u2), .val (.int u3), .val (.int m), .val (.ref b2), .val (.int (1 : Int32))] [(.int (m &&& (8 : Int32)))])) tg → Steps pP.tables eE below (s₁.setTop (entryFrame mM #[(.int u0), (.int u1), (.int u2), (.int u3), (.int m)] 7)) tg := fun tg kg => pr69 _ (by
          show Steps pP.tables eE below (T66.setTop (mkF mM 44 #[.val (.int u0), .val (.int u1), .val (.int u2), .val (.int u3), .val (.int m), .val (.ref b2), .val (.int (1 : Int32))] [(.int (m &&& (4 : Int32)))])) _
          refine XS.ifYes X66.here hx rfl (pc0 := 44) (pc' := 56) rfl (hb hby d3_44) rfl ((if0 _ _).trans (teq hc44_68).1) (by decide) (by decide) ?_
          show Steps pP.tables eE below (T66.setTop (mkF mM 56 #[.val (.int u0), .val (.int u1), .val (.int u2), .val (.int u3), .val (.int m), .val (.ref b2), .val (.int (1 : Int32))] [])) _
          refine XS.iload X66.here hx rfl (hb hby d3_56) rfl ?_
          show Steps pP.tables eE below (T66.setTop (mkF mM 58 #[.val (.int u0), .val (.int u1), .val (.int u2), .val (.int u3), .val (.int m), .val (.ref b2), .val (.int (1 : Int32))] [(.int m)])) _
          refine XS.bipush X66.here hx rfl (hb hby d3_58) ?_
          show Steps pP.tables eE below (T66.setTop (mkF mM 60 #[.val (.int u0), .val (.int u1), .val (.int u2), .val (.int u3), .val (.int m), .val (.ref b2), .val (.int (1 : Int32))] [(.int (8 : Int32)), (.int m)])) _
          refine XS.iand X66.here hx rfl (hb hby d3_60) rfl ?_
          exact kg)
        by_cases hc61_70 : (m &&& (8 : Int32)) = (0 : Int32)
        ·
          have pr72 : ∀ tg, Steps pP.tables eE below (T66.setTop (mkF mM 77 #[.val (.int u0), .val (.int u1), .val (.int u2), .val (.int u3), .val (.int m), .val (.ref b2), .val (.int (1 : Int32))] [(.int (1 : Int32)), (.ref b2)])) tg → Steps pP.tables eE below (s₁.setTop (entryFrame mM #[(.int u0), (.int u1), (.int u2), (.int u3), (.int m)] 7)) tg := fun tg kg => pr71 _ (by
            show Steps pP.tables eE below (T66.setTop (mkF mM 61 #[.val (.int u0), .val (.int u1), .val (.int u2), .val (.int u3), .val (.int m), .val (.ref b2), .val (.int (1 : Int32))] [(.int (m &&& (8 : Int32)))])) _
            refine XS.ifYes X66.here hx rfl (pc0 := 61) (pc' := 73) rfl (hb hby d3_61) rfl ((if0 _ _).trans (teq hc61_70).1) (by decide) (by decide) ?_
            show Steps pP.tables eE below (T66.setTop (mkF mM 73 #[.val (.int u0), .val (.int u1), .val (.int u2), .val (.int u3), .val (.int m), .val (.ref b2), .val (.int (1 : Int32))] [])) _
            refine XS.aload X66.here hx rfl (hb hby d3_73) rfl rfl ?_
            show Steps pP.tables eE below (T66.setTop (mkF mM 75 #[.val (.int u0), .val (.int u1), .val (.int u2), .val (.int u3), .val (.int m), .val (.ref b2), .val (.int (1 : Int32))] [(.ref b2)])) _
            refine XS.iload X66.here hx rfl (hb hby d3_75) rfl ?_
            exact kg)
          have c73 := (Nat.le_trans (Nat.le_trans Z0 E2.1) (Keep.of_wr W66).1)
          obtain ⟨_, _, ⟨T74, L74, kk74, nn74⟩, -, X74, ⟨Lc74, hQ74, l74, y74, z74⟩, st74⟩ := Jvm.LawKit.callS X66 hx (y := (⟨"com/example/refine/refine/refinement/NormalisedLtsFirstNotInPinLaw", "take", "([II)[I"⟩ : MethodName)) hown (mvT hZ (hw _ (List.mem_of_getElem? (i := 11) rfl))) (mvT hZ (hw _ (List.mem_of_getElem? (i := 12) rfl))) (mvT hZ (hw _ (List.mem_of_getElem? (i := 8) rfl))) (mvT hZ (hw _ (List.mem_of_getElem? (i := 13) rfl))) (by decide) (backOf (W := 0) (rm21 l Z a0 hw [] b2 k2 u1 (0 : Int32) (0 : Int32) (0 : Int32) h66 n0 c73 V66) hZ (hw _ (List.mem_of_getElem? (i := 13) rfl)) (hw _ (List.mem_of_getElem? (i := 8) rfl)) (by decide) (by decide)) (g := (mkF mM 77 #[.val (.int u0), .val (.int u1), .val (.int u2), .val (.int u3), .val (.int m), .val (.ref b2), .val (.int (1 : Int32))] [(.int (1 : Int32)), (.ref b2)])) rfl (by rw [hml]; rfl) (argsL := [(.ref b2), (.int (1 : Int32))]) (rest := []) (lenOf pd_0 rfl) rfl (by show 2 * 0 + _ ≤ _; exact Nat.le_of_eq rfl) (hb hby d3_77) (fun _ _ => ⟨rfl, e66, (by decide : 1 + 1 ≤ _), (by decide : 4 + 1 ≤ _)⟩)
          dsimp only [Pt.U, Pt.locs, Pt.cells, Pt.slots] at X74 l74 y74 z74 st74 hQ74
          subst l74 y74 z74
          obtain ⟨bt74, rfl, ge74, Nq74, K74, kt74, V74⟩ := hQ74
          have N74 := Fr.app N66 Nq74
          have ne75 : b2 ≠ bt74 := Nat.ne_of_lt (Nat.lt_of_lt_of_le (V66).lt ge74)
          have gn76 : n0 ≤ bt74 := Nat.le_trans c73 ge74
          have c78 := (Keep.wr (Keep.ext (Keep.refl h0 []) E2) W66 (Or.inr gs4))
          have gs77 : h0.size ≤ bt74 := Nat.le_trans c78.1 ge74
          have pr79 : ∀ tg, Steps pP.tables eE below (T74.setTop (mkF mM 80 #[.val (.int u0), .val (.int u1), .val (.int u2), .val (.int u3), .val (.int m), .val (.ref b2), .val (.int (1 : Int32))] [(.ref bt74)])) tg → Steps pP.tables eE below (s₁.setTop (entryFrame mM #[(.int u0), (.int u1), (.int u2), (.int u3), (.int m)] 7)) tg := fun tg kg => pr72 _ (st74 _ kg)
          have c80 := (Keep.trans c78 K74 all0)
          obtain ⟨fs, hr, hrun, hended, hW, hsame⟩ := X74.leave (v := some (.ref bt74)) (fun h => by rw [Bd.returns] at h; cases h)
          refine ⟨_, _, pr79 _ (retOut X74 hx (t := (.array .int)) Bd.returns rfl (Or.inr (Or.inr (Or.inr (Or.inr ⟨rfl, rfl, rfl⟩)))) (hb hby d3_80) hr), hrun, hended, _, _, rfl, ?_, ⟨_, rfl⟩, hW, hsame.mono (by decide) (by decide)⟩
          show Q3 Z u0 u1 u2 u3 m h0 n0 _ T74.heap _
          exact ⟨_, rfl, gs77, N74, c80, _, by unfold own_pick; rw [if_pos hc12_6, if_neg hc28_8, if_pos hc44_68, if_pos hc61_70]; exact V74⟩
        ·
          have pr81 : ∀ tg, Steps pP.tables eE below (T66.setTop (mkF mM 69 #[.val (.int u0), .val (.int u1), .val (.int u2), .val (.int u3), .val (.int m), .val (.ref b2), .val (.int (1 : Int32))] [(.int u3), (.int (1 : Int32)), (.ref b2)])) tg → Steps pP.tables eE below (s₁.setTop (entryFrame mM #[(.int u0), (.int u1), (.int u2), (.int u3), (.int m)] 7)) tg := fun tg kg => pr71 _ (by
            show Steps pP.tables eE below (T66.setTop (mkF mM 61 #[.val (.int u0), .val (.int u1), .val (.int u2), .val (.int u3), .val (.int m), .val (.ref b2), .val (.int (1 : Int32))] [(.int (m &&& (8 : Int32)))])) _
            refine XS.ifNo X66.here hx rfl (hb hby d3_61) rfl ((if0 _ _).trans (feq hc61_70).1) ?_
            show Steps pP.tables eE below (T66.setTop (mkF mM 64 #[.val (.int u0), .val (.int u1), .val (.int u2), .val (.int u3), .val (.int m), .val (.ref b2), .val (.int (1 : Int32))] [])) _
            refine XS.aload X66.here hx rfl (hb hby d3_64) rfl rfl ?_
            show Steps pP.tables eE below (T66.setTop (mkF mM 66 #[.val (.int u0), .val (.int u1), .val (.int u2), .val (.int u3), .val (.int m), .val (.ref b2), .val (.int (1 : Int32))] [(.ref b2)])) _
            refine XS.iload X66.here hx rfl (hb hby d3_66) rfl ?_
            show Steps pP.tables eE below (T66.setTop (mkF mM 68 #[.val (.int u0), .val (.int u1), .val (.int u2), .val (.int u3), .val (.int m), .val (.ref b2), .val (.int (1 : Int32))] [(.int (1 : Int32)), (.ref b2)])) _
            refine XS.iloadN X66.here hx rfl (hb hby d3_68) rfl ?_
            exact kg)
          obtain ⟨cla82, Ara82, qa82, Sa82, Ma82, Ha82, Ga82⟩ := id V66
          have hin83 : ¬ ((1 : Int32) < 0 ∨ cla82.slots.size ≤ ((1 : Int32)).toNatClampNeg) := inb_of Sa82 ⟨by decide, by decide⟩
          obtain ⟨T83, h83, X83, e83, W83, st83⟩ := stI X66 hx hZ e66 Ara82 (j := (1 : Int32)) hin83 (g := (mkF mM 69 #[.val (.int u0), .val (.int u1), .val (.int u2), .val (.int u3), .val (.int m), .val (.ref b2), .val (.int (1 : Int32))] [(.int u3), (.int (1 : Int32)), (.ref b2)])) rfl rfl (hb hby d3_69)
          have V83 : Arv Z h83 b2 k2 .int (4 : Int32) [(.int u1), (.int u3), (.int (0 : Int32)), (.int (0 : Int32))] (.int (0 : Int32)) := Arv.set Ara82 qa82 Sa82 Ma82 Ha82 Ga82 rfl W83 1 rfl (Nat.le_of_ble_eq_true rfl)
          have N83 := Fr.snoc X83 N66 gn3
          have pr84 : ∀ tg, Steps pP.tables eE below (T83.setTop (mkF mM 70 #[.val (.int u0), .val (.int u1), .val (.int u2), .val (.int u3), .val (.int m), .val (.ref b2), .val (.int (1 : Int32))] [])) tg → Steps pP.tables eE below (s₁.setTop (entryFrame mM #[(.int u0), (.int u1), (.int u2), (.int u3), (.int m)] 7)) tg := fun tg kg => pr81 _ (st83 _ kg)
          have pr85 : ∀ tg, Steps pP.tables eE below (T83.setTop (mkF mM 77 #[.val (.int u0), .val (.int u1), .val (.int u2), .val (.int u3), .val (.int m), .val (.ref b2), .val (.int (2 : Int32))] [(.int (2 : Int32)), (.ref b2)])) tg → Steps pP.tables eE below (s₁.setTop (entryFrame mM #[(.int u0), (.int u1), (.int u2), (.int u3), (.int m)] 7)) tg := fun tg kg => pr84 _ (by
            show Steps pP.tables eE below (T83.setTop (mkF mM 70 #[.val (.int u0), .val (.int u1), .val (.int u2), .val (.int u3), .val (.int m), .val (.ref b2), .val (.int (1 : Int32))] [])) _
            refine XS.iinc X83.here hx rfl (hb hby d3_70) rfl (l' := #[.val (.int u0), .val (.int u1), .val (.int u2), .val (.int u3), .val (.int m), .val (.ref b2), .val (.int (2 : Int32))]) rfl ?_
            show Steps pP.tables eE below (T83.setTop (mkF mM 73 #[.val (.int u0), .val (.int u1), .val (.int u2), .val (.int u3), .val (.int m), .val (.ref b2), .val (.int (2 : Int32))] [])) _
            refine XS.aload X83.here hx rfl (hb hby d3_73) rfl rfl ?_
            show Steps pP.tables eE below (T83.setTop (mkF mM 75 #[.val (.int u0), .val (.int u1), .val (.int u2), .val (.int u3), .val (.int m), .val (.ref b2), .val (.int (2 : Int32))] [(.ref b2)])) _
            refine XS.iload X83.here hx rfl (hb hby d3_75) rfl ?_
            exact kg)
          have c86 := (Nat.le_trans (Nat.le_trans (Nat.le_trans Z0 E2.1) (Keep.of_wr W66).1) (Keep.of_wr W83).1)
          obtain ⟨_, _, ⟨T87, L87, kk87, nn87⟩, -, X87, ⟨Lc87, hQ87, l87, y87, z87⟩, st87⟩ := Jvm.LawKit.callS X83 hx (y := (⟨"com/example/refine/refine/refinement/NormalisedLtsFirstNotInPinLaw", "take", "([II)[I"⟩ : MethodName)) hown (mvT hZ (hw _ (List.mem_of_getElem? (i := 11) rfl))) (mvT hZ (hw _ (List.mem_of_getElem? (i := 12) rfl))) (mvT hZ (hw _ (List.mem_of_getElem? (i := 8) rfl))) (mvT hZ (hw _ (List.mem_of_getElem? (i := 13) rfl))) (by decide) (backOf (W := 0) (rm22 l Z a0 hw [] b2 k2 u1 u3 (0 : Int32) (0 : Int32) h83 n0 c86 V83) hZ (hw _ (List.mem_of_getElem? (i := 13) rfl)) (hw _ (List.mem_of_getElem? (i := 8) rfl)) (by decide) (by decide)) (g := (mkF mM 77 #[.val (.int u0), .val (.int u1), .val (.int u2), .val (.int u3), .val (.int m), .val (.ref b2), .val (.int (2 : Int32))] [(.int (2 : Int32)), (.ref b2)])) rfl (by rw [hml]; rfl) (argsL := [(.ref b2), (.int (2 : Int32))]) (rest := []) (lenOf pd_0 rfl) rfl (by show 2 * 0 + _ ≤ _; exact Nat.le_of_eq rfl) (hb hby d3_77) (fun _ _ => ⟨rfl, e83, (by decide : 1 + 1 ≤ _), (by decide : 4 + 2 ≤ _)⟩)
          dsimp only [Pt.U, Pt.locs, Pt.cells, Pt.slots] at X87 l87 y87 z87 st87 hQ87
          subst l87 y87 z87
          obtain ⟨bt87, rfl, ge87, Nq87, K87, kt87, V87⟩ := hQ87
          have N87 := Fr.app N83 Nq87
          have ne88 : b2 ≠ bt87 := Nat.ne_of_lt (Nat.lt_of_lt_of_le (V83).lt ge87)
          have gn89 : n0 ≤ bt87 := Nat.le_trans c86 ge87
          have c91 := (Keep.wr (Keep.wr (Keep.ext (Keep.refl h0 []) E2) W66 (Or.inr gs4)) W83 (Or.inr gs4))
          have gs90 : h0.size ≤ bt87 := Nat.le_trans c91.1 ge87
          have pr92 : ∀ tg, Steps pP.tables eE below (T87.setTop (mkF mM 80 #[.val (.int u0), .val (.int u1), .val (.int u2), .val (.int u3), .val (.int m), .val (.ref b2), .val (.int (2 : Int32))] [(.ref bt87)])) tg → Steps pP.tables eE below (s₁.setTop (entryFrame mM #[(.int u0), (.int u1), (.int u2), (.int u3), (.int m)] 7)) tg := fun tg kg => pr85 _ (st87 _ kg)
          have c93 := (Keep.trans c91 K87 all0)
          obtain ⟨fs, hr, hrun, hended, hW, hsame⟩ := X87.leave (v := some (.ref bt87)) (fun h => by rw [Bd.returns] at h; cases h)
          refine ⟨_, _, pr92 _ (retOut X87 hx (t := (.array .int)) Bd.returns rfl (Or.inr (Or.inr (Or.inr (Or.inr ⟨rfl, rfl, rfl⟩)))) (hb hby d3_80) hr), hrun, hended, _, _, rfl, ?_, ⟨_, rfl⟩, hW, hsame.mono (by decide) (by decide)⟩
          show Q3 Z u0 u1 u2 u3 m h0 n0 _ T87.heap _
          exact ⟨_, rfl, gs90, N87, c93, _, by unfold own_pick; rw [if_pos hc12_6, if_neg hc28_8, if_pos hc44_68, if_neg hc61_70]; exact V87⟩
      ·
        have pr94 : ∀ tg, Steps pP.tables eE below (T66.setTop (mkF mM 52 #[.val (.int u0), .val (.int u1), .val (.int u2), .val (.int u3), .val (.int m), .val (.ref b2), .val (.int (1 : Int32))] [(.int u2), (.int (1 : Int32)), (.ref b2)])) tg → Steps pP.tables eE below (s₁.setTop (entryFrame mM #[(.int u0), (.int u1), (.int u2), (.int u3), (.int m)] 7)) tg := fun tg kg => pr69 _ (by
          show Steps pP.tables eE below (T66.setTop (mkF mM 44 #[.val (.int u0), .val (.int u1), .val (.int u2), .val (.int u3), .val (.int m), .val (.ref b2), .val (.int (1 : Int32))] [(.int (m &&& (4 : Int32)))])) _
          refine XS.ifNo X66.here hx rfl (hb hby d3_44) rfl ((if0 _ _).trans (feq hc44_68).1) ?_
          show Steps pP.tables eE below (T66.setTop (mkF mM 47 #[.val (.int u0), .val (.int u1), .val (.int u2), .val (.int u3), .val (.int m), .val (.ref b2), .val (.int (1 : Int32))] [])) _
          refine XS.aload X66.here hx rfl (hb hby d3_47) rfl rfl ?_
          show Steps pP.tables eE below (T66.setTop (mkF mM 49 #[.val (.int u0), .val (.int u1), .val (.int u2), .val (.int u3), .val (.int m), .val (.ref b2), .val (.int (1 : Int32))] [(.ref b2)])) _
          refine XS.iload X66.here hx rfl (hb hby d3_49) rfl ?_
          show Steps pP.tables eE below (T66.setTop (mkF mM 51 #[.val (.int u0), .val (.int u1), .val (.int u2), .val (.int u3), .val (.int m), .val (.ref b2), .val (.int (1 : Int32))] [(.int (1 : Int32)), (.ref b2)])) _
          refine XS.iloadN X66.here hx rfl (hb hby d3_51) rfl ?_
          exact kg)
        obtain ⟨cla95, Ara95, qa95, Sa95, Ma95, Ha95, Ga95⟩ := id V66
        have hin96 : ¬ ((1 : Int32) < 0 ∨ cla95.slots.size ≤ ((1 : Int32)).toNatClampNeg) := inb_of Sa95 ⟨by decide, by decide⟩
        obtain ⟨T96, h96, X96, e96, W96, st96⟩ := stI X66 hx hZ e66 Ara95 (j := (1 : Int32)) hin96 (g := (mkF mM 52 #[.val (.int u0), .val (.int u1), .val (.int u2), .val (.int u3), .val (.int m), .val (.ref b2), .val (.int (1 : Int32))] [(.int u2), (.int (1 : Int32)), (.ref b2)])) rfl rfl (hb hby d3_52)
        have V96 : Arv Z h96 b2 k2 .int (4 : Int32) [(.int u1), (.int u2), (.int (0 : Int32)), (.int (0 : Int32))] (.int (0 : Int32)) := Arv.set Ara95 qa95 Sa95 Ma95 Ha95 Ga95 rfl W96 1 rfl (Nat.le_of_ble_eq_true rfl)
        have N96 := Fr.snoc X96 N66 gn3
        have pr97 : ∀ tg, Steps pP.tables eE below (T96.setTop (mkF mM 53 #[.val (.int u0), .val (.int u1), .val (.int u2), .val (.int u3), .val (.int m), .val (.ref b2), .val (.int (1 : Int32))] [])) tg → Steps pP.tables eE below (s₁.setTop (entryFrame mM #[(.int u0), (.int u1), (.int u2), (.int u3), (.int m)] 7)) tg := fun tg kg => pr94 _ (st96 _ kg)
        have pr99 : ∀ tg, Steps pP.tables eE below (T96.setTop (mkF mM 61 #[.val (.int u0), .val (.int u1), .val (.int u2), .val (.int u3), .val (.int m), .val (.ref b2), .val (.int (2 : Int32))] [(.int (m &&& (8 : Int32)))])) tg → Steps pP.tables eE below (s₁.setTop (entryFrame mM #[(.int u0), (.int u1), (.int u2), (.int u3), (.int m)] 7)) tg := fun tg kg => pr97 _ (by
          show Steps pP.tables eE below (T96.setTop (mkF mM 53 #[.val (.int u0), .val (.int u1), .val (.int u2), .val (.int u3), .val (.int m), .val (.ref b2), .val (.int (1 : Int32))] [])) _
          refine XS.iinc X96.here hx rfl (hb hby d3_53) rfl (l' := #[.val (.int u0), .val (.int u1), .val (.int u2), .val (.int u3), .val (.int m), .val (.ref b2), .val (.int (2 : Int32))]) rfl ?_
          show Steps pP.tables eE below (T96.setTop (mkF mM 56 #[.val (.int u0), .val (.int u1), .val (.int u2), .val (.int u3), .val (.int m), .val (.ref b2), .val (.int (2 : Int32))] [])) _
          refine XS.iload X96.here hx rfl (hb hby d3_56) rfl ?_
          show Steps pP.tables eE below (T96.setTop (mkF mM 58 #[.val (.int u0), .val (.int u1), .val (.int u2), .val (.int u3), .val (.int m), .val (.ref b2), .val (.int (2 : Int32))] [(.int m)])) _
          refine XS.bipush X96.here hx rfl (hb hby d3_58) ?_
          show Steps pP.tables eE below (T96.setTop (mkF mM 60 #[.val (.int u0), .val (.int u1), .val (.int u2), .val (.int u3), .val (.int m), .val (.ref b2), .val (.int (2 : Int32))] [(.int (8 : Int32)), (.int m)])) _
          refine XS.iand X96.here hx rfl (hb hby d3_60) rfl ?_
          exact kg)
        by_cases hc61_98 : (m &&& (8 : Int32)) = (0 : Int32)
        ·
          have pr100 : ∀ tg, Steps pP.tables eE below (T96.setTop (mkF mM 77 #[.val (.int u0), .val (.int u1), .val (.int u2), .val (.int u3), .val (.int m), .val (.ref b2), .val (.int (2 : Int32))] [(.int (2 : Int32)), (.ref b2)])) tg → Steps pP.tables eE below (s₁.setTop (entryFrame mM #[(.int u0), (.int u1), (.int u2), (.int u3), (.int m)] 7)) tg := fun tg kg => pr99 _ (by
            show Steps pP.tables eE below (T96.setTop (mkF mM 61 #[.val (.int u0), .val (.int u1), .val (.int u2), .val (.int u3), .val (.int m), .val (.ref b2), .val (.int (2 : Int32))] [(.int (m &&& (8 : Int32)))])) _
            refine XS.ifYes X96.here hx rfl (pc0 := 61) (pc' := 73) rfl (hb hby d3_61) rfl ((if0 _ _).trans (teq hc61_98).1) (by decide) (by decide) ?_
            show Steps pP.tables eE below (T96.setTop (mkF mM 73 #[.val (.int u0), .val (.int u1), .val (.int u2), .val (.int u3), .val (.int m), .val (.ref b2), .val (.int (2 : Int32))] [])) _
            refine XS.aload X96.here hx rfl (hb hby d3_73) rfl rfl ?_
            show Steps pP.tables eE below (T96.setTop (mkF mM 75 #[.val (.int u0), .val (.int u1), .val (.int u2), .val (.int u3), .val (.int m), .val (.ref b2), .val (.int (2 : Int32))] [(.ref b2)])) _
            refine XS.iload X96.here hx rfl (hb hby d3_75) rfl ?_
            exact kg)
          have c101 := (Nat.le_trans (Nat.le_trans (Nat.le_trans Z0 E2.1) (Keep.of_wr W66).1) (Keep.of_wr W96).1)
          obtain ⟨_, _, ⟨T102, L102, kk102, nn102⟩, -, X102, ⟨Lc102, hQ102, l102, y102, z102⟩, st102⟩ := Jvm.LawKit.callS X96 hx (y := (⟨"com/example/refine/refine/refinement/NormalisedLtsFirstNotInPinLaw", "take", "([II)[I"⟩ : MethodName)) hown (mvT hZ (hw _ (List.mem_of_getElem? (i := 11) rfl))) (mvT hZ (hw _ (List.mem_of_getElem? (i := 12) rfl))) (mvT hZ (hw _ (List.mem_of_getElem? (i := 8) rfl))) (mvT hZ (hw _ (List.mem_of_getElem? (i := 13) rfl))) (by decide) (backOf (W := 0) (rm22 l Z a0 hw [] b2 k2 u1 u2 (0 : Int32) (0 : Int32) h96 n0 c101 V96) hZ (hw _ (List.mem_of_getElem? (i := 13) rfl)) (hw _ (List.mem_of_getElem? (i := 8) rfl)) (by decide) (by decide)) (g := (mkF mM 77 #[.val (.int u0), .val (.int u1), .val (.int u2), .val (.int u3), .val (.int m), .val (.ref b2), .val (.int (2 : Int32))] [(.int (2 : Int32)), (.ref b2)])) rfl (by rw [hml]; rfl) (argsL := [(.ref b2), (.int (2 : Int32))]) (rest := []) (lenOf pd_0 rfl) rfl (by show 2 * 0 + _ ≤ _; exact Nat.le_of_eq rfl) (hb hby d3_77) (fun _ _ => ⟨rfl, e96, (by decide : 1 + 1 ≤ _), (by decide : 4 + 2 ≤ _)⟩)
          dsimp only [Pt.U, Pt.locs, Pt.cells, Pt.slots] at X102 l102 y102 z102 st102 hQ102
          subst l102 y102 z102
          obtain ⟨bt102, rfl, ge102, Nq102, K102, kt102, V102⟩ := hQ102
          have N102 := Fr.app N96 Nq102
          have ne103 : b2 ≠ bt102 := Nat.ne_of_lt (Nat.lt_of_lt_of_le (V96).lt ge102)
          have gn104 : n0 ≤ bt102 := Nat.le_trans c101 ge102
          have c106 := (Keep.wr (Keep.wr (Keep.ext (Keep.refl h0 []) E2) W66 (Or.inr gs4)) W96 (Or.inr gs4))
          have gs105 : h0.size ≤ bt102 := Nat.le_trans c106.1 ge102
          have pr107 : ∀ tg, Steps pP.tables eE below (T102.setTop (mkF mM 80 #[.val (.int u0), .val (.int u1), .val (.int u2), .val (.int u3), .val (.int m), .val (.ref b2), .val (.int (2 : Int32))] [(.ref bt102)])) tg → Steps pP.tables eE below (s₁.setTop (entryFrame mM #[(.int u0), (.int u1), (.int u2), (.int u3), (.int m)] 7)) tg := fun tg kg => pr100 _ (st102 _ kg)
          have c108 := (Keep.trans c106 K102 all0)
          obtain ⟨fs, hr, hrun, hended, hW, hsame⟩ := X102.leave (v := some (.ref bt102)) (fun h => by rw [Bd.returns] at h; cases h)
          refine ⟨_, _, pr107 _ (retOut X102 hx (t := (.array .int)) Bd.returns rfl (Or.inr (Or.inr (Or.inr (Or.inr ⟨rfl, rfl, rfl⟩)))) (hb hby d3_80) hr), hrun, hended, _, _, rfl, ?_, ⟨_, rfl⟩, hW, hsame.mono (by decide) (by decide)⟩
          show Q3 Z u0 u1 u2 u3 m h0 n0 _ T102.heap _
          exact ⟨_, rfl, gs105, N102, c108, _, by unfold own_pick; rw [if_pos hc12_6, if_neg hc28_8, if_neg hc44_68, if_pos hc61_98]; exact V102⟩
        ·
          have pr109 : ∀ tg, Steps pP.tables eE below (T96.setTop (mkF mM 69 #[.val (.int u0), .val (.int u1), .val (.int u2), .val (.int u3), .val (.int m), .val (.ref b2), .val (.int (2 : Int32))] [(.int u3), (.int (2 : Int32)), (.ref b2)])) tg → Steps pP.tables eE below (s₁.setTop (entryFrame mM #[(.int u0), (.int u1), (.int u2), (.int u3), (.int m)] 7)) tg := fun tg kg => pr99 _ (by
            show Steps pP.tables eE below (T96.setTop (mkF mM 61 #[.val (.int u0), .val (.int u1), .val (.int u2), .val (.int u3), .val (.int m), .val (.ref b2), .val (.int (2 : Int32))] [(.int (m &&& (8 : Int32)))])) _
            refine XS.ifNo X96.here hx rfl (hb hby d3_61) rfl ((if0 _ _).trans (feq hc61_98).1) ?_
            show Steps pP.tables eE below (T96.setTop (mkF mM 64 #[.val (.int u0), .val (.int u1), .val (.int u2), .val (.int u3), .val (.int m), .val (.ref b2), .val (.int (2 : Int32))] [])) _
            refine XS.aload X96.here hx rfl (hb hby d3_64) rfl rfl ?_
            show Steps pP.tables eE below (T96.setTop (mkF mM 66 #[.val (.int u0), .val (.int u1), .val (.int u2), .val (.int u3), .val (.int m), .val (.ref b2), .val (.int (2 : Int32))] [(.ref b2)])) _
            refine XS.iload X96.here hx rfl (hb hby d3_66) rfl ?_
            show Steps pP.tables eE below (T96.setTop (mkF mM 68 #[.val (.int u0), .val (.int u1), .val (.int u2), .val (.int u3), .val (.int m), .val (.ref b2), .val (.int (2 : Int32))] [(.int (2 : Int32)), (.ref b2)])) _
            refine XS.iloadN X96.here hx rfl (hb hby d3_68) rfl ?_
            exact kg)
          obtain ⟨cla110, Ara110, qa110, Sa110, Ma110, Ha110, Ga110⟩ := id V96
          have hin111 : ¬ ((2 : Int32) < 0 ∨ cla110.slots.size ≤ ((2 : Int32)).toNatClampNeg) := inb_of Sa110 ⟨by decide, by decide⟩
          obtain ⟨T111, h111, X111, e111, W111, st111⟩ := stI X96 hx hZ e96 Ara110 (j := (2 : Int32)) hin111 (g := (mkF mM 69 #[.val (.int u0), .val (.int u1), .val (.int u2), .val (.int u3), .val (.int m), .val (.ref b2), .val (.int (2 : Int32))] [(.int u3), (.int (2 : Int32)), (.ref b2)])) rfl rfl (hb hby d3_69)
          have V111 : Arv Z h111 b2 k2 .int (4 : Int32) [(.int u1), (.int u2), (.int u3), (.int (0 : Int32))] (.int (0 : Int32)) := Arv.set Ara110 qa110 Sa110 Ma110 Ha110 Ga110 rfl W111 2 rfl (Nat.le_of_ble_eq_true rfl)
          have N111 := Fr.snoc X111 N96 gn3
          have pr112 : ∀ tg, Steps pP.tables eE below (T111.setTop (mkF mM 70 #[.val (.int u0), .val (.int u1), .val (.int u2), .val (.int u3), .val (.int m), .val (.ref b2), .val (.int (2 : Int32))] [])) tg → Steps pP.tables eE below (s₁.setTop (entryFrame mM #[(.int u0), (.int u1), (.int u2), (.int u3), (.int m)] 7)) tg := fun tg kg => pr109 _ (st111 _ kg)
          have pr113 : ∀ tg, Steps pP.tables eE below (T111.setTop (mkF mM 77 #[.val (.int u0), .val (.int u1), .val (.int u2), .val (.int u3), .val (.int m), .val (.ref b2), .val (.int (3 : Int32))] [(.int (3 : Int32)), (.ref b2)])) tg → Steps pP.tables eE below (s₁.setTop (entryFrame mM #[(.int u0), (.int u1), (.int u2), (.int u3), (.int m)] 7)) tg := fun tg kg => pr112 _ (by
            show Steps pP.tables eE below (T111.setTop (mkF mM 70 #[.val (.int u0), .val (.int u1), .val (.int u2), .val (.int u3), .val (.int m), .val (.ref b2), .val (.int (2 : Int32))] [])) _
            refine XS.iinc X111.here hx rfl (hb hby d3_70) rfl (l' := #[.val (.int u0), .val (.int u1), .val (.int u2), .val (.int u3), .val (.int m), .val (.ref b2), .val (.int (3 : Int32))]) rfl ?_
            show Steps pP.tables eE below (T111.setTop (mkF mM 73 #[.val (.int u0), .val (.int u1), .val (.int u2), .val (.int u3), .val (.int m), .val (.ref b2), .val (.int (3 : Int32))] [])) _
            refine XS.aload X111.here hx rfl (hb hby d3_73) rfl rfl ?_
            show Steps pP.tables eE below (T111.setTop (mkF mM 75 #[.val (.int u0), .val (.int u1), .val (.int u2), .val (.int u3), .val (.int m), .val (.ref b2), .val (.int (3 : Int32))] [(.ref b2)])) _
            refine XS.iload X111.here hx rfl (hb hby d3_75) rfl ?_
            exact kg)
          have c114 := (Nat.le_trans (Nat.le_trans (Nat.le_trans (Nat.le_trans Z0 E2.1) (Keep.of_wr W66).1) (Keep.of_wr W96).1) (Keep.of_wr W111).1)
          obtain ⟨_, _, ⟨T115, L115, kk115, nn115⟩, -, X115, ⟨Lc115, hQ115, l115, y115, z115⟩, st115⟩ := Jvm.LawKit.callS X111 hx (y := (⟨"com/example/refine/refine/refinement/NormalisedLtsFirstNotInPinLaw", "take", "([II)[I"⟩ : MethodName)) hown (mvT hZ (hw _ (List.mem_of_getElem? (i := 11) rfl))) (mvT hZ (hw _ (List.mem_of_getElem? (i := 12) rfl))) (mvT hZ (hw _ (List.mem_of_getElem? (i := 8) rfl))) (mvT hZ (hw _ (List.mem_of_getElem? (i := 13) rfl))) (by decide) (backOf (W := 0) (rm23 l Z a0 hw [] b2 k2 u1 u2 u3 (0 : Int32) h111 n0 c114 V111) hZ (hw _ (List.mem_of_getElem? (i := 13) rfl)) (hw _ (List.mem_of_getElem? (i := 8) rfl)) (by decide) (by decide)) (g := (mkF mM 77 #[.val (.int u0), .val (.int u1), .val (.int u2), .val (.int u3), .val (.int m), .val (.ref b2), .val (.int (3 : Int32))] [(.int (3 : Int32)), (.ref b2)])) rfl (by rw [hml]; rfl) (argsL := [(.ref b2), (.int (3 : Int32))]) (rest := []) (lenOf pd_0 rfl) rfl (by show 2 * 0 + _ ≤ _; exact Nat.le_of_eq rfl) (hb hby d3_77) (fun _ _ => ⟨rfl, e111, (by decide : 1 + 1 ≤ _), (by decide : 4 + 3 ≤ _)⟩)
          dsimp only [Pt.U, Pt.locs, Pt.cells, Pt.slots] at X115 l115 y115 z115 st115 hQ115
          subst l115 y115 z115
          obtain ⟨bt115, rfl, ge115, Nq115, K115, kt115, V115⟩ := hQ115
          have N115 := Fr.app N111 Nq115
          have ne116 : b2 ≠ bt115 := Nat.ne_of_lt (Nat.lt_of_lt_of_le (V111).lt ge115)
          have gn117 : n0 ≤ bt115 := Nat.le_trans c114 ge115
          have c119 := (Keep.wr (Keep.wr (Keep.wr (Keep.ext (Keep.refl h0 []) E2) W66 (Or.inr gs4)) W96 (Or.inr gs4)) W111 (Or.inr gs4))
          have gs118 : h0.size ≤ bt115 := Nat.le_trans c119.1 ge115
          have pr120 : ∀ tg, Steps pP.tables eE below (T115.setTop (mkF mM 80 #[.val (.int u0), .val (.int u1), .val (.int u2), .val (.int u3), .val (.int m), .val (.ref b2), .val (.int (3 : Int32))] [(.ref bt115)])) tg → Steps pP.tables eE below (s₁.setTop (entryFrame mM #[(.int u0), (.int u1), (.int u2), (.int u3), (.int m)] 7)) tg := fun tg kg => pr113 _ (st115 _ kg)
          have c121 := (Keep.trans c119 K115 all0)
          obtain ⟨fs, hr, hrun, hended, hW, hsame⟩ := X115.leave (v := some (.ref bt115)) (fun h => by rw [Bd.returns] at h; cases h)
          refine ⟨_, _, pr120 _ (retOut X115 hx (t := (.array .int)) Bd.returns rfl (Or.inr (Or.inr (Or.inr (Or.inr ⟨rfl, rfl, rfl⟩)))) (hb hby d3_80) hr), hrun, hended, _, _, rfl, ?_, ⟨_, rfl⟩, hW, hsame.mono (by decide) (by decide)⟩
          show Q3 Z u0 u1 u2 u3 m h0 n0 _ T115.heap _
          exact ⟨_, rfl, gs118, N115, c121, _, by unfold own_pick; rw [if_pos hc12_6, if_neg hc28_8, if_neg hc44_68, if_neg hc61_98]; exact V115⟩
  ·
    have pr122 : ∀ tg, Steps pP.tables eE below (T2.setTop (mkF mM 20 #[.val (.int u0), .val (.int u1), .val (.int u2), .val (.int u3), .val (.int m), .val (.ref b2), .val (.int (0 : Int32))] [(.int u0), (.int (0 : Int32)), (.ref b2)])) tg → Steps pP.tables eE below (s₁.setTop (entryFrame mM #[(.int u0), (.int u1), (.int u2), (.int u3), (.int m)] 7)) tg := fun tg kg => pr7 _ (by
      show Steps pP.tables eE below (T2.setTop (mkF mM 12 #[.val (.int u0), .val (.int u1), .val (.int u2), .val (.int u3), .val (.int m), .val (.ref b2), .val (.int (0 : Int32))] [(.int (m &&& (1 : Int32)))])) _
      refine XS.ifNo X2.here hx rfl (hb hby d3_12) rfl ((if0 _ _).trans (feq hc12_6).1) ?_
      show Steps pP.tables eE below (T2.setTop (mkF mM 15 #[.val (.int u0), .val (.int u1), .val (.int u2), .val (.int u3), .val (.int m), .val (.ref b2), .val (.int (0 : Int32))] [])) _
      refine XS.aload X2.here hx rfl (hb hby d3_15) rfl rfl ?_
      show Steps pP.tables eE below (T2.setTop (mkF mM 17 #[.val (.int u0), .val (.int u1), .val (.int u2), .val (.int u3), .val (.int m), .val (.ref b2), .val (.int (0 : Int32))] [(.ref b2)])) _
      refine XS.iload X2.here hx rfl (hb hby d3_17) rfl ?_
      show Steps pP.tables eE below (T2.setTop (mkF mM 19 #[.val (.int u0), .val (.int u1), .val (.int u2), .val (.int u3), .val (.int m), .val (.ref b2), .val (.int (0 : Int32))] [(.int (0 : Int32)), (.ref b2)])) _
      refine XS.iloadN X2.here hx rfl (hb hby d3_19) rfl ?_
      exact kg)
    obtain ⟨cla123, Ara123, qa123, Sa123, Ma123, Ha123, Ga123⟩ := id V2
    have hin124 : ¬ ((0 : Int32) < 0 ∨ cla123.slots.size ≤ ((0 : Int32)).toNatClampNeg) := inb_of Sa123 ⟨by decide, by decide⟩
    obtain ⟨T124, h124, X124, e124, W124, st124⟩ := stI X2 hx hZ e2 Ara123 (j := (0 : Int32)) hin124 (g := (mkF mM 20 #[.val (.int u0), .val (.int u1), .val (.int u2), .val (.int u3), .val (.int m), .val (.ref b2), .val (.int (0 : Int32))] [(.int u0), (.int (0 : Int32)), (.ref b2)])) rfl rfl (hb hby d3_20)
    have V124 : Arv Z h124 b2 k2 .int (4 : Int32) [(.int u0), (.int (0 : Int32)), (.int (0 : Int32)), (.int (0 : Int32))] (.int (0 : Int32)) := Arv.set Ara123 qa123 Sa123 Ma123 Ha123 Ga123 rfl W124 0 rfl (Nat.le_of_ble_eq_true rfl)
    have N124 := Fr.snoc X124 N0 gn3
    have pr125 : ∀ tg, Steps pP.tables eE below (T124.setTop (mkF mM 21 #[.val (.int u0), .val (.int u1), .val (.int u2), .val (.int u3), .val (.int m), .val (.ref b2), .val (.int (0 : Int32))] [])) tg → Steps pP.tables eE below (s₁.setTop (entryFrame mM #[(.int u0), (.int u1), (.int u2), (.int u3), (.int m)] 7)) tg := fun tg kg => pr122 _ (st124 _ kg)
    have pr127 : ∀ tg, Steps pP.tables eE below (T124.setTop (mkF mM 28 #[.val (.int u0), .val (.int u1), .val (.int u2), .val (.int u3), .val (.int m), .val (.ref b2), .val (.int (1 : Int32))] [(.int (m &&& (2 : Int32)))])) tg → Steps pP.tables eE below (s₁.setTop (entryFrame mM #[(.int u0), (.int u1), (.int u2), (.int u3), (.int m)] 7)) tg := fun tg kg => pr125 _ (by
      show Steps pP.tables eE below (T124.setTop (mkF mM 21 #[.val (.int u0), .val (.int u1), .val (.int u2), .val (.int u3), .val (.int m), .val (.ref b2), .val (.int (0 : Int32))] [])) _
      refine XS.iinc X124.here hx rfl (hb hby d3_21) rfl (l' := #[.val (.int u0), .val (.int u1), .val (.int u2), .val (.int u3), .val (.int m), .val (.ref b2), .val (.int (1 : Int32))]) rfl ?_
      show Steps pP.tables eE below (T124.setTop (mkF mM 24 #[.val (.int u0), .val (.int u1), .val (.int u2), .val (.int u3), .val (.int m), .val (.ref b2), .val (.int (1 : Int32))] [])) _
      refine XS.iload X124.here hx rfl (hb hby d3_24) rfl ?_
      show Steps pP.tables eE below (T124.setTop (mkF mM 26 #[.val (.int u0), .val (.int u1), .val (.int u2), .val (.int u3), .val (.int m), .val (.ref b2), .val (.int (1 : Int32))] [(.int m)])) _
      refine XS.iconst X124.here hx rfl (hb hby d3_26) ?_
      show Steps pP.tables eE below (T124.setTop (mkF mM 27 #[.val (.int u0), .val (.int u1), .val (.int u2), .val (.int u3), .val (.int m), .val (.ref b2), .val (.int (1 : Int32))] [(.int (2 : Int32)), (.int m)])) _
      refine XS.iand X124.here hx rfl (hb hby d3_27) rfl ?_
      exact kg)
    by_cases hc28_126 : (m &&& (2 : Int32)) = (0 : Int32)
    ·
      have pr129 : ∀ tg, Steps pP.tables eE below (T124.setTop (mkF mM 44 #[.val (.int u0), .val (.int u1), .val (.int u2), .val (.int u3), .val (.int m), .val (.ref b2), .val (.int (1 : Int32))] [(.int (m &&& (4 : Int32)))])) tg → Steps pP.tables eE below (s₁.setTop (entryFrame mM #[(.int u0), (.int u1), (.int u2), (.int u3), (.int m)] 7)) tg := fun tg kg => pr127 _ (by
        show Steps pP.tables eE below (T124.setTop (mkF mM 28 #[.val (.int u0), .val (.int u1), .val (.int u2), .val (.int u3), .val (.int m), .val (.ref b2), .val (.int (1 : Int32))] [(.int (m &&& (2 : Int32)))])) _
        refine XS.ifYes X124.here hx rfl (pc0 := 28) (pc' := 40) rfl (hb hby d3_28) rfl ((if0 _ _).trans (teq hc28_126).1) (by decide) (by decide) ?_
        show Steps pP.tables eE below (T124.setTop (mkF mM 40 #[.val (.int u0), .val (.int u1), .val (.int u2), .val (.int u3), .val (.int m), .val (.ref b2), .val (.int (1 : Int32))] [])) _
        refine XS.iload X124.here hx rfl (hb hby d3_40) rfl ?_
        show Steps pP.tables eE below (T124.setTop (mkF mM 42 #[.val (.int u0), .val (.int u1), .val (.int u2), .val (.int u3), .val (.int m), .val (.ref b2), .val (.int (1 : Int32))] [(.int m)])) _
        refine XS.iconst X124.here hx rfl (hb hby d3_42) ?_
        show Steps pP.tables eE below (T124.setTop (mkF mM 43 #[.val (.int u0), .val (.int u1), .val (.int u2), .val (.int u3), .val (.int m), .val (.ref b2), .val (.int (1 : Int32))] [(.int (4 : Int32)), (.int m)])) _
        refine XS.iand X124.here hx rfl (hb hby d3_43) rfl ?_
        exact kg)
      by_cases hc44_128 : (m &&& (4 : Int32)) = (0 : Int32)
      ·
        have pr131 : ∀ tg, Steps pP.tables eE below (T124.setTop (mkF mM 61 #[.val (.int u0), .val (.int u1), .val (.int u2), .val (.int u3), .val (.int m), .val (.ref b2), .val (.int (1 : Int32))] [(.int (m &&& (8 : Int32)))])) tg → Steps pP.tables eE below (s₁.setTop (entryFrame mM #[(.int u0), (.int u1), (.int u2), (.int u3), (.int m)] 7)) tg := fun tg kg => pr129 _ (by
          show Steps pP.tables eE below (T124.setTop (mkF mM 44 #[.val (.int u0), .val (.int u1), .val (.int u2), .val (.int u3), .val (.int m), .val (.ref b2), .val (.int (1 : Int32))] [(.int (m &&& (4 : Int32)))])) _
          refine XS.ifYes X124.here hx rfl (pc0 := 44) (pc' := 56) rfl (hb hby d3_44) rfl ((if0 _ _).trans (teq hc44_128).1) (by decide) (by decide) ?_
          show Steps pP.tables eE below (T124.setTop (mkF mM 56 #[.val (.int u0), .val (.int u1), .val (.int u2), .val (.int u3), .val (.int m), .val (.ref b2), .val (.int (1 : Int32))] [])) _
          refine XS.iload X124.here hx rfl (hb hby d3_56) rfl ?_
          show Steps pP.tables eE below (T124.setTop (mkF mM 58 #[.val (.int u0), .val (.int u1), .val (.int u2), .val (.int u3), .val (.int m), .val (.ref b2), .val (.int (1 : Int32))] [(.int m)])) _
          refine XS.bipush X124.here hx rfl (hb hby d3_58) ?_
          show Steps pP.tables eE below (T124.setTop (mkF mM 60 #[.val (.int u0), .val (.int u1), .val (.int u2), .val (.int u3), .val (.int m), .val (.ref b2), .val (.int (1 : Int32))] [(.int (8 : Int32)), (.int m)])) _
          refine XS.iand X124.here hx rfl (hb hby d3_60) rfl ?_
          exact kg)
        by_cases hc61_130 : (m &&& (8 : Int32)) = (0 : Int32)
        ·
          have pr132 : ∀ tg, Steps pP.tables eE below (T124.setTop (mkF mM 77 #[.val (.int u0), .val (.int u1), .val (.int u2), .val (.int u3), .val (.int m), .val (.ref b2), .val (.int (1 : Int32))] [(.int (1 : Int32)), (.ref b2)])) tg → Steps pP.tables eE below (s₁.setTop (entryFrame mM #[(.int u0), (.int u1), (.int u2), (.int u3), (.int m)] 7)) tg := fun tg kg => pr131 _ (by
            show Steps pP.tables eE below (T124.setTop (mkF mM 61 #[.val (.int u0), .val (.int u1), .val (.int u2), .val (.int u3), .val (.int m), .val (.ref b2), .val (.int (1 : Int32))] [(.int (m &&& (8 : Int32)))])) _
            refine XS.ifYes X124.here hx rfl (pc0 := 61) (pc' := 73) rfl (hb hby d3_61) rfl ((if0 _ _).trans (teq hc61_130).1) (by decide) (by decide) ?_
            show Steps pP.tables eE below (T124.setTop (mkF mM 73 #[.val (.int u0), .val (.int u1), .val (.int u2), .val (.int u3), .val (.int m), .val (.ref b2), .val (.int (1 : Int32))] [])) _
            refine XS.aload X124.here hx rfl (hb hby d3_73) rfl rfl ?_
            show Steps pP.tables eE below (T124.setTop (mkF mM 75 #[.val (.int u0), .val (.int u1), .val (.int u2), .val (.int u3), .val (.int m), .val (.ref b2), .val (.int (1 : Int32))] [(.ref b2)])) _
            refine XS.iload X124.here hx rfl (hb hby d3_75) rfl ?_
            exact kg)
          have c133 := (Nat.le_trans (Nat.le_trans Z0 E2.1) (Keep.of_wr W124).1)
          obtain ⟨_, _, ⟨T134, L134, kk134, nn134⟩, -, X134, ⟨Lc134, hQ134, l134, y134, z134⟩, st134⟩ := Jvm.LawKit.callS X124 hx (y := (⟨"com/example/refine/refine/refinement/NormalisedLtsFirstNotInPinLaw", "take", "([II)[I"⟩ : MethodName)) hown (mvT hZ (hw _ (List.mem_of_getElem? (i := 11) rfl))) (mvT hZ (hw _ (List.mem_of_getElem? (i := 12) rfl))) (mvT hZ (hw _ (List.mem_of_getElem? (i := 8) rfl))) (mvT hZ (hw _ (List.mem_of_getElem? (i := 13) rfl))) (by decide) (backOf (W := 0) (rm21 l Z a0 hw [] b2 k2 u0 (0 : Int32) (0 : Int32) (0 : Int32) h124 n0 c133 V124) hZ (hw _ (List.mem_of_getElem? (i := 13) rfl)) (hw _ (List.mem_of_getElem? (i := 8) rfl)) (by decide) (by decide)) (g := (mkF mM 77 #[.val (.int u0), .val (.int u1), .val (.int u2), .val (.int u3), .val (.int m), .val (.ref b2), .val (.int (1 : Int32))] [(.int (1 : Int32)), (.ref b2)])) rfl (by rw [hml]; rfl) (argsL := [(.ref b2), (.int (1 : Int32))]) (rest := []) (lenOf pd_0 rfl) rfl (by show 2 * 0 + _ ≤ _; exact Nat.le_of_eq rfl) (hb hby d3_77) (fun _ _ => ⟨rfl, e124, (by decide : 1 + 1 ≤ _), (by decide : 4 + 1 ≤ _)⟩)
          dsimp only [Pt.U, Pt.locs, Pt.cells, Pt.slots] at X134 l134 y134 z134 st134 hQ134
          subst l134 y134 z134
          obtain ⟨bt134, rfl, ge134, Nq134, K134, kt134, V134⟩ := hQ134
          have N134 := Fr.app N124 Nq134
          have ne135 : b2 ≠ bt134 := Nat.ne_of_lt (Nat.lt_of_lt_of_le (V124).lt ge134)
          have gn136 : n0 ≤ bt134 := Nat.le_trans c133 ge134
          have c138 := (Keep.wr (Keep.ext (Keep.refl h0 []) E2) W124 (Or.inr gs4))
          have gs137 : h0.size ≤ bt134 := Nat.le_trans c138.1 ge134
          have pr139 : ∀ tg, Steps pP.tables eE below (T134.setTop (mkF mM 80 #[.val (.int u0), .val (.int u1), .val (.int u2), .val (.int u3), .val (.int m), .val (.ref b2), .val (.int (1 : Int32))] [(.ref bt134)])) tg → Steps pP.tables eE below (s₁.setTop (entryFrame mM #[(.int u0), (.int u1), (.int u2), (.int u3), (.int m)] 7)) tg := fun tg kg => pr132 _ (st134 _ kg)
          have c140 := (Keep.trans c138 K134 all0)
          obtain ⟨fs, hr, hrun, hended, hW, hsame⟩ := X134.leave (v := some (.ref bt134)) (fun h => by rw [Bd.returns] at h; cases h)
          refine ⟨_, _, pr139 _ (retOut X134 hx (t := (.array .int)) Bd.returns rfl (Or.inr (Or.inr (Or.inr (Or.inr ⟨rfl, rfl, rfl⟩)))) (hb hby d3_80) hr), hrun, hended, _, _, rfl, ?_, ⟨_, rfl⟩, hW, hsame.mono (by decide) (by decide)⟩
          show Q3 Z u0 u1 u2 u3 m h0 n0 _ T134.heap _
          exact ⟨_, rfl, gs137, N134, c140, _, by unfold own_pick; rw [if_neg hc12_6, if_pos hc28_126, if_pos hc44_128, if_pos hc61_130]; exact V134⟩
        ·
          have pr141 : ∀ tg, Steps pP.tables eE below (T124.setTop (mkF mM 69 #[.val (.int u0), .val (.int u1), .val (.int u2), .val (.int u3), .val (.int m), .val (.ref b2), .val (.int (1 : Int32))] [(.int u3), (.int (1 : Int32)), (.ref b2)])) tg → Steps pP.tables eE below (s₁.setTop (entryFrame mM #[(.int u0), (.int u1), (.int u2), (.int u3), (.int m)] 7)) tg := fun tg kg => pr131 _ (by
            show Steps pP.tables eE below (T124.setTop (mkF mM 61 #[.val (.int u0), .val (.int u1), .val (.int u2), .val (.int u3), .val (.int m), .val (.ref b2), .val (.int (1 : Int32))] [(.int (m &&& (8 : Int32)))])) _
            refine XS.ifNo X124.here hx rfl (hb hby d3_61) rfl ((if0 _ _).trans (feq hc61_130).1) ?_
            show Steps pP.tables eE below (T124.setTop (mkF mM 64 #[.val (.int u0), .val (.int u1), .val (.int u2), .val (.int u3), .val (.int m), .val (.ref b2), .val (.int (1 : Int32))] [])) _
            refine XS.aload X124.here hx rfl (hb hby d3_64) rfl rfl ?_
            show Steps pP.tables eE below (T124.setTop (mkF mM 66 #[.val (.int u0), .val (.int u1), .val (.int u2), .val (.int u3), .val (.int m), .val (.ref b2), .val (.int (1 : Int32))] [(.ref b2)])) _
            refine XS.iload X124.here hx rfl (hb hby d3_66) rfl ?_
            show Steps pP.tables eE below (T124.setTop (mkF mM 68 #[.val (.int u0), .val (.int u1), .val (.int u2), .val (.int u3), .val (.int m), .val (.ref b2), .val (.int (1 : Int32))] [(.int (1 : Int32)), (.ref b2)])) _
            refine XS.iloadN X124.here hx rfl (hb hby d3_68) rfl ?_
            exact kg)
          obtain ⟨cla142, Ara142, qa142, Sa142, Ma142, Ha142, Ga142⟩ := id V124
          have hin143 : ¬ ((1 : Int32) < 0 ∨ cla142.slots.size ≤ ((1 : Int32)).toNatClampNeg) := inb_of Sa142 ⟨by decide, by decide⟩
          obtain ⟨T143, h143, X143, e143, W143, st143⟩ := stI X124 hx hZ e124 Ara142 (j := (1 : Int32)) hin143 (g := (mkF mM 69 #[.val (.int u0), .val (.int u1), .val (.int u2), .val (.int u3), .val (.int m), .val (.ref b2), .val (.int (1 : Int32))] [(.int u3), (.int (1 : Int32)), (.ref b2)])) rfl rfl (hb hby d3_69)
          have V143 : Arv Z h143 b2 k2 .int (4 : Int32) [(.int u0), (.int u3), (.int (0 : Int32)), (.int (0 : Int32))] (.int (0 : Int32)) := Arv.set Ara142 qa142 Sa142 Ma142 Ha142 Ga142 rfl W143 1 rfl (Nat.le_of_ble_eq_true rfl)
          have N143 := Fr.snoc X143 N124 gn3
          have pr144 : ∀ tg, Steps pP.tables eE below (T143.setTop (mkF mM 70 #[.val (.int u0), .val (.int u1), .val (.int u2), .val (.int u3), .val (.int m), .val (.ref b2), .val (.int (1 : Int32))] [])) tg → Steps pP.tables eE below (s₁.setTop (entryFrame mM #[(.int u0), (.int u1), (.int u2), (.int u3), (.int m)] 7)) tg := fun tg kg => pr141 _ (st143 _ kg)
          have pr145 : ∀ tg, Steps pP.tables eE below (T143.setTop (mkF mM 77 #[.val (.int u0), .val (.int u1), .val (.int u2), .val (.int u3), .val (.int m), .val (.ref b2), .val (.int (2 : Int32))] [(.int (2 : Int32)), (.ref b2)])) tg → Steps pP.tables eE below (s₁.setTop (entryFrame mM #[(.int u0), (.int u1), (.int u2), (.int u3), (.int m)] 7)) tg := fun tg kg => pr144 _ (by
            show Steps pP.tables eE below (T143.setTop (mkF mM 70 #[.val (.int u0), .val (.int u1), .val (.int u2), .val (.int u3), .val (.int m), .val (.ref b2), .val (.int (1 : Int32))] [])) _
            refine XS.iinc X143.here hx rfl (hb hby d3_70) rfl (l' := #[.val (.int u0), .val (.int u1), .val (.int u2), .val (.int u3), .val (.int m), .val (.ref b2), .val (.int (2 : Int32))]) rfl ?_
            show Steps pP.tables eE below (T143.setTop (mkF mM 73 #[.val (.int u0), .val (.int u1), .val (.int u2), .val (.int u3), .val (.int m), .val (.ref b2), .val (.int (2 : Int32))] [])) _
            refine XS.aload X143.here hx rfl (hb hby d3_73) rfl rfl ?_
            show Steps pP.tables eE below (T143.setTop (mkF mM 75 #[.val (.int u0), .val (.int u1), .val (.int u2), .val (.int u3), .val (.int m), .val (.ref b2), .val (.int (2 : Int32))] [(.ref b2)])) _
            refine XS.iload X143.here hx rfl (hb hby d3_75) rfl ?_
            exact kg)
          have c146 := (Nat.le_trans (Nat.le_trans (Nat.le_trans Z0 E2.1) (Keep.of_wr W124).1) (Keep.of_wr W143).1)
          obtain ⟨_, _, ⟨T147, L147, kk147, nn147⟩, -, X147, ⟨Lc147, hQ147, l147, y147, z147⟩, st147⟩ := Jvm.LawKit.callS X143 hx (y := (⟨"com/example/refine/refine/refinement/NormalisedLtsFirstNotInPinLaw", "take", "([II)[I"⟩ : MethodName)) hown (mvT hZ (hw _ (List.mem_of_getElem? (i := 11) rfl))) (mvT hZ (hw _ (List.mem_of_getElem? (i := 12) rfl))) (mvT hZ (hw _ (List.mem_of_getElem? (i := 8) rfl))) (mvT hZ (hw _ (List.mem_of_getElem? (i := 13) rfl))) (by decide) (backOf (W := 0) (rm22 l Z a0 hw [] b2 k2 u0 u3 (0 : Int32) (0 : Int32) h143 n0 c146 V143) hZ (hw _ (List.mem_of_getElem? (i := 13) rfl)) (hw _ (List.mem_of_getElem? (i := 8) rfl)) (by decide) (by decide)) (g := (mkF mM 77 #[.val (.int u0), .val (.int u1), .val (.int u2), .val (.int u3), .val (.int m), .val (.ref b2), .val (.int (2 : Int32))] [(.int (2 : Int32)), (.ref b2)])) rfl (by rw [hml]; rfl) (argsL := [(.ref b2), (.int (2 : Int32))]) (rest := []) (lenOf pd_0 rfl) rfl (by show 2 * 0 + _ ≤ _; exact Nat.le_of_eq rfl) (hb hby d3_77) (fun _ _ => ⟨rfl, e143, (by decide : 1 + 1 ≤ _), (by decide : 4 + 2 ≤ _)⟩)
          dsimp only [Pt.U, Pt.locs, Pt.cells, Pt.slots] at X147 l147 y147 z147 st147 hQ147
          subst l147 y147 z147
          obtain ⟨bt147, rfl, ge147, Nq147, K147, kt147, V147⟩ := hQ147
          have N147 := Fr.app N143 Nq147
          have ne148 : b2 ≠ bt147 := Nat.ne_of_lt (Nat.lt_of_lt_of_le (V143).lt ge147)
          have gn149 : n0 ≤ bt147 := Nat.le_trans c146 ge147
          have c151 := (Keep.wr (Keep.wr (Keep.ext (Keep.refl h0 []) E2) W124 (Or.inr gs4)) W143 (Or.inr gs4))
          have gs150 : h0.size ≤ bt147 := Nat.le_trans c151.1 ge147
          have pr152 : ∀ tg, Steps pP.tables eE below (T147.setTop (mkF mM 80 #[.val (.int u0), .val (.int u1), .val (.int u2), .val (.int u3), .val (.int m), .val (.ref b2), .val (.int (2 : Int32))] [(.ref bt147)])) tg → Steps pP.tables eE below (s₁.setTop (entryFrame mM #[(.int u0), (.int u1), (.int u2), (.int u3), (.int m)] 7)) tg := fun tg kg => pr145 _ (st147 _ kg)
          have c153 := (Keep.trans c151 K147 all0)
          obtain ⟨fs, hr, hrun, hended, hW, hsame⟩ := X147.leave (v := some (.ref bt147)) (fun h => by rw [Bd.returns] at h; cases h)
          refine ⟨_, _, pr152 _ (retOut X147 hx (t := (.array .int)) Bd.returns rfl (Or.inr (Or.inr (Or.inr (Or.inr ⟨rfl, rfl, rfl⟩)))) (hb hby d3_80) hr), hrun, hended, _, _, rfl, ?_, ⟨_, rfl⟩, hW, hsame.mono (by decide) (by decide)⟩
          show Q3 Z u0 u1 u2 u3 m h0 n0 _ T147.heap _
          exact ⟨_, rfl, gs150, N147, c153, _, by unfold own_pick; rw [if_neg hc12_6, if_pos hc28_126, if_pos hc44_128, if_neg hc61_130]; exact V147⟩
      ·
        have pr154 : ∀ tg, Steps pP.tables eE below (T124.setTop (mkF mM 52 #[.val (.int u0), .val (.int u1), .val (.int u2), .val (.int u3), .val (.int m), .val (.ref b2), .val (.int (1 : Int32))] [(.int u2), (.int (1 : Int32)), (.ref b2)])) tg → Steps pP.tables eE below (s₁.setTop (entryFrame mM #[(.int u0), (.int u1), (.int u2), (.int u3), (.int m)] 7)) tg := fun tg kg => pr129 _ (by
          show Steps pP.tables eE below (T124.setTop (mkF mM 44 #[.val (.int u0), .val (.int u1), .val (.int u2), .val (.int u3), .val (.int m), .val (.ref b2), .val (.int (1 : Int32))] [(.int (m &&& (4 : Int32)))])) _
          refine XS.ifNo X124.here hx rfl (hb hby d3_44) rfl ((if0 _ _).trans (feq hc44_128).1) ?_
          show Steps pP.tables eE below (T124.setTop (mkF mM 47 #[.val (.int u0), .val (.int u1), .val (.int u2), .val (.int u3), .val (.int m), .val (.ref b2), .val (.int (1 : Int32))] [])) _
          refine XS.aload X124.here hx rfl (hb hby d3_47) rfl rfl ?_
          show Steps pP.tables eE below (T124.setTop (mkF mM 49 #[.val (.int u0), .val (.int u1), .val (.int u2), .val (.int u3), .val (.int m), .val (.ref b2), .val (.int (1 : Int32))] [(.ref b2)])) _
          refine XS.iload X124.here hx rfl (hb hby d3_49) rfl ?_
          show Steps pP.tables eE below (T124.setTop (mkF mM 51 #[.val (.int u0), .val (.int u1), .val (.int u2), .val (.int u3), .val (.int m), .val (.ref b2), .val (.int (1 : Int32))] [(.int (1 : Int32)), (.ref b2)])) _
          refine XS.iloadN X124.here hx rfl (hb hby d3_51) rfl ?_
          exact kg)
        obtain ⟨cla155, Ara155, qa155, Sa155, Ma155, Ha155, Ga155⟩ := id V124
        have hin156 : ¬ ((1 : Int32) < 0 ∨ cla155.slots.size ≤ ((1 : Int32)).toNatClampNeg) := inb_of Sa155 ⟨by decide, by decide⟩
        obtain ⟨T156, h156, X156, e156, W156, st156⟩ := stI X124 hx hZ e124 Ara155 (j := (1 : Int32)) hin156 (g := (mkF mM 52 #[.val (.int u0), .val (.int u1), .val (.int u2), .val (.int u3), .val (.int m), .val (.ref b2), .val (.int (1 : Int32))] [(.int u2), (.int (1 : Int32)), (.ref b2)])) rfl rfl (hb hby d3_52)
        have V156 : Arv Z h156 b2 k2 .int (4 : Int32) [(.int u0), (.int u2), (.int (0 : Int32)), (.int (0 : Int32))] (.int (0 : Int32)) := Arv.set Ara155 qa155 Sa155 Ma155 Ha155 Ga155 rfl W156 1 rfl (Nat.le_of_ble_eq_true rfl)
        have N156 := Fr.snoc X156 N124 gn3
        have pr157 : ∀ tg, Steps pP.tables eE below (T156.setTop (mkF mM 53 #[.val (.int u0), .val (.int u1), .val (.int u2), .val (.int u3), .val (.int m), .val (.ref b2), .val (.int (1 : Int32))] [])) tg → Steps pP.tables eE below (s₁.setTop (entryFrame mM #[(.int u0), (.int u1), (.int u2), (.int u3), (.int m)] 7)) tg := fun tg kg => pr154 _ (st156 _ kg)
        have pr159 : ∀ tg, Steps pP.tables eE below (T156.setTop (mkF mM 61 #[.val (.int u0), .val (.int u1), .val (.int u2), .val (.int u3), .val (.int m), .val (.ref b2), .val (.int (2 : Int32))] [(.int (m &&& (8 : Int32)))])) tg → Steps pP.tables eE below (s₁.setTop (entryFrame mM #[(.int u0), (.int u1), (.int u2), (.int u3), (.int m)] 7)) tg := fun tg kg => pr157 _ (by
          show Steps pP.tables eE below (T156.setTop (mkF mM 53 #[.val (.int u0), .val (.int u1), .val (.int u2), .val (.int u3), .val (.int m), .val (.ref b2), .val (.int (1 : Int32))] [])) _
          refine XS.iinc X156.here hx rfl (hb hby d3_53) rfl (l' := #[.val (.int u0), .val (.int u1), .val (.int u2), .val (.int u3), .val (.int m), .val (.ref b2), .val (.int (2 : Int32))]) rfl ?_
          show Steps pP.tables eE below (T156.setTop (mkF mM 56 #[.val (.int u0), .val (.int u1), .val (.int u2), .val (.int u3), .val (.int m), .val (.ref b2), .val (.int (2 : Int32))] [])) _
          refine XS.iload X156.here hx rfl (hb hby d3_56) rfl ?_
          show Steps pP.tables eE below (T156.setTop (mkF mM 58 #[.val (.int u0), .val (.int u1), .val (.int u2), .val (.int u3), .val (.int m), .val (.ref b2), .val (.int (2 : Int32))] [(.int m)])) _
          refine XS.bipush X156.here hx rfl (hb hby d3_58) ?_
          show Steps pP.tables eE below (T156.setTop (mkF mM 60 #[.val (.int u0), .val (.int u1), .val (.int u2), .val (.int u3), .val (.int m), .val (.ref b2), .val (.int (2 : Int32))] [(.int (8 : Int32)), (.int m)])) _
          refine XS.iand X156.here hx rfl (hb hby d3_60) rfl ?_
          exact kg)
        by_cases hc61_158 : (m &&& (8 : Int32)) = (0 : Int32)
        ·
          have pr160 : ∀ tg, Steps pP.tables eE below (T156.setTop (mkF mM 77 #[.val (.int u0), .val (.int u1), .val (.int u2), .val (.int u3), .val (.int m), .val (.ref b2), .val (.int (2 : Int32))] [(.int (2 : Int32)), (.ref b2)])) tg → Steps pP.tables eE below (s₁.setTop (entryFrame mM #[(.int u0), (.int u1), (.int u2), (.int u3), (.int m)] 7)) tg := fun tg kg => pr159 _ (by
            show Steps pP.tables eE below (T156.setTop (mkF mM 61 #[.val (.int u0), .val (.int u1), .val (.int u2), .val (.int u3), .val (.int m), .val (.ref b2), .val (.int (2 : Int32))] [(.int (m &&& (8 : Int32)))])) _
            refine XS.ifYes X156.here hx rfl (pc0 := 61) (pc' := 73) rfl (hb hby d3_61) rfl ((if0 _ _).trans (teq hc61_158).1) (by decide) (by decide) ?_
            show Steps pP.tables eE below (T156.setTop (mkF mM 73 #[.val (.int u0), .val (.int u1), .val (.int u2), .val (.int u3), .val (.int m), .val (.ref b2), .val (.int (2 : Int32))] [])) _
            refine XS.aload X156.here hx rfl (hb hby d3_73) rfl rfl ?_
            show Steps pP.tables eE below (T156.setTop (mkF mM 75 #[.val (.int u0), .val (.int u1), .val (.int u2), .val (.int u3), .val (.int m), .val (.ref b2), .val (.int (2 : Int32))] [(.ref b2)])) _
            refine XS.iload X156.here hx rfl (hb hby d3_75) rfl ?_
            exact kg)
          have c161 := (Nat.le_trans (Nat.le_trans (Nat.le_trans Z0 E2.1) (Keep.of_wr W124).1) (Keep.of_wr W156).1)
          obtain ⟨_, _, ⟨T162, L162, kk162, nn162⟩, -, X162, ⟨Lc162, hQ162, l162, y162, z162⟩, st162⟩ := Jvm.LawKit.callS X156 hx (y := (⟨"com/example/refine/refine/refinement/NormalisedLtsFirstNotInPinLaw", "take", "([II)[I"⟩ : MethodName)) hown (mvT hZ (hw _ (List.mem_of_getElem? (i := 11) rfl))) (mvT hZ (hw _ (List.mem_of_getElem? (i := 12) rfl))) (mvT hZ (hw _ (List.mem_of_getElem? (i := 8) rfl))) (mvT hZ (hw _ (List.mem_of_getElem? (i := 13) rfl))) (by decide) (backOf (W := 0) (rm22 l Z a0 hw [] b2 k2 u0 u2 (0 : Int32) (0 : Int32) h156 n0 c161 V156) hZ (hw _ (List.mem_of_getElem? (i := 13) rfl)) (hw _ (List.mem_of_getElem? (i := 8) rfl)) (by decide) (by decide)) (g := (mkF mM 77 #[.val (.int u0), .val (.int u1), .val (.int u2), .val (.int u3), .val (.int m), .val (.ref b2), .val (.int (2 : Int32))] [(.int (2 : Int32)), (.ref b2)])) rfl (by rw [hml]; rfl) (argsL := [(.ref b2), (.int (2 : Int32))]) (rest := []) (lenOf pd_0 rfl) rfl (by show 2 * 0 + _ ≤ _; exact Nat.le_of_eq rfl) (hb hby d3_77) (fun _ _ => ⟨rfl, e156, (by decide : 1 + 1 ≤ _), (by decide : 4 + 2 ≤ _)⟩)
          dsimp only [Pt.U, Pt.locs, Pt.cells, Pt.slots] at X162 l162 y162 z162 st162 hQ162
          subst l162 y162 z162
          obtain ⟨bt162, rfl, ge162, Nq162, K162, kt162, V162⟩ := hQ162
          have N162 := Fr.app N156 Nq162
          have ne163 : b2 ≠ bt162 := Nat.ne_of_lt (Nat.lt_of_lt_of_le (V156).lt ge162)
          have gn164 : n0 ≤ bt162 := Nat.le_trans c161 ge162
          have c166 := (Keep.wr (Keep.wr (Keep.ext (Keep.refl h0 []) E2) W124 (Or.inr gs4)) W156 (Or.inr gs4))
          have gs165 : h0.size ≤ bt162 := Nat.le_trans c166.1 ge162
          have pr167 : ∀ tg, Steps pP.tables eE below (T162.setTop (mkF mM 80 #[.val (.int u0), .val (.int u1), .val (.int u2), .val (.int u3), .val (.int m), .val (.ref b2), .val (.int (2 : Int32))] [(.ref bt162)])) tg → Steps pP.tables eE below (s₁.setTop (entryFrame mM #[(.int u0), (.int u1), (.int u2), (.int u3), (.int m)] 7)) tg := fun tg kg => pr160 _ (st162 _ kg)
          have c168 := (Keep.trans c166 K162 all0)
          obtain ⟨fs, hr, hrun, hended, hW, hsame⟩ := X162.leave (v := some (.ref bt162)) (fun h => by rw [Bd.returns] at h; cases h)
          refine ⟨_, _, pr167 _ (retOut X162 hx (t := (.array .int)) Bd.returns rfl (Or.inr (Or.inr (Or.inr (Or.inr ⟨rfl, rfl, rfl⟩)))) (hb hby d3_80) hr), hrun, hended, _, _, rfl, ?_, ⟨_, rfl⟩, hW, hsame.mono (by decide) (by decide)⟩
          show Q3 Z u0 u1 u2 u3 m h0 n0 _ T162.heap _
          exact ⟨_, rfl, gs165, N162, c168, _, by unfold own_pick; rw [if_neg hc12_6, if_pos hc28_126, if_neg hc44_128, if_pos hc61_158]; exact V162⟩
        ·
          have pr169 : ∀ tg, Steps pP.tables eE below (T156.setTop (mkF mM 69 #[.val (.int u0), .val (.int u1), .val (.int u2), .val (.int u3), .val (.int m), .val (.ref b2), .val (.int (2 : Int32))] [(.int u3), (.int (2 : Int32)), (.ref b2)])) tg → Steps pP.tables eE below (s₁.setTop (entryFrame mM #[(.int u0), (.int u1), (.int u2), (.int u3), (.int m)] 7)) tg := fun tg kg => pr159 _ (by
            show Steps pP.tables eE below (T156.setTop (mkF mM 61 #[.val (.int u0), .val (.int u1), .val (.int u2), .val (.int u3), .val (.int m), .val (.ref b2), .val (.int (2 : Int32))] [(.int (m &&& (8 : Int32)))])) _
            refine XS.ifNo X156.here hx rfl (hb hby d3_61) rfl ((if0 _ _).trans (feq hc61_158).1) ?_
            show Steps pP.tables eE below (T156.setTop (mkF mM 64 #[.val (.int u0), .val (.int u1), .val (.int u2), .val (.int u3), .val (.int m), .val (.ref b2), .val (.int (2 : Int32))] [])) _
            refine XS.aload X156.here hx rfl (hb hby d3_64) rfl rfl ?_
            show Steps pP.tables eE below (T156.setTop (mkF mM 66 #[.val (.int u0), .val (.int u1), .val (.int u2), .val (.int u3), .val (.int m), .val (.ref b2), .val (.int (2 : Int32))] [(.ref b2)])) _
            refine XS.iload X156.here hx rfl (hb hby d3_66) rfl ?_
            show Steps pP.tables eE below (T156.setTop (mkF mM 68 #[.val (.int u0), .val (.int u1), .val (.int u2), .val (.int u3), .val (.int m), .val (.ref b2), .val (.int (2 : Int32))] [(.int (2 : Int32)), (.ref b2)])) _
            refine XS.iloadN X156.here hx rfl (hb hby d3_68) rfl ?_
            exact kg)
          obtain ⟨cla170, Ara170, qa170, Sa170, Ma170, Ha170, Ga170⟩ := id V156
          have hin171 : ¬ ((2 : Int32) < 0 ∨ cla170.slots.size ≤ ((2 : Int32)).toNatClampNeg) := inb_of Sa170 ⟨by decide, by decide⟩
          obtain ⟨T171, h171, X171, e171, W171, st171⟩ := stI X156 hx hZ e156 Ara170 (j := (2 : Int32)) hin171 (g := (mkF mM 69 #[.val (.int u0), .val (.int u1), .val (.int u2), .val (.int u3), .val (.int m), .val (.ref b2), .val (.int (2 : Int32))] [(.int u3), (.int (2 : Int32)), (.ref b2)])) rfl rfl (hb hby d3_69)
          have V171 : Arv Z h171 b2 k2 .int (4 : Int32) [(.int u0), (.int u2), (.int u3), (.int (0 : Int32))] (.int (0 : Int32)) := Arv.set Ara170 qa170 Sa170 Ma170 Ha170 Ga170 rfl W171 2 rfl (Nat.le_of_ble_eq_true rfl)
          have N171 := Fr.snoc X171 N156 gn3
          have pr172 : ∀ tg, Steps pP.tables eE below (T171.setTop (mkF mM 70 #[.val (.int u0), .val (.int u1), .val (.int u2), .val (.int u3), .val (.int m), .val (.ref b2), .val (.int (2 : Int32))] [])) tg → Steps pP.tables eE below (s₁.setTop (entryFrame mM #[(.int u0), (.int u1), (.int u2), (.int u3), (.int m)] 7)) tg := fun tg kg => pr169 _ (st171 _ kg)
          have pr173 : ∀ tg, Steps pP.tables eE below (T171.setTop (mkF mM 77 #[.val (.int u0), .val (.int u1), .val (.int u2), .val (.int u3), .val (.int m), .val (.ref b2), .val (.int (3 : Int32))] [(.int (3 : Int32)), (.ref b2)])) tg → Steps pP.tables eE below (s₁.setTop (entryFrame mM #[(.int u0), (.int u1), (.int u2), (.int u3), (.int m)] 7)) tg := fun tg kg => pr172 _ (by
            show Steps pP.tables eE below (T171.setTop (mkF mM 70 #[.val (.int u0), .val (.int u1), .val (.int u2), .val (.int u3), .val (.int m), .val (.ref b2), .val (.int (2 : Int32))] [])) _
            refine XS.iinc X171.here hx rfl (hb hby d3_70) rfl (l' := #[.val (.int u0), .val (.int u1), .val (.int u2), .val (.int u3), .val (.int m), .val (.ref b2), .val (.int (3 : Int32))]) rfl ?_
            show Steps pP.tables eE below (T171.setTop (mkF mM 73 #[.val (.int u0), .val (.int u1), .val (.int u2), .val (.int u3), .val (.int m), .val (.ref b2), .val (.int (3 : Int32))] [])) _
            refine XS.aload X171.here hx rfl (hb hby d3_73) rfl rfl ?_
            show Steps pP.tables eE below (T171.setTop (mkF mM 75 #[.val (.int u0), .val (.int u1), .val (.int u2), .val (.int u3), .val (.int m), .val (.ref b2), .val (.int (3 : Int32))] [(.ref b2)])) _
            refine XS.iload X171.here hx rfl (hb hby d3_75) rfl ?_
            exact kg)
          have c174 := (Nat.le_trans (Nat.le_trans (Nat.le_trans (Nat.le_trans Z0 E2.1) (Keep.of_wr W124).1) (Keep.of_wr W156).1) (Keep.of_wr W171).1)
          obtain ⟨_, _, ⟨T175, L175, kk175, nn175⟩, -, X175, ⟨Lc175, hQ175, l175, y175, z175⟩, st175⟩ := Jvm.LawKit.callS X171 hx (y := (⟨"com/example/refine/refine/refinement/NormalisedLtsFirstNotInPinLaw", "take", "([II)[I"⟩ : MethodName)) hown (mvT hZ (hw _ (List.mem_of_getElem? (i := 11) rfl))) (mvT hZ (hw _ (List.mem_of_getElem? (i := 12) rfl))) (mvT hZ (hw _ (List.mem_of_getElem? (i := 8) rfl))) (mvT hZ (hw _ (List.mem_of_getElem? (i := 13) rfl))) (by decide) (backOf (W := 0) (rm23 l Z a0 hw [] b2 k2 u0 u2 u3 (0 : Int32) h171 n0 c174 V171) hZ (hw _ (List.mem_of_getElem? (i := 13) rfl)) (hw _ (List.mem_of_getElem? (i := 8) rfl)) (by decide) (by decide)) (g := (mkF mM 77 #[.val (.int u0), .val (.int u1), .val (.int u2), .val (.int u3), .val (.int m), .val (.ref b2), .val (.int (3 : Int32))] [(.int (3 : Int32)), (.ref b2)])) rfl (by rw [hml]; rfl) (argsL := [(.ref b2), (.int (3 : Int32))]) (rest := []) (lenOf pd_0 rfl) rfl (by show 2 * 0 + _ ≤ _; exact Nat.le_of_eq rfl) (hb hby d3_77) (fun _ _ => ⟨rfl, e171, (by decide : 1 + 1 ≤ _), (by decide : 4 + 3 ≤ _)⟩)
          dsimp only [Pt.U, Pt.locs, Pt.cells, Pt.slots] at X175 l175 y175 z175 st175 hQ175
          subst l175 y175 z175
          obtain ⟨bt175, rfl, ge175, Nq175, K175, kt175, V175⟩ := hQ175
          have N175 := Fr.app N171 Nq175
          have ne176 : b2 ≠ bt175 := Nat.ne_of_lt (Nat.lt_of_lt_of_le (V171).lt ge175)
          have gn177 : n0 ≤ bt175 := Nat.le_trans c174 ge175
          have c179 := (Keep.wr (Keep.wr (Keep.wr (Keep.ext (Keep.refl h0 []) E2) W124 (Or.inr gs4)) W156 (Or.inr gs4)) W171 (Or.inr gs4))
          have gs178 : h0.size ≤ bt175 := Nat.le_trans c179.1 ge175
          have pr180 : ∀ tg, Steps pP.tables eE below (T175.setTop (mkF mM 80 #[.val (.int u0), .val (.int u1), .val (.int u2), .val (.int u3), .val (.int m), .val (.ref b2), .val (.int (3 : Int32))] [(.ref bt175)])) tg → Steps pP.tables eE below (s₁.setTop (entryFrame mM #[(.int u0), (.int u1), (.int u2), (.int u3), (.int m)] 7)) tg := fun tg kg => pr173 _ (st175 _ kg)
          have c181 := (Keep.trans c179 K175 all0)
          obtain ⟨fs, hr, hrun, hended, hW, hsame⟩ := X175.leave (v := some (.ref bt175)) (fun h => by rw [Bd.returns] at h; cases h)
          refine ⟨_, _, pr180 _ (retOut X175 hx (t := (.array .int)) Bd.returns rfl (Or.inr (Or.inr (Or.inr (Or.inr ⟨rfl, rfl, rfl⟩)))) (hb hby d3_80) hr), hrun, hended, _, _, rfl, ?_, ⟨_, rfl⟩, hW, hsame.mono (by decide) (by decide)⟩
          show Q3 Z u0 u1 u2 u3 m h0 n0 _ T175.heap _
          exact ⟨_, rfl, gs178, N175, c181, _, by unfold own_pick; rw [if_neg hc12_6, if_pos hc28_126, if_neg hc44_128, if_neg hc61_158]; exact V175⟩
    ·
      have pr182 : ∀ tg, Steps pP.tables eE below (T124.setTop (mkF mM 36 #[.val (.int u0), .val (.int u1), .val (.int u2), .val (.int u3), .val (.int m), .val (.ref b2), .val (.int (1 : Int32))] [(.int u1), (.int (1 : Int32)), (.ref b2)])) tg → Steps pP.tables eE below (s₁.setTop (entryFrame mM #[(.int u0), (.int u1), (.int u2), (.int u3), (.int m)] 7)) tg := fun tg kg => pr127 _ (by
        show Steps pP.tables eE below (T124.setTop (mkF mM 28 #[.val (.int u0), .val (.int u1), .val (.int u2), .val (.int u3), .val (.int m), .val (.ref b2), .val (.int (1 : Int32))] [(.int (m &&& (2 : Int32)))])) _
        refine XS.ifNo X124.here hx rfl (hb hby d3_28) rfl ((if0 _ _).trans (feq hc28_126).1) ?_
        show Steps pP.tables eE below (T124.setTop (mkF mM 31 #[.val (.int u0), .val (.int u1), .val (.int u2), .val (.int u3), .val (.int m), .val (.ref b2), .val (.int (1 : Int32))] [])) _
        refine XS.aload X124.here hx rfl (hb hby d3_31) rfl rfl ?_
        show Steps pP.tables eE below (T124.setTop (mkF mM 33 #[.val (.int u0), .val (.int u1), .val (.int u2), .val (.int u3), .val (.int m), .val (.ref b2), .val (.int (1 : Int32))] [(.ref b2)])) _
        refine XS.iload X124.here hx rfl (hb hby d3_33) rfl ?_
        show Steps pP.tables eE below (T124.setTop (mkF mM 35 #[.val (.int u0), .val (.int u1), .val (.int u2), .val (.int u3), .val (.int m), .val (.ref b2), .val (.int (1 : Int32))] [(.int (1 : Int32)), (.ref b2)])) _
        refine XS.iloadN X124.here hx rfl (hb hby d3_35) rfl ?_
        exact kg)
      obtain ⟨cla183, Ara183, qa183, Sa183, Ma183, Ha183, Ga183⟩ := id V124
      have hin184 : ¬ ((1 : Int32) < 0 ∨ cla183.slots.size ≤ ((1 : Int32)).toNatClampNeg) := inb_of Sa183 ⟨by decide, by decide⟩
      obtain ⟨T184, h184, X184, e184, W184, st184⟩ := stI X124 hx hZ e124 Ara183 (j := (1 : Int32)) hin184 (g := (mkF mM 36 #[.val (.int u0), .val (.int u1), .val (.int u2), .val (.int u3), .val (.int m), .val (.ref b2), .val (.int (1 : Int32))] [(.int u1), (.int (1 : Int32)), (.ref b2)])) rfl rfl (hb hby d3_36)
      have V184 : Arv Z h184 b2 k2 .int (4 : Int32) [(.int u0), (.int u1), (.int (0 : Int32)), (.int (0 : Int32))] (.int (0 : Int32)) := Arv.set Ara183 qa183 Sa183 Ma183 Ha183 Ga183 rfl W184 1 rfl (Nat.le_of_ble_eq_true rfl)
      have N184 := Fr.snoc X184 N124 gn3
      have pr185 : ∀ tg, Steps pP.tables eE below (T184.setTop (mkF mM 37 #[.val (.int u0), .val (.int u1), .val (.int u2), .val (.int u3), .val (.int m), .val (.ref b2), .val (.int (1 : Int32))] [])) tg → Steps pP.tables eE below (s₁.setTop (entryFrame mM #[(.int u0), (.int u1), (.int u2), (.int u3), (.int m)] 7)) tg := fun tg kg => pr182 _ (st184 _ kg)
      have pr187 : ∀ tg, Steps pP.tables eE below (T184.setTop (mkF mM 44 #[.val (.int u0), .val (.int u1), .val (.int u2), .val (.int u3), .val (.int m), .val (.ref b2), .val (.int (2 : Int32))] [(.int (m &&& (4 : Int32)))])) tg → Steps pP.tables eE below (s₁.setTop (entryFrame mM #[(.int u0), (.int u1), (.int u2), (.int u3), (.int m)] 7)) tg := fun tg kg => pr185 _ (by
        show Steps pP.tables eE below (T184.setTop (mkF mM 37 #[.val (.int u0), .val (.int u1), .val (.int u2), .val (.int u3), .val (.int m), .val (.ref b2), .val (.int (1 : Int32))] [])) _
        refine XS.iinc X184.here hx rfl (hb hby d3_37) rfl (l' := #[.val (.int u0), .val (.int u1), .val (.int u2), .val (.int u3), .val (.int m), .val (.ref b2), .val (.int (2 : Int32))]) rfl ?_
        show Steps pP.tables eE below (T184.setTop (mkF mM 40 #[.val (.int u0), .val (.int u1), .val (.int u2), .val (.int u3), .val (.int m), .val (.ref b2), .val (.int (2 : Int32))] [])) _
        refine XS.iload X184.here hx rfl (hb hby d3_40) rfl ?_
        show Steps pP.tables eE below (T184.setTop (mkF mM 42 #[.val (.int u0), .val (.int u1), .val (.int u2), .val (.int u3), .val (.int m), .val (.ref b2), .val (.int (2 : Int32))] [(.int m)])) _
        refine XS.iconst X184.here hx rfl (hb hby d3_42) ?_
        show Steps pP.tables eE below (T184.setTop (mkF mM 43 #[.val (.int u0), .val (.int u1), .val (.int u2), .val (.int u3), .val (.int m), .val (.ref b2), .val (.int (2 : Int32))] [(.int (4 : Int32)), (.int m)])) _
        refine XS.iand X184.here hx rfl (hb hby d3_43) rfl ?_
        exact kg)
      by_cases hc44_186 : (m &&& (4 : Int32)) = (0 : Int32)
      ·
        have pr189 : ∀ tg, Steps pP.tables eE below (T184.setTop (mkF mM 61 #[.val (.int u0), .val (.int u1), .val (.int u2), .val (.int u3), .val (.int m), .val (.ref b2), .val (.int (2 : Int32))] [(.int (m &&& (8 : Int32)))])) tg → Steps pP.tables eE below (s₁.setTop (entryFrame mM #[(.int u0), (.int u1), (.int u2), (.int u3), (.int m)] 7)) tg := fun tg kg => pr187 _ (by
          show Steps pP.tables eE below (T184.setTop (mkF mM 44 #[.val (.int u0), .val (.int u1), .val (.int u2), .val (.int u3), .val (.int m), .val (.ref b2), .val (.int (2 : Int32))] [(.int (m &&& (4 : Int32)))])) _
          refine XS.ifYes X184.here hx rfl (pc0 := 44) (pc' := 56) rfl (hb hby d3_44) rfl ((if0 _ _).trans (teq hc44_186).1) (by decide) (by decide) ?_
          show Steps pP.tables eE below (T184.setTop (mkF mM 56 #[.val (.int u0), .val (.int u1), .val (.int u2), .val (.int u3), .val (.int m), .val (.ref b2), .val (.int (2 : Int32))] [])) _
          refine XS.iload X184.here hx rfl (hb hby d3_56) rfl ?_
          show Steps pP.tables eE below (T184.setTop (mkF mM 58 #[.val (.int u0), .val (.int u1), .val (.int u2), .val (.int u3), .val (.int m), .val (.ref b2), .val (.int (2 : Int32))] [(.int m)])) _
          refine XS.bipush X184.here hx rfl (hb hby d3_58) ?_
          show Steps pP.tables eE below (T184.setTop (mkF mM 60 #[.val (.int u0), .val (.int u1), .val (.int u2), .val (.int u3), .val (.int m), .val (.ref b2), .val (.int (2 : Int32))] [(.int (8 : Int32)), (.int m)])) _
          refine XS.iand X184.here hx rfl (hb hby d3_60) rfl ?_
          exact kg)
        by_cases hc61_188 : (m &&& (8 : Int32)) = (0 : Int32)
        ·
          have pr190 : ∀ tg, Steps pP.tables eE below (T184.setTop (mkF mM 77 #[.val (.int u0), .val (.int u1), .val (.int u2), .val (.int u3), .val (.int m), .val (.ref b2), .val (.int (2 : Int32))] [(.int (2 : Int32)), (.ref b2)])) tg → Steps pP.tables eE below (s₁.setTop (entryFrame mM #[(.int u0), (.int u1), (.int u2), (.int u3), (.int m)] 7)) tg := fun tg kg => pr189 _ (by
            show Steps pP.tables eE below (T184.setTop (mkF mM 61 #[.val (.int u0), .val (.int u1), .val (.int u2), .val (.int u3), .val (.int m), .val (.ref b2), .val (.int (2 : Int32))] [(.int (m &&& (8 : Int32)))])) _
            refine XS.ifYes X184.here hx rfl (pc0 := 61) (pc' := 73) rfl (hb hby d3_61) rfl ((if0 _ _).trans (teq hc61_188).1) (by decide) (by decide) ?_
            show Steps pP.tables eE below (T184.setTop (mkF mM 73 #[.val (.int u0), .val (.int u1), .val (.int u2), .val (.int u3), .val (.int m), .val (.ref b2), .val (.int (2 : Int32))] [])) _
            refine XS.aload X184.here hx rfl (hb hby d3_73) rfl rfl ?_
            show Steps pP.tables eE below (T184.setTop (mkF mM 75 #[.val (.int u0), .val (.int u1), .val (.int u2), .val (.int u3), .val (.int m), .val (.ref b2), .val (.int (2 : Int32))] [(.ref b2)])) _
            refine XS.iload X184.here hx rfl (hb hby d3_75) rfl ?_
            exact kg)
          have c191 := (Nat.le_trans (Nat.le_trans (Nat.le_trans Z0 E2.1) (Keep.of_wr W124).1) (Keep.of_wr W184).1)
          obtain ⟨_, _, ⟨T192, L192, kk192, nn192⟩, -, X192, ⟨Lc192, hQ192, l192, y192, z192⟩, st192⟩ := Jvm.LawKit.callS X184 hx (y := (⟨"com/example/refine/refine/refinement/NormalisedLtsFirstNotInPinLaw", "take", "([II)[I"⟩ : MethodName)) hown (mvT hZ (hw _ (List.mem_of_getElem? (i := 11) rfl))) (mvT hZ (hw _ (List.mem_of_getElem? (i := 12) rfl))) (mvT hZ (hw _ (List.mem_of_getElem? (i := 8) rfl))) (mvT hZ (hw _ (List.mem_of_getElem? (i := 13) rfl))) (by decide) (backOf (W := 0) (rm22 l Z a0 hw [] b2 k2 u0 u1 (0 : Int32) (0 : Int32) h184 n0 c191 V184) hZ (hw _ (List.mem_of_getElem? (i := 13) rfl)) (hw _ (List.mem_of_getElem? (i := 8) rfl)) (by decide) (by decide)) (g := (mkF mM 77 #[.val (.int u0), .val (.int u1), .val (.int u2), .val (.int u3), .val (.int m), .val (.ref b2), .val (.int (2 : Int32))] [(.int (2 : Int32)), (.ref b2)])) rfl (by rw [hml]; rfl) (argsL := [(.ref b2), (.int (2 : Int32))]) (rest := []) (lenOf pd_0 rfl) rfl (by show 2 * 0 + _ ≤ _; exact Nat.le_of_eq rfl) (hb hby d3_77) (fun _ _ => ⟨rfl, e184, (by decide : 1 + 1 ≤ _), (by decide : 4 + 2 ≤ _)⟩)
          dsimp only [Pt.U, Pt.locs, Pt.cells, Pt.slots] at X192 l192 y192 z192 st192 hQ192
          subst l192 y192 z192
          obtain ⟨bt192, rfl, ge192, Nq192, K192, kt192, V192⟩ := hQ192
          have N192 := Fr.app N184 Nq192
          have ne193 : b2 ≠ bt192 := Nat.ne_of_lt (Nat.lt_of_lt_of_le (V184).lt ge192)
          have gn194 : n0 ≤ bt192 := Nat.le_trans c191 ge192
          have c196 := (Keep.wr (Keep.wr (Keep.ext (Keep.refl h0 []) E2) W124 (Or.inr gs4)) W184 (Or.inr gs4))
          have gs195 : h0.size ≤ bt192 := Nat.le_trans c196.1 ge192
          have pr197 : ∀ tg, Steps pP.tables eE below (T192.setTop (mkF mM 80 #[.val (.int u0), .val (.int u1), .val (.int u2), .val (.int u3), .val (.int m), .val (.ref b2), .val (.int (2 : Int32))] [(.ref bt192)])) tg → Steps pP.tables eE below (s₁.setTop (entryFrame mM #[(.int u0), (.int u1), (.int u2), (.int u3), (.int m)] 7)) tg := fun tg kg => pr190 _ (st192 _ kg)
          have c198 := (Keep.trans c196 K192 all0)
          obtain ⟨fs, hr, hrun, hended, hW, hsame⟩ := X192.leave (v := some (.ref bt192)) (fun h => by rw [Bd.returns] at h; cases h)
          refine ⟨_, _, pr197 _ (retOut X192 hx (t := (.array .int)) Bd.returns rfl (Or.inr (Or.inr (Or.inr (Or.inr ⟨rfl, rfl, rfl⟩)))) (hb hby d3_80) hr), hrun, hended, _, _, rfl, ?_, ⟨_, rfl⟩, hW, hsame.mono (by decide) (by decide)⟩
          show Q3 Z u0 u1 u2 u3 m h0 n0 _ T192.heap _
          exact ⟨_, rfl, gs195, N192, c198, _, by unfold own_pick; rw [if_neg hc12_6, if_neg hc28_126, if_pos hc44_186, if_pos hc61_188]; exact V192⟩
        ·
          have pr199 : ∀ tg, Steps pP.tables eE below (T184.setTop (mkF mM 69 #[.val (.int u0), .val (.int u1), .val (.int u2), .val (.int u3), .val (.int m), .val (.ref b2), .val (.int (2 : Int32))] [(.int u3), (.int (2 : Int32)), (.ref b2)])) tg → Steps pP.tables eE below (s₁.setTop (entryFrame mM #[(.int u0), (.int u1), (.int u2), (.int u3), (.int m)] 7)) tg := fun tg kg => pr189 _ (by
            show Steps pP.tables eE below (T184.setTop (mkF mM 61 #[.val (.int u0), .val (.int u1), .val (.int u2), .val (.int u3), .val (.int m), .val (.ref b2), .val (.int (2 : Int32))] [(.int (m &&& (8 : Int32)))])) _
            refine XS.ifNo X184.here hx rfl (hb hby d3_61) rfl ((if0 _ _).trans (feq hc61_188).1) ?_
            show Steps pP.tables eE below (T184.setTop (mkF mM 64 #[.val (.int u0), .val (.int u1), .val (.int u2), .val (.int u3), .val (.int m), .val (.ref b2), .val (.int (2 : Int32))] [])) _
            refine XS.aload X184.here hx rfl (hb hby d3_64) rfl rfl ?_
            show Steps pP.tables eE below (T184.setTop (mkF mM 66 #[.val (.int u0), .val (.int u1), .val (.int u2), .val (.int u3), .val (.int m), .val (.ref b2), .val (.int (2 : Int32))] [(.ref b2)])) _
            refine XS.iload X184.here hx rfl (hb hby d3_66) rfl ?_
            show Steps pP.tables eE below (T184.setTop (mkF mM 68 #[.val (.int u0), .val (.int u1), .val (.int u2), .val (.int u3), .val (.int m), .val (.ref b2), .val (.int (2 : Int32))] [(.int (2 : Int32)), (.ref b2)])) _
            refine XS.iloadN X184.here hx rfl (hb hby d3_68) rfl ?_
            exact kg)
          obtain ⟨cla200, Ara200, qa200, Sa200, Ma200, Ha200, Ga200⟩ := id V184
          have hin201 : ¬ ((2 : Int32) < 0 ∨ cla200.slots.size ≤ ((2 : Int32)).toNatClampNeg) := inb_of Sa200 ⟨by decide, by decide⟩
          obtain ⟨T201, h201, X201, e201, W201, st201⟩ := stI X184 hx hZ e184 Ara200 (j := (2 : Int32)) hin201 (g := (mkF mM 69 #[.val (.int u0), .val (.int u1), .val (.int u2), .val (.int u3), .val (.int m), .val (.ref b2), .val (.int (2 : Int32))] [(.int u3), (.int (2 : Int32)), (.ref b2)])) rfl rfl (hb hby d3_69)
          have V201 : Arv Z h201 b2 k2 .int (4 : Int32) [(.int u0), (.int u1), (.int u3), (.int (0 : Int32))] (.int (0 : Int32)) := Arv.set Ara200 qa200 Sa200 Ma200 Ha200 Ga200 rfl W201 2 rfl (Nat.le_of_ble_eq_true rfl)
          have N201 := Fr.snoc X201 N184 gn3
          have pr202 : ∀ tg, Steps pP.tables eE below (T201.setTop (mkF mM 70 #[.val (.int u0), .val (.int u1), .val (.int u2), .val (.int u3), .val (.int m), .val (.ref b2), .val (.int (2 : Int32))] [])) tg → Steps pP.tables eE below (s₁.setTop (entryFrame mM #[(.int u0), (.int u1), (.int u2), (.int u3), (.int m)] 7)) tg := fun tg kg => pr199 _ (st201 _ kg)
          have pr203 : ∀ tg, Steps pP.tables eE below (T201.setTop (mkF mM 77 #[.val (.int u0), .val (.int u1), .val (.int u2), .val (.int u3), .val (.int m), .val (.ref b2), .val (.int (3 : Int32))] [(.int (3 : Int32)), (.ref b2)])) tg → Steps pP.tables eE below (s₁.setTop (entryFrame mM #[(.int u0), (.int u1), (.int u2), (.int u3), (.int m)] 7)) tg := fun tg kg => pr202 _ (by
            show Steps pP.tables eE below (T201.setTop (mkF mM 70 #[.val (.int u0), .val (.int u1), .val (.int u2), .val (.int u3), .val (.int m), .val (.ref b2), .val (.int (2 : Int32))] [])) _
            refine XS.iinc X201.here hx rfl (hb hby d3_70) rfl (l' := #[.val (.int u0), .val (.int u1), .val (.int u2), .val (.int u3), .val (.int m), .val (.ref b2), .val (.int (3 : Int32))]) rfl ?_
            show Steps pP.tables eE below (T201.setTop (mkF mM 73 #[.val (.int u0), .val (.int u1), .val (.int u2), .val (.int u3), .val (.int m), .val (.ref b2), .val (.int (3 : Int32))] [])) _
            refine XS.aload X201.here hx rfl (hb hby d3_73) rfl rfl ?_
            show Steps pP.tables eE below (T201.setTop (mkF mM 75 #[.val (.int u0), .val (.int u1), .val (.int u2), .val (.int u3), .val (.int m), .val (.ref b2), .val (.int (3 : Int32))] [(.ref b2)])) _
            refine XS.iload X201.here hx rfl (hb hby d3_75) rfl ?_
            exact kg)
          have c204 := (Nat.le_trans (Nat.le_trans (Nat.le_trans (Nat.le_trans Z0 E2.1) (Keep.of_wr W124).1) (Keep.of_wr W184).1) (Keep.of_wr W201).1)
          obtain ⟨_, _, ⟨T205, L205, kk205, nn205⟩, -, X205, ⟨Lc205, hQ205, l205, y205, z205⟩, st205⟩ := Jvm.LawKit.callS X201 hx (y := (⟨"com/example/refine/refine/refinement/NormalisedLtsFirstNotInPinLaw", "take", "([II)[I"⟩ : MethodName)) hown (mvT hZ (hw _ (List.mem_of_getElem? (i := 11) rfl))) (mvT hZ (hw _ (List.mem_of_getElem? (i := 12) rfl))) (mvT hZ (hw _ (List.mem_of_getElem? (i := 8) rfl))) (mvT hZ (hw _ (List.mem_of_getElem? (i := 13) rfl))) (by decide) (backOf (W := 0) (rm23 l Z a0 hw [] b2 k2 u0 u1 u3 (0 : Int32) h201 n0 c204 V201) hZ (hw _ (List.mem_of_getElem? (i := 13) rfl)) (hw _ (List.mem_of_getElem? (i := 8) rfl)) (by decide) (by decide)) (g := (mkF mM 77 #[.val (.int u0), .val (.int u1), .val (.int u2), .val (.int u3), .val (.int m), .val (.ref b2), .val (.int (3 : Int32))] [(.int (3 : Int32)), (.ref b2)])) rfl (by rw [hml]; rfl) (argsL := [(.ref b2), (.int (3 : Int32))]) (rest := []) (lenOf pd_0 rfl) rfl (by show 2 * 0 + _ ≤ _; exact Nat.le_of_eq rfl) (hb hby d3_77) (fun _ _ => ⟨rfl, e201, (by decide : 1 + 1 ≤ _), (by decide : 4 + 3 ≤ _)⟩)
          dsimp only [Pt.U, Pt.locs, Pt.cells, Pt.slots] at X205 l205 y205 z205 st205 hQ205
          subst l205 y205 z205
          obtain ⟨bt205, rfl, ge205, Nq205, K205, kt205, V205⟩ := hQ205
          have N205 := Fr.app N201 Nq205
          have ne206 : b2 ≠ bt205 := Nat.ne_of_lt (Nat.lt_of_lt_of_le (V201).lt ge205)
          have gn207 : n0 ≤ bt205 := Nat.le_trans c204 ge205
          have c209 := (Keep.wr (Keep.wr (Keep.wr (Keep.ext (Keep.refl h0 []) E2) W124 (Or.inr gs4)) W184 (Or.inr gs4)) W201 (Or.inr gs4))
          have gs208 : h0.size ≤ bt205 := Nat.le_trans c209.1 ge205
          have pr210 : ∀ tg, Steps pP.tables eE below (T205.setTop (mkF mM 80 #[.val (.int u0), .val (.int u1), .val (.int u2), .val (.int u3), .val (.int m), .val (.ref b2), .val (.int (3 : Int32))] [(.ref bt205)])) tg → Steps pP.tables eE below (s₁.setTop (entryFrame mM #[(.int u0), (.int u1), (.int u2), (.int u3), (.int m)] 7)) tg := fun tg kg => pr203 _ (st205 _ kg)
          have c211 := (Keep.trans c209 K205 all0)
          obtain ⟨fs, hr, hrun, hended, hW, hsame⟩ := X205.leave (v := some (.ref bt205)) (fun h => by rw [Bd.returns] at h; cases h)
          refine ⟨_, _, pr210 _ (retOut X205 hx (t := (.array .int)) Bd.returns rfl (Or.inr (Or.inr (Or.inr (Or.inr ⟨rfl, rfl, rfl⟩)))) (hb hby d3_80) hr), hrun, hended, _, _, rfl, ?_, ⟨_, rfl⟩, hW, hsame.mono (by decide) (by decide)⟩
          show Q3 Z u0 u1 u2 u3 m h0 n0 _ T205.heap _
          exact ⟨_, rfl, gs208, N205, c211, _, by unfold own_pick; rw [if_neg hc12_6, if_neg hc28_126, if_pos hc44_186, if_neg hc61_188]; exact V205⟩
      ·
        have pr212 : ∀ tg, Steps pP.tables eE below (T184.setTop (mkF mM 52 #[.val (.int u0), .val (.int u1), .val (.int u2), .val (.int u3), .val (.int m), .val (.ref b2), .val (.int (2 : Int32))] [(.int u2), (.int (2 : Int32)), (.ref b2)])) tg → Steps pP.tables eE below (s₁.setTop (entryFrame mM #[(.int u0), (.int u1), (.int u2), (.int u3), (.int m)] 7)) tg := fun tg kg => pr187 _ (by
          show Steps pP.tables eE below (T184.setTop (mkF mM 44 #[.val (.int u0), .val (.int u1), .val (.int u2), .val (.int u3), .val (.int m), .val (.ref b2), .val (.int (2 : Int32))] [(.int (m &&& (4 : Int32)))])) _
          refine XS.ifNo X184.here hx rfl (hb hby d3_44) rfl ((if0 _ _).trans (feq hc44_186).1) ?_
          show Steps pP.tables eE below (T184.setTop (mkF mM 47 #[.val (.int u0), .val (.int u1), .val (.int u2), .val (.int u3), .val (.int m), .val (.ref b2), .val (.int (2 : Int32))] [])) _
          refine XS.aload X184.here hx rfl (hb hby d3_47) rfl rfl ?_
          show Steps pP.tables eE below (T184.setTop (mkF mM 49 #[.val (.int u0), .val (.int u1), .val (.int u2), .val (.int u3), .val (.int m), .val (.ref b2), .val (.int (2 : Int32))] [(.ref b2)])) _
          refine XS.iload X184.here hx rfl (hb hby d3_49) rfl ?_
          show Steps pP.tables eE below (T184.setTop (mkF mM 51 #[.val (.int u0), .val (.int u1), .val (.int u2), .val (.int u3), .val (.int m), .val (.ref b2), .val (.int (2 : Int32))] [(.int (2 : Int32)), (.ref b2)])) _
          refine XS.iloadN X184.here hx rfl (hb hby d3_51) rfl ?_
          exact kg)
        obtain ⟨cla213, Ara213, qa213, Sa213, Ma213, Ha213, Ga213⟩ := id V184
        have hin214 : ¬ ((2 : Int32) < 0 ∨ cla213.slots.size ≤ ((2 : Int32)).toNatClampNeg) := inb_of Sa213 ⟨by decide, by decide⟩
        obtain ⟨T214, h214, X214, e214, W214, st214⟩ := stI X184 hx hZ e184 Ara213 (j := (2 : Int32)) hin214 (g := (mkF mM 52 #[.val (.int u0), .val (.int u1), .val (.int u2), .val (.int u3), .val (.int m), .val (.ref b2), .val (.int (2 : Int32))] [(.int u2), (.int (2 : Int32)), (.ref b2)])) rfl rfl (hb hby d3_52)
        have V214 : Arv Z h214 b2 k2 .int (4 : Int32) [(.int u0), (.int u1), (.int u2), (.int (0 : Int32))] (.int (0 : Int32)) := Arv.set Ara213 qa213 Sa213 Ma213 Ha213 Ga213 rfl W214 2 rfl (Nat.le_of_ble_eq_true rfl)
        have N214 := Fr.snoc X214 N184 gn3
        have pr215 : ∀ tg, Steps pP.tables eE below (T214.setTop (mkF mM 53 #[.val (.int u0), .val (.int u1), .val (.int u2), .val (.int u3), .val (.int m), .val (.ref b2), .val (.int (2 : Int32))] [])) tg → Steps pP.tables eE below (s₁.setTop (entryFrame mM #[(.int u0), (.int u1), (.int u2), (.int u3), (.int m)] 7)) tg := fun tg kg => pr212 _ (st214 _ kg)
        have pr217 : ∀ tg, Steps pP.tables eE below (T214.setTop (mkF mM 61 #[.val (.int u0), .val (.int u1), .val (.int u2), .val (.int u3), .val (.int m), .val (.ref b2), .val (.int (3 : Int32))] [(.int (m &&& (8 : Int32)))])) tg → Steps pP.tables eE below (s₁.setTop (entryFrame mM #[(.int u0), (.int u1), (.int u2), (.int u3), (.int m)] 7)) tg := fun tg kg => pr215 _ (by
          show Steps pP.tables eE below (T214.setTop (mkF mM 53 #[.val (.int u0), .val (.int u1), .val (.int u2), .val (.int u3), .val (.int m), .val (.ref b2), .val (.int (2 : Int32))] [])) _
          refine XS.iinc X214.here hx rfl (hb hby d3_53) rfl (l' := #[.val (.int u0), .val (.int u1), .val (.int u2), .val (.int u3), .val (.int m), .val (.ref b2), .val (.int (3 : Int32))]) rfl ?_
          show Steps pP.tables eE below (T214.setTop (mkF mM 56 #[.val (.int u0), .val (.int u1), .val (.int u2), .val (.int u3), .val (.int m), .val (.ref b2), .val (.int (3 : Int32))] [])) _
          refine XS.iload X214.here hx rfl (hb hby d3_56) rfl ?_
          show Steps pP.tables eE below (T214.setTop (mkF mM 58 #[.val (.int u0), .val (.int u1), .val (.int u2), .val (.int u3), .val (.int m), .val (.ref b2), .val (.int (3 : Int32))] [(.int m)])) _
          refine XS.bipush X214.here hx rfl (hb hby d3_58) ?_
          show Steps pP.tables eE below (T214.setTop (mkF mM 60 #[.val (.int u0), .val (.int u1), .val (.int u2), .val (.int u3), .val (.int m), .val (.ref b2), .val (.int (3 : Int32))] [(.int (8 : Int32)), (.int m)])) _
          refine XS.iand X214.here hx rfl (hb hby d3_60) rfl ?_
          exact kg)
        by_cases hc61_216 : (m &&& (8 : Int32)) = (0 : Int32)
        ·
          have pr218 : ∀ tg, Steps pP.tables eE below (T214.setTop (mkF mM 77 #[.val (.int u0), .val (.int u1), .val (.int u2), .val (.int u3), .val (.int m), .val (.ref b2), .val (.int (3 : Int32))] [(.int (3 : Int32)), (.ref b2)])) tg → Steps pP.tables eE below (s₁.setTop (entryFrame mM #[(.int u0), (.int u1), (.int u2), (.int u3), (.int m)] 7)) tg := fun tg kg => pr217 _ (by
            show Steps pP.tables eE below (T214.setTop (mkF mM 61 #[.val (.int u0), .val (.int u1), .val (.int u2), .val (.int u3), .val (.int m), .val (.ref b2), .val (.int (3 : Int32))] [(.int (m &&& (8 : Int32)))])) _
            refine XS.ifYes X214.here hx rfl (pc0 := 61) (pc' := 73) rfl (hb hby d3_61) rfl ((if0 _ _).trans (teq hc61_216).1) (by decide) (by decide) ?_
            show Steps pP.tables eE below (T214.setTop (mkF mM 73 #[.val (.int u0), .val (.int u1), .val (.int u2), .val (.int u3), .val (.int m), .val (.ref b2), .val (.int (3 : Int32))] [])) _
            refine XS.aload X214.here hx rfl (hb hby d3_73) rfl rfl ?_
            show Steps pP.tables eE below (T214.setTop (mkF mM 75 #[.val (.int u0), .val (.int u1), .val (.int u2), .val (.int u3), .val (.int m), .val (.ref b2), .val (.int (3 : Int32))] [(.ref b2)])) _
            refine XS.iload X214.here hx rfl (hb hby d3_75) rfl ?_
            exact kg)
          have c219 := (Nat.le_trans (Nat.le_trans (Nat.le_trans (Nat.le_trans Z0 E2.1) (Keep.of_wr W124).1) (Keep.of_wr W184).1) (Keep.of_wr W214).1)
          obtain ⟨_, _, ⟨T220, L220, kk220, nn220⟩, -, X220, ⟨Lc220, hQ220, l220, y220, z220⟩, st220⟩ := Jvm.LawKit.callS X214 hx (y := (⟨"com/example/refine/refine/refinement/NormalisedLtsFirstNotInPinLaw", "take", "([II)[I"⟩ : MethodName)) hown (mvT hZ (hw _ (List.mem_of_getElem? (i := 11) rfl))) (mvT hZ (hw _ (List.mem_of_getElem? (i := 12) rfl))) (mvT hZ (hw _ (List.mem_of_getElem? (i := 8) rfl))) (mvT hZ (hw _ (List.mem_of_getElem? (i := 13) rfl))) (by decide) (backOf (W := 0) (rm23 l Z a0 hw [] b2 k2 u0 u1 u2 (0 : Int32) h214 n0 c219 V214) hZ (hw _ (List.mem_of_getElem? (i := 13) rfl)) (hw _ (List.mem_of_getElem? (i := 8) rfl)) (by decide) (by decide)) (g := (mkF mM 77 #[.val (.int u0), .val (.int u1), .val (.int u2), .val (.int u3), .val (.int m), .val (.ref b2), .val (.int (3 : Int32))] [(.int (3 : Int32)), (.ref b2)])) rfl (by rw [hml]; rfl) (argsL := [(.ref b2), (.int (3 : Int32))]) (rest := []) (lenOf pd_0 rfl) rfl (by show 2 * 0 + _ ≤ _; exact Nat.le_of_eq rfl) (hb hby d3_77) (fun _ _ => ⟨rfl, e214, (by decide : 1 + 1 ≤ _), (by decide : 4 + 3 ≤ _)⟩)
          dsimp only [Pt.U, Pt.locs, Pt.cells, Pt.slots] at X220 l220 y220 z220 st220 hQ220
          subst l220 y220 z220
          obtain ⟨bt220, rfl, ge220, Nq220, K220, kt220, V220⟩ := hQ220
          have N220 := Fr.app N214 Nq220
          have ne221 : b2 ≠ bt220 := Nat.ne_of_lt (Nat.lt_of_lt_of_le (V214).lt ge220)
          have gn222 : n0 ≤ bt220 := Nat.le_trans c219 ge220
          have c224 := (Keep.wr (Keep.wr (Keep.wr (Keep.ext (Keep.refl h0 []) E2) W124 (Or.inr gs4)) W184 (Or.inr gs4)) W214 (Or.inr gs4))
          have gs223 : h0.size ≤ bt220 := Nat.le_trans c224.1 ge220
          have pr225 : ∀ tg, Steps pP.tables eE below (T220.setTop (mkF mM 80 #[.val (.int u0), .val (.int u1), .val (.int u2), .val (.int u3), .val (.int m), .val (.ref b2), .val (.int (3 : Int32))] [(.ref bt220)])) tg → Steps pP.tables eE below (s₁.setTop (entryFrame mM #[(.int u0), (.int u1), (.int u2), (.int u3), (.int m)] 7)) tg := fun tg kg => pr218 _ (st220 _ kg)
          have c226 := (Keep.trans c224 K220 all0)
          obtain ⟨fs, hr, hrun, hended, hW, hsame⟩ := X220.leave (v := some (.ref bt220)) (fun h => by rw [Bd.returns] at h; cases h)
          refine ⟨_, _, pr225 _ (retOut X220 hx (t := (.array .int)) Bd.returns rfl (Or.inr (Or.inr (Or.inr (Or.inr ⟨rfl, rfl, rfl⟩)))) (hb hby d3_80) hr), hrun, hended, _, _, rfl, ?_, ⟨_, rfl⟩, hW, hsame.mono (by decide) (by decide)⟩
          show Q3 Z u0 u1 u2 u3 m h0 n0 _ T220.heap _
          exact ⟨_, rfl, gs223, N220, c226, _, by unfold own_pick; rw [if_neg hc12_6, if_neg hc28_126, if_neg hc44_186, if_pos hc61_216]; exact V220⟩
        ·
          have pr227 : ∀ tg, Steps pP.tables eE below (T214.setTop (mkF mM 69 #[.val (.int u0), .val (.int u1), .val (.int u2), .val (.int u3), .val (.int m), .val (.ref b2), .val (.int (3 : Int32))] [(.int u3), (.int (3 : Int32)), (.ref b2)])) tg → Steps pP.tables eE below (s₁.setTop (entryFrame mM #[(.int u0), (.int u1), (.int u2), (.int u3), (.int m)] 7)) tg := fun tg kg => pr217 _ (by
            show Steps pP.tables eE below (T214.setTop (mkF mM 61 #[.val (.int u0), .val (.int u1), .val (.int u2), .val (.int u3), .val (.int m), .val (.ref b2), .val (.int (3 : Int32))] [(.int (m &&& (8 : Int32)))])) _
            refine XS.ifNo X214.here hx rfl (hb hby d3_61) rfl ((if0 _ _).trans (feq hc61_216).1) ?_
            show Steps pP.tables eE below (T214.setTop (mkF mM 64 #[.val (.int u0), .val (.int u1), .val (.int u2), .val (.int u3), .val (.int m), .val (.ref b2), .val (.int (3 : Int32))] [])) _
            refine XS.aload X214.here hx rfl (hb hby d3_64) rfl rfl ?_
            show Steps pP.tables eE below (T214.setTop (mkF mM 66 #[.val (.int u0), .val (.int u1), .val (.int u2), .val (.int u3), .val (.int m), .val (.ref b2), .val (.int (3 : Int32))] [(.ref b2)])) _
            refine XS.iload X214.here hx rfl (hb hby d3_66) rfl ?_
            show Steps pP.tables eE below (T214.setTop (mkF mM 68 #[.val (.int u0), .val (.int u1), .val (.int u2), .val (.int u3), .val (.int m), .val (.ref b2), .val (.int (3 : Int32))] [(.int (3 : Int32)), (.ref b2)])) _
            refine XS.iloadN X214.here hx rfl (hb hby d3_68) rfl ?_
            exact kg)
          obtain ⟨cla228, Ara228, qa228, Sa228, Ma228, Ha228, Ga228⟩ := id V214
          have hin229 : ¬ ((3 : Int32) < 0 ∨ cla228.slots.size ≤ ((3 : Int32)).toNatClampNeg) := inb_of Sa228 ⟨by decide, by decide⟩
          obtain ⟨T229, h229, X229, e229, W229, st229⟩ := stI X214 hx hZ e214 Ara228 (j := (3 : Int32)) hin229 (g := (mkF mM 69 #[.val (.int u0), .val (.int u1), .val (.int u2), .val (.int u3), .val (.int m), .val (.ref b2), .val (.int (3 : Int32))] [(.int u3), (.int (3 : Int32)), (.ref b2)])) rfl rfl (hb hby d3_69)
          have V229 : Arv Z h229 b2 k2 .int (4 : Int32) [(.int u0), (.int u1), (.int u2), (.int u3)] (.int (0 : Int32)) := Arv.set Ara228 qa228 Sa228 Ma228 Ha228 Ga228 rfl W229 3 rfl (Nat.le_of_ble_eq_true rfl)
          have N229 := Fr.snoc X229 N214 gn3
          have pr230 : ∀ tg, Steps pP.tables eE below (T229.setTop (mkF mM 70 #[.val (.int u0), .val (.int u1), .val (.int u2), .val (.int u3), .val (.int m), .val (.ref b2), .val (.int (3 : Int32))] [])) tg → Steps pP.tables eE below (s₁.setTop (entryFrame mM #[(.int u0), (.int u1), (.int u2), (.int u3), (.int m)] 7)) tg := fun tg kg => pr227 _ (st229 _ kg)
          have pr231 : ∀ tg, Steps pP.tables eE below (T229.setTop (mkF mM 77 #[.val (.int u0), .val (.int u1), .val (.int u2), .val (.int u3), .val (.int m), .val (.ref b2), .val (.int (4 : Int32))] [(.int (4 : Int32)), (.ref b2)])) tg → Steps pP.tables eE below (s₁.setTop (entryFrame mM #[(.int u0), (.int u1), (.int u2), (.int u3), (.int m)] 7)) tg := fun tg kg => pr230 _ (by
            show Steps pP.tables eE below (T229.setTop (mkF mM 70 #[.val (.int u0), .val (.int u1), .val (.int u2), .val (.int u3), .val (.int m), .val (.ref b2), .val (.int (3 : Int32))] [])) _
            refine XS.iinc X229.here hx rfl (hb hby d3_70) rfl (l' := #[.val (.int u0), .val (.int u1), .val (.int u2), .val (.int u3), .val (.int m), .val (.ref b2), .val (.int (4 : Int32))]) rfl ?_
            show Steps pP.tables eE below (T229.setTop (mkF mM 73 #[.val (.int u0), .val (.int u1), .val (.int u2), .val (.int u3), .val (.int m), .val (.ref b2), .val (.int (4 : Int32))] [])) _
            refine XS.aload X229.here hx rfl (hb hby d3_73) rfl rfl ?_
            show Steps pP.tables eE below (T229.setTop (mkF mM 75 #[.val (.int u0), .val (.int u1), .val (.int u2), .val (.int u3), .val (.int m), .val (.ref b2), .val (.int (4 : Int32))] [(.ref b2)])) _
            refine XS.iload X229.here hx rfl (hb hby d3_75) rfl ?_
            exact kg)
          have c232 := (Nat.le_trans (Nat.le_trans (Nat.le_trans (Nat.le_trans (Nat.le_trans Z0 E2.1) (Keep.of_wr W124).1) (Keep.of_wr W184).1) (Keep.of_wr W214).1) (Keep.of_wr W229).1)
          obtain ⟨_, _, ⟨T233, L233, kk233, nn233⟩, -, X233, ⟨Lc233, hQ233, l233, y233, z233⟩, st233⟩ := Jvm.LawKit.callS X229 hx (y := (⟨"com/example/refine/refine/refinement/NormalisedLtsFirstNotInPinLaw", "take", "([II)[I"⟩ : MethodName)) hown (mvT hZ (hw _ (List.mem_of_getElem? (i := 11) rfl))) (mvT hZ (hw _ (List.mem_of_getElem? (i := 12) rfl))) (mvT hZ (hw _ (List.mem_of_getElem? (i := 8) rfl))) (mvT hZ (hw _ (List.mem_of_getElem? (i := 13) rfl))) (by decide) (backOf (W := 0) (rm24 l Z a0 hw [] b2 k2 u0 u1 u2 u3 h229 n0 c232 V229) hZ (hw _ (List.mem_of_getElem? (i := 13) rfl)) (hw _ (List.mem_of_getElem? (i := 8) rfl)) (by decide) (by decide)) (g := (mkF mM 77 #[.val (.int u0), .val (.int u1), .val (.int u2), .val (.int u3), .val (.int m), .val (.ref b2), .val (.int (4 : Int32))] [(.int (4 : Int32)), (.ref b2)])) rfl (by rw [hml]; rfl) (argsL := [(.ref b2), (.int (4 : Int32))]) (rest := []) (lenOf pd_0 rfl) rfl (by show 2 * 0 + _ ≤ _; exact Nat.le_of_eq rfl) (hb hby d3_77) (fun _ _ => ⟨rfl, e229, (by decide : 1 + 1 ≤ _), (by decide : 4 + 4 ≤ _)⟩)
          dsimp only [Pt.U, Pt.locs, Pt.cells, Pt.slots] at X233 l233 y233 z233 st233 hQ233
          subst l233 y233 z233
          obtain ⟨bt233, rfl, ge233, Nq233, K233, kt233, V233⟩ := hQ233
          have N233 := Fr.app N229 Nq233
          have ne234 : b2 ≠ bt233 := Nat.ne_of_lt (Nat.lt_of_lt_of_le (V229).lt ge233)
          have gn235 : n0 ≤ bt233 := Nat.le_trans c232 ge233
          have c237 := (Keep.wr (Keep.wr (Keep.wr (Keep.wr (Keep.ext (Keep.refl h0 []) E2) W124 (Or.inr gs4)) W184 (Or.inr gs4)) W214 (Or.inr gs4)) W229 (Or.inr gs4))
          have gs236 : h0.size ≤ bt233 := Nat.le_trans c237.1 ge233
          have pr238 : ∀ tg, Steps pP.tables eE below (T233.setTop (mkF mM 80 #[.val (.int u0), .val (.int u1), .val (.int u2), .val (.int u3), .val (.int m), .val (.ref b2), .val (.int (4 : Int32))] [(.ref bt233)])) tg → Steps pP.tables eE below (s₁.setTop (entryFrame mM #[(.int u0), (.int u1), (.int u2), (.int u3), (.int m)] 7)) tg := fun tg kg => pr231 _ (st233 _ kg)
          have c239 := (Keep.trans c237 K233 all0)
          obtain ⟨fs, hr, hrun, hended, hW, hsame⟩ := X233.leave (v := some (.ref bt233)) (fun h => by rw [Bd.returns] at h; cases h)
          refine ⟨_, _, pr238 _ (retOut X233 hx (t := (.array .int)) Bd.returns rfl (Or.inr (Or.inr (Or.inr (Or.inr ⟨rfl, rfl, rfl⟩)))) (hb hby d3_80) hr), hrun, hended, _, _, rfl, ?_, ⟨_, rfl⟩, hW, hsame.mono (by decide) (by decide)⟩
          show Q3 Z u0 u1 u2 u3 m h0 n0 _ T233.heap _
          exact ⟨_, rfl, gs236, N233, c239, _, by unfold own_pick; rw [if_neg hc12_6, if_neg hc28_126, if_neg hc44_186, if_neg hc61_216]; exact V233⟩
theorem own_os {v0 v1 v2 v3 v4 v5 : Value} {s6 : Slot} {v : Int32} (h : One s6) : storeLocals #[.val v0, .val v1, .val v2, .val v3, .val v4, .val v5, s6] 6 (.int v) = some #[.val v0, .val v1, .val v2, .val v3, .val v4, .val v5, .val (.int v)] := by
  rcases h with rfl | ⟨w, rfl, hw⟩
  · rfl
  · cases w <;> first | rfl | (simp [Value.category] at hw)
theorem d4_0 : decode prog_150_method_11_code 0 = .ok (.iconst 0, 1) := by decide +kernel
theorem d4_1 : decode prog_150_method_11_code 1 = .ok (.istore_n 2, 1) := by decide +kernel
theorem d4_2 : decode prog_150_method_11_code 2 = .ok (.aload_n 0, 1) := by decide +kernel
theorem d4_3 : decode prog_150_method_11_code 3 = .ok (.astore_n 3, 1) := by decide +kernel
theorem d4_4 : decode prog_150_method_11_code 4 = .ok (.aload_n 3, 1) := by decide +kernel
theorem d4_5 : decode prog_150_method_11_code 5 = .ok (.arraylength, 1) := by decide +kernel
theorem d4_6 : decode prog_150_method_11_code 6 = .ok (.istore 4, 2) := by decide +kernel
theorem d4_8 : decode prog_150_method_11_code 8 = .ok (.iconst 0, 1) := by decide +kernel
theorem d4_9 : decode prog_150_method_11_code 9 = .ok (.istore 5, 2) := by decide +kernel
theorem d4_11 : decode prog_150_method_11_code 11 = .ok (.iload 5, 2) := by decide +kernel
theorem d4_13 : decode prog_150_method_11_code 13 = .ok (.iload 4, 2) := by decide +kernel
theorem d4_15 : decode prog_150_method_11_code 15 = .ok (.if_icmp .ge 52, 3) := by decide +kernel
theorem d4_18 : decode prog_150_method_11_code 18 = .ok (.aload_n 3, 1) := by decide +kernel
theorem d4_19 : decode prog_150_method_11_code 19 = .ok (.iload 5, 2) := by decide +kernel
theorem d4_21 : decode prog_150_method_11_code 21 = .ok (.iaload, 1) := by decide +kernel
theorem d4_22 : decode prog_150_method_11_code 22 = .ok (.istore 6, 2) := by decide +kernel
theorem d4_24 : decode prog_150_method_11_code 24 = .ok (.iload_n 2, 1) := by decide +kernel
theorem d4_25 : decode prog_150_method_11_code 25 = .ok (.aload_n 1, 1) := by decide +kernel
theorem d4_26 : decode prog_150_method_11_code 26 = .ok (.arraylength, 1) := by decide +kernel
theorem d4_27 : decode prog_150_method_11_code 27 = .ok (.if_icmp .ge 17, 3) := by decide +kernel
theorem d4_30 : decode prog_150_method_11_code 30 = .ok (.aload_n 1, 1) := by decide +kernel
theorem d4_31 : decode prog_150_method_11_code 31 = .ok (.iload_n 2, 1) := by decide +kernel
theorem d4_32 : decode prog_150_method_11_code 32 = .ok (.iaload, 1) := by decide +kernel
theorem d4_33 : decode prog_150_method_11_code 33 = .ok (.iload 6, 2) := by decide +kernel
theorem d4_35 : decode prog_150_method_11_code 35 = .ok (.if_icmp .ge 9, 3) := by decide +kernel
theorem d4_38 : decode prog_150_method_11_code 38 = .ok (.iinc 2 1, 3) := by decide +kernel
theorem d4_41 : decode prog_150_method_11_code 41 = .ok (.goto (-17), 3) := by decide +kernel
theorem d4_44 : decode prog_150_method_11_code 44 = .ok (.iload_n 2, 1) := by decide +kernel
theorem d4_45 : decode prog_150_method_11_code 45 = .ok (.aload_n 1, 1) := by decide +kernel
theorem d4_46 : decode prog_150_method_11_code 46 = .ok (.arraylength, 1) := by decide +kernel
theorem d4_47 : decode prog_150_method_11_code 47 = .ok (.if_icmp .eq 11, 3) := by decide +kernel
theorem d4_50 : decode prog_150_method_11_code 50 = .ok (.aload_n 1, 1) := by decide +kernel
theorem d4_51 : decode prog_150_method_11_code 51 = .ok (.iload_n 2, 1) := by decide +kernel
theorem d4_52 : decode prog_150_method_11_code 52 = .ok (.iaload, 1) := by decide +kernel
theorem d4_53 : decode prog_150_method_11_code 53 = .ok (.iload 6, 2) := by decide +kernel
theorem d4_55 : decode prog_150_method_11_code 55 = .ok (.if_icmp .eq 6, 3) := by decide +kernel
theorem d4_58 : decode prog_150_method_11_code 58 = .ok (.iload 6, 2) := by decide +kernel
theorem d4_60 : decode prog_150_method_11_code 60 = .ok (.ireturn, 1) := by decide +kernel
theorem d4_61 : decode prog_150_method_11_code 61 = .ok (.iinc 5 1, 3) := by decide +kernel
theorem d4_64 : decode prog_150_method_11_code 64 = .ok (.goto (-53), 3) := by decide +kernel
theorem d4_67 : decode prog_150_method_11_code 67 = .ok (.iconst (-1), 1) := by decide +kernel
theorem d4_68 : decode prog_150_method_11_code 68 = .ok (.ireturn, 1) := by decide +kernel
theorem pn_1 : plainName "com/example/refine/refine/refinement/NormalisedLts" = true := by first | (simp [plainName, overriddenIn]; done) | decide +kernel
theorem ef_4 (mM : MethodId) (x0 : Addr) (x1 : Addr) : entryFrame mM #[(.ref x0), (.ref x1)] 7 = mkF mM 0 #[.val (.ref x0), .val (.ref x1), .unset, .unset, .unset, .unset, .unset] [] := by first | (simp [entryFrame, mkF, argsToLocals, Value.category]; done) | rfl
def Q4 (Z : State) (x : Addr) (y : Addr) (kx : ClassId) (ky : ClassId) (lx : List Int32) (ly : List Int32) (h0 : Heap) (n0 : Nat) (v : Option Value) (h : Heap) (L : List Loc) : Prop := v = some (.int (own_fni lx ly)) ∧ Fr n0 L ∧ h = h0
set_option maxRecDepth 65536 in
set_option maxHeartbeats 40000000 in
theorem rm4 (l : Launch) (Z : State) (a0 : Array Value) (hw : ∀ d ∈ tables_1, d.before a0 Z = true) (ws : List Jvm.Cond) (x : Addr) (y : Addr) (kx : ClassId) (ky : ClassId) (lx : List Int32) (ly : List Int32) (h0 : Heap) (n0 : Nat) (Z0 : n0 ≤ h0.size) (V_x : Arv Z h0 x kx .int (Int32.ofNat lx.length) (lx.map Value.int) (.int (0 : Int32))) (V_y : Arv Z h0 y ky .int (Int32.ofNat ly.length) (ly.map Value.int) (.int (0 : Int32))) (hlx : lx.length ≤ 4) (hly : ly.length ≤ 4) :
    MetFree l (⟨"com/example/refine/refine/refinement/NormalisedLts", "firstNotIn", "([I[I)I"⟩ : MethodName) (head1 (Jvm.Cond.code (⟨"com/example/refine/refine/refinement/NormalisedLts", "firstNotIn", "([I[I)I"⟩ : MethodName) prog_150_method_11_code 7 (some .int) :: ws) ({ frames := 0, cells := 0, slots := 0, locals := 0 } : Room)) (fun aA uU => aA = #[(.ref x), (.ref y)] ∧ Z.Warmed39 uU.vm ∧ uU.heap = h0) (fun _ _ _ _ _ => True) (fun _ uU oO uU' => ∃ vV lL, oO = .returned vV ∧ Q4 Z x y kx ky lx ly h0 n0 vV uU'.heap lL ∧ FrameEnd uU oO uU' lL ({ frames := 0, cells := 0, slots := 0, locals := 0 } : Room).cells ({ frames := 0, cells := 0, slots := 0, locals := 0 } : Room).slots) := by
  refine MetFree.of_bodySF (plainFor_of_name pn_1) hisR ?_
  intro pP eE sS mM args below meth cC s₁ Bd hml0 hP hK
  obtain ⟨rfl, hZ, hh⟩ := hP
  have hx := Bd.exec
  have hby := Bd.bytes
  have hml : cC.maxLocals = 7 := hml0
  have hown : sS.vm.findClass "com/example/refine/refine/refinement/NormalisedLts" = some mM.cls := findClass_of_methodNamed Bd.named
  have hnm := (name_of_methodNamed Bd.named Bd.method).1
  have X0 : Stand pP l eE ({ frames := 0, cells := 0, slots := 0, locals := 0 } : Room) sS mM #[(.ref x), (.ref y)] below meth cC s₁ [] 0 0 := Stand.of_body Bd
  have e0 : s₁.heap = h0 := by rw [← hh, Bd.state]; rfl
  have N0 := Fr.nil n0
  have pre0 : ∀ tg, Steps pP.tables eE below (s₁.setTop (mkF mM 0 #[.val (.ref x), .val (.ref y), .unset, .unset, .unset, .unset, .unset] [])) tg → Steps pP.tables eE below (s₁.setTop (entryFrame mM #[(.ref x), (.ref y)] 7)) tg := fun tg kg => castTop (ef_4 mM x y) kg
  obtain ⟨cla1, Ara1, qa1, Sa1, Ma1, Ha1, Ga1⟩ := id V_x
  have pr2 : ∀ tg, Steps pP.tables eE below (s₁.setTop (mkF mM 11 #[.val (.ref x), .val (.ref y), .val (.int (0 : Int32)), .val (.ref x), .val (.int (Int32.ofNat lx.length)), .val (.int (0 : Int32)), .unset] [])) tg → Steps pP.tables eE below (s₁.setTop (entryFrame mM #[(.ref x), (.ref y)] 7)) tg := fun tg kg => pre0 _ (by
    show Steps pP.tables eE below (s₁.setTop (mkF mM 0 #[.val (.ref x), .val (.ref y), .unset, .unset, .unset, .unset, .unset] [])) _
    refine XS.iconst X0.here hx rfl (hb hby d4_0) ?_
    show Steps pP.tables eE below (s₁.setTop (mkF mM 1 #[.val (.ref x), .val (.ref y), .unset, .unset, .unset, .unset, .unset] [(.int (0 : Int32))])) _
    refine XS.istoreN X0.here hx rfl (hb hby d4_1) rfl (l' := #[.val (.ref x), .val (.ref y), .val (.int (0 : Int32)), .unset, .unset, .unset, .unset]) rfl ?_
    show Steps pP.tables eE below (s₁.setTop (mkF mM 2 #[.val (.ref x), .val (.ref y), .val (.int (0 : Int32)), .unset, .unset, .unset, .unset] [])) _
    refine XS.aloadN X0.here hx rfl (hb hby d4_2) rfl rfl ?_
    show Steps pP.tables eE below (s₁.setTop (mkF mM 3 #[.val (.ref x), .val (.ref y), .val (.int (0 : Int32)), .unset, .unset, .unset, .unset] [(.ref x)])) _
    refine XS.astoreN X0.here hx rfl (hb hby d4_3) rfl rfl (l' := #[.val (.ref x), .val (.ref y), .val (.int (0 : Int32)), .val (.ref x), .unset, .unset, .unset]) rfl ?_
    show Steps pP.tables eE below (s₁.setTop (mkF mM 4 #[.val (.ref x), .val (.ref y), .val (.int (0 : Int32)), .val (.ref x), .unset, .unset, .unset] [])) _
    refine XS.aloadN X0.here hx rfl (hb hby d4_4) rfl rfl ?_
    show Steps pP.tables eE below (s₁.setTop (mkF mM 5 #[.val (.ref x), .val (.ref y), .val (.int (0 : Int32)), .val (.ref x), .unset, .unset, .unset] [(.ref x)])) _
    refine X0.arraylength hx (by rw [e0]; exact Ara1.1) (State.isArrayOf_alike hZ.alike Ara1.2.1) (g := (mkF mM 5 #[.val (.ref x), .val (.ref y), .val (.int (0 : Int32)), .val (.ref x), .unset, .unset, .unset] [(.ref x)])) rfl rfl (hb hby d4_5) _ ?_
    rw [len_of Sa1 Ma1]
    show Steps pP.tables eE below (s₁.setTop (mkF mM 6 #[.val (.ref x), .val (.ref y), .val (.int (0 : Int32)), .val (.ref x), .unset, .unset, .unset] [(.int (Int32.ofNat lx.length))])) _
    refine XS.istore X0.here hx rfl (hb hby d4_6) rfl (l' := #[.val (.ref x), .val (.ref y), .val (.int (0 : Int32)), .val (.ref x), .val (.int (Int32.ofNat lx.length)), .unset, .unset]) rfl ?_
    show Steps pP.tables eE below (s₁.setTop (mkF mM 8 #[.val (.ref x), .val (.ref y), .val (.int (0 : Int32)), .val (.ref x), .val (.int (Int32.ofNat lx.length)), .unset, .unset] [])) _
    refine XS.iconst X0.here hx rfl (hb hby d4_8) ?_
    show Steps pP.tables eE below (s₁.setTop (mkF mM 9 #[.val (.ref x), .val (.ref y), .val (.int (0 : Int32)), .val (.ref x), .val (.int (Int32.ofNat lx.length)), .unset, .unset] [(.int (0 : Int32))])) _
    refine XS.istore X0.here hx rfl (hb hby d4_9) rfl (l' := #[.val (.ref x), .val (.ref y), .val (.int (0 : Int32)), .val (.ref x), .val (.int (Int32.ofNat lx.length)), .val (.int (0 : Int32)), .unset]) rfl ?_
    exact kg)
  obtain ⟨cla3, Ara3, qa3, Sa3, Ma3, Ha3, Ga3⟩ := id V_y
  have inner : ∀ (x6 : Int32) (i k j : Nat), j + k = ly.length → ∃ j' : Nat, j' ≤ ly.length ∧ own_skip x6 (ly.drop j) = ly.drop j' ∧ ∀ t, Steps pP.tables eE below (s₁.setTop (mkF mM 44 #[.val (.ref x), .val (.ref y), .val (.int (Int32.ofNat j')), .val (.ref x), .val (.int (Int32.ofNat lx.length)), .val (.int (Int32.ofNat i)), .val (.int x6)] [])) t → Steps pP.tables eE below (s₁.setTop (mkF mM 24 #[.val (.ref x), .val (.ref y), .val (.int (Int32.ofNat j)), .val (.ref x), .val (.int (Int32.ofNat lx.length)), .val (.int (Int32.ofNat i)), .val (.int x6)] [])) t := by
    intro x6 i k
    induction k with
    | zero =>
      intro j hj
      have hj' : j = ly.length := by omega
      subst hj'
      refine ⟨ly.length, Nat.le_refl _, by rw [List.drop_length]; rfl, fun t kk => ?_⟩
      show Steps pP.tables eE below (s₁.setTop (mkF mM 24 #[.val (.ref x), .val (.ref y), .val (.int (Int32.ofNat ly.length)), .val (.ref x), .val (.int (Int32.ofNat lx.length)), .val (.int (Int32.ofNat i)), .val (.int x6)] [])) _
      refine XS.iloadN X0.here hx rfl (hb hby d4_24) rfl ?_
      show Steps pP.tables eE below (s₁.setTop (mkF mM 25 #[.val (.ref x), .val (.ref y), .val (.int (Int32.ofNat ly.length)), .val (.ref x), .val (.int (Int32.ofNat lx.length)), .val (.int (Int32.ofNat i)), .val (.int x6)] [(.int (Int32.ofNat ly.length))])) _
      refine XS.aloadN X0.here hx rfl (hb hby d4_25) rfl rfl ?_
      show Steps pP.tables eE below (s₁.setTop (mkF mM 26 #[.val (.ref x), .val (.ref y), .val (.int (Int32.ofNat ly.length)), .val (.ref x), .val (.int (Int32.ofNat lx.length)), .val (.int (Int32.ofNat i)), .val (.int x6)] [(.ref y), (.int (Int32.ofNat ly.length))])) _
      refine X0.arraylength hx (by rw [e0]; exact Ara3.1) (State.isArrayOf_alike hZ.alike Ara3.2.1) (g := (mkF mM 26 #[.val (.ref x), .val (.ref y), .val (.int (Int32.ofNat ly.length)), .val (.ref x), .val (.int (Int32.ofNat lx.length)), .val (.int (Int32.ofNat i)), .val (.int x6)] [(.ref y), (.int (Int32.ofNat ly.length))])) rfl rfl (hb hby d4_26) _ ?_
      rw [len_of Sa3 Ma3]
      show Steps pP.tables eE below (s₁.setTop (mkF mM 27 #[.val (.ref x), .val (.ref y), .val (.int (Int32.ofNat ly.length)), .val (.ref x), .val (.int (Int32.ofNat lx.length)), .val (.int (Int32.ofNat i)), .val (.int x6)] [(.int (Int32.ofNat ly.length)), (.int (Int32.ofNat ly.length))])) _
      refine XS.icmpYes X0.here hx rfl (pc0 := 27) (pc' := 44) rfl (hb hby d4_27) rfl (flt Int32.lt_irrefl).2.1 (by decide) (by decide) ?_
      exact kk
    | succ k ih =>
      intro j hj
      obtain ⟨y6, hy6⟩ : ∃ z, ly[j]? = some z := ⟨_, List.getElem?_eq_getElem (by omega)⟩
      have hlt : Int32.ofNat j < Int32.ofNat ly.length := own_lt (by omega) (by omega)
      have hinY : ¬ (Int32.ofNat j < 0 ∨ cla3.slots.size ≤ (Int32.ofNat j).toNatClampNeg) := inb_of Sa3 ⟨own_nn (by omega), hlt⟩
      have hatY : cla3.slots[(Int32.ofNat j).toNatClampNeg]? = some (.int y6) := Has.at Ha3 hinY (own_at hy6 (by omega))
      by_cases hc : y6 < x6
      · obtain ⟨j', h1, h2, h3⟩ := ih (j + 1) (by omega)
        refine ⟨j', h1, by rw [own_drop hy6, own_sk hc]; exact h2, fun t kk => ?_⟩
        show Steps pP.tables eE below (s₁.setTop (mkF mM 24 #[.val (.ref x), .val (.ref y), .val (.int (Int32.ofNat j)), .val (.ref x), .val (.int (Int32.ofNat lx.length)), .val (.int (Int32.ofNat i)), .val (.int x6)] [])) _
        refine XS.iloadN X0.here hx rfl (hb hby d4_24) rfl ?_
        show Steps pP.tables eE below (s₁.setTop (mkF mM 25 #[.val (.ref x), .val (.ref y), .val (.int (Int32.ofNat j)), .val (.ref x), .val (.int (Int32.ofNat lx.length)), .val (.int (Int32.ofNat i)), .val (.int x6)] [(.int (Int32.ofNat j))])) _
        refine XS.aloadN X0.here hx rfl (hb hby d4_25) rfl rfl ?_
        show Steps pP.tables eE below (s₁.setTop (mkF mM 26 #[.val (.ref x), .val (.ref y), .val (.int (Int32.ofNat j)), .val (.ref x), .val (.int (Int32.ofNat lx.length)), .val (.int (Int32.ofNat i)), .val (.int x6)] [(.ref y), (.int (Int32.ofNat j))])) _
        refine X0.arraylength hx (by rw [e0]; exact Ara3.1) (State.isArrayOf_alike hZ.alike Ara3.2.1) (g := (mkF mM 26 #[.val (.ref x), .val (.ref y), .val (.int (Int32.ofNat j)), .val (.ref x), .val (.int (Int32.ofNat lx.length)), .val (.int (Int32.ofNat i)), .val (.int x6)] [(.ref y), (.int (Int32.ofNat j))])) rfl rfl (hb hby d4_26) _ ?_
        rw [len_of Sa3 Ma3]
        show Steps pP.tables eE below (s₁.setTop (mkF mM 27 #[.val (.ref x), .val (.ref y), .val (.int (Int32.ofNat j)), .val (.ref x), .val (.int (Int32.ofNat lx.length)), .val (.int (Int32.ofNat i)), .val (.int x6)] [(.int (Int32.ofNat ly.length)), (.int (Int32.ofNat j))])) _
        refine XS.icmpNo X0.here hx rfl (hb hby d4_27) rfl (tlt hlt).2.1 ?_
        show Steps pP.tables eE below (s₁.setTop (mkF mM 30 #[.val (.ref x), .val (.ref y), .val (.int (Int32.ofNat j)), .val (.ref x), .val (.int (Int32.ofNat lx.length)), .val (.int (Int32.ofNat i)), .val (.int x6)] [])) _
        refine XS.aloadN X0.here hx rfl (hb hby d4_30) rfl rfl ?_
        show Steps pP.tables eE below (s₁.setTop (mkF mM 31 #[.val (.ref x), .val (.ref y), .val (.int (Int32.ofNat j)), .val (.ref x), .val (.int (Int32.ofNat lx.length)), .val (.int (Int32.ofNat i)), .val (.int x6)] [(.ref y)])) _
        refine XS.iloadN X0.here hx rfl (hb hby d4_31) rfl ?_
        show Steps pP.tables eE below (s₁.setTop (mkF mM 32 #[.val (.ref x), .val (.ref y), .val (.int (Int32.ofNat j)), .val (.ref x), .val (.int (Int32.ofNat lx.length)), .val (.int (Int32.ofNat i)), .val (.int x6)] [(.int (Int32.ofNat j)), (.ref y)])) _
        refine X0.iaload hx (j := (Int32.ofNat j)) (v := (.int y6)) (by rw [e0]; exact Ara3.1) (State.isArrayOf_alike hZ.alike Ara3.2.1) Ara3.2.2 hinY hatY (g := (mkF mM 32 #[.val (.ref x), .val (.ref y), .val (.int (Int32.ofNat j)), .val (.ref x), .val (.int (Int32.ofNat lx.length)), .val (.int (Int32.ofNat i)), .val (.int x6)] [(.int (Int32.ofNat j)), (.ref y)])) rfl rfl (hb hby d4_32) _ ?_
        show Steps pP.tables eE below (s₁.setTop (mkF mM 33 #[.val (.ref x), .val (.ref y), .val (.int (Int32.ofNat j)), .val (.ref x), .val (.int (Int32.ofNat lx.length)), .val (.int (Int32.ofNat i)), .val (.int x6)] [(.int y6)])) _
        refine XS.iload X0.here hx rfl (hb hby d4_33) rfl ?_
        show Steps pP.tables eE below (s₁.setTop (mkF mM 35 #[.val (.ref x), .val (.ref y), .val (.int (Int32.ofNat j)), .val (.ref x), .val (.int (Int32.ofNat lx.length)), .val (.int (Int32.ofNat i)), .val (.int x6)] [(.int x6), (.int y6)])) _
        refine XS.icmpNo X0.here hx rfl (hb hby d4_35) rfl (tlt hc).2.1 ?_
        show Steps pP.tables eE below (s₁.setTop (mkF mM 38 #[.val (.ref x), .val (.ref y), .val (.int (Int32.ofNat j)), .val (.ref x), .val (.int (Int32.ofNat lx.length)), .val (.int (Int32.ofNat i)), .val (.int x6)] [])) _
        refine XS.iinc X0.here hx rfl (hb hby d4_38) rfl (l' := #[.val (.ref x), .val (.ref y), .val (.int ((Int32.ofNat j) + (1 : Int32))), .val (.ref x), .val (.int (Int32.ofNat lx.length)), .val (.int (Int32.ofNat i)), .val (.int x6)]) rfl ?_
        show Steps pP.tables eE below (s₁.setTop (mkF mM 41 #[.val (.ref x), .val (.ref y), .val (.int ((Int32.ofNat j) + (1 : Int32))), .val (.ref x), .val (.int (Int32.ofNat lx.length)), .val (.int (Int32.ofNat i)), .val (.int x6)] [])) _
        refine XS.goto X0.here hx rfl (pc0 := 41) (pc' := 24) rfl (hb hby d4_41) (by decide) (by decide) ?_
        show Steps pP.tables eE below (s₁.setTop (mkF mM 24 #[.val (.ref x), .val (.ref y), .val (.int ((Int32.ofNat j) + (1 : Int32))), .val (.ref x), .val (.int (Int32.ofNat lx.length)), .val (.int (Int32.ofNat i)), .val (.int x6)] [])) t
        rw [own_up (by omega)]
        exact h3 t kk
      · refine ⟨j, by omega, by rw [own_drop hy6, own_sn hc], fun t kk => ?_⟩
        show Steps pP.tables eE below (s₁.setTop (mkF mM 24 #[.val (.ref x), .val (.ref y), .val (.int (Int32.ofNat j)), .val (.ref x), .val (.int (Int32.ofNat lx.length)), .val (.int (Int32.ofNat i)), .val (.int x6)] [])) _
        refine XS.iloadN X0.here hx rfl (hb hby d4_24) rfl ?_
        show Steps pP.tables eE below (s₁.setTop (mkF mM 25 #[.val (.ref x), .val (.ref y), .val (.int (Int32.ofNat j)), .val (.ref x), .val (.int (Int32.ofNat lx.length)), .val (.int (Int32.ofNat i)), .val (.int x6)] [(.int (Int32.ofNat j))])) _
        refine XS.aloadN X0.here hx rfl (hb hby d4_25) rfl rfl ?_
        show Steps pP.tables eE below (s₁.setTop (mkF mM 26 #[.val (.ref x), .val (.ref y), .val (.int (Int32.ofNat j)), .val (.ref x), .val (.int (Int32.ofNat lx.length)), .val (.int (Int32.ofNat i)), .val (.int x6)] [(.ref y), (.int (Int32.ofNat j))])) _
        refine X0.arraylength hx (by rw [e0]; exact Ara3.1) (State.isArrayOf_alike hZ.alike Ara3.2.1) (g := (mkF mM 26 #[.val (.ref x), .val (.ref y), .val (.int (Int32.ofNat j)), .val (.ref x), .val (.int (Int32.ofNat lx.length)), .val (.int (Int32.ofNat i)), .val (.int x6)] [(.ref y), (.int (Int32.ofNat j))])) rfl rfl (hb hby d4_26) _ ?_
        rw [len_of Sa3 Ma3]
        show Steps pP.tables eE below (s₁.setTop (mkF mM 27 #[.val (.ref x), .val (.ref y), .val (.int (Int32.ofNat j)), .val (.ref x), .val (.int (Int32.ofNat lx.length)), .val (.int (Int32.ofNat i)), .val (.int x6)] [(.int (Int32.ofNat ly.length)), (.int (Int32.ofNat j))])) _
        refine XS.icmpNo X0.here hx rfl (hb hby d4_27) rfl (tlt hlt).2.1 ?_
        show Steps pP.tables eE below (s₁.setTop (mkF mM 30 #[.val (.ref x), .val (.ref y), .val (.int (Int32.ofNat j)), .val (.ref x), .val (.int (Int32.ofNat lx.length)), .val (.int (Int32.ofNat i)), .val (.int x6)] [])) _
        refine XS.aloadN X0.here hx rfl (hb hby d4_30) rfl rfl ?_
        show Steps pP.tables eE below (s₁.setTop (mkF mM 31 #[.val (.ref x), .val (.ref y), .val (.int (Int32.ofNat j)), .val (.ref x), .val (.int (Int32.ofNat lx.length)), .val (.int (Int32.ofNat i)), .val (.int x6)] [(.ref y)])) _
        refine XS.iloadN X0.here hx rfl (hb hby d4_31) rfl ?_
        show Steps pP.tables eE below (s₁.setTop (mkF mM 32 #[.val (.ref x), .val (.ref y), .val (.int (Int32.ofNat j)), .val (.ref x), .val (.int (Int32.ofNat lx.length)), .val (.int (Int32.ofNat i)), .val (.int x6)] [(.int (Int32.ofNat j)), (.ref y)])) _
        refine X0.iaload hx (j := (Int32.ofNat j)) (v := (.int y6)) (by rw [e0]; exact Ara3.1) (State.isArrayOf_alike hZ.alike Ara3.2.1) Ara3.2.2 hinY hatY (g := (mkF mM 32 #[.val (.ref x), .val (.ref y), .val (.int (Int32.ofNat j)), .val (.ref x), .val (.int (Int32.ofNat lx.length)), .val (.int (Int32.ofNat i)), .val (.int x6)] [(.int (Int32.ofNat j)), (.ref y)])) rfl rfl (hb hby d4_32) _ ?_
        show Steps pP.tables eE below (s₁.setTop (mkF mM 33 #[.val (.ref x), .val (.ref y), .val (.int (Int32.ofNat j)), .val (.ref x), .val (.int (Int32.ofNat lx.length)), .val (.int (Int32.ofNat i)), .val (.int x6)] [(.int y6)])) _
        refine XS.iload X0.here hx rfl (hb hby d4_33) rfl ?_
        show Steps pP.tables eE below (s₁.setTop (mkF mM 35 #[.val (.ref x), .val (.ref y), .val (.int (Int32.ofNat j)), .val (.ref x), .val (.int (Int32.ofNat lx.length)), .val (.int (Int32.ofNat i)), .val (.int x6)] [(.int x6), (.int y6)])) _
        refine XS.icmpYes X0.here hx rfl (pc0 := 35) (pc' := 44) rfl (hb hby d4_35) rfl (flt hc).2.1 (by decide) (by decide) ?_
        exact kk
  have outer : ∀ (k i j : Nat) (s6 : Slot), One s6 → i + k = lx.length → j ≤ ly.length → ∃ (pc' : Nat) (L' : Array Slot), decode cC.code pc' = .ok (.ireturn, 1) ∧ ∀ t, Steps pP.tables eE below (s₁.setTop (mkF mM pc' L' [(.int (own_fni (lx.drop i) (ly.drop j)))])) t → Steps pP.tables eE below (s₁.setTop (mkF mM 11 #[.val (.ref x), .val (.ref y), .val (.int (Int32.ofNat j)), .val (.ref x), .val (.int (Int32.ofNat lx.length)), .val (.int (Int32.ofNat i)), s6] [])) t := by
    intro k
    induction k with
    | zero =>
      intro i j s6 h6 hi hj
      have hi' : i = lx.length := by omega
      subst hi'
      refine ⟨68, #[.val (.ref x), .val (.ref y), .val (.int (Int32.ofNat j)), .val (.ref x), .val (.int (Int32.ofNat lx.length)), .val (.int (Int32.ofNat lx.length)), s6], (hb hby d4_68), fun t kk => ?_⟩
      show Steps pP.tables eE below (s₁.setTop (mkF mM 11 #[.val (.ref x), .val (.ref y), .val (.int (Int32.ofNat j)), .val (.ref x), .val (.int (Int32.ofNat lx.length)), .val (.int (Int32.ofNat lx.length)), s6] [])) _
      refine XS.iload X0.here hx rfl (hb hby d4_11) rfl ?_
      show Steps pP.tables eE below (s₁.setTop (mkF mM 13 #[.val (.ref x), .val (.ref y), .val (.int (Int32.ofNat j)), .val (.ref x), .val (.int (Int32.ofNat lx.length)), .val (.int (Int32.ofNat lx.length)), s6] [(.int (Int32.ofNat lx.length))])) _
      refine XS.iload X0.here hx rfl (hb hby d4_13) rfl ?_
      show Steps pP.tables eE below (s₁.setTop (mkF mM 15 #[.val (.ref x), .val (.ref y), .val (.int (Int32.ofNat j)), .val (.ref x), .val (.int (Int32.ofNat lx.length)), .val (.int (Int32.ofNat lx.length)), s6] [(.int (Int32.ofNat lx.length)), (.int (Int32.ofNat lx.length))])) _
      refine XS.icmpYes X0.here hx rfl (pc0 := 15) (pc' := 67) rfl (hb hby d4_15) rfl (flt Int32.lt_irrefl).2.1 (by decide) (by decide) ?_
      show Steps pP.tables eE below (s₁.setTop (mkF mM 67 #[.val (.ref x), .val (.ref y), .val (.int (Int32.ofNat j)), .val (.ref x), .val (.int (Int32.ofNat lx.length)), .val (.int (Int32.ofNat lx.length)), s6] [])) _
      refine XS.iconst X0.here hx rfl (hb hby d4_67) ?_
      rw [List.drop_length, own_f0] at kk
      exact kk
    | succ k ih =>
      intro i j s6 h6 hi hj
      obtain ⟨x6, hx6⟩ : ∃ z, lx[i]? = some z := ⟨_, List.getElem?_eq_getElem (by omega)⟩
      have hltX : Int32.ofNat i < Int32.ofNat lx.length := own_lt (by omega) (by omega)
      have hinX : ¬ (Int32.ofNat i < 0 ∨ cla1.slots.size ≤ (Int32.ofNat i).toNatClampNeg) := inb_of Sa1 ⟨own_nn (by omega), hltX⟩
      have hatX : cla1.slots[(Int32.ofNat i).toNatClampNeg]? = some (.int x6) := Has.at Ha1 hinX (own_at hx6 (by omega))
      obtain ⟨j', hj1, hj2, hj3⟩ := inner x6 i (ly.length - j) j (by omega)
      have way : ∀ t, Steps pP.tables eE below (s₁.setTop (mkF mM 44 #[.val (.ref x), .val (.ref y), .val (.int (Int32.ofNat j')), .val (.ref x), .val (.int (Int32.ofNat lx.length)), .val (.int (Int32.ofNat i)), .val (.int x6)] [])) t → Steps pP.tables eE below (s₁.setTop (mkF mM 11 #[.val (.ref x), .val (.ref y), .val (.int (Int32.ofNat j)), .val (.ref x), .val (.int (Int32.ofNat lx.length)), .val (.int (Int32.ofNat i)), s6] [])) t := fun t kk => by
        show Steps pP.tables eE below (s₁.setTop (mkF mM 11 #[.val (.ref x), .val (.ref y), .val (.int (Int32.ofNat j)), .val (.ref x), .val (.int (Int32.ofNat lx.length)), .val (.int (Int32.ofNat i)), s6] [])) _
        refine XS.iload X0.here hx rfl (hb hby d4_11) rfl ?_
        show Steps pP.tables eE below (s₁.setTop (mkF mM 13 #[.val (.ref x), .val (.ref y), .val (.int (Int32.ofNat j)), .val (.ref x), .val (.int (Int32.ofNat lx.length)), .val (.int (Int32.ofNat i)), s6] [(.int (Int32.ofNat i))])) _
        refine XS.iload X0.here hx rfl (hb hby d4_13) rfl ?_
        show Steps pP.tables eE below (s₁.setTop (mkF mM 15 #[.val (.ref x), .val (.ref y), .val (.int (Int32.ofNat j)), .val (.ref x), .val (.int (Int32.ofNat lx.length)), .val (.int (Int32.ofNat i)), s6] [(.int (Int32.ofNat lx.length)), (.int (Int32.ofNat i))])) _
        refine XS.icmpNo X0.here hx rfl (hb hby d4_15) rfl (tlt hltX).2.1 ?_
        show Steps pP.tables eE below (s₁.setTop (mkF mM 18 #[.val (.ref x), .val (.ref y), .val (.int (Int32.ofNat j)), .val (.ref x), .val (.int (Int32.ofNat lx.length)), .val (.int (Int32.ofNat i)), s6] [])) _
        refine XS.aloadN X0.here hx rfl (hb hby d4_18) rfl rfl ?_
        show Steps pP.tables eE below (s₁.setTop (mkF mM 19 #[.val (.ref x), .val (.ref y), .val (.int (Int32.ofNat j)), .val (.ref x), .val (.int (Int32.ofNat lx.length)), .val (.int (Int32.ofNat i)), s6] [(.ref x)])) _
        refine XS.iload X0.here hx rfl (hb hby d4_19) rfl ?_
        show Steps pP.tables eE below (s₁.setTop (mkF mM 21 #[.val (.ref x), .val (.ref y), .val (.int (Int32.ofNat j)), .val (.ref x), .val (.int (Int32.ofNat lx.length)), .val (.int (Int32.ofNat i)), s6] [(.int (Int32.ofNat i)), (.ref x)])) _
        refine X0.iaload hx (j := (Int32.ofNat i)) (v := (.int x6)) (by rw [e0]; exact Ara1.1) (State.isArrayOf_alike hZ.alike Ara1.2.1) Ara1.2.2 hinX hatX (g := (mkF mM 21 #[.val (.ref x), .val (.ref y), .val (.int (Int32.ofNat j)), .val (.ref x), .val (.int (Int32.ofNat lx.length)), .val (.int (Int32.ofNat i)), s6] [(.int (Int32.ofNat i)), (.ref x)])) rfl rfl (hb hby d4_21) _ ?_
        show Steps pP.tables eE below (s₁.setTop (mkF mM 22 #[.val (.ref x), .val (.ref y), .val (.int (Int32.ofNat j)), .val (.ref x), .val (.int (Int32.ofNat lx.length)), .val (.int (Int32.ofNat i)), s6] [(.int x6)])) _
        refine XS.istore X0.here hx rfl (hb hby d4_22) rfl (l' := #[.val (.ref x), .val (.ref y), .val (.int (Int32.ofNat j)), .val (.ref x), .val (.int (Int32.ofNat lx.length)), .val (.int (Int32.ofNat i)), .val (.int x6)]) (own_os h6) ?_
        exact hj3 t kk
      by_cases he : j' = ly.length
      · subst he
        have hsk : own_skip x6 (ly.drop j) = [] := by rw [hj2, List.drop_length]
        refine ⟨60, #[.val (.ref x), .val (.ref y), .val (.int (Int32.ofNat ly.length)), .val (.ref x), .val (.int (Int32.ofNat lx.length)), .val (.int (Int32.ofNat i)), .val (.int x6)], (hb hby d4_60), fun t kk => way t ?_⟩
        show Steps pP.tables eE below (s₁.setTop (mkF mM 44 #[.val (.ref x), .val (.ref y), .val (.int (Int32.ofNat ly.length)), .val (.ref x), .val (.int (Int32.ofNat lx.length)), .val (.int (Int32.ofNat i)), .val (.int x6)] [])) _
        refine XS.iloadN X0.here hx rfl (hb hby d4_44) rfl ?_
        show Steps pP.tables eE below (s₁.setTop (mkF mM 45 #[.val (.ref x), .val (.ref y), .val (.int (Int32.ofNat ly.length)), .val (.ref x), .val (.int (Int32.ofNat lx.length)), .val (.int (Int32.ofNat i)), .val (.int x6)] [(.int (Int32.ofNat ly.length))])) _
        refine XS.aloadN X0.here hx rfl (hb hby d4_45) rfl rfl ?_
        show Steps pP.tables eE below (s₁.setTop (mkF mM 46 #[.val (.ref x), .val (.ref y), .val (.int (Int32.ofNat ly.length)), .val (.ref x), .val (.int (Int32.ofNat lx.length)), .val (.int (Int32.ofNat i)), .val (.int x6)] [(.ref y), (.int (Int32.ofNat ly.length))])) _
        refine X0.arraylength hx (by rw [e0]; exact Ara3.1) (State.isArrayOf_alike hZ.alike Ara3.2.1) (g := (mkF mM 46 #[.val (.ref x), .val (.ref y), .val (.int (Int32.ofNat ly.length)), .val (.ref x), .val (.int (Int32.ofNat lx.length)), .val (.int (Int32.ofNat i)), .val (.int x6)] [(.ref y), (.int (Int32.ofNat ly.length))])) rfl rfl (hb hby d4_46) _ ?_
        rw [len_of Sa3 Ma3]
        show Steps pP.tables eE below (s₁.setTop (mkF mM 47 #[.val (.ref x), .val (.ref y), .val (.int (Int32.ofNat ly.length)), .val (.ref x), .val (.int (Int32.ofNat lx.length)), .val (.int (Int32.ofNat i)), .val (.int x6)] [(.int (Int32.ofNat ly.length)), (.int (Int32.ofNat ly.length))])) _
        refine XS.icmpYes X0.here hx rfl (pc0 := 47) (pc' := 58) rfl (hb hby d4_47) rfl (teq rfl).1 (by decide) (by decide) ?_
        show Steps pP.tables eE below (s₁.setTop (mkF mM 58 #[.val (.ref x), .val (.ref y), .val (.int (Int32.ofNat ly.length)), .val (.ref x), .val (.int (Int32.ofNat lx.length)), .val (.int (Int32.ofNat i)), .val (.int x6)] [])) _
        refine XS.iload X0.here hx rfl (hb hby d4_58) rfl ?_
        rw [own_drop hx6, own_fN hsk] at kk
        exact kk
      · obtain ⟨y6, hy6⟩ : ∃ z, ly[j']? = some z := ⟨_, List.getElem?_eq_getElem (by omega)⟩
        have hsk : own_skip x6 (ly.drop j) = y6 :: ly.drop (j' + 1) := by rw [hj2, own_drop hy6]
        have hltY : Int32.ofNat j' < Int32.ofNat ly.length := own_lt (by omega) (by omega)
        have hinY : ¬ (Int32.ofNat j' < 0 ∨ cla3.slots.size ≤ (Int32.ofNat j').toNatClampNeg) := inb_of Sa3 ⟨own_nn (by omega), hltY⟩
        have hatY : cla3.slots[(Int32.ofNat j').toNatClampNeg]? = some (.int y6) := Has.at Ha3 hinY (own_at hy6 (by omega))
        by_cases hq : y6 = x6
        · obtain ⟨pc', L', hd, h3⟩ := ih (i + 1) j' (.val (.int x6)) (One.val rfl) (by omega) hj1
          refine ⟨pc', L', hd, fun t kk => way t ?_⟩
          show Steps pP.tables eE below (s₁.setTop (mkF mM 44 #[.val (.ref x), .val (.ref y), .val (.int (Int32.ofNat j')), .val (.ref x), .val (.int (Int32.ofNat lx.length)), .val (.int (Int32.ofNat i)), .val (.int x6)] [])) _
          refine XS.iloadN X0.here hx rfl (hb hby d4_44) rfl ?_
          show Steps pP.tables eE below (s₁.setTop (mkF mM 45 #[.val (.ref x), .val (.ref y), .val (.int (Int32.ofNat j')), .val (.ref x), .val (.int (Int32.ofNat lx.length)), .val (.int (Int32.ofNat i)), .val (.int x6)] [(.int (Int32.ofNat j'))])) _
          refine XS.aloadN X0.here hx rfl (hb hby d4_45) rfl rfl ?_
          show Steps pP.tables eE below (s₁.setTop (mkF mM 46 #[.val (.ref x), .val (.ref y), .val (.int (Int32.ofNat j')), .val (.ref x), .val (.int (Int32.ofNat lx.length)), .val (.int (Int32.ofNat i)), .val (.int x6)] [(.ref y), (.int (Int32.ofNat j'))])) _
          refine X0.arraylength hx (by rw [e0]; exact Ara3.1) (State.isArrayOf_alike hZ.alike Ara3.2.1) (g := (mkF mM 46 #[.val (.ref x), .val (.ref y), .val (.int (Int32.ofNat j')), .val (.ref x), .val (.int (Int32.ofNat lx.length)), .val (.int (Int32.ofNat i)), .val (.int x6)] [(.ref y), (.int (Int32.ofNat j'))])) rfl rfl (hb hby d4_46) _ ?_
          rw [len_of Sa3 Ma3]
          show Steps pP.tables eE below (s₁.setTop (mkF mM 47 #[.val (.ref x), .val (.ref y), .val (.int (Int32.ofNat j')), .val (.ref x), .val (.int (Int32.ofNat lx.length)), .val (.int (Int32.ofNat i)), .val (.int x6)] [(.int (Int32.ofNat ly.length)), (.int (Int32.ofNat j'))])) _
          refine XS.icmpNo X0.here hx rfl (hb hby d4_47) rfl (feq (own_ne he (by omega) (by omega))).1 ?_
          show Steps pP.tables eE below (s₁.setTop (mkF mM 50 #[.val (.ref x), .val (.ref y), .val (.int (Int32.ofNat j')), .val (.ref x), .val (.int (Int32.ofNat lx.length)), .val (.int (Int32.ofNat i)), .val (.int x6)] [])) _
          refine XS.aloadN X0.here hx rfl (hb hby d4_50) rfl rfl ?_
          show Steps pP.tables eE below (s₁.setTop (mkF mM 51 #[.val (.ref x), .val (.ref y), .val (.int (Int32.ofNat j')), .val (.ref x), .val (.int (Int32.ofNat lx.length)), .val (.int (Int32.ofNat i)), .val (.int x6)] [(.ref y)])) _
          refine XS.iloadN X0.here hx rfl (hb hby d4_51) rfl ?_
          show Steps pP.tables eE below (s₁.setTop (mkF mM 52 #[.val (.ref x), .val (.ref y), .val (.int (Int32.ofNat j')), .val (.ref x), .val (.int (Int32.ofNat lx.length)), .val (.int (Int32.ofNat i)), .val (.int x6)] [(.int (Int32.ofNat j')), (.ref y)])) _
          refine X0.iaload hx (j := (Int32.ofNat j')) (v := (.int y6)) (by rw [e0]; exact Ara3.1) (State.isArrayOf_alike hZ.alike Ara3.2.1) Ara3.2.2 hinY hatY (g := (mkF mM 52 #[.val (.ref x), .val (.ref y), .val (.int (Int32.ofNat j')), .val (.ref x), .val (.int (Int32.ofNat lx.length)), .val (.int (Int32.ofNat i)), .val (.int x6)] [(.int (Int32.ofNat j')), (.ref y)])) rfl rfl (hb hby d4_52) _ ?_
          show Steps pP.tables eE below (s₁.setTop (mkF mM 53 #[.val (.ref x), .val (.ref y), .val (.int (Int32.ofNat j')), .val (.ref x), .val (.int (Int32.ofNat lx.length)), .val (.int (Int32.ofNat i)), .val (.int x6)] [(.int y6)])) _
          refine XS.iload X0.here hx rfl (hb hby d4_53) rfl ?_
          show Steps pP.tables eE below (s₁.setTop (mkF mM 55 #[.val (.ref x), .val (.ref y), .val (.int (Int32.ofNat j')), .val (.ref x), .val (.int (Int32.ofNat lx.length)), .val (.int (Int32.ofNat i)), .val (.int x6)] [(.int x6), (.int y6)])) _
          refine XS.icmpYes X0.here hx rfl (pc0 := 55) (pc' := 61) rfl (hb hby d4_55) rfl (teq hq).1 (by decide) (by decide) ?_
          show Steps pP.tables eE below (s₁.setTop (mkF mM 61 #[.val (.ref x), .val (.ref y), .val (.int (Int32.ofNat j')), .val (.ref x), .val (.int (Int32.ofNat lx.length)), .val (.int (Int32.ofNat i)), .val (.int x6)] [])) _
          refine XS.iinc X0.here hx rfl (hb hby d4_61) rfl (l' := #[.val (.ref x), .val (.ref y), .val (.int (Int32.ofNat j')), .val (.ref x), .val (.int (Int32.ofNat lx.length)), .val (.int ((Int32.ofNat i) + (1 : Int32))), .val (.int x6)]) rfl ?_
          show Steps pP.tables eE below (s₁.setTop (mkF mM 64 #[.val (.ref x), .val (.ref y), .val (.int (Int32.ofNat j')), .val (.ref x), .val (.int (Int32.ofNat lx.length)), .val (.int ((Int32.ofNat i) + (1 : Int32))), .val (.int x6)] [])) _
          refine XS.goto X0.here hx rfl (pc0 := 64) (pc' := 11) rfl (hb hby d4_64) (by decide) (by decide) ?_
          show Steps pP.tables eE below (s₁.setTop (mkF mM 11 #[.val (.ref x), .val (.ref y), .val (.int (Int32.ofNat j')), .val (.ref x), .val (.int (Int32.ofNat lx.length)), .val (.int ((Int32.ofNat i) + (1 : Int32))), .val (.int x6)] [])) t
          rw [own_up (by omega)]
          rw [own_drop hx6, own_fE hsk hq, ← own_drop hy6] at kk
          exact h3 t kk
        · refine ⟨60, #[.val (.ref x), .val (.ref y), .val (.int (Int32.ofNat j')), .val (.ref x), .val (.int (Int32.ofNat lx.length)), .val (.int (Int32.ofNat i)), .val (.int x6)], (hb hby d4_60), fun t kk => way t ?_⟩
          show Steps pP.tables eE below (s₁.setTop (mkF mM 44 #[.val (.ref x), .val (.ref y), .val (.int (Int32.ofNat j')), .val (.ref x), .val (.int (Int32.ofNat lx.length)), .val (.int (Int32.ofNat i)), .val (.int x6)] [])) _
          refine XS.iloadN X0.here hx rfl (hb hby d4_44) rfl ?_
          show Steps pP.tables eE below (s₁.setTop (mkF mM 45 #[.val (.ref x), .val (.ref y), .val (.int (Int32.ofNat j')), .val (.ref x), .val (.int (Int32.ofNat lx.length)), .val (.int (Int32.ofNat i)), .val (.int x6)] [(.int (Int32.ofNat j'))])) _
          refine XS.aloadN X0.here hx rfl (hb hby d4_45) rfl rfl ?_
          show Steps pP.tables eE below (s₁.setTop (mkF mM 46 #[.val (.ref x), .val (.ref y), .val (.int (Int32.ofNat j')), .val (.ref x), .val (.int (Int32.ofNat lx.length)), .val (.int (Int32.ofNat i)), .val (.int x6)] [(.ref y), (.int (Int32.ofNat j'))])) _
          refine X0.arraylength hx (by rw [e0]; exact Ara3.1) (State.isArrayOf_alike hZ.alike Ara3.2.1) (g := (mkF mM 46 #[.val (.ref x), .val (.ref y), .val (.int (Int32.ofNat j')), .val (.ref x), .val (.int (Int32.ofNat lx.length)), .val (.int (Int32.ofNat i)), .val (.int x6)] [(.ref y), (.int (Int32.ofNat j'))])) rfl rfl (hb hby d4_46) _ ?_
          rw [len_of Sa3 Ma3]
          show Steps pP.tables eE below (s₁.setTop (mkF mM 47 #[.val (.ref x), .val (.ref y), .val (.int (Int32.ofNat j')), .val (.ref x), .val (.int (Int32.ofNat lx.length)), .val (.int (Int32.ofNat i)), .val (.int x6)] [(.int (Int32.ofNat ly.length)), (.int (Int32.ofNat j'))])) _
          refine XS.icmpNo X0.here hx rfl (hb hby d4_47) rfl (feq (own_ne he (by omega) (by omega))).1 ?_
          show Steps pP.tables eE below (s₁.setTop (mkF mM 50 #[.val (.ref x), .val (.ref y), .val (.int (Int32.ofNat j')), .val (.ref x), .val (.int (Int32.ofNat lx.length)), .val (.int (Int32.ofNat i)), .val (.int x6)] [])) _
          refine XS.aloadN X0.here hx rfl (hb hby d4_50) rfl rfl ?_
          show Steps pP.tables eE below (s₁.setTop (mkF mM 51 #[.val (.ref x), .val (.ref y), .val (.int (Int32.ofNat j')), .val (.ref x), .val (.int (Int32.ofNat lx.length)), .val (.int (Int32.ofNat i)), .val (.int x6)] [(.ref y)])) _
          refine XS.iloadN X0.here hx rfl (hb hby d4_51) rfl ?_
          show Steps pP.tables eE below (s₁.setTop (mkF mM 52 #[.val (.ref x), .val (.ref y), .val (.int (Int32.ofNat j')), .val (.ref x), .val (.int (Int32.ofNat lx.length)), .val (.int (Int32.ofNat i)), .val (.int x6)] [(.int (Int32.ofNat j')), (.ref y)])) _
          refine X0.iaload hx (j := (Int32.ofNat j')) (v := (.int y6)) (by rw [e0]; exact Ara3.1) (State.isArrayOf_alike hZ.alike Ara3.2.1) Ara3.2.2 hinY hatY (g := (mkF mM 52 #[.val (.ref x), .val (.ref y), .val (.int (Int32.ofNat j')), .val (.ref x), .val (.int (Int32.ofNat lx.length)), .val (.int (Int32.ofNat i)), .val (.int x6)] [(.int (Int32.ofNat j')), (.ref y)])) rfl rfl (hb hby d4_52) _ ?_
          show Steps pP.tables eE below (s₁.setTop (mkF mM 53 #[.val (.ref x), .val (.ref y), .val (.int (Int32.ofNat j')), .val (.ref x), .val (.int (Int32.ofNat lx.length)), .val (.int (Int32.ofNat i)), .val (.int x6)] [(.int y6)])) _
          refine XS.iload X0.here hx rfl (hb hby d4_53) rfl ?_
          show Steps pP.tables eE below (s₁.setTop (mkF mM 55 #[.val (.ref x), .val (.ref y), .val (.int (Int32.ofNat j')), .val (.ref x), .val (.int (Int32.ofNat lx.length)), .val (.int (Int32.ofNat i)), .val (.int x6)] [(.int x6), (.int y6)])) _
          refine XS.icmpNo X0.here hx rfl (hb hby d4_55) rfl (feq hq).1 ?_
          show Steps pP.tables eE below (s₁.setTop (mkF mM 58 #[.val (.ref x), .val (.ref y), .val (.int (Int32.ofNat j')), .val (.ref x), .val (.int (Int32.ofNat lx.length)), .val (.int (Int32.ofNat i)), .val (.int x6)] [])) _
          refine XS.iload X0.here hx rfl (hb hby d4_58) rfl ?_
          rw [own_drop hx6, own_fD hsk hq] at kk
          exact kk
  obtain ⟨pcR, LR, hdR, hR⟩ := outer lx.length 0 0 .unset One.u (by omega) (by omega)
  rw [List.drop_zero, List.drop_zero] at hR
  obtain ⟨fs, hr, hrun, hended, hW, hsame⟩ := X0.leave (v := some (.int (own_fni lx ly))) (fun h => by rw [Bd.returns] at h; cases h)
  refine ⟨_, _, pr2 _ (hR _ (retOut X0 hx (t := .int) Bd.returns rfl (Or.inl ⟨rfl, Or.inl rfl, _, rfl⟩) hdR hr)), hrun, hended, _, _, rfl, ?_, ⟨_, rfl⟩, hW, hsame.mono (by decide) (by decide)⟩
  show Q4 Z x y kx ky lx ly h0 n0 _ s₁.heap _
  rw [e0]
  exact ⟨rfl, N0, rfl⟩
theorem own_fA {u : Int32} {xs ys : List Int32} (h : ∀ z ∈ xs, u < z) : own_fni xs (u :: ys) = own_fni xs ys := by
  cases xs with
  | nil => rfl
  | cons x t => rw [own_fni, own_fni, own_sk (h x (List.mem_cons_self ..))]
theorem own_fB {u : Int32} {xs ys : List Int32} (h : ∀ z ∈ ys, u < z) : own_fni (u :: xs) ys = u := by
  cases ys with
  | nil => exact own_fN rfl
  | cons y t =>
    have q := h y (List.mem_cons_self ..)
    exact own_fD (own_sn (Int32.lt_asymm q)) (fun e => by rw [e] at q; exact Int32.lt_irrefl q)
theorem own_f1 {p q : Prop} [Decidable p] [Decidable q] {u : Int32} {X Y : List Int32} (hX : ∀ z ∈ X, u < z) (hY : ∀ z ∈ Y, u < z) : own_fni ((if p then [] else [u]) ++ X) ((if q then [] else [u]) ++ Y) = if p then own_fni X Y else (if q then u else own_fni X Y) := by
  by_cases hp : p <;> by_cases hq : q <;> simp only [hp, hq, if_true, if_false, List.nil_append, List.cons_append]
  · exact own_fA hX
  · exact own_fB hY
  · rw [own_fE (own_sn Int32.lt_irrefl) rfl]; exact own_fA hX
theorem own_mem {p : Prop} [Decidable p] {u v : Int32} {X : List Int32} (h : v < u) (hX : ∀ z ∈ X, v < z) : ∀ z ∈ (if p then [] else [u]) ++ X, v < z := by
  intro z hz
  rcases List.mem_append.mp hz with h1 | h1
  · by_cases hp : p
    · rw [if_pos hp] at h1; cases h1
    · rw [if_neg hp] at h1; rw [List.mem_singleton.mp h1]; exact h
  · exact hX z h1
theorem own_no {v : Int32} : ∀ z ∈ ([] : List Int32), v < z := fun z hz => by cases hz
theorem own_final {u0 u1 u2 u3 : Int32} (m1 m2 : Int32) (h01 : u0 < u1) (h12 : u1 < u2) (h23 : u2 < u3) : own_fni (own_pick u0 u1 u2 u3 m1) (own_pick u0 u1 u2 u3 m2) = (if (m1 &&& (1 : Int32)) = (0 : Int32) then (if (m1 &&& (2 : Int32)) = (0 : Int32) then (if (m1 &&& (4 : Int32)) = (0 : Int32) then (if (m1 &&& (8 : Int32)) = (0 : Int32) then (-1 : Int32) else (if (m2 &&& (8 : Int32)) = (0 : Int32) then u3 else (-1 : Int32))) else (if (m2 &&& (4 : Int32)) = (0 : Int32) then u2 else (if (m1 &&& (8 : Int32)) = (0 : Int32) then (-1 : Int32) else (if (m2 &&& (8 : Int32)) = (0 : Int32) then u3 else (-1 : Int32))))) else (if (m2 &&& (2 : Int32)) = (0 : Int32) then u1 else (if (m1 &&& (4 : Int32)) = (0 : Int32) then (if (m1 &&& (8 : Int32)) = (0 : Int32) then (-1 : Int32) else (if (m2 &&& (8 : Int32)) = (0 : Int32) then u3 else (-1 : Int32))) else (if (m2 &&& (4 : Int32)) = (0 : Int32) then u2 else (if (m1 &&& (8 : Int32)) = (0 : Int32) then (-1 : Int32) else (if (m2 &&& (8 : Int32)) = (0 : Int32) then u3 else (-1 : Int32))))))) else (if (m2 &&& (1 : Int32)) = (0 : Int32) then u0 else (if (m1 &&& (2 : Int32)) = (0 : Int32) then (if (m1 &&& (4 : Int32)) = (0 : Int32) then (if (m1 &&& (8 : Int32)) = (0 : Int32) then (-1 : Int32) else (if (m2 &&& (8 : Int32)) = (0 : Int32) then u3 else (-1 : Int32))) else (if (m2 &&& (4 : Int32)) = (0 : Int32) then u2 else (if (m1 &&& (8 : Int32)) = (0 : Int32) then (-1 : Int32) else (if (m2 &&& (8 : Int32)) = (0 : Int32) then u3 else (-1 : Int32))))) else (if (m2 &&& (2 : Int32)) = (0 : Int32) then u1 else (if (m1 &&& (4 : Int32)) = (0 : Int32) then (if (m1 &&& (8 : Int32)) = (0 : Int32) then (-1 : Int32) else (if (m2 &&& (8 : Int32)) = (0 : Int32) then u3 else (-1 : Int32))) else (if (m2 &&& (4 : Int32)) = (0 : Int32) then u2 else (if (m1 &&& (8 : Int32)) = (0 : Int32) then (-1 : Int32) else (if (m2 &&& (8 : Int32)) = (0 : Int32) then u3 else (-1 : Int32))))))))) := by
  have h02 := Int32.lt_trans h01 h12
  have h03 := Int32.lt_trans h02 h23
  have h13 := Int32.lt_trans h12 h23
  have e : ∀ m, own_pick u0 u1 u2 u3 m = (if (m &&& (1 : Int32)) = (0 : Int32) then [] else [u0]) ++ ((if (m &&& (2 : Int32)) = (0 : Int32) then [] else [u1]) ++ ((if (m &&& (4 : Int32)) = (0 : Int32) then [] else [u2]) ++ ((if (m &&& (8 : Int32)) = (0 : Int32) then [] else [u3]) ++ []))) := fun m => by rw [own_pick, List.append_nil]
  rw [e, e, own_f1 (own_mem h01 (own_mem h02 (own_mem h03 own_no))) (own_mem h01 (own_mem h02 (own_mem h03 own_no))), own_f1 (own_mem h12 (own_mem h13 own_no)) (own_mem h12 (own_mem h13 own_no)), own_f1 (own_mem h23 own_no) (own_mem h23 own_no), own_f1 own_no own_no]
  rfl
theorem own_u {b d r u1 u2 u3 : Int32} (hr : r = (if (2147483631 : Int32) < (b &&& (2147483647 : Int32)) then (2147483631 : Int32) else (b &&& (2147483647 : Int32)))) (h1 : u1 = ((r + (1 : Int32)) + (d &&& (3 : Int32)))) (h2 : u2 = ((u1 + (1 : Int32)) + (((d.toUInt32 >>> ((2 : Int32) &&& 31).toUInt32).toInt32) &&& (3 : Int32)))) (h3 : u3 = ((u2 + (1 : Int32)) + (((d.toUInt32 >>> ((4 : Int32) &&& 31).toUInt32).toInt32) &&& (3 : Int32)))) : r < u1 ∧ u1 < u2 ∧ u2 < u3 := by
  have m31 : (b &&& 2147483647).toInt = b.toInt % 2 ^ 31 := Jvm.Kit.i32_mask b 2147483647 (k := 31) (by decide) (by decide)
  have c1 : (1 : Int32).toInt = 1 := rfl
  have cm : (2147483631 : Int32).toInt = 2147483631 := rfl
  have m3 : ∀ z : Int32, 0 ≤ (z &&& 3).toInt ∧ (z &&& 3).toInt < 4 := fun z => by
    have e : (z &&& 3).toInt = z.toInt % 2 ^ 2 := Jvm.Kit.i32_mask z 3 (k := 2) (by decide) (by decide)
    omega
  have hr' : 0 ≤ r.toInt ∧ r.toInt ≤ 2147483631 := by
    by_cases q : (2147483631 : Int32) < (b &&& 2147483647)
    · rw [if_pos q] at hr; subst hr; exact ⟨by decide, by decide⟩
    · rw [if_neg q] at hr; subst hr; rw [Int32.lt_iff_toInt_lt] at q; omega
  have a1 := m3 d
  have a2 := m3 ((d.toUInt32 >>> ((2 : Int32) &&& 31).toUInt32).toInt32)
  have a3 := m3 ((d.toUInt32 >>> ((4 : Int32) &&& 31).toUInt32).toInt32)
  generalize (d &&& 3) = d1 at *
  generalize ((d.toUInt32 >>> ((2 : Int32) &&& 31).toUInt32).toInt32 &&& 3) = d2 at *
  generalize ((d.toUInt32 >>> ((4 : Int32) &&& 31).toUInt32).toInt32 &&& 3) = d3 at *
  have e1 := Jvm.Kit.i32_add (p := r) (q := 1) (by omega) (by omega)
  have e2 := Jvm.Kit.i32_add (p := r + 1) (q := d1) (by omega) (by omega)
  rw [← h1] at e2
  have e3 := Jvm.Kit.i32_add (p := u1) (q := 1) (by omega) (by omega)
  have e4 := Jvm.Kit.i32_add (p := u1 + 1) (q := d2) (by omega) (by omega)
  rw [← h2] at e4
  have e5 := Jvm.Kit.i32_add (p := u2) (q := 1) (by omega) (by omega)
  have e6 := Jvm.Kit.i32_add (p := u2 + 1) (q := d3) (by omega) (by omega)
  rw [← h3] at e6
  refine ⟨?_, ?_, ?_⟩ <;> rw [Int32.lt_iff_toInt_lt] <;> omega
theorem pd_1 : parseMethodDescriptor "(II)I" = some ⟨[.int, .int], some .int⟩ := by decide +kernel
theorem pd_2 : parseMethodDescriptor "(IIIII)[I" = some ⟨[.int, .int, .int, .int, .int], some (.array .int)⟩ := by decide +kernel
theorem pd_3 : parseMethodDescriptor "([I[I)I" = some ⟨[(.array .int), (.array .int)], some .int⟩ := by decide +kernel
theorem ef_0 (mM : MethodId) (x0 : Int32) (x1 : Int32) (x2 : Int32) : entryFrame mM #[(.int x0), (.int x1), (.int x2)] maxLocals = mkF mM 0 #[.val (.int x0), .val (.int x1), .val (.int x2), .unset, .unset, .unset, .unset, .unset, .unset, .unset, .unset, .unset] [] := by first | (simp [entryFrame, mkF, argsToLocals, Value.category, maxLocals]; done) | rfl
def Q0 (Z : State) (base : Int32) (dl : Int32) (mk : Int32) (h0 : Heap) (n0 : Nat) (v : Option Value) (h : Heap) (L : List Loc) : Prop := v = some (.int (1 : Int32)) ∧ Fr n0 L
set_option maxRecDepth 65536 in
set_option maxHeartbeats 40000000 in
theorem rm0 (l : Launch) (Z : State) (a0 : Array Value) (hw : ∀ d ∈ tables_1, d.before a0 Z = true) (ws : List Jvm.Cond) (base : Int32) (dl : Int32) (mk : Int32) (h0 : Heap) (n0 : Nat) (Z0 : n0 ≤ h0.size) :
    MetFree l x (head1 (Jvm.Cond.code x code maxLocals ret :: ws) room_1) (fun aA uU => aA = #[(.int base), (.int dl), (.int mk)] ∧ Z.Warmed39 uU.vm ∧ uU.heap = h0) (fun _ _ _ _ _ => True) (fun _ uU oO uU' => ∃ vV lL, oO = .returned vV ∧ Q0 Z base dl mk h0 n0 vV uU'.heap lL ∧ FrameEnd uU oO uU' lL room_1.cells room_1.slots) := by
  refine MetFree.of_bodySF (plainFor_of_name pn_0) hisR ?_
  intro pP eE sS mM args below meth cC s₁ Bd hml0 hP hK
  obtain ⟨rfl, hZ, hh⟩ := hP
  have hx := Bd.exec
  have hby := Bd.bytes
  have hml : cC.maxLocals = 12 := hml0
  have hown : sS.vm.findClass "com/example/refine/refine/refinement/NormalisedLtsFirstNotInPinLaw" = some mM.cls := findClass_of_methodNamed Bd.named
  have hnm := (name_of_methodNamed Bd.named Bd.method).1
  have X0 : Stand pP l eE room_1 sS mM #[(.int base), (.int dl), (.int mk)] below meth cC s₁ [] 0 0 := Stand.of_body Bd
  have e0 : s₁.heap = h0 := by rw [← hh, Bd.state]; rfl
  have N0 := Fr.nil n0
  have pre0 : ∀ tg, Steps pP.tables eE below (s₁.setTop (mkF mM 0 #[.val (.int base), .val (.int dl), .val (.int mk), .unset, .unset, .unset, .unset, .unset, .unset, .unset, .unset, .unset] [])) tg → Steps pP.tables eE below (s₁.setTop (entryFrame mM #[(.int base), (.int dl), (.int mk)] maxLocals)) tg := fun tg kg => castTop (ef_0 mM base dl mk) kg
  have pr1 : ∀ tg, Steps pP.tables eE below (s₁.setTop (mkF mM 6 #[.val (.int base), .val (.int dl), .val (.int mk), .unset, .unset, .unset, .unset, .unset, .unset, .unset, .unset, .unset] [(.int (2147483631 : Int32)), (.int (base &&& (2147483647 : Int32)))])) tg → Steps pP.tables eE below (s₁.setTop (entryFrame mM #[(.int base), (.int dl), (.int mk)] maxLocals)) tg := fun tg kg => pre0 _ (by
    show Steps pP.tables eE below (s₁.setTop (mkF mM 0 #[.val (.int base), .val (.int dl), .val (.int mk), .unset, .unset, .unset, .unset, .unset, .unset, .unset, .unset, .unset] [])) _
    refine XS.iloadN X0.here hx rfl (hb hby at_0) rfl ?_
    show Steps pP.tables eE below (s₁.setTop (mkF mM 1 #[.val (.int base), .val (.int dl), .val (.int mk), .unset, .unset, .unset, .unset, .unset, .unset, .unset, .unset, .unset] [(.int base)])) _
    refine Jvm.Stand.ldcI X0 hx hown (v := (2147483647 : Int32)) (mvT hZ (hw _ (List.mem_of_getElem? (i := 0) rfl))) rfl (hb hby at_1) ?_
    show Steps pP.tables eE below (s₁.setTop (mkF mM 3 #[.val (.int base), .val (.int dl), .val (.int mk), .unset, .unset, .unset, .unset, .unset, .unset, .unset, .unset, .unset] [(.int (2147483647 : Int32)), (.int base)])) _
    refine XS.iand X0.here hx rfl (hb hby at_3) rfl ?_
    show Steps pP.tables eE below (s₁.setTop (mkF mM 4 #[.val (.int base), .val (.int dl), .val (.int mk), .unset, .unset, .unset, .unset, .unset, .unset, .unset, .unset, .unset] [(.int (base &&& (2147483647 : Int32)))])) _
    refine Jvm.Stand.ldcI X0 hx hown (v := (2147483631 : Int32)) (mvT hZ (hw _ (List.mem_of_getElem? (i := 1) rfl))) rfl (hb hby at_4) ?_
    exact kg)
  obtain ⟨_, _, ⟨T2, L2, kk2, nn2⟩, -, X2, ⟨Lc2, hQ2, l2, y2, z2⟩, st2⟩ := Jvm.LawKit.callS X0 hx (y := (⟨"java/lang/Math", "min", "(II)I"⟩ : MethodName)) hown (mvT hZ (hw _ (List.mem_of_getElem? (i := 2) rfl))) (mvT hZ (hw _ (List.mem_of_getElem? (i := 3) rfl))) (mvT hZ (hw _ (List.mem_of_getElem? (i := 4) rfl))) (mvT hZ (hw _ (List.mem_of_getElem? (i := 5) rfl))) (by decide) (backOf (W := 0) (rm1 l Z a0 hw [] (base &&& (2147483647 : Int32)) (2147483631 : Int32) h0 n0 Z0) hZ (hw _ (List.mem_of_getElem? (i := 5) rfl)) (hw _ (List.mem_of_getElem? (i := 4) rfl)) (by decide) (by decide)) (g := (mkF mM 6 #[.val (.int base), .val (.int dl), .val (.int mk), .unset, .unset, .unset, .unset, .unset, .unset, .unset, .unset, .unset] [(.int (2147483631 : Int32)), (.int (base &&& (2147483647 : Int32)))])) rfl (by rw [hml]; rfl) (argsL := [(.int (base &&& (2147483647 : Int32))), (.int (2147483631 : Int32))]) (rest := []) (lenOf pd_1 rfl) rfl (by show 2 * 0 + _ ≤ _; exact Nat.le_of_eq rfl) (hb hby at_6) (fun _ _ => ⟨rfl, e0, (by decide : 0 + 0 ≤ _), (by decide : 0 + 0 ≤ _)⟩)
  dsimp only [Pt.U, Pt.locs, Pt.cells, Pt.slots] at X2 l2 y2 z2 st2 hQ2
  subst l2 y2 z2
  obtain ⟨r2, rfl, hr2, Nq2, e2⟩ := hQ2
  have N2 := Fr.app N0 Nq2
  have pr3 : ∀ tg, Steps pP.tables eE below (T2.setTop (mkF mM 9 #[.val (.int base), .val (.int dl), .val (.int mk), .unset, .unset, .unset, .unset, .unset, .unset, .unset, .unset, .unset] [(.int r2)])) tg → Steps pP.tables eE below (s₁.setTop (entryFrame mM #[(.int base), (.int dl), (.int mk)] maxLocals)) tg := fun tg kg => pr1 _ (st2 _ kg)
  have pr4 : ∀ tg, Steps pP.tables eE below (T2.setTop (mkF mM 19 #[.val (.int base), .val (.int dl), .val (.int mk), .val (.int r2), .val (.int ((r2 + (1 : Int32)) + (dl &&& (3 : Int32)))), .unset, .unset, .unset, .unset, .unset, .unset, .unset] [])) tg → Steps pP.tables eE below (s₁.setTop (entryFrame mM #[(.int base), (.int dl), (.int mk)] maxLocals)) tg := fun tg kg => pr3 _ (by
    show Steps pP.tables eE below (T2.setTop (mkF mM 9 #[.val (.int base), .val (.int dl), .val (.int mk), .unset, .unset, .unset, .unset, .unset, .unset, .unset, .unset, .unset] [(.int r2)])) _
    refine XS.istoreN X2.here hx rfl (hb hby at_9) rfl (l' := #[.val (.int base), .val (.int dl), .val (.int mk), .val (.int r2), .unset, .unset, .unset, .unset, .unset, .unset, .unset, .unset]) rfl ?_
    show Steps pP.tables eE below (T2.setTop (mkF mM 10 #[.val (.int base), .val (.int dl), .val (.int mk), .val (.int r2), .unset, .unset, .unset, .unset, .unset, .unset, .unset, .unset] [])) _
    refine XS.iloadN X2.here hx rfl (hb hby at_10) rfl ?_
    show Steps pP.tables eE below (T2.setTop (mkF mM 11 #[.val (.int base), .val (.int dl), .val (.int mk), .val (.int r2), .unset, .unset, .unset, .unset, .unset, .unset, .unset, .unset] [(.int r2)])) _
    refine XS.iconst X2.here hx rfl (hb hby at_11) ?_
    show Steps pP.tables eE below (T2.setTop (mkF mM 12 #[.val (.int base), .val (.int dl), .val (.int mk), .val (.int r2), .unset, .unset, .unset, .unset, .unset, .unset, .unset, .unset] [(.int (1 : Int32)), (.int r2)])) _
    refine XS.iadd X2.here hx rfl (hb hby at_12) rfl ?_
    show Steps pP.tables eE below (T2.setTop (mkF mM 13 #[.val (.int base), .val (.int dl), .val (.int mk), .val (.int r2), .unset, .unset, .unset, .unset, .unset, .unset, .unset, .unset] [(.int (r2 + (1 : Int32)))])) _
    refine XS.iloadN X2.here hx rfl (hb hby at_13) rfl ?_
    show Steps pP.tables eE below (T2.setTop (mkF mM 14 #[.val (.int base), .val (.int dl), .val (.int mk), .val (.int r2), .unset, .unset, .unset, .unset, .unset, .unset, .unset, .unset] [(.int dl), (.int (r2 + (1 : Int32)))])) _
    refine XS.iconst X2.here hx rfl (hb hby at_14) ?_
    show Steps pP.tables eE below (T2.setTop (mkF mM 15 #[.val (.int base), .val (.int dl), .val (.int mk), .val (.int r2), .unset, .unset, .unset, .unset, .unset, .unset, .unset, .unset] [(.int (3 : Int32)), (.int dl), (.int (r2 + (1 : Int32)))])) _
    refine XS.iand X2.here hx rfl (hb hby at_15) rfl ?_
    show Steps pP.tables eE below (T2.setTop (mkF mM 16 #[.val (.int base), .val (.int dl), .val (.int mk), .val (.int r2), .unset, .unset, .unset, .unset, .unset, .unset, .unset, .unset] [(.int (dl &&& (3 : Int32))), (.int (r2 + (1 : Int32)))])) _
    refine XS.iadd X2.here hx rfl (hb hby at_16) rfl ?_
    show Steps pP.tables eE below (T2.setTop (mkF mM 17 #[.val (.int base), .val (.int dl), .val (.int mk), .val (.int r2), .unset, .unset, .unset, .unset, .unset, .unset, .unset, .unset] [(.int ((r2 + (1 : Int32)) + (dl &&& (3 : Int32))))])) _
    refine XS.istore X2.here hx rfl (hb hby at_17) rfl (l' := #[.val (.int base), .val (.int dl), .val (.int mk), .val (.int r2), .val (.int ((r2 + (1 : Int32)) + (dl &&& (3 : Int32)))), .unset, .unset, .unset, .unset, .unset, .unset, .unset]) rfl ?_
    exact kg)
  obtain ⟨z5, hz5⟩ : ∃ z, z = ((r2 + (1 : Int32)) + (dl &&& (3 : Int32))) := ⟨_, rfl⟩
  have pr6 : ∀ tg, Steps pP.tables eE below (T2.setTop (mkF mM 19 #[.val (.int base), .val (.int dl), .val (.int mk), .val (.int r2), .val (.int z5), .unset, .unset, .unset, .unset, .unset, .unset, .unset] [])) tg → Steps pP.tables eE below (s₁.setTop (entryFrame mM #[(.int base), (.int dl), (.int mk)] maxLocals)) tg := by
    rw [hz5]; exact pr4
  have pr7 : ∀ tg, Steps pP.tables eE below (T2.setTop (mkF mM 31 #[.val (.int base), .val (.int dl), .val (.int mk), .val (.int r2), .val (.int z5), .val (.int ((z5 + (1 : Int32)) + (((dl.toUInt32 >>> ((2 : Int32) &&& 31).toUInt32).toInt32) &&& (3 : Int32)))), .unset, .unset, .unset, .unset, .unset, .unset] [])) tg → Steps pP.tables eE below (s₁.setTop (entryFrame mM #[(.int base), (.int dl), (.int mk)] maxLocals)) tg := fun tg kg => pr6 _ (by
    show Steps pP.tables eE below (T2.setTop (mkF mM 19 #[.val (.int base), .val (.int dl), .val (.int mk), .val (.int r2), .val (.int z5), .unset, .unset, .unset, .unset, .unset, .unset, .unset] [])) _
    refine XS.iload X2.here hx rfl (hb hby at_19) rfl ?_
    show Steps pP.tables eE below (T2.setTop (mkF mM 21 #[.val (.int base), .val (.int dl), .val (.int mk), .val (.int r2), .val (.int z5), .unset, .unset, .unset, .unset, .unset, .unset, .unset] [(.int z5)])) _
    refine XS.iconst X2.here hx rfl (hb hby at_21) ?_
    show Steps pP.tables eE below (T2.setTop (mkF mM 22 #[.val (.int base), .val (.int dl), .val (.int mk), .val (.int r2), .val (.int z5), .unset, .unset, .unset, .unset, .unset, .unset, .unset] [(.int (1 : Int32)), (.int z5)])) _
    refine XS.iadd X2.here hx rfl (hb hby at_22) rfl ?_
    show Steps pP.tables eE below (T2.setTop (mkF mM 23 #[.val (.int base), .val (.int dl), .val (.int mk), .val (.int r2), .val (.int z5), .unset, .unset, .unset, .unset, .unset, .unset, .unset] [(.int (z5 + (1 : Int32)))])) _
    refine XS.iloadN X2.here hx rfl (hb hby at_23) rfl ?_
    show Steps pP.tables eE below (T2.setTop (mkF mM 24 #[.val (.int base), .val (.int dl), .val (.int mk), .val (.int r2), .val (.int z5), .unset, .unset, .unset, .unset, .unset, .unset, .unset] [(.int dl), (.int (z5 + (1 : Int32)))])) _
    refine XS.iconst X2.here hx rfl (hb hby at_24) ?_
    show Steps pP.tables eE below (T2.setTop (mkF mM 25 #[.val (.int base), .val (.int dl), .val (.int mk), .val (.int r2), .val (.int z5), .unset, .unset, .unset, .unset, .unset, .unset, .unset] [(.int (2 : Int32)), (.int dl), (.int (z5 + (1 : Int32)))])) _
    refine XS.iushr X2.here hx rfl (hb hby at_25) rfl ?_
    show Steps pP.tables eE below (T2.setTop (mkF mM 26 #[.val (.int base), .val (.int dl), .val (.int mk), .val (.int r2), .val (.int z5), .unset, .unset, .unset, .unset, .unset, .unset, .unset] [(.int ((dl.toUInt32 >>> ((2 : Int32) &&& 31).toUInt32).toInt32)), (.int (z5 + (1 : Int32)))])) _
    refine XS.iconst X2.here hx rfl (hb hby at_26) ?_
    show Steps pP.tables eE below (T2.setTop (mkF mM 27 #[.val (.int base), .val (.int dl), .val (.int mk), .val (.int r2), .val (.int z5), .unset, .unset, .unset, .unset, .unset, .unset, .unset] [(.int (3 : Int32)), (.int ((dl.toUInt32 >>> ((2 : Int32) &&& 31).toUInt32).toInt32)), (.int (z5 + (1 : Int32)))])) _
    refine XS.iand X2.here hx rfl (hb hby at_27) rfl ?_
    show Steps pP.tables eE below (T2.setTop (mkF mM 28 #[.val (.int base), .val (.int dl), .val (.int mk), .val (.int r2), .val (.int z5), .unset, .unset, .unset, .unset, .unset, .unset, .unset] [(.int (((dl.toUInt32 >>> ((2 : Int32) &&& 31).toUInt32).toInt32) &&& (3 : Int32))), (.int (z5 + (1 : Int32)))])) _
    refine XS.iadd X2.here hx rfl (hb hby at_28) rfl ?_
    show Steps pP.tables eE below (T2.setTop (mkF mM 29 #[.val (.int base), .val (.int dl), .val (.int mk), .val (.int r2), .val (.int z5), .unset, .unset, .unset, .unset, .unset, .unset, .unset] [(.int ((z5 + (1 : Int32)) + (((dl.toUInt32 >>> ((2 : Int32) &&& 31).toUInt32).toInt32) &&& (3 : Int32))))])) _
    refine XS.istore X2.here hx rfl (hb hby at_29) rfl (l' := #[.val (.int base), .val (.int dl), .val (.int mk), .val (.int r2), .val (.int z5), .val (.int ((z5 + (1 : Int32)) + (((dl.toUInt32 >>> ((2 : Int32) &&& 31).toUInt32).toInt32) &&& (3 : Int32)))), .unset, .unset, .unset, .unset, .unset, .unset]) rfl ?_
    exact kg)
  obtain ⟨z8, hz8⟩ : ∃ z, z = ((z5 + (1 : Int32)) + (((dl.toUInt32 >>> ((2 : Int32) &&& 31).toUInt32).toInt32) &&& (3 : Int32))) := ⟨_, rfl⟩
  have pr9 : ∀ tg, Steps pP.tables eE below (T2.setTop (mkF mM 31 #[.val (.int base), .val (.int dl), .val (.int mk), .val (.int r2), .val (.int z5), .val (.int z8), .unset, .unset, .unset, .unset, .unset, .unset] [])) tg → Steps pP.tables eE below (s₁.setTop (entryFrame mM #[(.int base), (.int dl), (.int mk)] maxLocals)) tg := by
    rw [hz8]; exact pr7
  have pr10 : ∀ tg, Steps pP.tables eE below (T2.setTop (mkF mM 43 #[.val (.int base), .val (.int dl), .val (.int mk), .val (.int r2), .val (.int z5), .val (.int z8), .val (.int ((z8 + (1 : Int32)) + (((dl.toUInt32 >>> ((4 : Int32) &&& 31).toUInt32).toInt32) &&& (3 : Int32)))), .unset, .unset, .unset, .unset, .unset] [])) tg → Steps pP.tables eE below (s₁.setTop (entryFrame mM #[(.int base), (.int dl), (.int mk)] maxLocals)) tg := fun tg kg => pr9 _ (by
    show Steps pP.tables eE below (T2.setTop (mkF mM 31 #[.val (.int base), .val (.int dl), .val (.int mk), .val (.int r2), .val (.int z5), .val (.int z8), .unset, .unset, .unset, .unset, .unset, .unset] [])) _
    refine XS.iload X2.here hx rfl (hb hby at_31) rfl ?_
    show Steps pP.tables eE below (T2.setTop (mkF mM 33 #[.val (.int base), .val (.int dl), .val (.int mk), .val (.int r2), .val (.int z5), .val (.int z8), .unset, .unset, .unset, .unset, .unset, .unset] [(.int z8)])) _
    refine XS.iconst X2.here hx rfl (hb hby at_33) ?_
    show Steps pP.tables eE below (T2.setTop (mkF mM 34 #[.val (.int base), .val (.int dl), .val (.int mk), .val (.int r2), .val (.int z5), .val (.int z8), .unset, .unset, .unset, .unset, .unset, .unset] [(.int (1 : Int32)), (.int z8)])) _
    refine XS.iadd X2.here hx rfl (hb hby at_34) rfl ?_
    show Steps pP.tables eE below (T2.setTop (mkF mM 35 #[.val (.int base), .val (.int dl), .val (.int mk), .val (.int r2), .val (.int z5), .val (.int z8), .unset, .unset, .unset, .unset, .unset, .unset] [(.int (z8 + (1 : Int32)))])) _
    refine XS.iloadN X2.here hx rfl (hb hby at_35) rfl ?_
    show Steps pP.tables eE below (T2.setTop (mkF mM 36 #[.val (.int base), .val (.int dl), .val (.int mk), .val (.int r2), .val (.int z5), .val (.int z8), .unset, .unset, .unset, .unset, .unset, .unset] [(.int dl), (.int (z8 + (1 : Int32)))])) _
    refine XS.iconst X2.here hx rfl (hb hby at_36) ?_
    show Steps pP.tables eE below (T2.setTop (mkF mM 37 #[.val (.int base), .val (.int dl), .val (.int mk), .val (.int r2), .val (.int z5), .val (.int z8), .unset, .unset, .unset, .unset, .unset, .unset] [(.int (4 : Int32)), (.int dl), (.int (z8 + (1 : Int32)))])) _
    refine XS.iushr X2.here hx rfl (hb hby at_37) rfl ?_
    show Steps pP.tables eE below (T2.setTop (mkF mM 38 #[.val (.int base), .val (.int dl), .val (.int mk), .val (.int r2), .val (.int z5), .val (.int z8), .unset, .unset, .unset, .unset, .unset, .unset] [(.int ((dl.toUInt32 >>> ((4 : Int32) &&& 31).toUInt32).toInt32)), (.int (z8 + (1 : Int32)))])) _
    refine XS.iconst X2.here hx rfl (hb hby at_38) ?_
    show Steps pP.tables eE below (T2.setTop (mkF mM 39 #[.val (.int base), .val (.int dl), .val (.int mk), .val (.int r2), .val (.int z5), .val (.int z8), .unset, .unset, .unset, .unset, .unset, .unset] [(.int (3 : Int32)), (.int ((dl.toUInt32 >>> ((4 : Int32) &&& 31).toUInt32).toInt32)), (.int (z8 + (1 : Int32)))])) _
    refine XS.iand X2.here hx rfl (hb hby at_39) rfl ?_
    show Steps pP.tables eE below (T2.setTop (mkF mM 40 #[.val (.int base), .val (.int dl), .val (.int mk), .val (.int r2), .val (.int z5), .val (.int z8), .unset, .unset, .unset, .unset, .unset, .unset] [(.int (((dl.toUInt32 >>> ((4 : Int32) &&& 31).toUInt32).toInt32) &&& (3 : Int32))), (.int (z8 + (1 : Int32)))])) _
    refine XS.iadd X2.here hx rfl (hb hby at_40) rfl ?_
    show Steps pP.tables eE below (T2.setTop (mkF mM 41 #[.val (.int base), .val (.int dl), .val (.int mk), .val (.int r2), .val (.int z5), .val (.int z8), .unset, .unset, .unset, .unset, .unset, .unset] [(.int ((z8 + (1 : Int32)) + (((dl.toUInt32 >>> ((4 : Int32) &&& 31).toUInt32).toInt32) &&& (3 : Int32))))])) _
    refine XS.istore X2.here hx rfl (hb hby at_41) rfl (l' := #[.val (.int base), .val (.int dl), .val (.int mk), .val (.int r2), .val (.int z5), .val (.int z8), .val (.int ((z8 + (1 : Int32)) + (((dl.toUInt32 >>> ((4 : Int32) &&& 31).toUInt32).toInt32) &&& (3 : Int32)))), .unset, .unset, .unset, .unset, .unset]) rfl ?_
    exact kg)
  obtain ⟨z11, hz11⟩ : ∃ z, z = ((z8 + (1 : Int32)) + (((dl.toUInt32 >>> ((4 : Int32) &&& 31).toUInt32).toInt32) &&& (3 : Int32))) := ⟨_, rfl⟩
  have pr12 : ∀ tg, Steps pP.tables eE below (T2.setTop (mkF mM 43 #[.val (.int base), .val (.int dl), .val (.int mk), .val (.int r2), .val (.int z5), .val (.int z8), .val (.int z11), .unset, .unset, .unset, .unset, .unset] [])) tg → Steps pP.tables eE below (s₁.setTop (entryFrame mM #[(.int base), (.int dl), (.int mk)] maxLocals)) tg := by
    rw [hz11]; exact pr10
  have pr13 : ∀ tg, Steps pP.tables eE below (T2.setTop (mkF mM 49 #[.val (.int base), .val (.int dl), .val (.int mk), .val (.int r2), .val (.int z5), .val (.int z8), .val (.int z11), .val (.int (mk &&& (15 : Int32))), .unset, .unset, .unset, .unset] [])) tg → Steps pP.tables eE below (s₁.setTop (entryFrame mM #[(.int base), (.int dl), (.int mk)] maxLocals)) tg := fun tg kg => pr12 _ (by
    show Steps pP.tables eE below (T2.setTop (mkF mM 43 #[.val (.int base), .val (.int dl), .val (.int mk), .val (.int r2), .val (.int z5), .val (.int z8), .val (.int z11), .unset, .unset, .unset, .unset, .unset] [])) _
    refine XS.iloadN X2.here hx rfl (hb hby at_43) rfl ?_
    show Steps pP.tables eE below (T2.setTop (mkF mM 44 #[.val (.int base), .val (.int dl), .val (.int mk), .val (.int r2), .val (.int z5), .val (.int z8), .val (.int z11), .unset, .unset, .unset, .unset, .unset] [(.int mk)])) _
    refine XS.bipush X2.here hx rfl (hb hby at_44) ?_
    show Steps pP.tables eE below (T2.setTop (mkF mM 46 #[.val (.int base), .val (.int dl), .val (.int mk), .val (.int r2), .val (.int z5), .val (.int z8), .val (.int z11), .unset, .unset, .unset, .unset, .unset] [(.int (15 : Int32)), (.int mk)])) _
    refine XS.iand X2.here hx rfl (hb hby at_46) rfl ?_
    show Steps pP.tables eE below (T2.setTop (mkF mM 47 #[.val (.int base), .val (.int dl), .val (.int mk), .val (.int r2), .val (.int z5), .val (.int z8), .val (.int z11), .unset, .unset, .unset, .unset, .unset] [(.int (mk &&& (15 : Int32)))])) _
    refine XS.istore X2.here hx rfl (hb hby at_47) rfl (l' := #[.val (.int base), .val (.int dl), .val (.int mk), .val (.int r2), .val (.int z5), .val (.int z8), .val (.int z11), .val (.int (mk &&& (15 : Int32))), .unset, .unset, .unset, .unset]) rfl ?_
    exact kg)
  obtain ⟨z14, hz14⟩ : ∃ z, z = (mk &&& (15 : Int32)) := ⟨_, rfl⟩
  have pr15 : ∀ tg, Steps pP.tables eE below (T2.setTop (mkF mM 49 #[.val (.int base), .val (.int dl), .val (.int mk), .val (.int r2), .val (.int z5), .val (.int z8), .val (.int z11), .val (.int z14), .unset, .unset, .unset, .unset] [])) tg → Steps pP.tables eE below (s₁.setTop (entryFrame mM #[(.int base), (.int dl), (.int mk)] maxLocals)) tg := by
    rw [hz14]; exact pr13
  have pr16 : ∀ tg, Steps pP.tables eE below (T2.setTop (mkF mM 57 #[.val (.int base), .val (.int dl), .val (.int mk), .val (.int r2), .val (.int z5), .val (.int z8), .val (.int z11), .val (.int z14), .val (.int (((mk.toUInt32 >>> ((4 : Int32) &&& 31).toUInt32).toInt32) &&& (15 : Int32))), .unset, .unset, .unset] [])) tg → Steps pP.tables eE below (s₁.setTop (entryFrame mM #[(.int base), (.int dl), (.int mk)] maxLocals)) tg := fun tg kg => pr15 _ (by
    show Steps pP.tables eE below (T2.setTop (mkF mM 49 #[.val (.int base), .val (.int dl), .val (.int mk), .val (.int r2), .val (.int z5), .val (.int z8), .val (.int z11), .val (.int z14), .unset, .unset, .unset, .unset] [])) _
    refine XS.iloadN X2.here hx rfl (hb hby at_49) rfl ?_
    show Steps pP.tables eE below (T2.setTop (mkF mM 50 #[.val (.int base), .val (.int dl), .val (.int mk), .val (.int r2), .val (.int z5), .val (.int z8), .val (.int z11), .val (.int z14), .unset, .unset, .unset, .unset] [(.int mk)])) _
    refine XS.iconst X2.here hx rfl (hb hby at_50) ?_
    show Steps pP.tables eE below (T2.setTop (mkF mM 51 #[.val (.int base), .val (.int dl), .val (.int mk), .val (.int r2), .val (.int z5), .val (.int z8), .val (.int z11), .val (.int z14), .unset, .unset, .unset, .unset] [(.int (4 : Int32)), (.int mk)])) _
    refine XS.iushr X2.here hx rfl (hb hby at_51) rfl ?_
    show Steps pP.tables eE below (T2.setTop (mkF mM 52 #[.val (.int base), .val (.int dl), .val (.int mk), .val (.int r2), .val (.int z5), .val (.int z8), .val (.int z11), .val (.int z14), .unset, .unset, .unset, .unset] [(.int ((mk.toUInt32 >>> ((4 : Int32) &&& 31).toUInt32).toInt32))])) _
    refine XS.bipush X2.here hx rfl (hb hby at_52) ?_
    show Steps pP.tables eE below (T2.setTop (mkF mM 54 #[.val (.int base), .val (.int dl), .val (.int mk), .val (.int r2), .val (.int z5), .val (.int z8), .val (.int z11), .val (.int z14), .unset, .unset, .unset, .unset] [(.int (15 : Int32)), (.int ((mk.toUInt32 >>> ((4 : Int32) &&& 31).toUInt32).toInt32))])) _
    refine XS.iand X2.here hx rfl (hb hby at_54) rfl ?_
    show Steps pP.tables eE below (T2.setTop (mkF mM 55 #[.val (.int base), .val (.int dl), .val (.int mk), .val (.int r2), .val (.int z5), .val (.int z8), .val (.int z11), .val (.int z14), .unset, .unset, .unset, .unset] [(.int (((mk.toUInt32 >>> ((4 : Int32) &&& 31).toUInt32).toInt32) &&& (15 : Int32)))])) _
    refine XS.istore X2.here hx rfl (hb hby at_55) rfl (l' := #[.val (.int base), .val (.int dl), .val (.int mk), .val (.int r2), .val (.int z5), .val (.int z8), .val (.int z11), .val (.int z14), .val (.int (((mk.toUInt32 >>> ((4 : Int32) &&& 31).toUInt32).toInt32) &&& (15 : Int32))), .unset, .unset, .unset]) rfl ?_
    exact kg)
  obtain ⟨z17, hz17⟩ : ∃ z, z = (((mk.toUInt32 >>> ((4 : Int32) &&& 31).toUInt32).toInt32) &&& (15 : Int32)) := ⟨_, rfl⟩
  have pr18 : ∀ tg, Steps pP.tables eE below (T2.setTop (mkF mM 57 #[.val (.int base), .val (.int dl), .val (.int mk), .val (.int r2), .val (.int z5), .val (.int z8), .val (.int z11), .val (.int z14), .val (.int z17), .unset, .unset, .unset] [])) tg → Steps pP.tables eE below (s₁.setTop (entryFrame mM #[(.int base), (.int dl), (.int mk)] maxLocals)) tg := by
    rw [hz17]; exact pr16
  have pr19 : ∀ tg, Steps pP.tables eE below (T2.setTop (mkF mM 66 #[.val (.int base), .val (.int dl), .val (.int mk), .val (.int r2), .val (.int z5), .val (.int z8), .val (.int z11), .val (.int z14), .val (.int z17), .unset, .unset, .unset] [(.int z14), (.int z11), (.int z8), (.int z5), (.int r2)])) tg → Steps pP.tables eE below (s₁.setTop (entryFrame mM #[(.int base), (.int dl), (.int mk)] maxLocals)) tg := fun tg kg => pr18 _ (by
    show Steps pP.tables eE below (T2.setTop (mkF mM 57 #[.val (.int base), .val (.int dl), .val (.int mk), .val (.int r2), .val (.int z5), .val (.int z8), .val (.int z11), .val (.int z14), .val (.int z17), .unset, .unset, .unset] [])) _
    refine XS.iloadN X2.here hx rfl (hb hby at_57) rfl ?_
    show Steps pP.tables eE below (T2.setTop (mkF mM 58 #[.val (.int base), .val (.int dl), .val (.int mk), .val (.int r2), .val (.int z5), .val (.int z8), .val (.int z11), .val (.int z14), .val (.int z17), .unset, .unset, .unset] [(.int r2)])) _
    refine XS.iload X2.here hx rfl (hb hby at_58) rfl ?_
    show Steps pP.tables eE below (T2.setTop (mkF mM 60 #[.val (.int base), .val (.int dl), .val (.int mk), .val (.int r2), .val (.int z5), .val (.int z8), .val (.int z11), .val (.int z14), .val (.int z17), .unset, .unset, .unset] [(.int z5), (.int r2)])) _
    refine XS.iload X2.here hx rfl (hb hby at_60) rfl ?_
    show Steps pP.tables eE below (T2.setTop (mkF mM 62 #[.val (.int base), .val (.int dl), .val (.int mk), .val (.int r2), .val (.int z5), .val (.int z8), .val (.int z11), .val (.int z14), .val (.int z17), .unset, .unset, .unset] [(.int z8), (.int z5), (.int r2)])) _
    refine XS.iload X2.here hx rfl (hb hby at_62) rfl ?_
    show Steps pP.tables eE below (T2.setTop (mkF mM 64 #[.val (.int base), .val (.int dl), .val (.int mk), .val (.int r2), .val (.int z5), .val (.int z8), .val (.int z11), .val (.int z14), .val (.int z17), .unset, .unset, .unset] [(.int z11), (.int z8), (.int z5), (.int r2)])) _
    refine XS.iload X2.here hx rfl (hb hby at_64) rfl ?_
    exact kg)
  obtain ⟨_, _, ⟨T20, L20, kk20, nn20⟩, -, X20, ⟨Lc20, hQ20, l20, y20, z20⟩, st20⟩ := Jvm.LawKit.callS X2 hx (y := (⟨"com/example/refine/refine/refinement/NormalisedLtsFirstNotInPinLaw", "pick", "(IIIII)[I"⟩ : MethodName)) hown (mvT hZ (hw _ (List.mem_of_getElem? (i := 6) rfl))) (mvT hZ (hw _ (List.mem_of_getElem? (i := 7) rfl))) (mvT hZ (hw _ (List.mem_of_getElem? (i := 8) rfl))) (mvT hZ (hw _ (List.mem_of_getElem? (i := 9) rfl))) (by decide) (backOf (W := 0) (rm3 l Z a0 hw [] r2 z5 z8 z11 z14 h0 n0 Z0) hZ (hw _ (List.mem_of_getElem? (i := 9) rfl)) (hw _ (List.mem_of_getElem? (i := 8) rfl)) (by decide) (by decide)) (g := (mkF mM 66 #[.val (.int base), .val (.int dl), .val (.int mk), .val (.int r2), .val (.int z5), .val (.int z8), .val (.int z11), .val (.int z14), .val (.int z17), .unset, .unset, .unset] [(.int z14), (.int z11), (.int z8), (.int z5), (.int r2)])) rfl (by rw [hml]; rfl) (argsL := [(.int r2), (.int z5), (.int z8), (.int z11), (.int z14)]) (rest := []) (lenOf pd_2 rfl) rfl (by show 2 * 0 + _ ≤ _; exact Nat.le_of_eq rfl) (hb hby at_66) (fun _ _ => ⟨rfl, e2, (by decide : 0 + 2 ≤ _), (by decide : 0 + 8 ≤ _)⟩)
  dsimp only [Pt.U, Pt.locs, Pt.cells, Pt.slots] at X20 l20 y20 z20 st20 hQ20
  subst l20 y20 z20
  obtain ⟨bp20, rfl, ge20, Nq20, K20, kp20, V20⟩ := hQ20
  have N20 := Fr.app N2 Nq20
  have gn21 : n0 ≤ bp20 := Nat.le_trans Z0 ge20
  have gs22 : h0.size ≤ bp20 := Nat.le_trans (Keep.refl h0 []).1 ge20
  have pr23 : ∀ tg, Steps pP.tables eE below (T20.setTop (mkF mM 69 #[.val (.int base), .val (.int dl), .val (.int mk), .val (.int r2), .val (.int z5), .val (.int z8), .val (.int z11), .val (.int z14), .val (.int z17), .unset, .unset, .unset] [(.ref bp20)])) tg → Steps pP.tables eE below (s₁.setTop (entryFrame mM #[(.int base), (.int dl), (.int mk)] maxLocals)) tg := fun tg kg => pr19 _ (st20 _ kg)
  have pr24 : ∀ tg, Steps pP.tables eE below (T20.setTop (mkF mM 80 #[.val (.int base), .val (.int dl), .val (.int mk), .val (.int r2), .val (.int z5), .val (.int z8), .val (.int z11), .val (.int z14), .val (.int z17), .val (.ref bp20), .unset, .unset] [(.int z17), (.int z11), (.int z8), (.int z5), (.int r2)])) tg → Steps pP.tables eE below (s₁.setTop (entryFrame mM #[(.int base), (.int dl), (.int mk)] maxLocals)) tg := fun tg kg => pr23 _ (by
    show Steps pP.tables eE below (T20.setTop (mkF mM 69 #[.val (.int base), .val (.int dl), .val (.int mk), .val (.int r2), .val (.int z5), .val (.int z8), .val (.int z11), .val (.int z14), .val (.int z17), .unset, .unset, .unset] [(.ref bp20)])) _
    refine XS.astore X20.here hx rfl (hb hby at_69) rfl rfl (l' := #[.val (.int base), .val (.int dl), .val (.int mk), .val (.int r2), .val (.int z5), .val (.int z8), .val (.int z11), .val (.int z14), .val (.int z17), .val (.ref bp20), .unset, .unset]) rfl ?_
    show Steps pP.tables eE below (T20.setTop (mkF mM 71 #[.val (.int base), .val (.int dl), .val (.int mk), .val (.int r2), .val (.int z5), .val (.int z8), .val (.int z11), .val (.int z14), .val (.int z17), .val (.ref bp20), .unset, .unset] [])) _
    refine XS.iloadN X20.here hx rfl (hb hby at_71) rfl ?_
    show Steps pP.tables eE below (T20.setTop (mkF mM 72 #[.val (.int base), .val (.int dl), .val (.int mk), .val (.int r2), .val (.int z5), .val (.int z8), .val (.int z11), .val (.int z14), .val (.int z17), .val (.ref bp20), .unset, .unset] [(.int r2)])) _
    refine XS.iload X20.here hx rfl (hb hby at_72) rfl ?_
    show Steps pP.tables eE below (T20.setTop (mkF mM 74 #[.val (.int base), .val (.int dl), .val (.int mk), .val (.int r2), .val (.int z5), .val (.int z8), .val (.int z11), .val (.int z14), .val (.int z17), .val (.ref bp20), .unset, .unset] [(.int z5), (.int r2)])) _
    refine XS.iload X20.here hx rfl (hb hby at_74) rfl ?_
    show Steps pP.tables eE below (T20.setTop (mkF mM 76 #[.val (.int base), .val (.int dl), .val (.int mk), .val (.int r2), .val (.int z5), .val (.int z8), .val (.int z11), .val (.int z14), .val (.int z17), .val (.ref bp20), .unset, .unset] [(.int z8), (.int z5), (.int r2)])) _
    refine XS.iload X20.here hx rfl (hb hby at_76) rfl ?_
    show Steps pP.tables eE below (T20.setTop (mkF mM 78 #[.val (.int base), .val (.int dl), .val (.int mk), .val (.int r2), .val (.int z5), .val (.int z8), .val (.int z11), .val (.int z14), .val (.int z17), .val (.ref bp20), .unset, .unset] [(.int z11), (.int z8), (.int z5), (.int r2)])) _
    refine XS.iload X20.here hx rfl (hb hby at_78) rfl ?_
    exact kg)
  have c25 := (Nat.le_trans Z0 K20.1)
  obtain ⟨_, _, ⟨T26, L26, kk26, nn26⟩, -, X26, ⟨Lc26, hQ26, l26, y26, z26⟩, st26⟩ := Jvm.LawKit.callS X20 hx (y := (⟨"com/example/refine/refine/refinement/NormalisedLtsFirstNotInPinLaw", "pick", "(IIIII)[I"⟩ : MethodName)) hown (mvT hZ (hw _ (List.mem_of_getElem? (i := 6) rfl))) (mvT hZ (hw _ (List.mem_of_getElem? (i := 7) rfl))) (mvT hZ (hw _ (List.mem_of_getElem? (i := 8) rfl))) (mvT hZ (hw _ (List.mem_of_getElem? (i := 9) rfl))) (by decide) (backOf (W := 0) (rm3 l Z a0 hw [] r2 z5 z8 z11 z17 T20.heap n0 c25) hZ (hw _ (List.mem_of_getElem? (i := 9) rfl)) (hw _ (List.mem_of_getElem? (i := 8) rfl)) (by decide) (by decide)) (g := (mkF mM 80 #[.val (.int base), .val (.int dl), .val (.int mk), .val (.int r2), .val (.int z5), .val (.int z8), .val (.int z11), .val (.int z14), .val (.int z17), .val (.ref bp20), .unset, .unset] [(.int z17), (.int z11), (.int z8), (.int z5), (.int r2)])) rfl (by rw [hml]; rfl) (argsL := [(.int r2), (.int z5), (.int z8), (.int z11), (.int z17)]) (rest := []) (lenOf pd_2 rfl) rfl (by show 2 * 0 + _ ≤ _; exact Nat.le_of_eq rfl) (hb hby at_80) (fun _ _ => ⟨rfl, rfl, (by decide : 2 + 2 ≤ _), (by decide : 8 + 8 ≤ _)⟩)
  dsimp only [Pt.U, Pt.locs, Pt.cells, Pt.slots] at X26 l26 y26 z26 st26 hQ26
  subst l26 y26 z26
  obtain ⟨bp26, rfl, ge26, Nq26, K26, kp26, V26⟩ := hQ26
  have N26 := Fr.app N20 Nq26
  have ne27 : bp20 ≠ bp26 := Nat.ne_of_lt (Nat.lt_of_lt_of_le (V20).lt ge26)
  have gn28 : n0 ≤ bp26 := Nat.le_trans c25 ge26
  have c30 := (Keep.trans (Keep.refl h0 []) K20 all0)
  have gs29 : h0.size ≤ bp26 := Nat.le_trans c30.1 ge26
  have pr31 : ∀ tg, Steps pP.tables eE below (T26.setTop (mkF mM 83 #[.val (.int base), .val (.int dl), .val (.int mk), .val (.int r2), .val (.int z5), .val (.int z8), .val (.int z11), .val (.int z14), .val (.int z17), .val (.ref bp20), .unset, .unset] [(.ref bp26)])) tg → Steps pP.tables eE below (s₁.setTop (entryFrame mM #[(.int base), (.int dl), (.int mk)] maxLocals)) tg := fun tg kg => pr24 _ (st26 _ kg)
  have pr32 : ∀ tg, Steps pP.tables eE below (T26.setTop (mkF mM 89 #[.val (.int base), .val (.int dl), .val (.int mk), .val (.int r2), .val (.int z5), .val (.int z8), .val (.int z11), .val (.int z14), .val (.int z17), .val (.ref bp20), .val (.ref bp26), .unset] [(.int (z14 &&& (1 : Int32)))])) tg → Steps pP.tables eE below (s₁.setTop (entryFrame mM #[(.int base), (.int dl), (.int mk)] maxLocals)) tg := fun tg kg => pr31 _ (by
    show Steps pP.tables eE below (T26.setTop (mkF mM 83 #[.val (.int base), .val (.int dl), .val (.int mk), .val (.int r2), .val (.int z5), .val (.int z8), .val (.int z11), .val (.int z14), .val (.int z17), .val (.ref bp20), .unset, .unset] [(.ref bp26)])) _
    refine XS.astore X26.here hx rfl (hb hby at_83) rfl rfl (l' := #[.val (.int base), .val (.int dl), .val (.int mk), .val (.int r2), .val (.int z5), .val (.int z8), .val (.int z11), .val (.int z14), .val (.int z17), .val (.ref bp20), .val (.ref bp26), .unset]) rfl ?_
    show Steps pP.tables eE below (T26.setTop (mkF mM 85 #[.val (.int base), .val (.int dl), .val (.int mk), .val (.int r2), .val (.int z5), .val (.int z8), .val (.int z11), .val (.int z14), .val (.int z17), .val (.ref bp20), .val (.ref bp26), .unset] [])) _
    refine XS.iload X26.here hx rfl (hb hby at_85) rfl ?_
    show Steps pP.tables eE below (T26.setTop (mkF mM 87 #[.val (.int base), .val (.int dl), .val (.int mk), .val (.int r2), .val (.int z5), .val (.int z8), .val (.int z11), .val (.int z14), .val (.int z17), .val (.ref bp20), .val (.ref bp26), .unset] [(.int z14)])) _
    refine XS.iconst X26.here hx rfl (hb hby at_87) ?_
    show Steps pP.tables eE below (T26.setTop (mkF mM 88 #[.val (.int base), .val (.int dl), .val (.int mk), .val (.int r2), .val (.int z5), .val (.int z8), .val (.int z11), .val (.int z14), .val (.int z17), .val (.ref bp20), .val (.ref bp26), .unset] [(.int (1 : Int32)), (.int z14)])) _
    refine XS.iand X26.here hx rfl (hb hby at_88) rfl ?_
    exact kg)
  obtain ⟨j63, hj63, st64⟩ : ∃ (j63 : Int32), j63 = (if (z14 &&& (1 : Int32)) = (0 : Int32) then (if (z14 &&& (2 : Int32)) = (0 : Int32) then (if (z14 &&& (4 : Int32)) = (0 : Int32) then (if (z14 &&& (8 : Int32)) = (0 : Int32) then (-1 : Int32) else (if (z17 &&& (8 : Int32)) = (0 : Int32) then z11 else (-1 : Int32))) else (if (z17 &&& (4 : Int32)) = (0 : Int32) then z8 else (if (z14 &&& (8 : Int32)) = (0 : Int32) then (-1 : Int32) else (if (z17 &&& (8 : Int32)) = (0 : Int32) then z11 else (-1 : Int32))))) else (if (z17 &&& (2 : Int32)) = (0 : Int32) then z5 else (if (z14 &&& (4 : Int32)) = (0 : Int32) then (if (z14 &&& (8 : Int32)) = (0 : Int32) then (-1 : Int32) else (if (z17 &&& (8 : Int32)) = (0 : Int32) then z11 else (-1 : Int32))) else (if (z17 &&& (4 : Int32)) = (0 : Int32) then z8 else (if (z14 &&& (8 : Int32)) = (0 : Int32) then (-1 : Int32) else (if (z17 &&& (8 : Int32)) = (0 : Int32) then z11 else (-1 : Int32))))))) else (if (z17 &&& (1 : Int32)) = (0 : Int32) then r2 else (if (z14 &&& (2 : Int32)) = (0 : Int32) then (if (z14 &&& (4 : Int32)) = (0 : Int32) then (if (z14 &&& (8 : Int32)) = (0 : Int32) then (-1 : Int32) else (if (z17 &&& (8 : Int32)) = (0 : Int32) then z11 else (-1 : Int32))) else (if (z17 &&& (4 : Int32)) = (0 : Int32) then z8 else (if (z14 &&& (8 : Int32)) = (0 : Int32) then (-1 : Int32) else (if (z17 &&& (8 : Int32)) = (0 : Int32) then z11 else (-1 : Int32))))) else (if (z17 &&& (2 : Int32)) = (0 : Int32) then z5 else (if (z14 &&& (4 : Int32)) = (0 : Int32) then (if (z14 &&& (8 : Int32)) = (0 : Int32) then (-1 : Int32) else (if (z17 &&& (8 : Int32)) = (0 : Int32) then z11 else (-1 : Int32))) else (if (z17 &&& (4 : Int32)) = (0 : Int32) then z8 else (if (z14 &&& (8 : Int32)) = (0 : Int32) then (-1 : Int32) else (if (z17 &&& (8 : Int32)) = (0 : Int32) then z11 else (-1 : Int32))))))))) ∧ ∀ tg, Steps pP.tables eE below (T26.setTop (mkF mM 173 #[.val (.int base), .val (.int dl), .val (.int mk), .val (.int r2), .val (.int z5), .val (.int z8), .val (.int z11), .val (.int z14), .val (.int z17), .val (.ref bp20), .val (.ref bp26), .val (.int j63)] [])) tg → Steps pP.tables eE below (T26.setTop (mkF mM 89 #[.val (.int base), .val (.int dl), .val (.int mk), .val (.int r2), .val (.int z5), .val (.int z8), .val (.int z11), .val (.int z14), .val (.int z17), .val (.ref bp20), .val (.ref bp26), .unset] [(.int (z14 &&& (1 : Int32)))])) tg := by
    by_cases hj89_33 : (z14 &&& (1 : Int32)) = (0 : Int32)
    ·
      by_cases hj109_34 : (z14 &&& (2 : Int32)) = (0 : Int32)
      ·
        by_cases hj130_35 : (z14 &&& (4 : Int32)) = (0 : Int32)
        ·
          by_cases hj152_36 : (z14 &&& (8 : Int32)) = (0 : Int32)
          ·
            refine ⟨(-1 : Int32), (by rw [if_pos hj89_33, if_pos hj109_34, if_pos hj130_35, if_pos hj152_36]), fun tg kg => ?_⟩
            show Steps pP.tables eE below (T26.setTop (mkF mM 89 #[.val (.int base), .val (.int dl), .val (.int mk), .val (.int r2), .val (.int z5), .val (.int z8), .val (.int z11), .val (.int z14), .val (.int z17), .val (.ref bp20), .val (.ref bp26), .unset] [(.int (z14 &&& (1 : Int32)))])) _
            refine XS.ifYes X26.here hx rfl (pc0 := 89) (pc' := 105) rfl (hb hby at_89) rfl ((if0 _ _).trans (teq hj89_33).1) (by decide) (by decide) ?_
            show Steps pP.tables eE below (T26.setTop (mkF mM 105 #[.val (.int base), .val (.int dl), .val (.int mk), .val (.int r2), .val (.int z5), .val (.int z8), .val (.int z11), .val (.int z14), .val (.int z17), .val (.ref bp20), .val (.ref bp26), .unset] [])) _
            refine XS.iload X26.here hx rfl (hb hby at_105) rfl ?_
            show Steps pP.tables eE below (T26.setTop (mkF mM 107 #[.val (.int base), .val (.int dl), .val (.int mk), .val (.int r2), .val (.int z5), .val (.int z8), .val (.int z11), .val (.int z14), .val (.int z17), .val (.ref bp20), .val (.ref bp26), .unset] [(.int z14)])) _
            refine XS.iconst X26.here hx rfl (hb hby at_107) ?_
            show Steps pP.tables eE below (T26.setTop (mkF mM 108 #[.val (.int base), .val (.int dl), .val (.int mk), .val (.int r2), .val (.int z5), .val (.int z8), .val (.int z11), .val (.int z14), .val (.int z17), .val (.ref bp20), .val (.ref bp26), .unset] [(.int (2 : Int32)), (.int z14)])) _
            refine XS.iand X26.here hx rfl (hb hby at_108) rfl ?_
            show Steps pP.tables eE below (T26.setTop (mkF mM 109 #[.val (.int base), .val (.int dl), .val (.int mk), .val (.int r2), .val (.int z5), .val (.int z8), .val (.int z11), .val (.int z14), .val (.int z17), .val (.ref bp20), .val (.ref bp26), .unset] [(.int (z14 &&& (2 : Int32)))])) _
            refine XS.ifYes X26.here hx rfl (pc0 := 109) (pc' := 126) rfl (hb hby at_109) rfl ((if0 _ _).trans (teq hj109_34).1) (by decide) (by decide) ?_
            show Steps pP.tables eE below (T26.setTop (mkF mM 126 #[.val (.int base), .val (.int dl), .val (.int mk), .val (.int r2), .val (.int z5), .val (.int z8), .val (.int z11), .val (.int z14), .val (.int z17), .val (.ref bp20), .val (.ref bp26), .unset] [])) _
            refine XS.iload X26.here hx rfl (hb hby at_126) rfl ?_
            show Steps pP.tables eE below (T26.setTop (mkF mM 128 #[.val (.int base), .val (.int dl), .val (.int mk), .val (.int r2), .val (.int z5), .val (.int z8), .val (.int z11), .val (.int z14), .val (.int z17), .val (.ref bp20), .val (.ref bp26), .unset] [(.int z14)])) _
            refine XS.iconst X26.here hx rfl (hb hby at_128) ?_
            show Steps pP.tables eE below (T26.setTop (mkF mM 129 #[.val (.int base), .val (.int dl), .val (.int mk), .val (.int r2), .val (.int z5), .val (.int z8), .val (.int z11), .val (.int z14), .val (.int z17), .val (.ref bp20), .val (.ref bp26), .unset] [(.int (4 : Int32)), (.int z14)])) _
            refine XS.iand X26.here hx rfl (hb hby at_129) rfl ?_
            show Steps pP.tables eE below (T26.setTop (mkF mM 130 #[.val (.int base), .val (.int dl), .val (.int mk), .val (.int r2), .val (.int z5), .val (.int z8), .val (.int z11), .val (.int z14), .val (.int z17), .val (.ref bp20), .val (.ref bp26), .unset] [(.int (z14 &&& (4 : Int32)))])) _
            refine XS.ifYes X26.here hx rfl (pc0 := 130) (pc' := 147) rfl (hb hby at_130) rfl ((if0 _ _).trans (teq hj130_35).1) (by decide) (by decide) ?_
            show Steps pP.tables eE below (T26.setTop (mkF mM 147 #[.val (.int base), .val (.int dl), .val (.int mk), .val (.int r2), .val (.int z5), .val (.int z8), .val (.int z11), .val (.int z14), .val (.int z17), .val (.ref bp20), .val (.ref bp26), .unset] [])) _
            refine XS.iload X26.here hx rfl (hb hby at_147) rfl ?_
            show Steps pP.tables eE below (T26.setTop (mkF mM 149 #[.val (.int base), .val (.int dl), .val (.int mk), .val (.int r2), .val (.int z5), .val (.int z8), .val (.int z11), .val (.int z14), .val (.int z17), .val (.ref bp20), .val (.ref bp26), .unset] [(.int z14)])) _
            refine XS.bipush X26.here hx rfl (hb hby at_149) ?_
            show Steps pP.tables eE below (T26.setTop (mkF mM 151 #[.val (.int base), .val (.int dl), .val (.int mk), .val (.int r2), .val (.int z5), .val (.int z8), .val (.int z11), .val (.int z14), .val (.int z17), .val (.ref bp20), .val (.ref bp26), .unset] [(.int (8 : Int32)), (.int z14)])) _
            refine XS.iand X26.here hx rfl (hb hby at_151) rfl ?_
            show Steps pP.tables eE below (T26.setTop (mkF mM 152 #[.val (.int base), .val (.int dl), .val (.int mk), .val (.int r2), .val (.int z5), .val (.int z8), .val (.int z11), .val (.int z14), .val (.int z17), .val (.ref bp20), .val (.ref bp26), .unset] [(.int (z14 &&& (8 : Int32)))])) _
            refine XS.ifYes X26.here hx rfl (pc0 := 152) (pc' := 170) rfl (hb hby at_152) rfl ((if0 _ _).trans (teq hj152_36).1) (by decide) (by decide) ?_
            show Steps pP.tables eE below (T26.setTop (mkF mM 170 #[.val (.int base), .val (.int dl), .val (.int mk), .val (.int r2), .val (.int z5), .val (.int z8), .val (.int z11), .val (.int z14), .val (.int z17), .val (.ref bp20), .val (.ref bp26), .unset] [])) _
            refine XS.iconst X26.here hx rfl (hb hby at_170) ?_
            show Steps pP.tables eE below (T26.setTop (mkF mM 171 #[.val (.int base), .val (.int dl), .val (.int mk), .val (.int r2), .val (.int z5), .val (.int z8), .val (.int z11), .val (.int z14), .val (.int z17), .val (.ref bp20), .val (.ref bp26), .unset] [(.int (-1 : Int32))])) _
            refine XS.istore X26.here hx rfl (hb hby at_171) rfl (l' := #[.val (.int base), .val (.int dl), .val (.int mk), .val (.int r2), .val (.int z5), .val (.int z8), .val (.int z11), .val (.int z14), .val (.int z17), .val (.ref bp20), .val (.ref bp26), .val (.int (-1 : Int32))]) rfl ?_
            exact kg
          ·
            by_cases hj160_37 : (z17 &&& (8 : Int32)) = (0 : Int32)
            ·
              refine ⟨z11, (by rw [if_pos hj89_33, if_pos hj109_34, if_pos hj130_35, if_neg hj152_36, if_pos hj160_37]), fun tg kg => ?_⟩
              show Steps pP.tables eE below (T26.setTop (mkF mM 89 #[.val (.int base), .val (.int dl), .val (.int mk), .val (.int r2), .val (.int z5), .val (.int z8), .val (.int z11), .val (.int z14), .val (.int z17), .val (.ref bp20), .val (.ref bp26), .unset] [(.int (z14 &&& (1 : Int32)))])) _
              refine XS.ifYes X26.here hx rfl (pc0 := 89) (pc' := 105) rfl (hb hby at_89) rfl ((if0 _ _).trans (teq hj89_33).1) (by decide) (by decide) ?_
              show Steps pP.tables eE below (T26.setTop (mkF mM 105 #[.val (.int base), .val (.int dl), .val (.int mk), .val (.int r2), .val (.int z5), .val (.int z8), .val (.int z11), .val (.int z14), .val (.int z17), .val (.ref bp20), .val (.ref bp26), .unset] [])) _
              refine XS.iload X26.here hx rfl (hb hby at_105) rfl ?_
              show Steps pP.tables eE below (T26.setTop (mkF mM 107 #[.val (.int base), .val (.int dl), .val (.int mk), .val (.int r2), .val (.int z5), .val (.int z8), .val (.int z11), .val (.int z14), .val (.int z17), .val (.ref bp20), .val (.ref bp26), .unset] [(.int z14)])) _
              refine XS.iconst X26.here hx rfl (hb hby at_107) ?_
              show Steps pP.tables eE below (T26.setTop (mkF mM 108 #[.val (.int base), .val (.int dl), .val (.int mk), .val (.int r2), .val (.int z5), .val (.int z8), .val (.int z11), .val (.int z14), .val (.int z17), .val (.ref bp20), .val (.ref bp26), .unset] [(.int (2 : Int32)), (.int z14)])) _
              refine XS.iand X26.here hx rfl (hb hby at_108) rfl ?_
              show Steps pP.tables eE below (T26.setTop (mkF mM 109 #[.val (.int base), .val (.int dl), .val (.int mk), .val (.int r2), .val (.int z5), .val (.int z8), .val (.int z11), .val (.int z14), .val (.int z17), .val (.ref bp20), .val (.ref bp26), .unset] [(.int (z14 &&& (2 : Int32)))])) _
              refine XS.ifYes X26.here hx rfl (pc0 := 109) (pc' := 126) rfl (hb hby at_109) rfl ((if0 _ _).trans (teq hj109_34).1) (by decide) (by decide) ?_
              show Steps pP.tables eE below (T26.setTop (mkF mM 126 #[.val (.int base), .val (.int dl), .val (.int mk), .val (.int r2), .val (.int z5), .val (.int z8), .val (.int z11), .val (.int z14), .val (.int z17), .val (.ref bp20), .val (.ref bp26), .unset] [])) _
              refine XS.iload X26.here hx rfl (hb hby at_126) rfl ?_
              show Steps pP.tables eE below (T26.setTop (mkF mM 128 #[.val (.int base), .val (.int dl), .val (.int mk), .val (.int r2), .val (.int z5), .val (.int z8), .val (.int z11), .val (.int z14), .val (.int z17), .val (.ref bp20), .val (.ref bp26), .unset] [(.int z14)])) _
              refine XS.iconst X26.here hx rfl (hb hby at_128) ?_
              show Steps pP.tables eE below (T26.setTop (mkF mM 129 #[.val (.int base), .val (.int dl), .val (.int mk), .val (.int r2), .val (.int z5), .val (.int z8), .val (.int z11), .val (.int z14), .val (.int z17), .val (.ref bp20), .val (.ref bp26), .unset] [(.int (4 : Int32)), (.int z14)])) _
              refine XS.iand X26.here hx rfl (hb hby at_129) rfl ?_
              show Steps pP.tables eE below (T26.setTop (mkF mM 130 #[.val (.int base), .val (.int dl), .val (.int mk), .val (.int r2), .val (.int z5), .val (.int z8), .val (.int z11), .val (.int z14), .val (.int z17), .val (.ref bp20), .val (.ref bp26), .unset] [(.int (z14 &&& (4 : Int32)))])) _
              refine XS.ifYes X26.here hx rfl (pc0 := 130) (pc' := 147) rfl (hb hby at_130) rfl ((if0 _ _).trans (teq hj130_35).1) (by decide) (by decide) ?_
              show Steps pP.tables eE below (T26.setTop (mkF mM 147 #[.val (.int base), .val (.int dl), .val (.int mk), .val (.int r2), .val (.int z5), .val (.int z8), .val (.int z11), .val (.int z14), .val (.int z17), .val (.ref bp20), .val (.ref bp26), .unset] [])) _
              refine XS.iload X26.here hx rfl (hb hby at_147) rfl ?_
              show Steps pP.tables eE below (T26.setTop (mkF mM 149 #[.val (.int base), .val (.int dl), .val (.int mk), .val (.int r2), .val (.int z5), .val (.int z8), .val (.int z11), .val (.int z14), .val (.int z17), .val (.ref bp20), .val (.ref bp26), .unset] [(.int z14)])) _
              refine XS.bipush X26.here hx rfl (hb hby at_149) ?_
              show Steps pP.tables eE below (T26.setTop (mkF mM 151 #[.val (.int base), .val (.int dl), .val (.int mk), .val (.int r2), .val (.int z5), .val (.int z8), .val (.int z11), .val (.int z14), .val (.int z17), .val (.ref bp20), .val (.ref bp26), .unset] [(.int (8 : Int32)), (.int z14)])) _
              refine XS.iand X26.here hx rfl (hb hby at_151) rfl ?_
              show Steps pP.tables eE below (T26.setTop (mkF mM 152 #[.val (.int base), .val (.int dl), .val (.int mk), .val (.int r2), .val (.int z5), .val (.int z8), .val (.int z11), .val (.int z14), .val (.int z17), .val (.ref bp20), .val (.ref bp26), .unset] [(.int (z14 &&& (8 : Int32)))])) _
              refine XS.ifNo X26.here hx rfl (hb hby at_152) rfl ((if0 _ _).trans (feq hj152_36).1) ?_
              show Steps pP.tables eE below (T26.setTop (mkF mM 155 #[.val (.int base), .val (.int dl), .val (.int mk), .val (.int r2), .val (.int z5), .val (.int z8), .val (.int z11), .val (.int z14), .val (.int z17), .val (.ref bp20), .val (.ref bp26), .unset] [])) _
              refine XS.iload X26.here hx rfl (hb hby at_155) rfl ?_
              show Steps pP.tables eE below (T26.setTop (mkF mM 157 #[.val (.int base), .val (.int dl), .val (.int mk), .val (.int r2), .val (.int z5), .val (.int z8), .val (.int z11), .val (.int z14), .val (.int z17), .val (.ref bp20), .val (.ref bp26), .unset] [(.int z17)])) _
              refine XS.bipush X26.here hx rfl (hb hby at_157) ?_
              show Steps pP.tables eE below (T26.setTop (mkF mM 159 #[.val (.int base), .val (.int dl), .val (.int mk), .val (.int r2), .val (.int z5), .val (.int z8), .val (.int z11), .val (.int z14), .val (.int z17), .val (.ref bp20), .val (.ref bp26), .unset] [(.int (8 : Int32)), (.int z17)])) _
              refine XS.iand X26.here hx rfl (hb hby at_159) rfl ?_
              show Steps pP.tables eE below (T26.setTop (mkF mM 160 #[.val (.int base), .val (.int dl), .val (.int mk), .val (.int r2), .val (.int z5), .val (.int z8), .val (.int z11), .val (.int z14), .val (.int z17), .val (.ref bp20), .val (.ref bp26), .unset] [(.int (z17 &&& (8 : Int32)))])) _
              refine XS.ifNo X26.here hx rfl (hb hby at_160) rfl ((if0 _ _).trans (teq hj160_37).2) ?_
              show Steps pP.tables eE below (T26.setTop (mkF mM 163 #[.val (.int base), .val (.int dl), .val (.int mk), .val (.int r2), .val (.int z5), .val (.int z8), .val (.int z11), .val (.int z14), .val (.int z17), .val (.ref bp20), .val (.ref bp26), .unset] [])) _
              refine XS.iload X26.here hx rfl (hb hby at_163) rfl ?_
              show Steps pP.tables eE below (T26.setTop (mkF mM 165 #[.val (.int base), .val (.int dl), .val (.int mk), .val (.int r2), .val (.int z5), .val (.int z8), .val (.int z11), .val (.int z14), .val (.int z17), .val (.ref bp20), .val (.ref bp26), .unset] [(.int z11)])) _
              refine XS.istore X26.here hx rfl (hb hby at_165) rfl (l' := #[.val (.int base), .val (.int dl), .val (.int mk), .val (.int r2), .val (.int z5), .val (.int z8), .val (.int z11), .val (.int z14), .val (.int z17), .val (.ref bp20), .val (.ref bp26), .val (.int z11)]) rfl ?_
              show Steps pP.tables eE below (T26.setTop (mkF mM 167 #[.val (.int base), .val (.int dl), .val (.int mk), .val (.int r2), .val (.int z5), .val (.int z8), .val (.int z11), .val (.int z14), .val (.int z17), .val (.ref bp20), .val (.ref bp26), .val (.int z11)] [])) _
              refine XS.goto X26.here hx rfl (pc0 := 167) (pc' := 173) rfl (hb hby at_167) (by decide) (by decide) ?_
              exact kg
            ·
              refine ⟨(-1 : Int32), (by rw [if_pos hj89_33, if_pos hj109_34, if_pos hj130_35, if_neg hj152_36, if_neg hj160_37]), fun tg kg => ?_⟩
              show Steps pP.tables eE below (T26.setTop (mkF mM 89 #[.val (.int base), .val (.int dl), .val (.int mk), .val (.int r2), .val (.int z5), .val (.int z8), .val (.int z11), .val (.int z14), .val (.int z17), .val (.ref bp20), .val (.ref bp26), .unset] [(.int (z14 &&& (1 : Int32)))])) _
              refine XS.ifYes X26.here hx rfl (pc0 := 89) (pc' := 105) rfl (hb hby at_89) rfl ((if0 _ _).trans (teq hj89_33).1) (by decide) (by decide) ?_
              show Steps pP.tables eE below (T26.setTop (mkF mM 105 #[.val (.int base), .val (.int dl), .val (.int mk), .val (.int r2), .val (.int z5), .val (.int z8), .val (.int z11), .val (.int z14), .val (.int z17), .val (.ref bp20), .val (.ref bp26), .unset] [])) _
              refine XS.iload X26.here hx rfl (hb hby at_105) rfl ?_
              show Steps pP.tables eE below (T26.setTop (mkF mM 107 #[.val (.int base), .val (.int dl), .val (.int mk), .val (.int r2), .val (.int z5), .val (.int z8), .val (.int z11), .val (.int z14), .val (.int z17), .val (.ref bp20), .val (.ref bp26), .unset] [(.int z14)])) _
              refine XS.iconst X26.here hx rfl (hb hby at_107) ?_
              show Steps pP.tables eE below (T26.setTop (mkF mM 108 #[.val (.int base), .val (.int dl), .val (.int mk), .val (.int r2), .val (.int z5), .val (.int z8), .val (.int z11), .val (.int z14), .val (.int z17), .val (.ref bp20), .val (.ref bp26), .unset] [(.int (2 : Int32)), (.int z14)])) _
              refine XS.iand X26.here hx rfl (hb hby at_108) rfl ?_
              show Steps pP.tables eE below (T26.setTop (mkF mM 109 #[.val (.int base), .val (.int dl), .val (.int mk), .val (.int r2), .val (.int z5), .val (.int z8), .val (.int z11), .val (.int z14), .val (.int z17), .val (.ref bp20), .val (.ref bp26), .unset] [(.int (z14 &&& (2 : Int32)))])) _
              refine XS.ifYes X26.here hx rfl (pc0 := 109) (pc' := 126) rfl (hb hby at_109) rfl ((if0 _ _).trans (teq hj109_34).1) (by decide) (by decide) ?_
              show Steps pP.tables eE below (T26.setTop (mkF mM 126 #[.val (.int base), .val (.int dl), .val (.int mk), .val (.int r2), .val (.int z5), .val (.int z8), .val (.int z11), .val (.int z14), .val (.int z17), .val (.ref bp20), .val (.ref bp26), .unset] [])) _
              refine XS.iload X26.here hx rfl (hb hby at_126) rfl ?_
              show Steps pP.tables eE below (T26.setTop (mkF mM 128 #[.val (.int base), .val (.int dl), .val (.int mk), .val (.int r2), .val (.int z5), .val (.int z8), .val (.int z11), .val (.int z14), .val (.int z17), .val (.ref bp20), .val (.ref bp26), .unset] [(.int z14)])) _
              refine XS.iconst X26.here hx rfl (hb hby at_128) ?_
              show Steps pP.tables eE below (T26.setTop (mkF mM 129 #[.val (.int base), .val (.int dl), .val (.int mk), .val (.int r2), .val (.int z5), .val (.int z8), .val (.int z11), .val (.int z14), .val (.int z17), .val (.ref bp20), .val (.ref bp26), .unset] [(.int (4 : Int32)), (.int z14)])) _
              refine XS.iand X26.here hx rfl (hb hby at_129) rfl ?_
              show Steps pP.tables eE below (T26.setTop (mkF mM 130 #[.val (.int base), .val (.int dl), .val (.int mk), .val (.int r2), .val (.int z5), .val (.int z8), .val (.int z11), .val (.int z14), .val (.int z17), .val (.ref bp20), .val (.ref bp26), .unset] [(.int (z14 &&& (4 : Int32)))])) _
              refine XS.ifYes X26.here hx rfl (pc0 := 130) (pc' := 147) rfl (hb hby at_130) rfl ((if0 _ _).trans (teq hj130_35).1) (by decide) (by decide) ?_
              show Steps pP.tables eE below (T26.setTop (mkF mM 147 #[.val (.int base), .val (.int dl), .val (.int mk), .val (.int r2), .val (.int z5), .val (.int z8), .val (.int z11), .val (.int z14), .val (.int z17), .val (.ref bp20), .val (.ref bp26), .unset] [])) _
              refine XS.iload X26.here hx rfl (hb hby at_147) rfl ?_
              show Steps pP.tables eE below (T26.setTop (mkF mM 149 #[.val (.int base), .val (.int dl), .val (.int mk), .val (.int r2), .val (.int z5), .val (.int z8), .val (.int z11), .val (.int z14), .val (.int z17), .val (.ref bp20), .val (.ref bp26), .unset] [(.int z14)])) _
              refine XS.bipush X26.here hx rfl (hb hby at_149) ?_
              show Steps pP.tables eE below (T26.setTop (mkF mM 151 #[.val (.int base), .val (.int dl), .val (.int mk), .val (.int r2), .val (.int z5), .val (.int z8), .val (.int z11), .val (.int z14), .val (.int z17), .val (.ref bp20), .val (.ref bp26), .unset] [(.int (8 : Int32)), (.int z14)])) _
              refine XS.iand X26.here hx rfl (hb hby at_151) rfl ?_
              show Steps pP.tables eE below (T26.setTop (mkF mM 152 #[.val (.int base), .val (.int dl), .val (.int mk), .val (.int r2), .val (.int z5), .val (.int z8), .val (.int z11), .val (.int z14), .val (.int z17), .val (.ref bp20), .val (.ref bp26), .unset] [(.int (z14 &&& (8 : Int32)))])) _
              refine XS.ifNo X26.here hx rfl (hb hby at_152) rfl ((if0 _ _).trans (feq hj152_36).1) ?_
              show Steps pP.tables eE below (T26.setTop (mkF mM 155 #[.val (.int base), .val (.int dl), .val (.int mk), .val (.int r2), .val (.int z5), .val (.int z8), .val (.int z11), .val (.int z14), .val (.int z17), .val (.ref bp20), .val (.ref bp26), .unset] [])) _
              refine XS.iload X26.here hx rfl (hb hby at_155) rfl ?_
              show Steps pP.tables eE below (T26.setTop (mkF mM 157 #[.val (.int base), .val (.int dl), .val (.int mk), .val (.int r2), .val (.int z5), .val (.int z8), .val (.int z11), .val (.int z14), .val (.int z17), .val (.ref bp20), .val (.ref bp26), .unset] [(.int z17)])) _
              refine XS.bipush X26.here hx rfl (hb hby at_157) ?_
              show Steps pP.tables eE below (T26.setTop (mkF mM 159 #[.val (.int base), .val (.int dl), .val (.int mk), .val (.int r2), .val (.int z5), .val (.int z8), .val (.int z11), .val (.int z14), .val (.int z17), .val (.ref bp20), .val (.ref bp26), .unset] [(.int (8 : Int32)), (.int z17)])) _
              refine XS.iand X26.here hx rfl (hb hby at_159) rfl ?_
              show Steps pP.tables eE below (T26.setTop (mkF mM 160 #[.val (.int base), .val (.int dl), .val (.int mk), .val (.int r2), .val (.int z5), .val (.int z8), .val (.int z11), .val (.int z14), .val (.int z17), .val (.ref bp20), .val (.ref bp26), .unset] [(.int (z17 &&& (8 : Int32)))])) _
              refine XS.ifYes X26.here hx rfl (pc0 := 160) (pc' := 170) rfl (hb hby at_160) rfl ((if0 _ _).trans (feq hj160_37).2) (by decide) (by decide) ?_
              show Steps pP.tables eE below (T26.setTop (mkF mM 170 #[.val (.int base), .val (.int dl), .val (.int mk), .val (.int r2), .val (.int z5), .val (.int z8), .val (.int z11), .val (.int z14), .val (.int z17), .val (.ref bp20), .val (.ref bp26), .unset] [])) _
              refine XS.iconst X26.here hx rfl (hb hby at_170) ?_
              show Steps pP.tables eE below (T26.setTop (mkF mM 171 #[.val (.int base), .val (.int dl), .val (.int mk), .val (.int r2), .val (.int z5), .val (.int z8), .val (.int z11), .val (.int z14), .val (.int z17), .val (.ref bp20), .val (.ref bp26), .unset] [(.int (-1 : Int32))])) _
              refine XS.istore X26.here hx rfl (hb hby at_171) rfl (l' := #[.val (.int base), .val (.int dl), .val (.int mk), .val (.int r2), .val (.int z5), .val (.int z8), .val (.int z11), .val (.int z14), .val (.int z17), .val (.ref bp20), .val (.ref bp26), .val (.int (-1 : Int32))]) rfl ?_
              exact kg
        ·
          by_cases hj137_38 : (z17 &&& (4 : Int32)) = (0 : Int32)
          ·
            refine ⟨z8, (by rw [if_pos hj89_33, if_pos hj109_34, if_neg hj130_35, if_pos hj137_38]), fun tg kg => ?_⟩
            show Steps pP.tables eE below (T26.setTop (mkF mM 89 #[.val (.int base), .val (.int dl), .val (.int mk), .val (.int r2), .val (.int z5), .val (.int z8), .val (.int z11), .val (.int z14), .val (.int z17), .val (.ref bp20), .val (.ref bp26), .unset] [(.int (z14 &&& (1 : Int32)))])) _
            refine XS.ifYes X26.here hx rfl (pc0 := 89) (pc' := 105) rfl (hb hby at_89) rfl ((if0 _ _).trans (teq hj89_33).1) (by decide) (by decide) ?_
            show Steps pP.tables eE below (T26.setTop (mkF mM 105 #[.val (.int base), .val (.int dl), .val (.int mk), .val (.int r2), .val (.int z5), .val (.int z8), .val (.int z11), .val (.int z14), .val (.int z17), .val (.ref bp20), .val (.ref bp26), .unset] [])) _
            refine XS.iload X26.here hx rfl (hb hby at_105) rfl ?_
            show Steps pP.tables eE below (T26.setTop (mkF mM 107 #[.val (.int base), .val (.int dl), .val (.int mk), .val (.int r2), .val (.int z5), .val (.int z8), .val (.int z11), .val (.int z14), .val (.int z17), .val (.ref bp20), .val (.ref bp26), .unset] [(.int z14)])) _
            refine XS.iconst X26.here hx rfl (hb hby at_107) ?_
            show Steps pP.tables eE below (T26.setTop (mkF mM 108 #[.val (.int base), .val (.int dl), .val (.int mk), .val (.int r2), .val (.int z5), .val (.int z8), .val (.int z11), .val (.int z14), .val (.int z17), .val (.ref bp20), .val (.ref bp26), .unset] [(.int (2 : Int32)), (.int z14)])) _
            refine XS.iand X26.here hx rfl (hb hby at_108) rfl ?_
            show Steps pP.tables eE below (T26.setTop (mkF mM 109 #[.val (.int base), .val (.int dl), .val (.int mk), .val (.int r2), .val (.int z5), .val (.int z8), .val (.int z11), .val (.int z14), .val (.int z17), .val (.ref bp20), .val (.ref bp26), .unset] [(.int (z14 &&& (2 : Int32)))])) _
            refine XS.ifYes X26.here hx rfl (pc0 := 109) (pc' := 126) rfl (hb hby at_109) rfl ((if0 _ _).trans (teq hj109_34).1) (by decide) (by decide) ?_
            show Steps pP.tables eE below (T26.setTop (mkF mM 126 #[.val (.int base), .val (.int dl), .val (.int mk), .val (.int r2), .val (.int z5), .val (.int z8), .val (.int z11), .val (.int z14), .val (.int z17), .val (.ref bp20), .val (.ref bp26), .unset] [])) _
            refine XS.iload X26.here hx rfl (hb hby at_126) rfl ?_
            show Steps pP.tables eE below (T26.setTop (mkF mM 128 #[.val (.int base), .val (.int dl), .val (.int mk), .val (.int r2), .val (.int z5), .val (.int z8), .val (.int z11), .val (.int z14), .val (.int z17), .val (.ref bp20), .val (.ref bp26), .unset] [(.int z14)])) _
            refine XS.iconst X26.here hx rfl (hb hby at_128) ?_
            show Steps pP.tables eE below (T26.setTop (mkF mM 129 #[.val (.int base), .val (.int dl), .val (.int mk), .val (.int r2), .val (.int z5), .val (.int z8), .val (.int z11), .val (.int z14), .val (.int z17), .val (.ref bp20), .val (.ref bp26), .unset] [(.int (4 : Int32)), (.int z14)])) _
            refine XS.iand X26.here hx rfl (hb hby at_129) rfl ?_
            show Steps pP.tables eE below (T26.setTop (mkF mM 130 #[.val (.int base), .val (.int dl), .val (.int mk), .val (.int r2), .val (.int z5), .val (.int z8), .val (.int z11), .val (.int z14), .val (.int z17), .val (.ref bp20), .val (.ref bp26), .unset] [(.int (z14 &&& (4 : Int32)))])) _
            refine XS.ifNo X26.here hx rfl (hb hby at_130) rfl ((if0 _ _).trans (feq hj130_35).1) ?_
            show Steps pP.tables eE below (T26.setTop (mkF mM 133 #[.val (.int base), .val (.int dl), .val (.int mk), .val (.int r2), .val (.int z5), .val (.int z8), .val (.int z11), .val (.int z14), .val (.int z17), .val (.ref bp20), .val (.ref bp26), .unset] [])) _
            refine XS.iload X26.here hx rfl (hb hby at_133) rfl ?_
            show Steps pP.tables eE below (T26.setTop (mkF mM 135 #[.val (.int base), .val (.int dl), .val (.int mk), .val (.int r2), .val (.int z5), .val (.int z8), .val (.int z11), .val (.int z14), .val (.int z17), .val (.ref bp20), .val (.ref bp26), .unset] [(.int z17)])) _
            refine XS.iconst X26.here hx rfl (hb hby at_135) ?_
            show Steps pP.tables eE below (T26.setTop (mkF mM 136 #[.val (.int base), .val (.int dl), .val (.int mk), .val (.int r2), .val (.int z5), .val (.int z8), .val (.int z11), .val (.int z14), .val (.int z17), .val (.ref bp20), .val (.ref bp26), .unset] [(.int (4 : Int32)), (.int z17)])) _
            refine XS.iand X26.here hx rfl (hb hby at_136) rfl ?_
            show Steps pP.tables eE below (T26.setTop (mkF mM 137 #[.val (.int base), .val (.int dl), .val (.int mk), .val (.int r2), .val (.int z5), .val (.int z8), .val (.int z11), .val (.int z14), .val (.int z17), .val (.ref bp20), .val (.ref bp26), .unset] [(.int (z17 &&& (4 : Int32)))])) _
            refine XS.ifNo X26.here hx rfl (hb hby at_137) rfl ((if0 _ _).trans (teq hj137_38).2) ?_
            show Steps pP.tables eE below (T26.setTop (mkF mM 140 #[.val (.int base), .val (.int dl), .val (.int mk), .val (.int r2), .val (.int z5), .val (.int z8), .val (.int z11), .val (.int z14), .val (.int z17), .val (.ref bp20), .val (.ref bp26), .unset] [])) _
            refine XS.iload X26.here hx rfl (hb hby at_140) rfl ?_
            show Steps pP.tables eE below (T26.setTop (mkF mM 142 #[.val (.int base), .val (.int dl), .val (.int mk), .val (.int r2), .val (.int z5), .val (.int z8), .val (.int z11), .val (.int z14), .val (.int z17), .val (.ref bp20), .val (.ref bp26), .unset] [(.int z8)])) _
            refine XS.istore X26.here hx rfl (hb hby at_142) rfl (l' := #[.val (.int base), .val (.int dl), .val (.int mk), .val (.int r2), .val (.int z5), .val (.int z8), .val (.int z11), .val (.int z14), .val (.int z17), .val (.ref bp20), .val (.ref bp26), .val (.int z8)]) rfl ?_
            show Steps pP.tables eE below (T26.setTop (mkF mM 144 #[.val (.int base), .val (.int dl), .val (.int mk), .val (.int r2), .val (.int z5), .val (.int z8), .val (.int z11), .val (.int z14), .val (.int z17), .val (.ref bp20), .val (.ref bp26), .val (.int z8)] [])) _
            refine XS.goto X26.here hx rfl (pc0 := 144) (pc' := 173) rfl (hb hby at_144) (by decide) (by decide) ?_
            exact kg
          ·
            by_cases hj152_39 : (z14 &&& (8 : Int32)) = (0 : Int32)
            ·
              refine ⟨(-1 : Int32), (by rw [if_pos hj89_33, if_pos hj109_34, if_neg hj130_35, if_neg hj137_38, if_pos hj152_39]), fun tg kg => ?_⟩
              show Steps pP.tables eE below (T26.setTop (mkF mM 89 #[.val (.int base), .val (.int dl), .val (.int mk), .val (.int r2), .val (.int z5), .val (.int z8), .val (.int z11), .val (.int z14), .val (.int z17), .val (.ref bp20), .val (.ref bp26), .unset] [(.int (z14 &&& (1 : Int32)))])) _
              refine XS.ifYes X26.here hx rfl (pc0 := 89) (pc' := 105) rfl (hb hby at_89) rfl ((if0 _ _).trans (teq hj89_33).1) (by decide) (by decide) ?_
              show Steps pP.tables eE below (T26.setTop (mkF mM 105 #[.val (.int base), .val (.int dl), .val (.int mk), .val (.int r2), .val (.int z5), .val (.int z8), .val (.int z11), .val (.int z14), .val (.int z17), .val (.ref bp20), .val (.ref bp26), .unset] [])) _
              refine XS.iload X26.here hx rfl (hb hby at_105) rfl ?_
              show Steps pP.tables eE below (T26.setTop (mkF mM 107 #[.val (.int base), .val (.int dl), .val (.int mk), .val (.int r2), .val (.int z5), .val (.int z8), .val (.int z11), .val (.int z14), .val (.int z17), .val (.ref bp20), .val (.ref bp26), .unset] [(.int z14)])) _
              refine XS.iconst X26.here hx rfl (hb hby at_107) ?_
              show Steps pP.tables eE below (T26.setTop (mkF mM 108 #[.val (.int base), .val (.int dl), .val (.int mk), .val (.int r2), .val (.int z5), .val (.int z8), .val (.int z11), .val (.int z14), .val (.int z17), .val (.ref bp20), .val (.ref bp26), .unset] [(.int (2 : Int32)), (.int z14)])) _
              refine XS.iand X26.here hx rfl (hb hby at_108) rfl ?_
              show Steps pP.tables eE below (T26.setTop (mkF mM 109 #[.val (.int base), .val (.int dl), .val (.int mk), .val (.int r2), .val (.int z5), .val (.int z8), .val (.int z11), .val (.int z14), .val (.int z17), .val (.ref bp20), .val (.ref bp26), .unset] [(.int (z14 &&& (2 : Int32)))])) _
              refine XS.ifYes X26.here hx rfl (pc0 := 109) (pc' := 126) rfl (hb hby at_109) rfl ((if0 _ _).trans (teq hj109_34).1) (by decide) (by decide) ?_
              show Steps pP.tables eE below (T26.setTop (mkF mM 126 #[.val (.int base), .val (.int dl), .val (.int mk), .val (.int r2), .val (.int z5), .val (.int z8), .val (.int z11), .val (.int z14), .val (.int z17), .val (.ref bp20), .val (.ref bp26), .unset] [])) _
              refine XS.iload X26.here hx rfl (hb hby at_126) rfl ?_
              show Steps pP.tables eE below (T26.setTop (mkF mM 128 #[.val (.int base), .val (.int dl), .val (.int mk), .val (.int r2), .val (.int z5), .val (.int z8), .val (.int z11), .val (.int z14), .val (.int z17), .val (.ref bp20), .val (.ref bp26), .unset] [(.int z14)])) _
              refine XS.iconst X26.here hx rfl (hb hby at_128) ?_
              show Steps pP.tables eE below (T26.setTop (mkF mM 129 #[.val (.int base), .val (.int dl), .val (.int mk), .val (.int r2), .val (.int z5), .val (.int z8), .val (.int z11), .val (.int z14), .val (.int z17), .val (.ref bp20), .val (.ref bp26), .unset] [(.int (4 : Int32)), (.int z14)])) _
              refine XS.iand X26.here hx rfl (hb hby at_129) rfl ?_
              show Steps pP.tables eE below (T26.setTop (mkF mM 130 #[.val (.int base), .val (.int dl), .val (.int mk), .val (.int r2), .val (.int z5), .val (.int z8), .val (.int z11), .val (.int z14), .val (.int z17), .val (.ref bp20), .val (.ref bp26), .unset] [(.int (z14 &&& (4 : Int32)))])) _
              refine XS.ifNo X26.here hx rfl (hb hby at_130) rfl ((if0 _ _).trans (feq hj130_35).1) ?_
              show Steps pP.tables eE below (T26.setTop (mkF mM 133 #[.val (.int base), .val (.int dl), .val (.int mk), .val (.int r2), .val (.int z5), .val (.int z8), .val (.int z11), .val (.int z14), .val (.int z17), .val (.ref bp20), .val (.ref bp26), .unset] [])) _
              refine XS.iload X26.here hx rfl (hb hby at_133) rfl ?_
              show Steps pP.tables eE below (T26.setTop (mkF mM 135 #[.val (.int base), .val (.int dl), .val (.int mk), .val (.int r2), .val (.int z5), .val (.int z8), .val (.int z11), .val (.int z14), .val (.int z17), .val (.ref bp20), .val (.ref bp26), .unset] [(.int z17)])) _
              refine XS.iconst X26.here hx rfl (hb hby at_135) ?_
              show Steps pP.tables eE below (T26.setTop (mkF mM 136 #[.val (.int base), .val (.int dl), .val (.int mk), .val (.int r2), .val (.int z5), .val (.int z8), .val (.int z11), .val (.int z14), .val (.int z17), .val (.ref bp20), .val (.ref bp26), .unset] [(.int (4 : Int32)), (.int z17)])) _
              refine XS.iand X26.here hx rfl (hb hby at_136) rfl ?_
              show Steps pP.tables eE below (T26.setTop (mkF mM 137 #[.val (.int base), .val (.int dl), .val (.int mk), .val (.int r2), .val (.int z5), .val (.int z8), .val (.int z11), .val (.int z14), .val (.int z17), .val (.ref bp20), .val (.ref bp26), .unset] [(.int (z17 &&& (4 : Int32)))])) _
              refine XS.ifYes X26.here hx rfl (pc0 := 137) (pc' := 147) rfl (hb hby at_137) rfl ((if0 _ _).trans (feq hj137_38).2) (by decide) (by decide) ?_
              show Steps pP.tables eE below (T26.setTop (mkF mM 147 #[.val (.int base), .val (.int dl), .val (.int mk), .val (.int r2), .val (.int z5), .val (.int z8), .val (.int z11), .val (.int z14), .val (.int z17), .val (.ref bp20), .val (.ref bp26), .unset] [])) _
              refine XS.iload X26.here hx rfl (hb hby at_147) rfl ?_
              show Steps pP.tables eE below (T26.setTop (mkF mM 149 #[.val (.int base), .val (.int dl), .val (.int mk), .val (.int r2), .val (.int z5), .val (.int z8), .val (.int z11), .val (.int z14), .val (.int z17), .val (.ref bp20), .val (.ref bp26), .unset] [(.int z14)])) _
              refine XS.bipush X26.here hx rfl (hb hby at_149) ?_
              show Steps pP.tables eE below (T26.setTop (mkF mM 151 #[.val (.int base), .val (.int dl), .val (.int mk), .val (.int r2), .val (.int z5), .val (.int z8), .val (.int z11), .val (.int z14), .val (.int z17), .val (.ref bp20), .val (.ref bp26), .unset] [(.int (8 : Int32)), (.int z14)])) _
              refine XS.iand X26.here hx rfl (hb hby at_151) rfl ?_
              show Steps pP.tables eE below (T26.setTop (mkF mM 152 #[.val (.int base), .val (.int dl), .val (.int mk), .val (.int r2), .val (.int z5), .val (.int z8), .val (.int z11), .val (.int z14), .val (.int z17), .val (.ref bp20), .val (.ref bp26), .unset] [(.int (z14 &&& (8 : Int32)))])) _
              refine XS.ifYes X26.here hx rfl (pc0 := 152) (pc' := 170) rfl (hb hby at_152) rfl ((if0 _ _).trans (teq hj152_39).1) (by decide) (by decide) ?_
              show Steps pP.tables eE below (T26.setTop (mkF mM 170 #[.val (.int base), .val (.int dl), .val (.int mk), .val (.int r2), .val (.int z5), .val (.int z8), .val (.int z11), .val (.int z14), .val (.int z17), .val (.ref bp20), .val (.ref bp26), .unset] [])) _
              refine XS.iconst X26.here hx rfl (hb hby at_170) ?_
              show Steps pP.tables eE below (T26.setTop (mkF mM 171 #[.val (.int base), .val (.int dl), .val (.int mk), .val (.int r2), .val (.int z5), .val (.int z8), .val (.int z11), .val (.int z14), .val (.int z17), .val (.ref bp20), .val (.ref bp26), .unset] [(.int (-1 : Int32))])) _
              refine XS.istore X26.here hx rfl (hb hby at_171) rfl (l' := #[.val (.int base), .val (.int dl), .val (.int mk), .val (.int r2), .val (.int z5), .val (.int z8), .val (.int z11), .val (.int z14), .val (.int z17), .val (.ref bp20), .val (.ref bp26), .val (.int (-1 : Int32))]) rfl ?_
              exact kg
            ·
              by_cases hj160_40 : (z17 &&& (8 : Int32)) = (0 : Int32)
              ·
                refine ⟨z11, (by rw [if_pos hj89_33, if_pos hj109_34, if_neg hj130_35, if_neg hj137_38, if_neg hj152_39, if_pos hj160_40]), fun tg kg => ?_⟩
                show Steps pP.tables eE below (T26.setTop (mkF mM 89 #[.val (.int base), .val (.int dl), .val (.int mk), .val (.int r2), .val (.int z5), .val (.int z8), .val (.int z11), .val (.int z14), .val (.int z17), .val (.ref bp20), .val (.ref bp26), .unset] [(.int (z14 &&& (1 : Int32)))])) _
                refine XS.ifYes X26.here hx rfl (pc0 := 89) (pc' := 105) rfl (hb hby at_89) rfl ((if0 _ _).trans (teq hj89_33).1) (by decide) (by decide) ?_
                show Steps pP.tables eE below (T26.setTop (mkF mM 105 #[.val (.int base), .val (.int dl), .val (.int mk), .val (.int r2), .val (.int z5), .val (.int z8), .val (.int z11), .val (.int z14), .val (.int z17), .val (.ref bp20), .val (.ref bp26), .unset] [])) _
                refine XS.iload X26.here hx rfl (hb hby at_105) rfl ?_
                show Steps pP.tables eE below (T26.setTop (mkF mM 107 #[.val (.int base), .val (.int dl), .val (.int mk), .val (.int r2), .val (.int z5), .val (.int z8), .val (.int z11), .val (.int z14), .val (.int z17), .val (.ref bp20), .val (.ref bp26), .unset] [(.int z14)])) _
                refine XS.iconst X26.here hx rfl (hb hby at_107) ?_
                show Steps pP.tables eE below (T26.setTop (mkF mM 108 #[.val (.int base), .val (.int dl), .val (.int mk), .val (.int r2), .val (.int z5), .val (.int z8), .val (.int z11), .val (.int z14), .val (.int z17), .val (.ref bp20), .val (.ref bp26), .unset] [(.int (2 : Int32)), (.int z14)])) _
                refine XS.iand X26.here hx rfl (hb hby at_108) rfl ?_
                show Steps pP.tables eE below (T26.setTop (mkF mM 109 #[.val (.int base), .val (.int dl), .val (.int mk), .val (.int r2), .val (.int z5), .val (.int z8), .val (.int z11), .val (.int z14), .val (.int z17), .val (.ref bp20), .val (.ref bp26), .unset] [(.int (z14 &&& (2 : Int32)))])) _
                refine XS.ifYes X26.here hx rfl (pc0 := 109) (pc' := 126) rfl (hb hby at_109) rfl ((if0 _ _).trans (teq hj109_34).1) (by decide) (by decide) ?_
                show Steps pP.tables eE below (T26.setTop (mkF mM 126 #[.val (.int base), .val (.int dl), .val (.int mk), .val (.int r2), .val (.int z5), .val (.int z8), .val (.int z11), .val (.int z14), .val (.int z17), .val (.ref bp20), .val (.ref bp26), .unset] [])) _
                refine XS.iload X26.here hx rfl (hb hby at_126) rfl ?_
                show Steps pP.tables eE below (T26.setTop (mkF mM 128 #[.val (.int base), .val (.int dl), .val (.int mk), .val (.int r2), .val (.int z5), .val (.int z8), .val (.int z11), .val (.int z14), .val (.int z17), .val (.ref bp20), .val (.ref bp26), .unset] [(.int z14)])) _
                refine XS.iconst X26.here hx rfl (hb hby at_128) ?_
                show Steps pP.tables eE below (T26.setTop (mkF mM 129 #[.val (.int base), .val (.int dl), .val (.int mk), .val (.int r2), .val (.int z5), .val (.int z8), .val (.int z11), .val (.int z14), .val (.int z17), .val (.ref bp20), .val (.ref bp26), .unset] [(.int (4 : Int32)), (.int z14)])) _
                refine XS.iand X26.here hx rfl (hb hby at_129) rfl ?_
                show Steps pP.tables eE below (T26.setTop (mkF mM 130 #[.val (.int base), .val (.int dl), .val (.int mk), .val (.int r2), .val (.int z5), .val (.int z8), .val (.int z11), .val (.int z14), .val (.int z17), .val (.ref bp20), .val (.ref bp26), .unset] [(.int (z14 &&& (4 : Int32)))])) _
                refine XS.ifNo X26.here hx rfl (hb hby at_130) rfl ((if0 _ _).trans (feq hj130_35).1) ?_
                show Steps pP.tables eE below (T26.setTop (mkF mM 133 #[.val (.int base), .val (.int dl), .val (.int mk), .val (.int r2), .val (.int z5), .val (.int z8), .val (.int z11), .val (.int z14), .val (.int z17), .val (.ref bp20), .val (.ref bp26), .unset] [])) _
                refine XS.iload X26.here hx rfl (hb hby at_133) rfl ?_
                show Steps pP.tables eE below (T26.setTop (mkF mM 135 #[.val (.int base), .val (.int dl), .val (.int mk), .val (.int r2), .val (.int z5), .val (.int z8), .val (.int z11), .val (.int z14), .val (.int z17), .val (.ref bp20), .val (.ref bp26), .unset] [(.int z17)])) _
                refine XS.iconst X26.here hx rfl (hb hby at_135) ?_
                show Steps pP.tables eE below (T26.setTop (mkF mM 136 #[.val (.int base), .val (.int dl), .val (.int mk), .val (.int r2), .val (.int z5), .val (.int z8), .val (.int z11), .val (.int z14), .val (.int z17), .val (.ref bp20), .val (.ref bp26), .unset] [(.int (4 : Int32)), (.int z17)])) _
                refine XS.iand X26.here hx rfl (hb hby at_136) rfl ?_
                show Steps pP.tables eE below (T26.setTop (mkF mM 137 #[.val (.int base), .val (.int dl), .val (.int mk), .val (.int r2), .val (.int z5), .val (.int z8), .val (.int z11), .val (.int z14), .val (.int z17), .val (.ref bp20), .val (.ref bp26), .unset] [(.int (z17 &&& (4 : Int32)))])) _
                refine XS.ifYes X26.here hx rfl (pc0 := 137) (pc' := 147) rfl (hb hby at_137) rfl ((if0 _ _).trans (feq hj137_38).2) (by decide) (by decide) ?_
                show Steps pP.tables eE below (T26.setTop (mkF mM 147 #[.val (.int base), .val (.int dl), .val (.int mk), .val (.int r2), .val (.int z5), .val (.int z8), .val (.int z11), .val (.int z14), .val (.int z17), .val (.ref bp20), .val (.ref bp26), .unset] [])) _
                refine XS.iload X26.here hx rfl (hb hby at_147) rfl ?_
                show Steps pP.tables eE below (T26.setTop (mkF mM 149 #[.val (.int base), .val (.int dl), .val (.int mk), .val (.int r2), .val (.int z5), .val (.int z8), .val (.int z11), .val (.int z14), .val (.int z17), .val (.ref bp20), .val (.ref bp26), .unset] [(.int z14)])) _
                refine XS.bipush X26.here hx rfl (hb hby at_149) ?_
                show Steps pP.tables eE below (T26.setTop (mkF mM 151 #[.val (.int base), .val (.int dl), .val (.int mk), .val (.int r2), .val (.int z5), .val (.int z8), .val (.int z11), .val (.int z14), .val (.int z17), .val (.ref bp20), .val (.ref bp26), .unset] [(.int (8 : Int32)), (.int z14)])) _
                refine XS.iand X26.here hx rfl (hb hby at_151) rfl ?_
                show Steps pP.tables eE below (T26.setTop (mkF mM 152 #[.val (.int base), .val (.int dl), .val (.int mk), .val (.int r2), .val (.int z5), .val (.int z8), .val (.int z11), .val (.int z14), .val (.int z17), .val (.ref bp20), .val (.ref bp26), .unset] [(.int (z14 &&& (8 : Int32)))])) _
                refine XS.ifNo X26.here hx rfl (hb hby at_152) rfl ((if0 _ _).trans (feq hj152_39).1) ?_
                show Steps pP.tables eE below (T26.setTop (mkF mM 155 #[.val (.int base), .val (.int dl), .val (.int mk), .val (.int r2), .val (.int z5), .val (.int z8), .val (.int z11), .val (.int z14), .val (.int z17), .val (.ref bp20), .val (.ref bp26), .unset] [])) _
                refine XS.iload X26.here hx rfl (hb hby at_155) rfl ?_
                show Steps pP.tables eE below (T26.setTop (mkF mM 157 #[.val (.int base), .val (.int dl), .val (.int mk), .val (.int r2), .val (.int z5), .val (.int z8), .val (.int z11), .val (.int z14), .val (.int z17), .val (.ref bp20), .val (.ref bp26), .unset] [(.int z17)])) _
                refine XS.bipush X26.here hx rfl (hb hby at_157) ?_
                show Steps pP.tables eE below (T26.setTop (mkF mM 159 #[.val (.int base), .val (.int dl), .val (.int mk), .val (.int r2), .val (.int z5), .val (.int z8), .val (.int z11), .val (.int z14), .val (.int z17), .val (.ref bp20), .val (.ref bp26), .unset] [(.int (8 : Int32)), (.int z17)])) _
                refine XS.iand X26.here hx rfl (hb hby at_159) rfl ?_
                show Steps pP.tables eE below (T26.setTop (mkF mM 160 #[.val (.int base), .val (.int dl), .val (.int mk), .val (.int r2), .val (.int z5), .val (.int z8), .val (.int z11), .val (.int z14), .val (.int z17), .val (.ref bp20), .val (.ref bp26), .unset] [(.int (z17 &&& (8 : Int32)))])) _
                refine XS.ifNo X26.here hx rfl (hb hby at_160) rfl ((if0 _ _).trans (teq hj160_40).2) ?_
                show Steps pP.tables eE below (T26.setTop (mkF mM 163 #[.val (.int base), .val (.int dl), .val (.int mk), .val (.int r2), .val (.int z5), .val (.int z8), .val (.int z11), .val (.int z14), .val (.int z17), .val (.ref bp20), .val (.ref bp26), .unset] [])) _
                refine XS.iload X26.here hx rfl (hb hby at_163) rfl ?_
                show Steps pP.tables eE below (T26.setTop (mkF mM 165 #[.val (.int base), .val (.int dl), .val (.int mk), .val (.int r2), .val (.int z5), .val (.int z8), .val (.int z11), .val (.int z14), .val (.int z17), .val (.ref bp20), .val (.ref bp26), .unset] [(.int z11)])) _
                refine XS.istore X26.here hx rfl (hb hby at_165) rfl (l' := #[.val (.int base), .val (.int dl), .val (.int mk), .val (.int r2), .val (.int z5), .val (.int z8), .val (.int z11), .val (.int z14), .val (.int z17), .val (.ref bp20), .val (.ref bp26), .val (.int z11)]) rfl ?_
                show Steps pP.tables eE below (T26.setTop (mkF mM 167 #[.val (.int base), .val (.int dl), .val (.int mk), .val (.int r2), .val (.int z5), .val (.int z8), .val (.int z11), .val (.int z14), .val (.int z17), .val (.ref bp20), .val (.ref bp26), .val (.int z11)] [])) _
                refine XS.goto X26.here hx rfl (pc0 := 167) (pc' := 173) rfl (hb hby at_167) (by decide) (by decide) ?_
                exact kg
              ·
                refine ⟨(-1 : Int32), (by rw [if_pos hj89_33, if_pos hj109_34, if_neg hj130_35, if_neg hj137_38, if_neg hj152_39, if_neg hj160_40]), fun tg kg => ?_⟩
                show Steps pP.tables eE below (T26.setTop (mkF mM 89 #[.val (.int base), .val (.int dl), .val (.int mk), .val (.int r2), .val (.int z5), .val (.int z8), .val (.int z11), .val (.int z14), .val (.int z17), .val (.ref bp20), .val (.ref bp26), .unset] [(.int (z14 &&& (1 : Int32)))])) _
                refine XS.ifYes X26.here hx rfl (pc0 := 89) (pc' := 105) rfl (hb hby at_89) rfl ((if0 _ _).trans (teq hj89_33).1) (by decide) (by decide) ?_
                show Steps pP.tables eE below (T26.setTop (mkF mM 105 #[.val (.int base), .val (.int dl), .val (.int mk), .val (.int r2), .val (.int z5), .val (.int z8), .val (.int z11), .val (.int z14), .val (.int z17), .val (.ref bp20), .val (.ref bp26), .unset] [])) _
                refine XS.iload X26.here hx rfl (hb hby at_105) rfl ?_
                show Steps pP.tables eE below (T26.setTop (mkF mM 107 #[.val (.int base), .val (.int dl), .val (.int mk), .val (.int r2), .val (.int z5), .val (.int z8), .val (.int z11), .val (.int z14), .val (.int z17), .val (.ref bp20), .val (.ref bp26), .unset] [(.int z14)])) _
                refine XS.iconst X26.here hx rfl (hb hby at_107) ?_
                show Steps pP.tables eE below (T26.setTop (mkF mM 108 #[.val (.int base), .val (.int dl), .val (.int mk), .val (.int r2), .val (.int z5), .val (.int z8), .val (.int z11), .val (.int z14), .val (.int z17), .val (.ref bp20), .val (.ref bp26), .unset] [(.int (2 : Int32)), (.int z14)])) _
                refine XS.iand X26.here hx rfl (hb hby at_108) rfl ?_
                show Steps pP.tables eE below (T26.setTop (mkF mM 109 #[.val (.int base), .val (.int dl), .val (.int mk), .val (.int r2), .val (.int z5), .val (.int z8), .val (.int z11), .val (.int z14), .val (.int z17), .val (.ref bp20), .val (.ref bp26), .unset] [(.int (z14 &&& (2 : Int32)))])) _
                refine XS.ifYes X26.here hx rfl (pc0 := 109) (pc' := 126) rfl (hb hby at_109) rfl ((if0 _ _).trans (teq hj109_34).1) (by decide) (by decide) ?_
                show Steps pP.tables eE below (T26.setTop (mkF mM 126 #[.val (.int base), .val (.int dl), .val (.int mk), .val (.int r2), .val (.int z5), .val (.int z8), .val (.int z11), .val (.int z14), .val (.int z17), .val (.ref bp20), .val (.ref bp26), .unset] [])) _
                refine XS.iload X26.here hx rfl (hb hby at_126) rfl ?_
                show Steps pP.tables eE below (T26.setTop (mkF mM 128 #[.val (.int base), .val (.int dl), .val (.int mk), .val (.int r2), .val (.int z5), .val (.int z8), .val (.int z11), .val (.int z14), .val (.int z17), .val (.ref bp20), .val (.ref bp26), .unset] [(.int z14)])) _
                refine XS.iconst X26.here hx rfl (hb hby at_128) ?_
                show Steps pP.tables eE below (T26.setTop (mkF mM 129 #[.val (.int base), .val (.int dl), .val (.int mk), .val (.int r2), .val (.int z5), .val (.int z8), .val (.int z11), .val (.int z14), .val (.int z17), .val (.ref bp20), .val (.ref bp26), .unset] [(.int (4 : Int32)), (.int z14)])) _
                refine XS.iand X26.here hx rfl (hb hby at_129) rfl ?_
                show Steps pP.tables eE below (T26.setTop (mkF mM 130 #[.val (.int base), .val (.int dl), .val (.int mk), .val (.int r2), .val (.int z5), .val (.int z8), .val (.int z11), .val (.int z14), .val (.int z17), .val (.ref bp20), .val (.ref bp26), .unset] [(.int (z14 &&& (4 : Int32)))])) _
                refine XS.ifNo X26.here hx rfl (hb hby at_130) rfl ((if0 _ _).trans (feq hj130_35).1) ?_
                show Steps pP.tables eE below (T26.setTop (mkF mM 133 #[.val (.int base), .val (.int dl), .val (.int mk), .val (.int r2), .val (.int z5), .val (.int z8), .val (.int z11), .val (.int z14), .val (.int z17), .val (.ref bp20), .val (.ref bp26), .unset] [])) _
                refine XS.iload X26.here hx rfl (hb hby at_133) rfl ?_
                show Steps pP.tables eE below (T26.setTop (mkF mM 135 #[.val (.int base), .val (.int dl), .val (.int mk), .val (.int r2), .val (.int z5), .val (.int z8), .val (.int z11), .val (.int z14), .val (.int z17), .val (.ref bp20), .val (.ref bp26), .unset] [(.int z17)])) _
                refine XS.iconst X26.here hx rfl (hb hby at_135) ?_
                show Steps pP.tables eE below (T26.setTop (mkF mM 136 #[.val (.int base), .val (.int dl), .val (.int mk), .val (.int r2), .val (.int z5), .val (.int z8), .val (.int z11), .val (.int z14), .val (.int z17), .val (.ref bp20), .val (.ref bp26), .unset] [(.int (4 : Int32)), (.int z17)])) _
                refine XS.iand X26.here hx rfl (hb hby at_136) rfl ?_
                show Steps pP.tables eE below (T26.setTop (mkF mM 137 #[.val (.int base), .val (.int dl), .val (.int mk), .val (.int r2), .val (.int z5), .val (.int z8), .val (.int z11), .val (.int z14), .val (.int z17), .val (.ref bp20), .val (.ref bp26), .unset] [(.int (z17 &&& (4 : Int32)))])) _
                refine XS.ifYes X26.here hx rfl (pc0 := 137) (pc' := 147) rfl (hb hby at_137) rfl ((if0 _ _).trans (feq hj137_38).2) (by decide) (by decide) ?_
                show Steps pP.tables eE below (T26.setTop (mkF mM 147 #[.val (.int base), .val (.int dl), .val (.int mk), .val (.int r2), .val (.int z5), .val (.int z8), .val (.int z11), .val (.int z14), .val (.int z17), .val (.ref bp20), .val (.ref bp26), .unset] [])) _
                refine XS.iload X26.here hx rfl (hb hby at_147) rfl ?_
                show Steps pP.tables eE below (T26.setTop (mkF mM 149 #[.val (.int base), .val (.int dl), .val (.int mk), .val (.int r2), .val (.int z5), .val (.int z8), .val (.int z11), .val (.int z14), .val (.int z17), .val (.ref bp20), .val (.ref bp26), .unset] [(.int z14)])) _
                refine XS.bipush X26.here hx rfl (hb hby at_149) ?_
                show Steps pP.tables eE below (T26.setTop (mkF mM 151 #[.val (.int base), .val (.int dl), .val (.int mk), .val (.int r2), .val (.int z5), .val (.int z8), .val (.int z11), .val (.int z14), .val (.int z17), .val (.ref bp20), .val (.ref bp26), .unset] [(.int (8 : Int32)), (.int z14)])) _
                refine XS.iand X26.here hx rfl (hb hby at_151) rfl ?_
                show Steps pP.tables eE below (T26.setTop (mkF mM 152 #[.val (.int base), .val (.int dl), .val (.int mk), .val (.int r2), .val (.int z5), .val (.int z8), .val (.int z11), .val (.int z14), .val (.int z17), .val (.ref bp20), .val (.ref bp26), .unset] [(.int (z14 &&& (8 : Int32)))])) _
                refine XS.ifNo X26.here hx rfl (hb hby at_152) rfl ((if0 _ _).trans (feq hj152_39).1) ?_
                show Steps pP.tables eE below (T26.setTop (mkF mM 155 #[.val (.int base), .val (.int dl), .val (.int mk), .val (.int r2), .val (.int z5), .val (.int z8), .val (.int z11), .val (.int z14), .val (.int z17), .val (.ref bp20), .val (.ref bp26), .unset] [])) _
                refine XS.iload X26.here hx rfl (hb hby at_155) rfl ?_
                show Steps pP.tables eE below (T26.setTop (mkF mM 157 #[.val (.int base), .val (.int dl), .val (.int mk), .val (.int r2), .val (.int z5), .val (.int z8), .val (.int z11), .val (.int z14), .val (.int z17), .val (.ref bp20), .val (.ref bp26), .unset] [(.int z17)])) _
                refine XS.bipush X26.here hx rfl (hb hby at_157) ?_
                show Steps pP.tables eE below (T26.setTop (mkF mM 159 #[.val (.int base), .val (.int dl), .val (.int mk), .val (.int r2), .val (.int z5), .val (.int z8), .val (.int z11), .val (.int z14), .val (.int z17), .val (.ref bp20), .val (.ref bp26), .unset] [(.int (8 : Int32)), (.int z17)])) _
                refine XS.iand X26.here hx rfl (hb hby at_159) rfl ?_
                show Steps pP.tables eE below (T26.setTop (mkF mM 160 #[.val (.int base), .val (.int dl), .val (.int mk), .val (.int r2), .val (.int z5), .val (.int z8), .val (.int z11), .val (.int z14), .val (.int z17), .val (.ref bp20), .val (.ref bp26), .unset] [(.int (z17 &&& (8 : Int32)))])) _
                refine XS.ifYes X26.here hx rfl (pc0 := 160) (pc' := 170) rfl (hb hby at_160) rfl ((if0 _ _).trans (feq hj160_40).2) (by decide) (by decide) ?_
                show Steps pP.tables eE below (T26.setTop (mkF mM 170 #[.val (.int base), .val (.int dl), .val (.int mk), .val (.int r2), .val (.int z5), .val (.int z8), .val (.int z11), .val (.int z14), .val (.int z17), .val (.ref bp20), .val (.ref bp26), .unset] [])) _
                refine XS.iconst X26.here hx rfl (hb hby at_170) ?_
                show Steps pP.tables eE below (T26.setTop (mkF mM 171 #[.val (.int base), .val (.int dl), .val (.int mk), .val (.int r2), .val (.int z5), .val (.int z8), .val (.int z11), .val (.int z14), .val (.int z17), .val (.ref bp20), .val (.ref bp26), .unset] [(.int (-1 : Int32))])) _
                refine XS.istore X26.here hx rfl (hb hby at_171) rfl (l' := #[.val (.int base), .val (.int dl), .val (.int mk), .val (.int r2), .val (.int z5), .val (.int z8), .val (.int z11), .val (.int z14), .val (.int z17), .val (.ref bp20), .val (.ref bp26), .val (.int (-1 : Int32))]) rfl ?_
                exact kg
      ·
        by_cases hj116_41 : (z17 &&& (2 : Int32)) = (0 : Int32)
        ·
          refine ⟨z5, (by rw [if_pos hj89_33, if_neg hj109_34, if_pos hj116_41]), fun tg kg => ?_⟩
          show Steps pP.tables eE below (T26.setTop (mkF mM 89 #[.val (.int base), .val (.int dl), .val (.int mk), .val (.int r2), .val (.int z5), .val (.int z8), .val (.int z11), .val (.int z14), .val (.int z17), .val (.ref bp20), .val (.ref bp26), .unset] [(.int (z14 &&& (1 : Int32)))])) _
          refine XS.ifYes X26.here hx rfl (pc0 := 89) (pc' := 105) rfl (hb hby at_89) rfl ((if0 _ _).trans (teq hj89_33).1) (by decide) (by decide) ?_
          show Steps pP.tables eE below (T26.setTop (mkF mM 105 #[.val (.int base), .val (.int dl), .val (.int mk), .val (.int r2), .val (.int z5), .val (.int z8), .val (.int z11), .val (.int z14), .val (.int z17), .val (.ref bp20), .val (.ref bp26), .unset] [])) _
          refine XS.iload X26.here hx rfl (hb hby at_105) rfl ?_
          show Steps pP.tables eE below (T26.setTop (mkF mM 107 #[.val (.int base), .val (.int dl), .val (.int mk), .val (.int r2), .val (.int z5), .val (.int z8), .val (.int z11), .val (.int z14), .val (.int z17), .val (.ref bp20), .val (.ref bp26), .unset] [(.int z14)])) _
          refine XS.iconst X26.here hx rfl (hb hby at_107) ?_
          show Steps pP.tables eE below (T26.setTop (mkF mM 108 #[.val (.int base), .val (.int dl), .val (.int mk), .val (.int r2), .val (.int z5), .val (.int z8), .val (.int z11), .val (.int z14), .val (.int z17), .val (.ref bp20), .val (.ref bp26), .unset] [(.int (2 : Int32)), (.int z14)])) _
          refine XS.iand X26.here hx rfl (hb hby at_108) rfl ?_
          show Steps pP.tables eE below (T26.setTop (mkF mM 109 #[.val (.int base), .val (.int dl), .val (.int mk), .val (.int r2), .val (.int z5), .val (.int z8), .val (.int z11), .val (.int z14), .val (.int z17), .val (.ref bp20), .val (.ref bp26), .unset] [(.int (z14 &&& (2 : Int32)))])) _
          refine XS.ifNo X26.here hx rfl (hb hby at_109) rfl ((if0 _ _).trans (feq hj109_34).1) ?_
          show Steps pP.tables eE below (T26.setTop (mkF mM 112 #[.val (.int base), .val (.int dl), .val (.int mk), .val (.int r2), .val (.int z5), .val (.int z8), .val (.int z11), .val (.int z14), .val (.int z17), .val (.ref bp20), .val (.ref bp26), .unset] [])) _
          refine XS.iload X26.here hx rfl (hb hby at_112) rfl ?_
          show Steps pP.tables eE below (T26.setTop (mkF mM 114 #[.val (.int base), .val (.int dl), .val (.int mk), .val (.int r2), .val (.int z5), .val (.int z8), .val (.int z11), .val (.int z14), .val (.int z17), .val (.ref bp20), .val (.ref bp26), .unset] [(.int z17)])) _
          refine XS.iconst X26.here hx rfl (hb hby at_114) ?_
          show Steps pP.tables eE below (T26.setTop (mkF mM 115 #[.val (.int base), .val (.int dl), .val (.int mk), .val (.int r2), .val (.int z5), .val (.int z8), .val (.int z11), .val (.int z14), .val (.int z17), .val (.ref bp20), .val (.ref bp26), .unset] [(.int (2 : Int32)), (.int z17)])) _
          refine XS.iand X26.here hx rfl (hb hby at_115) rfl ?_
          show Steps pP.tables eE below (T26.setTop (mkF mM 116 #[.val (.int base), .val (.int dl), .val (.int mk), .val (.int r2), .val (.int z5), .val (.int z8), .val (.int z11), .val (.int z14), .val (.int z17), .val (.ref bp20), .val (.ref bp26), .unset] [(.int (z17 &&& (2 : Int32)))])) _
          refine XS.ifNo X26.here hx rfl (hb hby at_116) rfl ((if0 _ _).trans (teq hj116_41).2) ?_
          show Steps pP.tables eE below (T26.setTop (mkF mM 119 #[.val (.int base), .val (.int dl), .val (.int mk), .val (.int r2), .val (.int z5), .val (.int z8), .val (.int z11), .val (.int z14), .val (.int z17), .val (.ref bp20), .val (.ref bp26), .unset] [])) _
          refine XS.iload X26.here hx rfl (hb hby at_119) rfl ?_
          show Steps pP.tables eE below (T26.setTop (mkF mM 121 #[.val (.int base), .val (.int dl), .val (.int mk), .val (.int r2), .val (.int z5), .val (.int z8), .val (.int z11), .val (.int z14), .val (.int z17), .val (.ref bp20), .val (.ref bp26), .unset] [(.int z5)])) _
          refine XS.istore X26.here hx rfl (hb hby at_121) rfl (l' := #[.val (.int base), .val (.int dl), .val (.int mk), .val (.int r2), .val (.int z5), .val (.int z8), .val (.int z11), .val (.int z14), .val (.int z17), .val (.ref bp20), .val (.ref bp26), .val (.int z5)]) rfl ?_
          show Steps pP.tables eE below (T26.setTop (mkF mM 123 #[.val (.int base), .val (.int dl), .val (.int mk), .val (.int r2), .val (.int z5), .val (.int z8), .val (.int z11), .val (.int z14), .val (.int z17), .val (.ref bp20), .val (.ref bp26), .val (.int z5)] [])) _
          refine XS.goto X26.here hx rfl (pc0 := 123) (pc' := 173) rfl (hb hby at_123) (by decide) (by decide) ?_
          exact kg
        ·
          by_cases hj130_42 : (z14 &&& (4 : Int32)) = (0 : Int32)
          ·
            by_cases hj152_43 : (z14 &&& (8 : Int32)) = (0 : Int32)
            ·
              refine ⟨(-1 : Int32), (by rw [if_pos hj89_33, if_neg hj109_34, if_neg hj116_41, if_pos hj130_42, if_pos hj152_43]), fun tg kg => ?_⟩
              show Steps pP.tables eE below (T26.setTop (mkF mM 89 #[.val (.int base), .val (.int dl), .val (.int mk), .val (.int r2), .val (.int z5), .val (.int z8), .val (.int z11), .val (.int z14), .val (.int z17), .val (.ref bp20), .val (.ref bp26), .unset] [(.int (z14 &&& (1 : Int32)))])) _
              refine XS.ifYes X26.here hx rfl (pc0 := 89) (pc' := 105) rfl (hb hby at_89) rfl ((if0 _ _).trans (teq hj89_33).1) (by decide) (by decide) ?_
              show Steps pP.tables eE below (T26.setTop (mkF mM 105 #[.val (.int base), .val (.int dl), .val (.int mk), .val (.int r2), .val (.int z5), .val (.int z8), .val (.int z11), .val (.int z14), .val (.int z17), .val (.ref bp20), .val (.ref bp26), .unset] [])) _
              refine XS.iload X26.here hx rfl (hb hby at_105) rfl ?_
              show Steps pP.tables eE below (T26.setTop (mkF mM 107 #[.val (.int base), .val (.int dl), .val (.int mk), .val (.int r2), .val (.int z5), .val (.int z8), .val (.int z11), .val (.int z14), .val (.int z17), .val (.ref bp20), .val (.ref bp26), .unset] [(.int z14)])) _
              refine XS.iconst X26.here hx rfl (hb hby at_107) ?_
              show Steps pP.tables eE below (T26.setTop (mkF mM 108 #[.val (.int base), .val (.int dl), .val (.int mk), .val (.int r2), .val (.int z5), .val (.int z8), .val (.int z11), .val (.int z14), .val (.int z17), .val (.ref bp20), .val (.ref bp26), .unset] [(.int (2 : Int32)), (.int z14)])) _
              refine XS.iand X26.here hx rfl (hb hby at_108) rfl ?_
              show Steps pP.tables eE below (T26.setTop (mkF mM 109 #[.val (.int base), .val (.int dl), .val (.int mk), .val (.int r2), .val (.int z5), .val (.int z8), .val (.int z11), .val (.int z14), .val (.int z17), .val (.ref bp20), .val (.ref bp26), .unset] [(.int (z14 &&& (2 : Int32)))])) _
              refine XS.ifNo X26.here hx rfl (hb hby at_109) rfl ((if0 _ _).trans (feq hj109_34).1) ?_
              show Steps pP.tables eE below (T26.setTop (mkF mM 112 #[.val (.int base), .val (.int dl), .val (.int mk), .val (.int r2), .val (.int z5), .val (.int z8), .val (.int z11), .val (.int z14), .val (.int z17), .val (.ref bp20), .val (.ref bp26), .unset] [])) _
              refine XS.iload X26.here hx rfl (hb hby at_112) rfl ?_
              show Steps pP.tables eE below (T26.setTop (mkF mM 114 #[.val (.int base), .val (.int dl), .val (.int mk), .val (.int r2), .val (.int z5), .val (.int z8), .val (.int z11), .val (.int z14), .val (.int z17), .val (.ref bp20), .val (.ref bp26), .unset] [(.int z17)])) _
              refine XS.iconst X26.here hx rfl (hb hby at_114) ?_
              show Steps pP.tables eE below (T26.setTop (mkF mM 115 #[.val (.int base), .val (.int dl), .val (.int mk), .val (.int r2), .val (.int z5), .val (.int z8), .val (.int z11), .val (.int z14), .val (.int z17), .val (.ref bp20), .val (.ref bp26), .unset] [(.int (2 : Int32)), (.int z17)])) _
              refine XS.iand X26.here hx rfl (hb hby at_115) rfl ?_
              show Steps pP.tables eE below (T26.setTop (mkF mM 116 #[.val (.int base), .val (.int dl), .val (.int mk), .val (.int r2), .val (.int z5), .val (.int z8), .val (.int z11), .val (.int z14), .val (.int z17), .val (.ref bp20), .val (.ref bp26), .unset] [(.int (z17 &&& (2 : Int32)))])) _
              refine XS.ifYes X26.here hx rfl (pc0 := 116) (pc' := 126) rfl (hb hby at_116) rfl ((if0 _ _).trans (feq hj116_41).2) (by decide) (by decide) ?_
              show Steps pP.tables eE below (T26.setTop (mkF mM 126 #[.val (.int base), .val (.int dl), .val (.int mk), .val (.int r2), .val (.int z5), .val (.int z8), .val (.int z11), .val (.int z14), .val (.int z17), .val (.ref bp20), .val (.ref bp26), .unset] [])) _
              refine XS.iload X26.here hx rfl (hb hby at_126) rfl ?_
              show Steps pP.tables eE below (T26.setTop (mkF mM 128 #[.val (.int base), .val (.int dl), .val (.int mk), .val (.int r2), .val (.int z5), .val (.int z8), .val (.int z11), .val (.int z14), .val (.int z17), .val (.ref bp20), .val (.ref bp26), .unset] [(.int z14)])) _
              refine XS.iconst X26.here hx rfl (hb hby at_128) ?_
              show Steps pP.tables eE below (T26.setTop (mkF mM 129 #[.val (.int base), .val (.int dl), .val (.int mk), .val (.int r2), .val (.int z5), .val (.int z8), .val (.int z11), .val (.int z14), .val (.int z17), .val (.ref bp20), .val (.ref bp26), .unset] [(.int (4 : Int32)), (.int z14)])) _
              refine XS.iand X26.here hx rfl (hb hby at_129) rfl ?_
              show Steps pP.tables eE below (T26.setTop (mkF mM 130 #[.val (.int base), .val (.int dl), .val (.int mk), .val (.int r2), .val (.int z5), .val (.int z8), .val (.int z11), .val (.int z14), .val (.int z17), .val (.ref bp20), .val (.ref bp26), .unset] [(.int (z14 &&& (4 : Int32)))])) _
              refine XS.ifYes X26.here hx rfl (pc0 := 130) (pc' := 147) rfl (hb hby at_130) rfl ((if0 _ _).trans (teq hj130_42).1) (by decide) (by decide) ?_
              show Steps pP.tables eE below (T26.setTop (mkF mM 147 #[.val (.int base), .val (.int dl), .val (.int mk), .val (.int r2), .val (.int z5), .val (.int z8), .val (.int z11), .val (.int z14), .val (.int z17), .val (.ref bp20), .val (.ref bp26), .unset] [])) _
              refine XS.iload X26.here hx rfl (hb hby at_147) rfl ?_
              show Steps pP.tables eE below (T26.setTop (mkF mM 149 #[.val (.int base), .val (.int dl), .val (.int mk), .val (.int r2), .val (.int z5), .val (.int z8), .val (.int z11), .val (.int z14), .val (.int z17), .val (.ref bp20), .val (.ref bp26), .unset] [(.int z14)])) _
              refine XS.bipush X26.here hx rfl (hb hby at_149) ?_
              show Steps pP.tables eE below (T26.setTop (mkF mM 151 #[.val (.int base), .val (.int dl), .val (.int mk), .val (.int r2), .val (.int z5), .val (.int z8), .val (.int z11), .val (.int z14), .val (.int z17), .val (.ref bp20), .val (.ref bp26), .unset] [(.int (8 : Int32)), (.int z14)])) _
              refine XS.iand X26.here hx rfl (hb hby at_151) rfl ?_
              show Steps pP.tables eE below (T26.setTop (mkF mM 152 #[.val (.int base), .val (.int dl), .val (.int mk), .val (.int r2), .val (.int z5), .val (.int z8), .val (.int z11), .val (.int z14), .val (.int z17), .val (.ref bp20), .val (.ref bp26), .unset] [(.int (z14 &&& (8 : Int32)))])) _
              refine XS.ifYes X26.here hx rfl (pc0 := 152) (pc' := 170) rfl (hb hby at_152) rfl ((if0 _ _).trans (teq hj152_43).1) (by decide) (by decide) ?_
              show Steps pP.tables eE below (T26.setTop (mkF mM 170 #[.val (.int base), .val (.int dl), .val (.int mk), .val (.int r2), .val (.int z5), .val (.int z8), .val (.int z11), .val (.int z14), .val (.int z17), .val (.ref bp20), .val (.ref bp26), .unset] [])) _
              refine XS.iconst X26.here hx rfl (hb hby at_170) ?_
              show Steps pP.tables eE below (T26.setTop (mkF mM 171 #[.val (.int base), .val (.int dl), .val (.int mk), .val (.int r2), .val (.int z5), .val (.int z8), .val (.int z11), .val (.int z14), .val (.int z17), .val (.ref bp20), .val (.ref bp26), .unset] [(.int (-1 : Int32))])) _
              refine XS.istore X26.here hx rfl (hb hby at_171) rfl (l' := #[.val (.int base), .val (.int dl), .val (.int mk), .val (.int r2), .val (.int z5), .val (.int z8), .val (.int z11), .val (.int z14), .val (.int z17), .val (.ref bp20), .val (.ref bp26), .val (.int (-1 : Int32))]) rfl ?_
              exact kg
            ·
              by_cases hj160_44 : (z17 &&& (8 : Int32)) = (0 : Int32)
              ·
                refine ⟨z11, (by rw [if_pos hj89_33, if_neg hj109_34, if_neg hj116_41, if_pos hj130_42, if_neg hj152_43, if_pos hj160_44]), fun tg kg => ?_⟩
                show Steps pP.tables eE below (T26.setTop (mkF mM 89 #[.val (.int base), .val (.int dl), .val (.int mk), .val (.int r2), .val (.int z5), .val (.int z8), .val (.int z11), .val (.int z14), .val (.int z17), .val (.ref bp20), .val (.ref bp26), .unset] [(.int (z14 &&& (1 : Int32)))])) _
                refine XS.ifYes X26.here hx rfl (pc0 := 89) (pc' := 105) rfl (hb hby at_89) rfl ((if0 _ _).trans (teq hj89_33).1) (by decide) (by decide) ?_
                show Steps pP.tables eE below (T26.setTop (mkF mM 105 #[.val (.int base), .val (.int dl), .val (.int mk), .val (.int r2), .val (.int z5), .val (.int z8), .val (.int z11), .val (.int z14), .val (.int z17), .val (.ref bp20), .val (.ref bp26), .unset] [])) _
                refine XS.iload X26.here hx rfl (hb hby at_105) rfl ?_
                show Steps pP.tables eE below (T26.setTop (mkF mM 107 #[.val (.int base), .val (.int dl), .val (.int mk), .val (.int r2), .val (.int z5), .val (.int z8), .val (.int z11), .val (.int z14), .val (.int z17), .val (.ref bp20), .val (.ref bp26), .unset] [(.int z14)])) _
                refine XS.iconst X26.here hx rfl (hb hby at_107) ?_
                show Steps pP.tables eE below (T26.setTop (mkF mM 108 #[.val (.int base), .val (.int dl), .val (.int mk), .val (.int r2), .val (.int z5), .val (.int z8), .val (.int z11), .val (.int z14), .val (.int z17), .val (.ref bp20), .val (.ref bp26), .unset] [(.int (2 : Int32)), (.int z14)])) _
                refine XS.iand X26.here hx rfl (hb hby at_108) rfl ?_
                show Steps pP.tables eE below (T26.setTop (mkF mM 109 #[.val (.int base), .val (.int dl), .val (.int mk), .val (.int r2), .val (.int z5), .val (.int z8), .val (.int z11), .val (.int z14), .val (.int z17), .val (.ref bp20), .val (.ref bp26), .unset] [(.int (z14 &&& (2 : Int32)))])) _
                refine XS.ifNo X26.here hx rfl (hb hby at_109) rfl ((if0 _ _).trans (feq hj109_34).1) ?_
                show Steps pP.tables eE below (T26.setTop (mkF mM 112 #[.val (.int base), .val (.int dl), .val (.int mk), .val (.int r2), .val (.int z5), .val (.int z8), .val (.int z11), .val (.int z14), .val (.int z17), .val (.ref bp20), .val (.ref bp26), .unset] [])) _
                refine XS.iload X26.here hx rfl (hb hby at_112) rfl ?_
                show Steps pP.tables eE below (T26.setTop (mkF mM 114 #[.val (.int base), .val (.int dl), .val (.int mk), .val (.int r2), .val (.int z5), .val (.int z8), .val (.int z11), .val (.int z14), .val (.int z17), .val (.ref bp20), .val (.ref bp26), .unset] [(.int z17)])) _
                refine XS.iconst X26.here hx rfl (hb hby at_114) ?_
                show Steps pP.tables eE below (T26.setTop (mkF mM 115 #[.val (.int base), .val (.int dl), .val (.int mk), .val (.int r2), .val (.int z5), .val (.int z8), .val (.int z11), .val (.int z14), .val (.int z17), .val (.ref bp20), .val (.ref bp26), .unset] [(.int (2 : Int32)), (.int z17)])) _
                refine XS.iand X26.here hx rfl (hb hby at_115) rfl ?_
                show Steps pP.tables eE below (T26.setTop (mkF mM 116 #[.val (.int base), .val (.int dl), .val (.int mk), .val (.int r2), .val (.int z5), .val (.int z8), .val (.int z11), .val (.int z14), .val (.int z17), .val (.ref bp20), .val (.ref bp26), .unset] [(.int (z17 &&& (2 : Int32)))])) _
                refine XS.ifYes X26.here hx rfl (pc0 := 116) (pc' := 126) rfl (hb hby at_116) rfl ((if0 _ _).trans (feq hj116_41).2) (by decide) (by decide) ?_
                show Steps pP.tables eE below (T26.setTop (mkF mM 126 #[.val (.int base), .val (.int dl), .val (.int mk), .val (.int r2), .val (.int z5), .val (.int z8), .val (.int z11), .val (.int z14), .val (.int z17), .val (.ref bp20), .val (.ref bp26), .unset] [])) _
                refine XS.iload X26.here hx rfl (hb hby at_126) rfl ?_
                show Steps pP.tables eE below (T26.setTop (mkF mM 128 #[.val (.int base), .val (.int dl), .val (.int mk), .val (.int r2), .val (.int z5), .val (.int z8), .val (.int z11), .val (.int z14), .val (.int z17), .val (.ref bp20), .val (.ref bp26), .unset] [(.int z14)])) _
                refine XS.iconst X26.here hx rfl (hb hby at_128) ?_
                show Steps pP.tables eE below (T26.setTop (mkF mM 129 #[.val (.int base), .val (.int dl), .val (.int mk), .val (.int r2), .val (.int z5), .val (.int z8), .val (.int z11), .val (.int z14), .val (.int z17), .val (.ref bp20), .val (.ref bp26), .unset] [(.int (4 : Int32)), (.int z14)])) _
                refine XS.iand X26.here hx rfl (hb hby at_129) rfl ?_
                show Steps pP.tables eE below (T26.setTop (mkF mM 130 #[.val (.int base), .val (.int dl), .val (.int mk), .val (.int r2), .val (.int z5), .val (.int z8), .val (.int z11), .val (.int z14), .val (.int z17), .val (.ref bp20), .val (.ref bp26), .unset] [(.int (z14 &&& (4 : Int32)))])) _
                refine XS.ifYes X26.here hx rfl (pc0 := 130) (pc' := 147) rfl (hb hby at_130) rfl ((if0 _ _).trans (teq hj130_42).1) (by decide) (by decide) ?_
                show Steps pP.tables eE below (T26.setTop (mkF mM 147 #[.val (.int base), .val (.int dl), .val (.int mk), .val (.int r2), .val (.int z5), .val (.int z8), .val (.int z11), .val (.int z14), .val (.int z17), .val (.ref bp20), .val (.ref bp26), .unset] [])) _
                refine XS.iload X26.here hx rfl (hb hby at_147) rfl ?_
                show Steps pP.tables eE below (T26.setTop (mkF mM 149 #[.val (.int base), .val (.int dl), .val (.int mk), .val (.int r2), .val (.int z5), .val (.int z8), .val (.int z11), .val (.int z14), .val (.int z17), .val (.ref bp20), .val (.ref bp26), .unset] [(.int z14)])) _
                refine XS.bipush X26.here hx rfl (hb hby at_149) ?_
                show Steps pP.tables eE below (T26.setTop (mkF mM 151 #[.val (.int base), .val (.int dl), .val (.int mk), .val (.int r2), .val (.int z5), .val (.int z8), .val (.int z11), .val (.int z14), .val (.int z17), .val (.ref bp20), .val (.ref bp26), .unset] [(.int (8 : Int32)), (.int z14)])) _
                refine XS.iand X26.here hx rfl (hb hby at_151) rfl ?_
                show Steps pP.tables eE below (T26.setTop (mkF mM 152 #[.val (.int base), .val (.int dl), .val (.int mk), .val (.int r2), .val (.int z5), .val (.int z8), .val (.int z11), .val (.int z14), .val (.int z17), .val (.ref bp20), .val (.ref bp26), .unset] [(.int (z14 &&& (8 : Int32)))])) _
                refine XS.ifNo X26.here hx rfl (hb hby at_152) rfl ((if0 _ _).trans (feq hj152_43).1) ?_
                show Steps pP.tables eE below (T26.setTop (mkF mM 155 #[.val (.int base), .val (.int dl), .val (.int mk), .val (.int r2), .val (.int z5), .val (.int z8), .val (.int z11), .val (.int z14), .val (.int z17), .val (.ref bp20), .val (.ref bp26), .unset] [])) _
                refine XS.iload X26.here hx rfl (hb hby at_155) rfl ?_
                show Steps pP.tables eE below (T26.setTop (mkF mM 157 #[.val (.int base), .val (.int dl), .val (.int mk), .val (.int r2), .val (.int z5), .val (.int z8), .val (.int z11), .val (.int z14), .val (.int z17), .val (.ref bp20), .val (.ref bp26), .unset] [(.int z17)])) _
                refine XS.bipush X26.here hx rfl (hb hby at_157) ?_
                show Steps pP.tables eE below (T26.setTop (mkF mM 159 #[.val (.int base), .val (.int dl), .val (.int mk), .val (.int r2), .val (.int z5), .val (.int z8), .val (.int z11), .val (.int z14), .val (.int z17), .val (.ref bp20), .val (.ref bp26), .unset] [(.int (8 : Int32)), (.int z17)])) _
                refine XS.iand X26.here hx rfl (hb hby at_159) rfl ?_
                show Steps pP.tables eE below (T26.setTop (mkF mM 160 #[.val (.int base), .val (.int dl), .val (.int mk), .val (.int r2), .val (.int z5), .val (.int z8), .val (.int z11), .val (.int z14), .val (.int z17), .val (.ref bp20), .val (.ref bp26), .unset] [(.int (z17 &&& (8 : Int32)))])) _
                refine XS.ifNo X26.here hx rfl (hb hby at_160) rfl ((if0 _ _).trans (teq hj160_44).2) ?_
                show Steps pP.tables eE below (T26.setTop (mkF mM 163 #[.val (.int base), .val (.int dl), .val (.int mk), .val (.int r2), .val (.int z5), .val (.int z8), .val (.int z11), .val (.int z14), .val (.int z17), .val (.ref bp20), .val (.ref bp26), .unset] [])) _
                refine XS.iload X26.here hx rfl (hb hby at_163) rfl ?_
                show Steps pP.tables eE below (T26.setTop (mkF mM 165 #[.val (.int base), .val (.int dl), .val (.int mk), .val (.int r2), .val (.int z5), .val (.int z8), .val (.int z11), .val (.int z14), .val (.int z17), .val (.ref bp20), .val (.ref bp26), .unset] [(.int z11)])) _
                refine XS.istore X26.here hx rfl (hb hby at_165) rfl (l' := #[.val (.int base), .val (.int dl), .val (.int mk), .val (.int r2), .val (.int z5), .val (.int z8), .val (.int z11), .val (.int z14), .val (.int z17), .val (.ref bp20), .val (.ref bp26), .val (.int z11)]) rfl ?_
                show Steps pP.tables eE below (T26.setTop (mkF mM 167 #[.val (.int base), .val (.int dl), .val (.int mk), .val (.int r2), .val (.int z5), .val (.int z8), .val (.int z11), .val (.int z14), .val (.int z17), .val (.ref bp20), .val (.ref bp26), .val (.int z11)] [])) _
                refine XS.goto X26.here hx rfl (pc0 := 167) (pc' := 173) rfl (hb hby at_167) (by decide) (by decide) ?_
                exact kg
              ·
                refine ⟨(-1 : Int32), (by rw [if_pos hj89_33, if_neg hj109_34, if_neg hj116_41, if_pos hj130_42, if_neg hj152_43, if_neg hj160_44]), fun tg kg => ?_⟩
                show Steps pP.tables eE below (T26.setTop (mkF mM 89 #[.val (.int base), .val (.int dl), .val (.int mk), .val (.int r2), .val (.int z5), .val (.int z8), .val (.int z11), .val (.int z14), .val (.int z17), .val (.ref bp20), .val (.ref bp26), .unset] [(.int (z14 &&& (1 : Int32)))])) _
                refine XS.ifYes X26.here hx rfl (pc0 := 89) (pc' := 105) rfl (hb hby at_89) rfl ((if0 _ _).trans (teq hj89_33).1) (by decide) (by decide) ?_
                show Steps pP.tables eE below (T26.setTop (mkF mM 105 #[.val (.int base), .val (.int dl), .val (.int mk), .val (.int r2), .val (.int z5), .val (.int z8), .val (.int z11), .val (.int z14), .val (.int z17), .val (.ref bp20), .val (.ref bp26), .unset] [])) _
                refine XS.iload X26.here hx rfl (hb hby at_105) rfl ?_
                show Steps pP.tables eE below (T26.setTop (mkF mM 107 #[.val (.int base), .val (.int dl), .val (.int mk), .val (.int r2), .val (.int z5), .val (.int z8), .val (.int z11), .val (.int z14), .val (.int z17), .val (.ref bp20), .val (.ref bp26), .unset] [(.int z14)])) _
                refine XS.iconst X26.here hx rfl (hb hby at_107) ?_
                show Steps pP.tables eE below (T26.setTop (mkF mM 108 #[.val (.int base), .val (.int dl), .val (.int mk), .val (.int r2), .val (.int z5), .val (.int z8), .val (.int z11), .val (.int z14), .val (.int z17), .val (.ref bp20), .val (.ref bp26), .unset] [(.int (2 : Int32)), (.int z14)])) _
                refine XS.iand X26.here hx rfl (hb hby at_108) rfl ?_
                show Steps pP.tables eE below (T26.setTop (mkF mM 109 #[.val (.int base), .val (.int dl), .val (.int mk), .val (.int r2), .val (.int z5), .val (.int z8), .val (.int z11), .val (.int z14), .val (.int z17), .val (.ref bp20), .val (.ref bp26), .unset] [(.int (z14 &&& (2 : Int32)))])) _
                refine XS.ifNo X26.here hx rfl (hb hby at_109) rfl ((if0 _ _).trans (feq hj109_34).1) ?_
                show Steps pP.tables eE below (T26.setTop (mkF mM 112 #[.val (.int base), .val (.int dl), .val (.int mk), .val (.int r2), .val (.int z5), .val (.int z8), .val (.int z11), .val (.int z14), .val (.int z17), .val (.ref bp20), .val (.ref bp26), .unset] [])) _
                refine XS.iload X26.here hx rfl (hb hby at_112) rfl ?_
                show Steps pP.tables eE below (T26.setTop (mkF mM 114 #[.val (.int base), .val (.int dl), .val (.int mk), .val (.int r2), .val (.int z5), .val (.int z8), .val (.int z11), .val (.int z14), .val (.int z17), .val (.ref bp20), .val (.ref bp26), .unset] [(.int z17)])) _
                refine XS.iconst X26.here hx rfl (hb hby at_114) ?_
                show Steps pP.tables eE below (T26.setTop (mkF mM 115 #[.val (.int base), .val (.int dl), .val (.int mk), .val (.int r2), .val (.int z5), .val (.int z8), .val (.int z11), .val (.int z14), .val (.int z17), .val (.ref bp20), .val (.ref bp26), .unset] [(.int (2 : Int32)), (.int z17)])) _
                refine XS.iand X26.here hx rfl (hb hby at_115) rfl ?_
                show Steps pP.tables eE below (T26.setTop (mkF mM 116 #[.val (.int base), .val (.int dl), .val (.int mk), .val (.int r2), .val (.int z5), .val (.int z8), .val (.int z11), .val (.int z14), .val (.int z17), .val (.ref bp20), .val (.ref bp26), .unset] [(.int (z17 &&& (2 : Int32)))])) _
                refine XS.ifYes X26.here hx rfl (pc0 := 116) (pc' := 126) rfl (hb hby at_116) rfl ((if0 _ _).trans (feq hj116_41).2) (by decide) (by decide) ?_
                show Steps pP.tables eE below (T26.setTop (mkF mM 126 #[.val (.int base), .val (.int dl), .val (.int mk), .val (.int r2), .val (.int z5), .val (.int z8), .val (.int z11), .val (.int z14), .val (.int z17), .val (.ref bp20), .val (.ref bp26), .unset] [])) _
                refine XS.iload X26.here hx rfl (hb hby at_126) rfl ?_
                show Steps pP.tables eE below (T26.setTop (mkF mM 128 #[.val (.int base), .val (.int dl), .val (.int mk), .val (.int r2), .val (.int z5), .val (.int z8), .val (.int z11), .val (.int z14), .val (.int z17), .val (.ref bp20), .val (.ref bp26), .unset] [(.int z14)])) _
                refine XS.iconst X26.here hx rfl (hb hby at_128) ?_
                show Steps pP.tables eE below (T26.setTop (mkF mM 129 #[.val (.int base), .val (.int dl), .val (.int mk), .val (.int r2), .val (.int z5), .val (.int z8), .val (.int z11), .val (.int z14), .val (.int z17), .val (.ref bp20), .val (.ref bp26), .unset] [(.int (4 : Int32)), (.int z14)])) _
                refine XS.iand X26.here hx rfl (hb hby at_129) rfl ?_
                show Steps pP.tables eE below (T26.setTop (mkF mM 130 #[.val (.int base), .val (.int dl), .val (.int mk), .val (.int r2), .val (.int z5), .val (.int z8), .val (.int z11), .val (.int z14), .val (.int z17), .val (.ref bp20), .val (.ref bp26), .unset] [(.int (z14 &&& (4 : Int32)))])) _
                refine XS.ifYes X26.here hx rfl (pc0 := 130) (pc' := 147) rfl (hb hby at_130) rfl ((if0 _ _).trans (teq hj130_42).1) (by decide) (by decide) ?_
                show Steps pP.tables eE below (T26.setTop (mkF mM 147 #[.val (.int base), .val (.int dl), .val (.int mk), .val (.int r2), .val (.int z5), .val (.int z8), .val (.int z11), .val (.int z14), .val (.int z17), .val (.ref bp20), .val (.ref bp26), .unset] [])) _
                refine XS.iload X26.here hx rfl (hb hby at_147) rfl ?_
                show Steps pP.tables eE below (T26.setTop (mkF mM 149 #[.val (.int base), .val (.int dl), .val (.int mk), .val (.int r2), .val (.int z5), .val (.int z8), .val (.int z11), .val (.int z14), .val (.int z17), .val (.ref bp20), .val (.ref bp26), .unset] [(.int z14)])) _
                refine XS.bipush X26.here hx rfl (hb hby at_149) ?_
                show Steps pP.tables eE below (T26.setTop (mkF mM 151 #[.val (.int base), .val (.int dl), .val (.int mk), .val (.int r2), .val (.int z5), .val (.int z8), .val (.int z11), .val (.int z14), .val (.int z17), .val (.ref bp20), .val (.ref bp26), .unset] [(.int (8 : Int32)), (.int z14)])) _
                refine XS.iand X26.here hx rfl (hb hby at_151) rfl ?_
                show Steps pP.tables eE below (T26.setTop (mkF mM 152 #[.val (.int base), .val (.int dl), .val (.int mk), .val (.int r2), .val (.int z5), .val (.int z8), .val (.int z11), .val (.int z14), .val (.int z17), .val (.ref bp20), .val (.ref bp26), .unset] [(.int (z14 &&& (8 : Int32)))])) _
                refine XS.ifNo X26.here hx rfl (hb hby at_152) rfl ((if0 _ _).trans (feq hj152_43).1) ?_
                show Steps pP.tables eE below (T26.setTop (mkF mM 155 #[.val (.int base), .val (.int dl), .val (.int mk), .val (.int r2), .val (.int z5), .val (.int z8), .val (.int z11), .val (.int z14), .val (.int z17), .val (.ref bp20), .val (.ref bp26), .unset] [])) _
                refine XS.iload X26.here hx rfl (hb hby at_155) rfl ?_
                show Steps pP.tables eE below (T26.setTop (mkF mM 157 #[.val (.int base), .val (.int dl), .val (.int mk), .val (.int r2), .val (.int z5), .val (.int z8), .val (.int z11), .val (.int z14), .val (.int z17), .val (.ref bp20), .val (.ref bp26), .unset] [(.int z17)])) _
                refine XS.bipush X26.here hx rfl (hb hby at_157) ?_
                show Steps pP.tables eE below (T26.setTop (mkF mM 159 #[.val (.int base), .val (.int dl), .val (.int mk), .val (.int r2), .val (.int z5), .val (.int z8), .val (.int z11), .val (.int z14), .val (.int z17), .val (.ref bp20), .val (.ref bp26), .unset] [(.int (8 : Int32)), (.int z17)])) _
                refine XS.iand X26.here hx rfl (hb hby at_159) rfl ?_
                show Steps pP.tables eE below (T26.setTop (mkF mM 160 #[.val (.int base), .val (.int dl), .val (.int mk), .val (.int r2), .val (.int z5), .val (.int z8), .val (.int z11), .val (.int z14), .val (.int z17), .val (.ref bp20), .val (.ref bp26), .unset] [(.int (z17 &&& (8 : Int32)))])) _
                refine XS.ifYes X26.here hx rfl (pc0 := 160) (pc' := 170) rfl (hb hby at_160) rfl ((if0 _ _).trans (feq hj160_44).2) (by decide) (by decide) ?_
                show Steps pP.tables eE below (T26.setTop (mkF mM 170 #[.val (.int base), .val (.int dl), .val (.int mk), .val (.int r2), .val (.int z5), .val (.int z8), .val (.int z11), .val (.int z14), .val (.int z17), .val (.ref bp20), .val (.ref bp26), .unset] [])) _
                refine XS.iconst X26.here hx rfl (hb hby at_170) ?_
                show Steps pP.tables eE below (T26.setTop (mkF mM 171 #[.val (.int base), .val (.int dl), .val (.int mk), .val (.int r2), .val (.int z5), .val (.int z8), .val (.int z11), .val (.int z14), .val (.int z17), .val (.ref bp20), .val (.ref bp26), .unset] [(.int (-1 : Int32))])) _
                refine XS.istore X26.here hx rfl (hb hby at_171) rfl (l' := #[.val (.int base), .val (.int dl), .val (.int mk), .val (.int r2), .val (.int z5), .val (.int z8), .val (.int z11), .val (.int z14), .val (.int z17), .val (.ref bp20), .val (.ref bp26), .val (.int (-1 : Int32))]) rfl ?_
                exact kg
          ·
            by_cases hj137_45 : (z17 &&& (4 : Int32)) = (0 : Int32)
            ·
              refine ⟨z8, (by rw [if_pos hj89_33, if_neg hj109_34, if_neg hj116_41, if_neg hj130_42, if_pos hj137_45]), fun tg kg => ?_⟩
              show Steps pP.tables eE below (T26.setTop (mkF mM 89 #[.val (.int base), .val (.int dl), .val (.int mk), .val (.int r2), .val (.int z5), .val (.int z8), .val (.int z11), .val (.int z14), .val (.int z17), .val (.ref bp20), .val (.ref bp26), .unset] [(.int (z14 &&& (1 : Int32)))])) _
              refine XS.ifYes X26.here hx rfl (pc0 := 89) (pc' := 105) rfl (hb hby at_89) rfl ((if0 _ _).trans (teq hj89_33).1) (by decide) (by decide) ?_
              show Steps pP.tables eE below (T26.setTop (mkF mM 105 #[.val (.int base), .val (.int dl), .val (.int mk), .val (.int r2), .val (.int z5), .val (.int z8), .val (.int z11), .val (.int z14), .val (.int z17), .val (.ref bp20), .val (.ref bp26), .unset] [])) _
              refine XS.iload X26.here hx rfl (hb hby at_105) rfl ?_
              show Steps pP.tables eE below (T26.setTop (mkF mM 107 #[.val (.int base), .val (.int dl), .val (.int mk), .val (.int r2), .val (.int z5), .val (.int z8), .val (.int z11), .val (.int z14), .val (.int z17), .val (.ref bp20), .val (.ref bp26), .unset] [(.int z14)])) _
              refine XS.iconst X26.here hx rfl (hb hby at_107) ?_
              show Steps pP.tables eE below (T26.setTop (mkF mM 108 #[.val (.int base), .val (.int dl), .val (.int mk), .val (.int r2), .val (.int z5), .val (.int z8), .val (.int z11), .val (.int z14), .val (.int z17), .val (.ref bp20), .val (.ref bp26), .unset] [(.int (2 : Int32)), (.int z14)])) _
              refine XS.iand X26.here hx rfl (hb hby at_108) rfl ?_
              show Steps pP.tables eE below (T26.setTop (mkF mM 109 #[.val (.int base), .val (.int dl), .val (.int mk), .val (.int r2), .val (.int z5), .val (.int z8), .val (.int z11), .val (.int z14), .val (.int z17), .val (.ref bp20), .val (.ref bp26), .unset] [(.int (z14 &&& (2 : Int32)))])) _
              refine XS.ifNo X26.here hx rfl (hb hby at_109) rfl ((if0 _ _).trans (feq hj109_34).1) ?_
              show Steps pP.tables eE below (T26.setTop (mkF mM 112 #[.val (.int base), .val (.int dl), .val (.int mk), .val (.int r2), .val (.int z5), .val (.int z8), .val (.int z11), .val (.int z14), .val (.int z17), .val (.ref bp20), .val (.ref bp26), .unset] [])) _
              refine XS.iload X26.here hx rfl (hb hby at_112) rfl ?_
              show Steps pP.tables eE below (T26.setTop (mkF mM 114 #[.val (.int base), .val (.int dl), .val (.int mk), .val (.int r2), .val (.int z5), .val (.int z8), .val (.int z11), .val (.int z14), .val (.int z17), .val (.ref bp20), .val (.ref bp26), .unset] [(.int z17)])) _
              refine XS.iconst X26.here hx rfl (hb hby at_114) ?_
              show Steps pP.tables eE below (T26.setTop (mkF mM 115 #[.val (.int base), .val (.int dl), .val (.int mk), .val (.int r2), .val (.int z5), .val (.int z8), .val (.int z11), .val (.int z14), .val (.int z17), .val (.ref bp20), .val (.ref bp26), .unset] [(.int (2 : Int32)), (.int z17)])) _
              refine XS.iand X26.here hx rfl (hb hby at_115) rfl ?_
              show Steps pP.tables eE below (T26.setTop (mkF mM 116 #[.val (.int base), .val (.int dl), .val (.int mk), .val (.int r2), .val (.int z5), .val (.int z8), .val (.int z11), .val (.int z14), .val (.int z17), .val (.ref bp20), .val (.ref bp26), .unset] [(.int (z17 &&& (2 : Int32)))])) _
              refine XS.ifYes X26.here hx rfl (pc0 := 116) (pc' := 126) rfl (hb hby at_116) rfl ((if0 _ _).trans (feq hj116_41).2) (by decide) (by decide) ?_
              show Steps pP.tables eE below (T26.setTop (mkF mM 126 #[.val (.int base), .val (.int dl), .val (.int mk), .val (.int r2), .val (.int z5), .val (.int z8), .val (.int z11), .val (.int z14), .val (.int z17), .val (.ref bp20), .val (.ref bp26), .unset] [])) _
              refine XS.iload X26.here hx rfl (hb hby at_126) rfl ?_
              show Steps pP.tables eE below (T26.setTop (mkF mM 128 #[.val (.int base), .val (.int dl), .val (.int mk), .val (.int r2), .val (.int z5), .val (.int z8), .val (.int z11), .val (.int z14), .val (.int z17), .val (.ref bp20), .val (.ref bp26), .unset] [(.int z14)])) _
              refine XS.iconst X26.here hx rfl (hb hby at_128) ?_
              show Steps pP.tables eE below (T26.setTop (mkF mM 129 #[.val (.int base), .val (.int dl), .val (.int mk), .val (.int r2), .val (.int z5), .val (.int z8), .val (.int z11), .val (.int z14), .val (.int z17), .val (.ref bp20), .val (.ref bp26), .unset] [(.int (4 : Int32)), (.int z14)])) _
              refine XS.iand X26.here hx rfl (hb hby at_129) rfl ?_
              show Steps pP.tables eE below (T26.setTop (mkF mM 130 #[.val (.int base), .val (.int dl), .val (.int mk), .val (.int r2), .val (.int z5), .val (.int z8), .val (.int z11), .val (.int z14), .val (.int z17), .val (.ref bp20), .val (.ref bp26), .unset] [(.int (z14 &&& (4 : Int32)))])) _
              refine XS.ifNo X26.here hx rfl (hb hby at_130) rfl ((if0 _ _).trans (feq hj130_42).1) ?_
              show Steps pP.tables eE below (T26.setTop (mkF mM 133 #[.val (.int base), .val (.int dl), .val (.int mk), .val (.int r2), .val (.int z5), .val (.int z8), .val (.int z11), .val (.int z14), .val (.int z17), .val (.ref bp20), .val (.ref bp26), .unset] [])) _
              refine XS.iload X26.here hx rfl (hb hby at_133) rfl ?_
              show Steps pP.tables eE below (T26.setTop (mkF mM 135 #[.val (.int base), .val (.int dl), .val (.int mk), .val (.int r2), .val (.int z5), .val (.int z8), .val (.int z11), .val (.int z14), .val (.int z17), .val (.ref bp20), .val (.ref bp26), .unset] [(.int z17)])) _
              refine XS.iconst X26.here hx rfl (hb hby at_135) ?_
              show Steps pP.tables eE below (T26.setTop (mkF mM 136 #[.val (.int base), .val (.int dl), .val (.int mk), .val (.int r2), .val (.int z5), .val (.int z8), .val (.int z11), .val (.int z14), .val (.int z17), .val (.ref bp20), .val (.ref bp26), .unset] [(.int (4 : Int32)), (.int z17)])) _
              refine XS.iand X26.here hx rfl (hb hby at_136) rfl ?_
              show Steps pP.tables eE below (T26.setTop (mkF mM 137 #[.val (.int base), .val (.int dl), .val (.int mk), .val (.int r2), .val (.int z5), .val (.int z8), .val (.int z11), .val (.int z14), .val (.int z17), .val (.ref bp20), .val (.ref bp26), .unset] [(.int (z17 &&& (4 : Int32)))])) _
              refine XS.ifNo X26.here hx rfl (hb hby at_137) rfl ((if0 _ _).trans (teq hj137_45).2) ?_
              show Steps pP.tables eE below (T26.setTop (mkF mM 140 #[.val (.int base), .val (.int dl), .val (.int mk), .val (.int r2), .val (.int z5), .val (.int z8), .val (.int z11), .val (.int z14), .val (.int z17), .val (.ref bp20), .val (.ref bp26), .unset] [])) _
              refine XS.iload X26.here hx rfl (hb hby at_140) rfl ?_
              show Steps pP.tables eE below (T26.setTop (mkF mM 142 #[.val (.int base), .val (.int dl), .val (.int mk), .val (.int r2), .val (.int z5), .val (.int z8), .val (.int z11), .val (.int z14), .val (.int z17), .val (.ref bp20), .val (.ref bp26), .unset] [(.int z8)])) _
              refine XS.istore X26.here hx rfl (hb hby at_142) rfl (l' := #[.val (.int base), .val (.int dl), .val (.int mk), .val (.int r2), .val (.int z5), .val (.int z8), .val (.int z11), .val (.int z14), .val (.int z17), .val (.ref bp20), .val (.ref bp26), .val (.int z8)]) rfl ?_
              show Steps pP.tables eE below (T26.setTop (mkF mM 144 #[.val (.int base), .val (.int dl), .val (.int mk), .val (.int r2), .val (.int z5), .val (.int z8), .val (.int z11), .val (.int z14), .val (.int z17), .val (.ref bp20), .val (.ref bp26), .val (.int z8)] [])) _
              refine XS.goto X26.here hx rfl (pc0 := 144) (pc' := 173) rfl (hb hby at_144) (by decide) (by decide) ?_
              exact kg
            ·
              by_cases hj152_46 : (z14 &&& (8 : Int32)) = (0 : Int32)
              ·
                refine ⟨(-1 : Int32), (by rw [if_pos hj89_33, if_neg hj109_34, if_neg hj116_41, if_neg hj130_42, if_neg hj137_45, if_pos hj152_46]), fun tg kg => ?_⟩
                show Steps pP.tables eE below (T26.setTop (mkF mM 89 #[.val (.int base), .val (.int dl), .val (.int mk), .val (.int r2), .val (.int z5), .val (.int z8), .val (.int z11), .val (.int z14), .val (.int z17), .val (.ref bp20), .val (.ref bp26), .unset] [(.int (z14 &&& (1 : Int32)))])) _
                refine XS.ifYes X26.here hx rfl (pc0 := 89) (pc' := 105) rfl (hb hby at_89) rfl ((if0 _ _).trans (teq hj89_33).1) (by decide) (by decide) ?_
                show Steps pP.tables eE below (T26.setTop (mkF mM 105 #[.val (.int base), .val (.int dl), .val (.int mk), .val (.int r2), .val (.int z5), .val (.int z8), .val (.int z11), .val (.int z14), .val (.int z17), .val (.ref bp20), .val (.ref bp26), .unset] [])) _
                refine XS.iload X26.here hx rfl (hb hby at_105) rfl ?_
                show Steps pP.tables eE below (T26.setTop (mkF mM 107 #[.val (.int base), .val (.int dl), .val (.int mk), .val (.int r2), .val (.int z5), .val (.int z8), .val (.int z11), .val (.int z14), .val (.int z17), .val (.ref bp20), .val (.ref bp26), .unset] [(.int z14)])) _
                refine XS.iconst X26.here hx rfl (hb hby at_107) ?_
                show Steps pP.tables eE below (T26.setTop (mkF mM 108 #[.val (.int base), .val (.int dl), .val (.int mk), .val (.int r2), .val (.int z5), .val (.int z8), .val (.int z11), .val (.int z14), .val (.int z17), .val (.ref bp20), .val (.ref bp26), .unset] [(.int (2 : Int32)), (.int z14)])) _
                refine XS.iand X26.here hx rfl (hb hby at_108) rfl ?_
                show Steps pP.tables eE below (T26.setTop (mkF mM 109 #[.val (.int base), .val (.int dl), .val (.int mk), .val (.int r2), .val (.int z5), .val (.int z8), .val (.int z11), .val (.int z14), .val (.int z17), .val (.ref bp20), .val (.ref bp26), .unset] [(.int (z14 &&& (2 : Int32)))])) _
                refine XS.ifNo X26.here hx rfl (hb hby at_109) rfl ((if0 _ _).trans (feq hj109_34).1) ?_
                show Steps pP.tables eE below (T26.setTop (mkF mM 112 #[.val (.int base), .val (.int dl), .val (.int mk), .val (.int r2), .val (.int z5), .val (.int z8), .val (.int z11), .val (.int z14), .val (.int z17), .val (.ref bp20), .val (.ref bp26), .unset] [])) _
                refine XS.iload X26.here hx rfl (hb hby at_112) rfl ?_
                show Steps pP.tables eE below (T26.setTop (mkF mM 114 #[.val (.int base), .val (.int dl), .val (.int mk), .val (.int r2), .val (.int z5), .val (.int z8), .val (.int z11), .val (.int z14), .val (.int z17), .val (.ref bp20), .val (.ref bp26), .unset] [(.int z17)])) _
                refine XS.iconst X26.here hx rfl (hb hby at_114) ?_
                show Steps pP.tables eE below (T26.setTop (mkF mM 115 #[.val (.int base), .val (.int dl), .val (.int mk), .val (.int r2), .val (.int z5), .val (.int z8), .val (.int z11), .val (.int z14), .val (.int z17), .val (.ref bp20), .val (.ref bp26), .unset] [(.int (2 : Int32)), (.int z17)])) _
                refine XS.iand X26.here hx rfl (hb hby at_115) rfl ?_
                show Steps pP.tables eE below (T26.setTop (mkF mM 116 #[.val (.int base), .val (.int dl), .val (.int mk), .val (.int r2), .val (.int z5), .val (.int z8), .val (.int z11), .val (.int z14), .val (.int z17), .val (.ref bp20), .val (.ref bp26), .unset] [(.int (z17 &&& (2 : Int32)))])) _
                refine XS.ifYes X26.here hx rfl (pc0 := 116) (pc' := 126) rfl (hb hby at_116) rfl ((if0 _ _).trans (feq hj116_41).2) (by decide) (by decide) ?_
                show Steps pP.tables eE below (T26.setTop (mkF mM 126 #[.val (.int base), .val (.int dl), .val (.int mk), .val (.int r2), .val (.int z5), .val (.int z8), .val (.int z11), .val (.int z14), .val (.int z17), .val (.ref bp20), .val (.ref bp26), .unset] [])) _
                refine XS.iload X26.here hx rfl (hb hby at_126) rfl ?_
                show Steps pP.tables eE below (T26.setTop (mkF mM 128 #[.val (.int base), .val (.int dl), .val (.int mk), .val (.int r2), .val (.int z5), .val (.int z8), .val (.int z11), .val (.int z14), .val (.int z17), .val (.ref bp20), .val (.ref bp26), .unset] [(.int z14)])) _
                refine XS.iconst X26.here hx rfl (hb hby at_128) ?_
                show Steps pP.tables eE below (T26.setTop (mkF mM 129 #[.val (.int base), .val (.int dl), .val (.int mk), .val (.int r2), .val (.int z5), .val (.int z8), .val (.int z11), .val (.int z14), .val (.int z17), .val (.ref bp20), .val (.ref bp26), .unset] [(.int (4 : Int32)), (.int z14)])) _
                refine XS.iand X26.here hx rfl (hb hby at_129) rfl ?_
                show Steps pP.tables eE below (T26.setTop (mkF mM 130 #[.val (.int base), .val (.int dl), .val (.int mk), .val (.int r2), .val (.int z5), .val (.int z8), .val (.int z11), .val (.int z14), .val (.int z17), .val (.ref bp20), .val (.ref bp26), .unset] [(.int (z14 &&& (4 : Int32)))])) _
                refine XS.ifNo X26.here hx rfl (hb hby at_130) rfl ((if0 _ _).trans (feq hj130_42).1) ?_
                show Steps pP.tables eE below (T26.setTop (mkF mM 133 #[.val (.int base), .val (.int dl), .val (.int mk), .val (.int r2), .val (.int z5), .val (.int z8), .val (.int z11), .val (.int z14), .val (.int z17), .val (.ref bp20), .val (.ref bp26), .unset] [])) _
                refine XS.iload X26.here hx rfl (hb hby at_133) rfl ?_
                show Steps pP.tables eE below (T26.setTop (mkF mM 135 #[.val (.int base), .val (.int dl), .val (.int mk), .val (.int r2), .val (.int z5), .val (.int z8), .val (.int z11), .val (.int z14), .val (.int z17), .val (.ref bp20), .val (.ref bp26), .unset] [(.int z17)])) _
                refine XS.iconst X26.here hx rfl (hb hby at_135) ?_
                show Steps pP.tables eE below (T26.setTop (mkF mM 136 #[.val (.int base), .val (.int dl), .val (.int mk), .val (.int r2), .val (.int z5), .val (.int z8), .val (.int z11), .val (.int z14), .val (.int z17), .val (.ref bp20), .val (.ref bp26), .unset] [(.int (4 : Int32)), (.int z17)])) _
                refine XS.iand X26.here hx rfl (hb hby at_136) rfl ?_
                show Steps pP.tables eE below (T26.setTop (mkF mM 137 #[.val (.int base), .val (.int dl), .val (.int mk), .val (.int r2), .val (.int z5), .val (.int z8), .val (.int z11), .val (.int z14), .val (.int z17), .val (.ref bp20), .val (.ref bp26), .unset] [(.int (z17 &&& (4 : Int32)))])) _
                refine XS.ifYes X26.here hx rfl (pc0 := 137) (pc' := 147) rfl (hb hby at_137) rfl ((if0 _ _).trans (feq hj137_45).2) (by decide) (by decide) ?_
                show Steps pP.tables eE below (T26.setTop (mkF mM 147 #[.val (.int base), .val (.int dl), .val (.int mk), .val (.int r2), .val (.int z5), .val (.int z8), .val (.int z11), .val (.int z14), .val (.int z17), .val (.ref bp20), .val (.ref bp26), .unset] [])) _
                refine XS.iload X26.here hx rfl (hb hby at_147) rfl ?_
                show Steps pP.tables eE below (T26.setTop (mkF mM 149 #[.val (.int base), .val (.int dl), .val (.int mk), .val (.int r2), .val (.int z5), .val (.int z8), .val (.int z11), .val (.int z14), .val (.int z17), .val (.ref bp20), .val (.ref bp26), .unset] [(.int z14)])) _
                refine XS.bipush X26.here hx rfl (hb hby at_149) ?_
                show Steps pP.tables eE below (T26.setTop (mkF mM 151 #[.val (.int base), .val (.int dl), .val (.int mk), .val (.int r2), .val (.int z5), .val (.int z8), .val (.int z11), .val (.int z14), .val (.int z17), .val (.ref bp20), .val (.ref bp26), .unset] [(.int (8 : Int32)), (.int z14)])) _
                refine XS.iand X26.here hx rfl (hb hby at_151) rfl ?_
                show Steps pP.tables eE below (T26.setTop (mkF mM 152 #[.val (.int base), .val (.int dl), .val (.int mk), .val (.int r2), .val (.int z5), .val (.int z8), .val (.int z11), .val (.int z14), .val (.int z17), .val (.ref bp20), .val (.ref bp26), .unset] [(.int (z14 &&& (8 : Int32)))])) _
                refine XS.ifYes X26.here hx rfl (pc0 := 152) (pc' := 170) rfl (hb hby at_152) rfl ((if0 _ _).trans (teq hj152_46).1) (by decide) (by decide) ?_
                show Steps pP.tables eE below (T26.setTop (mkF mM 170 #[.val (.int base), .val (.int dl), .val (.int mk), .val (.int r2), .val (.int z5), .val (.int z8), .val (.int z11), .val (.int z14), .val (.int z17), .val (.ref bp20), .val (.ref bp26), .unset] [])) _
                refine XS.iconst X26.here hx rfl (hb hby at_170) ?_
                show Steps pP.tables eE below (T26.setTop (mkF mM 171 #[.val (.int base), .val (.int dl), .val (.int mk), .val (.int r2), .val (.int z5), .val (.int z8), .val (.int z11), .val (.int z14), .val (.int z17), .val (.ref bp20), .val (.ref bp26), .unset] [(.int (-1 : Int32))])) _
                refine XS.istore X26.here hx rfl (hb hby at_171) rfl (l' := #[.val (.int base), .val (.int dl), .val (.int mk), .val (.int r2), .val (.int z5), .val (.int z8), .val (.int z11), .val (.int z14), .val (.int z17), .val (.ref bp20), .val (.ref bp26), .val (.int (-1 : Int32))]) rfl ?_
                exact kg
              ·
                by_cases hj160_47 : (z17 &&& (8 : Int32)) = (0 : Int32)
                ·
                  refine ⟨z11, (by rw [if_pos hj89_33, if_neg hj109_34, if_neg hj116_41, if_neg hj130_42, if_neg hj137_45, if_neg hj152_46, if_pos hj160_47]), fun tg kg => ?_⟩
                  show Steps pP.tables eE below (T26.setTop (mkF mM 89 #[.val (.int base), .val (.int dl), .val (.int mk), .val (.int r2), .val (.int z5), .val (.int z8), .val (.int z11), .val (.int z14), .val (.int z17), .val (.ref bp20), .val (.ref bp26), .unset] [(.int (z14 &&& (1 : Int32)))])) _
                  refine XS.ifYes X26.here hx rfl (pc0 := 89) (pc' := 105) rfl (hb hby at_89) rfl ((if0 _ _).trans (teq hj89_33).1) (by decide) (by decide) ?_
                  show Steps pP.tables eE below (T26.setTop (mkF mM 105 #[.val (.int base), .val (.int dl), .val (.int mk), .val (.int r2), .val (.int z5), .val (.int z8), .val (.int z11), .val (.int z14), .val (.int z17), .val (.ref bp20), .val (.ref bp26), .unset] [])) _
                  refine XS.iload X26.here hx rfl (hb hby at_105) rfl ?_
                  show Steps pP.tables eE below (T26.setTop (mkF mM 107 #[.val (.int base), .val (.int dl), .val (.int mk), .val (.int r2), .val (.int z5), .val (.int z8), .val (.int z11), .val (.int z14), .val (.int z17), .val (.ref bp20), .val (.ref bp26), .unset] [(.int z14)])) _
                  refine XS.iconst X26.here hx rfl (hb hby at_107) ?_
                  show Steps pP.tables eE below (T26.setTop (mkF mM 108 #[.val (.int base), .val (.int dl), .val (.int mk), .val (.int r2), .val (.int z5), .val (.int z8), .val (.int z11), .val (.int z14), .val (.int z17), .val (.ref bp20), .val (.ref bp26), .unset] [(.int (2 : Int32)), (.int z14)])) _
                  refine XS.iand X26.here hx rfl (hb hby at_108) rfl ?_
                  show Steps pP.tables eE below (T26.setTop (mkF mM 109 #[.val (.int base), .val (.int dl), .val (.int mk), .val (.int r2), .val (.int z5), .val (.int z8), .val (.int z11), .val (.int z14), .val (.int z17), .val (.ref bp20), .val (.ref bp26), .unset] [(.int (z14 &&& (2 : Int32)))])) _
                  refine XS.ifNo X26.here hx rfl (hb hby at_109) rfl ((if0 _ _).trans (feq hj109_34).1) ?_
                  show Steps pP.tables eE below (T26.setTop (mkF mM 112 #[.val (.int base), .val (.int dl), .val (.int mk), .val (.int r2), .val (.int z5), .val (.int z8), .val (.int z11), .val (.int z14), .val (.int z17), .val (.ref bp20), .val (.ref bp26), .unset] [])) _
                  refine XS.iload X26.here hx rfl (hb hby at_112) rfl ?_
                  show Steps pP.tables eE below (T26.setTop (mkF mM 114 #[.val (.int base), .val (.int dl), .val (.int mk), .val (.int r2), .val (.int z5), .val (.int z8), .val (.int z11), .val (.int z14), .val (.int z17), .val (.ref bp20), .val (.ref bp26), .unset] [(.int z17)])) _
                  refine XS.iconst X26.here hx rfl (hb hby at_114) ?_
                  show Steps pP.tables eE below (T26.setTop (mkF mM 115 #[.val (.int base), .val (.int dl), .val (.int mk), .val (.int r2), .val (.int z5), .val (.int z8), .val (.int z11), .val (.int z14), .val (.int z17), .val (.ref bp20), .val (.ref bp26), .unset] [(.int (2 : Int32)), (.int z17)])) _
                  refine XS.iand X26.here hx rfl (hb hby at_115) rfl ?_
                  show Steps pP.tables eE below (T26.setTop (mkF mM 116 #[.val (.int base), .val (.int dl), .val (.int mk), .val (.int r2), .val (.int z5), .val (.int z8), .val (.int z11), .val (.int z14), .val (.int z17), .val (.ref bp20), .val (.ref bp26), .unset] [(.int (z17 &&& (2 : Int32)))])) _
                  refine XS.ifYes X26.here hx rfl (pc0 := 116) (pc' := 126) rfl (hb hby at_116) rfl ((if0 _ _).trans (feq hj116_41).2) (by decide) (by decide) ?_
                  show Steps pP.tables eE below (T26.setTop (mkF mM 126 #[.val (.int base), .val (.int dl), .val (.int mk), .val (.int r2), .val (.int z5), .val (.int z8), .val (.int z11), .val (.int z14), .val (.int z17), .val (.ref bp20), .val (.ref bp26), .unset] [])) _
                  refine XS.iload X26.here hx rfl (hb hby at_126) rfl ?_
                  show Steps pP.tables eE below (T26.setTop (mkF mM 128 #[.val (.int base), .val (.int dl), .val (.int mk), .val (.int r2), .val (.int z5), .val (.int z8), .val (.int z11), .val (.int z14), .val (.int z17), .val (.ref bp20), .val (.ref bp26), .unset] [(.int z14)])) _
                  refine XS.iconst X26.here hx rfl (hb hby at_128) ?_
                  show Steps pP.tables eE below (T26.setTop (mkF mM 129 #[.val (.int base), .val (.int dl), .val (.int mk), .val (.int r2), .val (.int z5), .val (.int z8), .val (.int z11), .val (.int z14), .val (.int z17), .val (.ref bp20), .val (.ref bp26), .unset] [(.int (4 : Int32)), (.int z14)])) _
                  refine XS.iand X26.here hx rfl (hb hby at_129) rfl ?_
                  show Steps pP.tables eE below (T26.setTop (mkF mM 130 #[.val (.int base), .val (.int dl), .val (.int mk), .val (.int r2), .val (.int z5), .val (.int z8), .val (.int z11), .val (.int z14), .val (.int z17), .val (.ref bp20), .val (.ref bp26), .unset] [(.int (z14 &&& (4 : Int32)))])) _
                  refine XS.ifNo X26.here hx rfl (hb hby at_130) rfl ((if0 _ _).trans (feq hj130_42).1) ?_
                  show Steps pP.tables eE below (T26.setTop (mkF mM 133 #[.val (.int base), .val (.int dl), .val (.int mk), .val (.int r2), .val (.int z5), .val (.int z8), .val (.int z11), .val (.int z14), .val (.int z17), .val (.ref bp20), .val (.ref bp26), .unset] [])) _
                  refine XS.iload X26.here hx rfl (hb hby at_133) rfl ?_
                  show Steps pP.tables eE below (T26.setTop (mkF mM 135 #[.val (.int base), .val (.int dl), .val (.int mk), .val (.int r2), .val (.int z5), .val (.int z8), .val (.int z11), .val (.int z14), .val (.int z17), .val (.ref bp20), .val (.ref bp26), .unset] [(.int z17)])) _
                  refine XS.iconst X26.here hx rfl (hb hby at_135) ?_
                  show Steps pP.tables eE below (T26.setTop (mkF mM 136 #[.val (.int base), .val (.int dl), .val (.int mk), .val (.int r2), .val (.int z5), .val (.int z8), .val (.int z11), .val (.int z14), .val (.int z17), .val (.ref bp20), .val (.ref bp26), .unset] [(.int (4 : Int32)), (.int z17)])) _
                  refine XS.iand X26.here hx rfl (hb hby at_136) rfl ?_
                  show Steps pP.tables eE below (T26.setTop (mkF mM 137 #[.val (.int base), .val (.int dl), .val (.int mk), .val (.int r2), .val (.int z5), .val (.int z8), .val (.int z11), .val (.int z14), .val (.int z17), .val (.ref bp20), .val (.ref bp26), .unset] [(.int (z17 &&& (4 : Int32)))])) _
                  refine XS.ifYes X26.here hx rfl (pc0 := 137) (pc' := 147) rfl (hb hby at_137) rfl ((if0 _ _).trans (feq hj137_45).2) (by decide) (by decide) ?_
                  show Steps pP.tables eE below (T26.setTop (mkF mM 147 #[.val (.int base), .val (.int dl), .val (.int mk), .val (.int r2), .val (.int z5), .val (.int z8), .val (.int z11), .val (.int z14), .val (.int z17), .val (.ref bp20), .val (.ref bp26), .unset] [])) _
                  refine XS.iload X26.here hx rfl (hb hby at_147) rfl ?_
                  show Steps pP.tables eE below (T26.setTop (mkF mM 149 #[.val (.int base), .val (.int dl), .val (.int mk), .val (.int r2), .val (.int z5), .val (.int z8), .val (.int z11), .val (.int z14), .val (.int z17), .val (.ref bp20), .val (.ref bp26), .unset] [(.int z14)])) _
                  refine XS.bipush X26.here hx rfl (hb hby at_149) ?_
                  show Steps pP.tables eE below (T26.setTop (mkF mM 151 #[.val (.int base), .val (.int dl), .val (.int mk), .val (.int r2), .val (.int z5), .val (.int z8), .val (.int z11), .val (.int z14), .val (.int z17), .val (.ref bp20), .val (.ref bp26), .unset] [(.int (8 : Int32)), (.int z14)])) _
                  refine XS.iand X26.here hx rfl (hb hby at_151) rfl ?_
                  show Steps pP.tables eE below (T26.setTop (mkF mM 152 #[.val (.int base), .val (.int dl), .val (.int mk), .val (.int r2), .val (.int z5), .val (.int z8), .val (.int z11), .val (.int z14), .val (.int z17), .val (.ref bp20), .val (.ref bp26), .unset] [(.int (z14 &&& (8 : Int32)))])) _
                  refine XS.ifNo X26.here hx rfl (hb hby at_152) rfl ((if0 _ _).trans (feq hj152_46).1) ?_
                  show Steps pP.tables eE below (T26.setTop (mkF mM 155 #[.val (.int base), .val (.int dl), .val (.int mk), .val (.int r2), .val (.int z5), .val (.int z8), .val (.int z11), .val (.int z14), .val (.int z17), .val (.ref bp20), .val (.ref bp26), .unset] [])) _
                  refine XS.iload X26.here hx rfl (hb hby at_155) rfl ?_
                  show Steps pP.tables eE below (T26.setTop (mkF mM 157 #[.val (.int base), .val (.int dl), .val (.int mk), .val (.int r2), .val (.int z5), .val (.int z8), .val (.int z11), .val (.int z14), .val (.int z17), .val (.ref bp20), .val (.ref bp26), .unset] [(.int z17)])) _
                  refine XS.bipush X26.here hx rfl (hb hby at_157) ?_
                  show Steps pP.tables eE below (T26.setTop (mkF mM 159 #[.val (.int base), .val (.int dl), .val (.int mk), .val (.int r2), .val (.int z5), .val (.int z8), .val (.int z11), .val (.int z14), .val (.int z17), .val (.ref bp20), .val (.ref bp26), .unset] [(.int (8 : Int32)), (.int z17)])) _
                  refine XS.iand X26.here hx rfl (hb hby at_159) rfl ?_
                  show Steps pP.tables eE below (T26.setTop (mkF mM 160 #[.val (.int base), .val (.int dl), .val (.int mk), .val (.int r2), .val (.int z5), .val (.int z8), .val (.int z11), .val (.int z14), .val (.int z17), .val (.ref bp20), .val (.ref bp26), .unset] [(.int (z17 &&& (8 : Int32)))])) _
                  refine XS.ifNo X26.here hx rfl (hb hby at_160) rfl ((if0 _ _).trans (teq hj160_47).2) ?_
                  show Steps pP.tables eE below (T26.setTop (mkF mM 163 #[.val (.int base), .val (.int dl), .val (.int mk), .val (.int r2), .val (.int z5), .val (.int z8), .val (.int z11), .val (.int z14), .val (.int z17), .val (.ref bp20), .val (.ref bp26), .unset] [])) _
                  refine XS.iload X26.here hx rfl (hb hby at_163) rfl ?_
                  show Steps pP.tables eE below (T26.setTop (mkF mM 165 #[.val (.int base), .val (.int dl), .val (.int mk), .val (.int r2), .val (.int z5), .val (.int z8), .val (.int z11), .val (.int z14), .val (.int z17), .val (.ref bp20), .val (.ref bp26), .unset] [(.int z11)])) _
                  refine XS.istore X26.here hx rfl (hb hby at_165) rfl (l' := #[.val (.int base), .val (.int dl), .val (.int mk), .val (.int r2), .val (.int z5), .val (.int z8), .val (.int z11), .val (.int z14), .val (.int z17), .val (.ref bp20), .val (.ref bp26), .val (.int z11)]) rfl ?_
                  show Steps pP.tables eE below (T26.setTop (mkF mM 167 #[.val (.int base), .val (.int dl), .val (.int mk), .val (.int r2), .val (.int z5), .val (.int z8), .val (.int z11), .val (.int z14), .val (.int z17), .val (.ref bp20), .val (.ref bp26), .val (.int z11)] [])) _
                  refine XS.goto X26.here hx rfl (pc0 := 167) (pc' := 173) rfl (hb hby at_167) (by decide) (by decide) ?_
                  exact kg
                ·
                  refine ⟨(-1 : Int32), (by rw [if_pos hj89_33, if_neg hj109_34, if_neg hj116_41, if_neg hj130_42, if_neg hj137_45, if_neg hj152_46, if_neg hj160_47]), fun tg kg => ?_⟩
                  show Steps pP.tables eE below (T26.setTop (mkF mM 89 #[.val (.int base), .val (.int dl), .val (.int mk), .val (.int r2), .val (.int z5), .val (.int z8), .val (.int z11), .val (.int z14), .val (.int z17), .val (.ref bp20), .val (.ref bp26), .unset] [(.int (z14 &&& (1 : Int32)))])) _
                  refine XS.ifYes X26.here hx rfl (pc0 := 89) (pc' := 105) rfl (hb hby at_89) rfl ((if0 _ _).trans (teq hj89_33).1) (by decide) (by decide) ?_
                  show Steps pP.tables eE below (T26.setTop (mkF mM 105 #[.val (.int base), .val (.int dl), .val (.int mk), .val (.int r2), .val (.int z5), .val (.int z8), .val (.int z11), .val (.int z14), .val (.int z17), .val (.ref bp20), .val (.ref bp26), .unset] [])) _
                  refine XS.iload X26.here hx rfl (hb hby at_105) rfl ?_
                  show Steps pP.tables eE below (T26.setTop (mkF mM 107 #[.val (.int base), .val (.int dl), .val (.int mk), .val (.int r2), .val (.int z5), .val (.int z8), .val (.int z11), .val (.int z14), .val (.int z17), .val (.ref bp20), .val (.ref bp26), .unset] [(.int z14)])) _
                  refine XS.iconst X26.here hx rfl (hb hby at_107) ?_
                  show Steps pP.tables eE below (T26.setTop (mkF mM 108 #[.val (.int base), .val (.int dl), .val (.int mk), .val (.int r2), .val (.int z5), .val (.int z8), .val (.int z11), .val (.int z14), .val (.int z17), .val (.ref bp20), .val (.ref bp26), .unset] [(.int (2 : Int32)), (.int z14)])) _
                  refine XS.iand X26.here hx rfl (hb hby at_108) rfl ?_
                  show Steps pP.tables eE below (T26.setTop (mkF mM 109 #[.val (.int base), .val (.int dl), .val (.int mk), .val (.int r2), .val (.int z5), .val (.int z8), .val (.int z11), .val (.int z14), .val (.int z17), .val (.ref bp20), .val (.ref bp26), .unset] [(.int (z14 &&& (2 : Int32)))])) _
                  refine XS.ifNo X26.here hx rfl (hb hby at_109) rfl ((if0 _ _).trans (feq hj109_34).1) ?_
                  show Steps pP.tables eE below (T26.setTop (mkF mM 112 #[.val (.int base), .val (.int dl), .val (.int mk), .val (.int r2), .val (.int z5), .val (.int z8), .val (.int z11), .val (.int z14), .val (.int z17), .val (.ref bp20), .val (.ref bp26), .unset] [])) _
                  refine XS.iload X26.here hx rfl (hb hby at_112) rfl ?_
                  show Steps pP.tables eE below (T26.setTop (mkF mM 114 #[.val (.int base), .val (.int dl), .val (.int mk), .val (.int r2), .val (.int z5), .val (.int z8), .val (.int z11), .val (.int z14), .val (.int z17), .val (.ref bp20), .val (.ref bp26), .unset] [(.int z17)])) _
                  refine XS.iconst X26.here hx rfl (hb hby at_114) ?_
                  show Steps pP.tables eE below (T26.setTop (mkF mM 115 #[.val (.int base), .val (.int dl), .val (.int mk), .val (.int r2), .val (.int z5), .val (.int z8), .val (.int z11), .val (.int z14), .val (.int z17), .val (.ref bp20), .val (.ref bp26), .unset] [(.int (2 : Int32)), (.int z17)])) _
                  refine XS.iand X26.here hx rfl (hb hby at_115) rfl ?_
                  show Steps pP.tables eE below (T26.setTop (mkF mM 116 #[.val (.int base), .val (.int dl), .val (.int mk), .val (.int r2), .val (.int z5), .val (.int z8), .val (.int z11), .val (.int z14), .val (.int z17), .val (.ref bp20), .val (.ref bp26), .unset] [(.int (z17 &&& (2 : Int32)))])) _
                  refine XS.ifYes X26.here hx rfl (pc0 := 116) (pc' := 126) rfl (hb hby at_116) rfl ((if0 _ _).trans (feq hj116_41).2) (by decide) (by decide) ?_
                  show Steps pP.tables eE below (T26.setTop (mkF mM 126 #[.val (.int base), .val (.int dl), .val (.int mk), .val (.int r2), .val (.int z5), .val (.int z8), .val (.int z11), .val (.int z14), .val (.int z17), .val (.ref bp20), .val (.ref bp26), .unset] [])) _
                  refine XS.iload X26.here hx rfl (hb hby at_126) rfl ?_
                  show Steps pP.tables eE below (T26.setTop (mkF mM 128 #[.val (.int base), .val (.int dl), .val (.int mk), .val (.int r2), .val (.int z5), .val (.int z8), .val (.int z11), .val (.int z14), .val (.int z17), .val (.ref bp20), .val (.ref bp26), .unset] [(.int z14)])) _
                  refine XS.iconst X26.here hx rfl (hb hby at_128) ?_
                  show Steps pP.tables eE below (T26.setTop (mkF mM 129 #[.val (.int base), .val (.int dl), .val (.int mk), .val (.int r2), .val (.int z5), .val (.int z8), .val (.int z11), .val (.int z14), .val (.int z17), .val (.ref bp20), .val (.ref bp26), .unset] [(.int (4 : Int32)), (.int z14)])) _
                  refine XS.iand X26.here hx rfl (hb hby at_129) rfl ?_
                  show Steps pP.tables eE below (T26.setTop (mkF mM 130 #[.val (.int base), .val (.int dl), .val (.int mk), .val (.int r2), .val (.int z5), .val (.int z8), .val (.int z11), .val (.int z14), .val (.int z17), .val (.ref bp20), .val (.ref bp26), .unset] [(.int (z14 &&& (4 : Int32)))])) _
                  refine XS.ifNo X26.here hx rfl (hb hby at_130) rfl ((if0 _ _).trans (feq hj130_42).1) ?_
                  show Steps pP.tables eE below (T26.setTop (mkF mM 133 #[.val (.int base), .val (.int dl), .val (.int mk), .val (.int r2), .val (.int z5), .val (.int z8), .val (.int z11), .val (.int z14), .val (.int z17), .val (.ref bp20), .val (.ref bp26), .unset] [])) _
                  refine XS.iload X26.here hx rfl (hb hby at_133) rfl ?_
                  show Steps pP.tables eE below (T26.setTop (mkF mM 135 #[.val (.int base), .val (.int dl), .val (.int mk), .val (.int r2), .val (.int z5), .val (.int z8), .val (.int z11), .val (.int z14), .val (.int z17), .val (.ref bp20), .val (.ref bp26), .unset] [(.int z17)])) _
                  refine XS.iconst X26.here hx rfl (hb hby at_135) ?_
                  show Steps pP.tables eE below (T26.setTop (mkF mM 136 #[.val (.int base), .val (.int dl), .val (.int mk), .val (.int r2), .val (.int z5), .val (.int z8), .val (.int z11), .val (.int z14), .val (.int z17), .val (.ref bp20), .val (.ref bp26), .unset] [(.int (4 : Int32)), (.int z17)])) _
                  refine XS.iand X26.here hx rfl (hb hby at_136) rfl ?_
                  show Steps pP.tables eE below (T26.setTop (mkF mM 137 #[.val (.int base), .val (.int dl), .val (.int mk), .val (.int r2), .val (.int z5), .val (.int z8), .val (.int z11), .val (.int z14), .val (.int z17), .val (.ref bp20), .val (.ref bp26), .unset] [(.int (z17 &&& (4 : Int32)))])) _
                  refine XS.ifYes X26.here hx rfl (pc0 := 137) (pc' := 147) rfl (hb hby at_137) rfl ((if0 _ _).trans (feq hj137_45).2) (by decide) (by decide) ?_
                  show Steps pP.tables eE below (T26.setTop (mkF mM 147 #[.val (.int base), .val (.int dl), .val (.int mk), .val (.int r2), .val (.int z5), .val (.int z8), .val (.int z11), .val (.int z14), .val (.int z17), .val (.ref bp20), .val (.ref bp26), .unset] [])) _
                  refine XS.iload X26.here hx rfl (hb hby at_147) rfl ?_
                  show Steps pP.tables eE below (T26.setTop (mkF mM 149 #[.val (.int base), .val (.int dl), .val (.int mk), .val (.int r2), .val (.int z5), .val (.int z8), .val (.int z11), .val (.int z14), .val (.int z17), .val (.ref bp20), .val (.ref bp26), .unset] [(.int z14)])) _
                  refine XS.bipush X26.here hx rfl (hb hby at_149) ?_
                  show Steps pP.tables eE below (T26.setTop (mkF mM 151 #[.val (.int base), .val (.int dl), .val (.int mk), .val (.int r2), .val (.int z5), .val (.int z8), .val (.int z11), .val (.int z14), .val (.int z17), .val (.ref bp20), .val (.ref bp26), .unset] [(.int (8 : Int32)), (.int z14)])) _
                  refine XS.iand X26.here hx rfl (hb hby at_151) rfl ?_
                  show Steps pP.tables eE below (T26.setTop (mkF mM 152 #[.val (.int base), .val (.int dl), .val (.int mk), .val (.int r2), .val (.int z5), .val (.int z8), .val (.int z11), .val (.int z14), .val (.int z17), .val (.ref bp20), .val (.ref bp26), .unset] [(.int (z14 &&& (8 : Int32)))])) _
                  refine XS.ifNo X26.here hx rfl (hb hby at_152) rfl ((if0 _ _).trans (feq hj152_46).1) ?_
                  show Steps pP.tables eE below (T26.setTop (mkF mM 155 #[.val (.int base), .val (.int dl), .val (.int mk), .val (.int r2), .val (.int z5), .val (.int z8), .val (.int z11), .val (.int z14), .val (.int z17), .val (.ref bp20), .val (.ref bp26), .unset] [])) _
                  refine XS.iload X26.here hx rfl (hb hby at_155) rfl ?_
                  show Steps pP.tables eE below (T26.setTop (mkF mM 157 #[.val (.int base), .val (.int dl), .val (.int mk), .val (.int r2), .val (.int z5), .val (.int z8), .val (.int z11), .val (.int z14), .val (.int z17), .val (.ref bp20), .val (.ref bp26), .unset] [(.int z17)])) _
                  refine XS.bipush X26.here hx rfl (hb hby at_157) ?_
                  show Steps pP.tables eE below (T26.setTop (mkF mM 159 #[.val (.int base), .val (.int dl), .val (.int mk), .val (.int r2), .val (.int z5), .val (.int z8), .val (.int z11), .val (.int z14), .val (.int z17), .val (.ref bp20), .val (.ref bp26), .unset] [(.int (8 : Int32)), (.int z17)])) _
                  refine XS.iand X26.here hx rfl (hb hby at_159) rfl ?_
                  show Steps pP.tables eE below (T26.setTop (mkF mM 160 #[.val (.int base), .val (.int dl), .val (.int mk), .val (.int r2), .val (.int z5), .val (.int z8), .val (.int z11), .val (.int z14), .val (.int z17), .val (.ref bp20), .val (.ref bp26), .unset] [(.int (z17 &&& (8 : Int32)))])) _
                  refine XS.ifYes X26.here hx rfl (pc0 := 160) (pc' := 170) rfl (hb hby at_160) rfl ((if0 _ _).trans (feq hj160_47).2) (by decide) (by decide) ?_
                  show Steps pP.tables eE below (T26.setTop (mkF mM 170 #[.val (.int base), .val (.int dl), .val (.int mk), .val (.int r2), .val (.int z5), .val (.int z8), .val (.int z11), .val (.int z14), .val (.int z17), .val (.ref bp20), .val (.ref bp26), .unset] [])) _
                  refine XS.iconst X26.here hx rfl (hb hby at_170) ?_
                  show Steps pP.tables eE below (T26.setTop (mkF mM 171 #[.val (.int base), .val (.int dl), .val (.int mk), .val (.int r2), .val (.int z5), .val (.int z8), .val (.int z11), .val (.int z14), .val (.int z17), .val (.ref bp20), .val (.ref bp26), .unset] [(.int (-1 : Int32))])) _
                  refine XS.istore X26.here hx rfl (hb hby at_171) rfl (l' := #[.val (.int base), .val (.int dl), .val (.int mk), .val (.int r2), .val (.int z5), .val (.int z8), .val (.int z11), .val (.int z14), .val (.int z17), .val (.ref bp20), .val (.ref bp26), .val (.int (-1 : Int32))]) rfl ?_
                  exact kg
    ·
      by_cases hj96_48 : (z17 &&& (1 : Int32)) = (0 : Int32)
      ·
        refine ⟨r2, (by rw [if_neg hj89_33, if_pos hj96_48]), fun tg kg => ?_⟩
        show Steps pP.tables eE below (T26.setTop (mkF mM 89 #[.val (.int base), .val (.int dl), .val (.int mk), .val (.int r2), .val (.int z5), .val (.int z8), .val (.int z11), .val (.int z14), .val (.int z17), .val (.ref bp20), .val (.ref bp26), .unset] [(.int (z14 &&& (1 : Int32)))])) _
        refine XS.ifNo X26.here hx rfl (hb hby at_89) rfl ((if0 _ _).trans (feq hj89_33).1) ?_
        show Steps pP.tables eE below (T26.setTop (mkF mM 92 #[.val (.int base), .val (.int dl), .val (.int mk), .val (.int r2), .val (.int z5), .val (.int z8), .val (.int z11), .val (.int z14), .val (.int z17), .val (.ref bp20), .val (.ref bp26), .unset] [])) _
        refine XS.iload X26.here hx rfl (hb hby at_92) rfl ?_
        show Steps pP.tables eE below (T26.setTop (mkF mM 94 #[.val (.int base), .val (.int dl), .val (.int mk), .val (.int r2), .val (.int z5), .val (.int z8), .val (.int z11), .val (.int z14), .val (.int z17), .val (.ref bp20), .val (.ref bp26), .unset] [(.int z17)])) _
        refine XS.iconst X26.here hx rfl (hb hby at_94) ?_
        show Steps pP.tables eE below (T26.setTop (mkF mM 95 #[.val (.int base), .val (.int dl), .val (.int mk), .val (.int r2), .val (.int z5), .val (.int z8), .val (.int z11), .val (.int z14), .val (.int z17), .val (.ref bp20), .val (.ref bp26), .unset] [(.int (1 : Int32)), (.int z17)])) _
        refine XS.iand X26.here hx rfl (hb hby at_95) rfl ?_
        show Steps pP.tables eE below (T26.setTop (mkF mM 96 #[.val (.int base), .val (.int dl), .val (.int mk), .val (.int r2), .val (.int z5), .val (.int z8), .val (.int z11), .val (.int z14), .val (.int z17), .val (.ref bp20), .val (.ref bp26), .unset] [(.int (z17 &&& (1 : Int32)))])) _
        refine XS.ifNo X26.here hx rfl (hb hby at_96) rfl ((if0 _ _).trans (teq hj96_48).2) ?_
        show Steps pP.tables eE below (T26.setTop (mkF mM 99 #[.val (.int base), .val (.int dl), .val (.int mk), .val (.int r2), .val (.int z5), .val (.int z8), .val (.int z11), .val (.int z14), .val (.int z17), .val (.ref bp20), .val (.ref bp26), .unset] [])) _
        refine XS.iloadN X26.here hx rfl (hb hby at_99) rfl ?_
        show Steps pP.tables eE below (T26.setTop (mkF mM 100 #[.val (.int base), .val (.int dl), .val (.int mk), .val (.int r2), .val (.int z5), .val (.int z8), .val (.int z11), .val (.int z14), .val (.int z17), .val (.ref bp20), .val (.ref bp26), .unset] [(.int r2)])) _
        refine XS.istore X26.here hx rfl (hb hby at_100) rfl (l' := #[.val (.int base), .val (.int dl), .val (.int mk), .val (.int r2), .val (.int z5), .val (.int z8), .val (.int z11), .val (.int z14), .val (.int z17), .val (.ref bp20), .val (.ref bp26), .val (.int r2)]) rfl ?_
        show Steps pP.tables eE below (T26.setTop (mkF mM 102 #[.val (.int base), .val (.int dl), .val (.int mk), .val (.int r2), .val (.int z5), .val (.int z8), .val (.int z11), .val (.int z14), .val (.int z17), .val (.ref bp20), .val (.ref bp26), .val (.int r2)] [])) _
        refine XS.goto X26.here hx rfl (pc0 := 102) (pc' := 173) rfl (hb hby at_102) (by decide) (by decide) ?_
        exact kg
      ·
        by_cases hj109_49 : (z14 &&& (2 : Int32)) = (0 : Int32)
        ·
          by_cases hj130_50 : (z14 &&& (4 : Int32)) = (0 : Int32)
          ·
            by_cases hj152_51 : (z14 &&& (8 : Int32)) = (0 : Int32)
            ·
              refine ⟨(-1 : Int32), (by rw [if_neg hj89_33, if_neg hj96_48, if_pos hj109_49, if_pos hj130_50, if_pos hj152_51]), fun tg kg => ?_⟩
              show Steps pP.tables eE below (T26.setTop (mkF mM 89 #[.val (.int base), .val (.int dl), .val (.int mk), .val (.int r2), .val (.int z5), .val (.int z8), .val (.int z11), .val (.int z14), .val (.int z17), .val (.ref bp20), .val (.ref bp26), .unset] [(.int (z14 &&& (1 : Int32)))])) _
              refine XS.ifNo X26.here hx rfl (hb hby at_89) rfl ((if0 _ _).trans (feq hj89_33).1) ?_
              show Steps pP.tables eE below (T26.setTop (mkF mM 92 #[.val (.int base), .val (.int dl), .val (.int mk), .val (.int r2), .val (.int z5), .val (.int z8), .val (.int z11), .val (.int z14), .val (.int z17), .val (.ref bp20), .val (.ref bp26), .unset] [])) _
              refine XS.iload X26.here hx rfl (hb hby at_92) rfl ?_
              show Steps pP.tables eE below (T26.setTop (mkF mM 94 #[.val (.int base), .val (.int dl), .val (.int mk), .val (.int r2), .val (.int z5), .val (.int z8), .val (.int z11), .val (.int z14), .val (.int z17), .val (.ref bp20), .val (.ref bp26), .unset] [(.int z17)])) _
              refine XS.iconst X26.here hx rfl (hb hby at_94) ?_
              show Steps pP.tables eE below (T26.setTop (mkF mM 95 #[.val (.int base), .val (.int dl), .val (.int mk), .val (.int r2), .val (.int z5), .val (.int z8), .val (.int z11), .val (.int z14), .val (.int z17), .val (.ref bp20), .val (.ref bp26), .unset] [(.int (1 : Int32)), (.int z17)])) _
              refine XS.iand X26.here hx rfl (hb hby at_95) rfl ?_
              show Steps pP.tables eE below (T26.setTop (mkF mM 96 #[.val (.int base), .val (.int dl), .val (.int mk), .val (.int r2), .val (.int z5), .val (.int z8), .val (.int z11), .val (.int z14), .val (.int z17), .val (.ref bp20), .val (.ref bp26), .unset] [(.int (z17 &&& (1 : Int32)))])) _
              refine XS.ifYes X26.here hx rfl (pc0 := 96) (pc' := 105) rfl (hb hby at_96) rfl ((if0 _ _).trans (feq hj96_48).2) (by decide) (by decide) ?_
              show Steps pP.tables eE below (T26.setTop (mkF mM 105 #[.val (.int base), .val (.int dl), .val (.int mk), .val (.int r2), .val (.int z5), .val (.int z8), .val (.int z11), .val (.int z14), .val (.int z17), .val (.ref bp20), .val (.ref bp26), .unset] [])) _
              refine XS.iload X26.here hx rfl (hb hby at_105) rfl ?_
              show Steps pP.tables eE below (T26.setTop (mkF mM 107 #[.val (.int base), .val (.int dl), .val (.int mk), .val (.int r2), .val (.int z5), .val (.int z8), .val (.int z11), .val (.int z14), .val (.int z17), .val (.ref bp20), .val (.ref bp26), .unset] [(.int z14)])) _
              refine XS.iconst X26.here hx rfl (hb hby at_107) ?_
              show Steps pP.tables eE below (T26.setTop (mkF mM 108 #[.val (.int base), .val (.int dl), .val (.int mk), .val (.int r2), .val (.int z5), .val (.int z8), .val (.int z11), .val (.int z14), .val (.int z17), .val (.ref bp20), .val (.ref bp26), .unset] [(.int (2 : Int32)), (.int z14)])) _
              refine XS.iand X26.here hx rfl (hb hby at_108) rfl ?_
              show Steps pP.tables eE below (T26.setTop (mkF mM 109 #[.val (.int base), .val (.int dl), .val (.int mk), .val (.int r2), .val (.int z5), .val (.int z8), .val (.int z11), .val (.int z14), .val (.int z17), .val (.ref bp20), .val (.ref bp26), .unset] [(.int (z14 &&& (2 : Int32)))])) _
              refine XS.ifYes X26.here hx rfl (pc0 := 109) (pc' := 126) rfl (hb hby at_109) rfl ((if0 _ _).trans (teq hj109_49).1) (by decide) (by decide) ?_
              show Steps pP.tables eE below (T26.setTop (mkF mM 126 #[.val (.int base), .val (.int dl), .val (.int mk), .val (.int r2), .val (.int z5), .val (.int z8), .val (.int z11), .val (.int z14), .val (.int z17), .val (.ref bp20), .val (.ref bp26), .unset] [])) _
              refine XS.iload X26.here hx rfl (hb hby at_126) rfl ?_
              show Steps pP.tables eE below (T26.setTop (mkF mM 128 #[.val (.int base), .val (.int dl), .val (.int mk), .val (.int r2), .val (.int z5), .val (.int z8), .val (.int z11), .val (.int z14), .val (.int z17), .val (.ref bp20), .val (.ref bp26), .unset] [(.int z14)])) _
              refine XS.iconst X26.here hx rfl (hb hby at_128) ?_
              show Steps pP.tables eE below (T26.setTop (mkF mM 129 #[.val (.int base), .val (.int dl), .val (.int mk), .val (.int r2), .val (.int z5), .val (.int z8), .val (.int z11), .val (.int z14), .val (.int z17), .val (.ref bp20), .val (.ref bp26), .unset] [(.int (4 : Int32)), (.int z14)])) _
              refine XS.iand X26.here hx rfl (hb hby at_129) rfl ?_
              show Steps pP.tables eE below (T26.setTop (mkF mM 130 #[.val (.int base), .val (.int dl), .val (.int mk), .val (.int r2), .val (.int z5), .val (.int z8), .val (.int z11), .val (.int z14), .val (.int z17), .val (.ref bp20), .val (.ref bp26), .unset] [(.int (z14 &&& (4 : Int32)))])) _
              refine XS.ifYes X26.here hx rfl (pc0 := 130) (pc' := 147) rfl (hb hby at_130) rfl ((if0 _ _).trans (teq hj130_50).1) (by decide) (by decide) ?_
              show Steps pP.tables eE below (T26.setTop (mkF mM 147 #[.val (.int base), .val (.int dl), .val (.int mk), .val (.int r2), .val (.int z5), .val (.int z8), .val (.int z11), .val (.int z14), .val (.int z17), .val (.ref bp20), .val (.ref bp26), .unset] [])) _
              refine XS.iload X26.here hx rfl (hb hby at_147) rfl ?_
              show Steps pP.tables eE below (T26.setTop (mkF mM 149 #[.val (.int base), .val (.int dl), .val (.int mk), .val (.int r2), .val (.int z5), .val (.int z8), .val (.int z11), .val (.int z14), .val (.int z17), .val (.ref bp20), .val (.ref bp26), .unset] [(.int z14)])) _
              refine XS.bipush X26.here hx rfl (hb hby at_149) ?_
              show Steps pP.tables eE below (T26.setTop (mkF mM 151 #[.val (.int base), .val (.int dl), .val (.int mk), .val (.int r2), .val (.int z5), .val (.int z8), .val (.int z11), .val (.int z14), .val (.int z17), .val (.ref bp20), .val (.ref bp26), .unset] [(.int (8 : Int32)), (.int z14)])) _
              refine XS.iand X26.here hx rfl (hb hby at_151) rfl ?_
              show Steps pP.tables eE below (T26.setTop (mkF mM 152 #[.val (.int base), .val (.int dl), .val (.int mk), .val (.int r2), .val (.int z5), .val (.int z8), .val (.int z11), .val (.int z14), .val (.int z17), .val (.ref bp20), .val (.ref bp26), .unset] [(.int (z14 &&& (8 : Int32)))])) _
              refine XS.ifYes X26.here hx rfl (pc0 := 152) (pc' := 170) rfl (hb hby at_152) rfl ((if0 _ _).trans (teq hj152_51).1) (by decide) (by decide) ?_
              show Steps pP.tables eE below (T26.setTop (mkF mM 170 #[.val (.int base), .val (.int dl), .val (.int mk), .val (.int r2), .val (.int z5), .val (.int z8), .val (.int z11), .val (.int z14), .val (.int z17), .val (.ref bp20), .val (.ref bp26), .unset] [])) _
              refine XS.iconst X26.here hx rfl (hb hby at_170) ?_
              show Steps pP.tables eE below (T26.setTop (mkF mM 171 #[.val (.int base), .val (.int dl), .val (.int mk), .val (.int r2), .val (.int z5), .val (.int z8), .val (.int z11), .val (.int z14), .val (.int z17), .val (.ref bp20), .val (.ref bp26), .unset] [(.int (-1 : Int32))])) _
              refine XS.istore X26.here hx rfl (hb hby at_171) rfl (l' := #[.val (.int base), .val (.int dl), .val (.int mk), .val (.int r2), .val (.int z5), .val (.int z8), .val (.int z11), .val (.int z14), .val (.int z17), .val (.ref bp20), .val (.ref bp26), .val (.int (-1 : Int32))]) rfl ?_
              exact kg
            ·
              by_cases hj160_52 : (z17 &&& (8 : Int32)) = (0 : Int32)
              ·
                refine ⟨z11, (by rw [if_neg hj89_33, if_neg hj96_48, if_pos hj109_49, if_pos hj130_50, if_neg hj152_51, if_pos hj160_52]), fun tg kg => ?_⟩
                show Steps pP.tables eE below (T26.setTop (mkF mM 89 #[.val (.int base), .val (.int dl), .val (.int mk), .val (.int r2), .val (.int z5), .val (.int z8), .val (.int z11), .val (.int z14), .val (.int z17), .val (.ref bp20), .val (.ref bp26), .unset] [(.int (z14 &&& (1 : Int32)))])) _
                refine XS.ifNo X26.here hx rfl (hb hby at_89) rfl ((if0 _ _).trans (feq hj89_33).1) ?_
                show Steps pP.tables eE below (T26.setTop (mkF mM 92 #[.val (.int base), .val (.int dl), .val (.int mk), .val (.int r2), .val (.int z5), .val (.int z8), .val (.int z11), .val (.int z14), .val (.int z17), .val (.ref bp20), .val (.ref bp26), .unset] [])) _
                refine XS.iload X26.here hx rfl (hb hby at_92) rfl ?_
                show Steps pP.tables eE below (T26.setTop (mkF mM 94 #[.val (.int base), .val (.int dl), .val (.int mk), .val (.int r2), .val (.int z5), .val (.int z8), .val (.int z11), .val (.int z14), .val (.int z17), .val (.ref bp20), .val (.ref bp26), .unset] [(.int z17)])) _
                refine XS.iconst X26.here hx rfl (hb hby at_94) ?_
                show Steps pP.tables eE below (T26.setTop (mkF mM 95 #[.val (.int base), .val (.int dl), .val (.int mk), .val (.int r2), .val (.int z5), .val (.int z8), .val (.int z11), .val (.int z14), .val (.int z17), .val (.ref bp20), .val (.ref bp26), .unset] [(.int (1 : Int32)), (.int z17)])) _
                refine XS.iand X26.here hx rfl (hb hby at_95) rfl ?_
                show Steps pP.tables eE below (T26.setTop (mkF mM 96 #[.val (.int base), .val (.int dl), .val (.int mk), .val (.int r2), .val (.int z5), .val (.int z8), .val (.int z11), .val (.int z14), .val (.int z17), .val (.ref bp20), .val (.ref bp26), .unset] [(.int (z17 &&& (1 : Int32)))])) _
                refine XS.ifYes X26.here hx rfl (pc0 := 96) (pc' := 105) rfl (hb hby at_96) rfl ((if0 _ _).trans (feq hj96_48).2) (by decide) (by decide) ?_
                show Steps pP.tables eE below (T26.setTop (mkF mM 105 #[.val (.int base), .val (.int dl), .val (.int mk), .val (.int r2), .val (.int z5), .val (.int z8), .val (.int z11), .val (.int z14), .val (.int z17), .val (.ref bp20), .val (.ref bp26), .unset] [])) _
                refine XS.iload X26.here hx rfl (hb hby at_105) rfl ?_
                show Steps pP.tables eE below (T26.setTop (mkF mM 107 #[.val (.int base), .val (.int dl), .val (.int mk), .val (.int r2), .val (.int z5), .val (.int z8), .val (.int z11), .val (.int z14), .val (.int z17), .val (.ref bp20), .val (.ref bp26), .unset] [(.int z14)])) _
                refine XS.iconst X26.here hx rfl (hb hby at_107) ?_
                show Steps pP.tables eE below (T26.setTop (mkF mM 108 #[.val (.int base), .val (.int dl), .val (.int mk), .val (.int r2), .val (.int z5), .val (.int z8), .val (.int z11), .val (.int z14), .val (.int z17), .val (.ref bp20), .val (.ref bp26), .unset] [(.int (2 : Int32)), (.int z14)])) _
                refine XS.iand X26.here hx rfl (hb hby at_108) rfl ?_
                show Steps pP.tables eE below (T26.setTop (mkF mM 109 #[.val (.int base), .val (.int dl), .val (.int mk), .val (.int r2), .val (.int z5), .val (.int z8), .val (.int z11), .val (.int z14), .val (.int z17), .val (.ref bp20), .val (.ref bp26), .unset] [(.int (z14 &&& (2 : Int32)))])) _
                refine XS.ifYes X26.here hx rfl (pc0 := 109) (pc' := 126) rfl (hb hby at_109) rfl ((if0 _ _).trans (teq hj109_49).1) (by decide) (by decide) ?_
                show Steps pP.tables eE below (T26.setTop (mkF mM 126 #[.val (.int base), .val (.int dl), .val (.int mk), .val (.int r2), .val (.int z5), .val (.int z8), .val (.int z11), .val (.int z14), .val (.int z17), .val (.ref bp20), .val (.ref bp26), .unset] [])) _
                refine XS.iload X26.here hx rfl (hb hby at_126) rfl ?_
                show Steps pP.tables eE below (T26.setTop (mkF mM 128 #[.val (.int base), .val (.int dl), .val (.int mk), .val (.int r2), .val (.int z5), .val (.int z8), .val (.int z11), .val (.int z14), .val (.int z17), .val (.ref bp20), .val (.ref bp26), .unset] [(.int z14)])) _
                refine XS.iconst X26.here hx rfl (hb hby at_128) ?_
                show Steps pP.tables eE below (T26.setTop (mkF mM 129 #[.val (.int base), .val (.int dl), .val (.int mk), .val (.int r2), .val (.int z5), .val (.int z8), .val (.int z11), .val (.int z14), .val (.int z17), .val (.ref bp20), .val (.ref bp26), .unset] [(.int (4 : Int32)), (.int z14)])) _
                refine XS.iand X26.here hx rfl (hb hby at_129) rfl ?_
                show Steps pP.tables eE below (T26.setTop (mkF mM 130 #[.val (.int base), .val (.int dl), .val (.int mk), .val (.int r2), .val (.int z5), .val (.int z8), .val (.int z11), .val (.int z14), .val (.int z17), .val (.ref bp20), .val (.ref bp26), .unset] [(.int (z14 &&& (4 : Int32)))])) _
                refine XS.ifYes X26.here hx rfl (pc0 := 130) (pc' := 147) rfl (hb hby at_130) rfl ((if0 _ _).trans (teq hj130_50).1) (by decide) (by decide) ?_
                show Steps pP.tables eE below (T26.setTop (mkF mM 147 #[.val (.int base), .val (.int dl), .val (.int mk), .val (.int r2), .val (.int z5), .val (.int z8), .val (.int z11), .val (.int z14), .val (.int z17), .val (.ref bp20), .val (.ref bp26), .unset] [])) _
                refine XS.iload X26.here hx rfl (hb hby at_147) rfl ?_
                show Steps pP.tables eE below (T26.setTop (mkF mM 149 #[.val (.int base), .val (.int dl), .val (.int mk), .val (.int r2), .val (.int z5), .val (.int z8), .val (.int z11), .val (.int z14), .val (.int z17), .val (.ref bp20), .val (.ref bp26), .unset] [(.int z14)])) _
                refine XS.bipush X26.here hx rfl (hb hby at_149) ?_
                show Steps pP.tables eE below (T26.setTop (mkF mM 151 #[.val (.int base), .val (.int dl), .val (.int mk), .val (.int r2), .val (.int z5), .val (.int z8), .val (.int z11), .val (.int z14), .val (.int z17), .val (.ref bp20), .val (.ref bp26), .unset] [(.int (8 : Int32)), (.int z14)])) _
                refine XS.iand X26.here hx rfl (hb hby at_151) rfl ?_
                show Steps pP.tables eE below (T26.setTop (mkF mM 152 #[.val (.int base), .val (.int dl), .val (.int mk), .val (.int r2), .val (.int z5), .val (.int z8), .val (.int z11), .val (.int z14), .val (.int z17), .val (.ref bp20), .val (.ref bp26), .unset] [(.int (z14 &&& (8 : Int32)))])) _
                refine XS.ifNo X26.here hx rfl (hb hby at_152) rfl ((if0 _ _).trans (feq hj152_51).1) ?_
                show Steps pP.tables eE below (T26.setTop (mkF mM 155 #[.val (.int base), .val (.int dl), .val (.int mk), .val (.int r2), .val (.int z5), .val (.int z8), .val (.int z11), .val (.int z14), .val (.int z17), .val (.ref bp20), .val (.ref bp26), .unset] [])) _
                refine XS.iload X26.here hx rfl (hb hby at_155) rfl ?_
                show Steps pP.tables eE below (T26.setTop (mkF mM 157 #[.val (.int base), .val (.int dl), .val (.int mk), .val (.int r2), .val (.int z5), .val (.int z8), .val (.int z11), .val (.int z14), .val (.int z17), .val (.ref bp20), .val (.ref bp26), .unset] [(.int z17)])) _
                refine XS.bipush X26.here hx rfl (hb hby at_157) ?_
                show Steps pP.tables eE below (T26.setTop (mkF mM 159 #[.val (.int base), .val (.int dl), .val (.int mk), .val (.int r2), .val (.int z5), .val (.int z8), .val (.int z11), .val (.int z14), .val (.int z17), .val (.ref bp20), .val (.ref bp26), .unset] [(.int (8 : Int32)), (.int z17)])) _
                refine XS.iand X26.here hx rfl (hb hby at_159) rfl ?_
                show Steps pP.tables eE below (T26.setTop (mkF mM 160 #[.val (.int base), .val (.int dl), .val (.int mk), .val (.int r2), .val (.int z5), .val (.int z8), .val (.int z11), .val (.int z14), .val (.int z17), .val (.ref bp20), .val (.ref bp26), .unset] [(.int (z17 &&& (8 : Int32)))])) _
                refine XS.ifNo X26.here hx rfl (hb hby at_160) rfl ((if0 _ _).trans (teq hj160_52).2) ?_
                show Steps pP.tables eE below (T26.setTop (mkF mM 163 #[.val (.int base), .val (.int dl), .val (.int mk), .val (.int r2), .val (.int z5), .val (.int z8), .val (.int z11), .val (.int z14), .val (.int z17), .val (.ref bp20), .val (.ref bp26), .unset] [])) _
                refine XS.iload X26.here hx rfl (hb hby at_163) rfl ?_
                show Steps pP.tables eE below (T26.setTop (mkF mM 165 #[.val (.int base), .val (.int dl), .val (.int mk), .val (.int r2), .val (.int z5), .val (.int z8), .val (.int z11), .val (.int z14), .val (.int z17), .val (.ref bp20), .val (.ref bp26), .unset] [(.int z11)])) _
                refine XS.istore X26.here hx rfl (hb hby at_165) rfl (l' := #[.val (.int base), .val (.int dl), .val (.int mk), .val (.int r2), .val (.int z5), .val (.int z8), .val (.int z11), .val (.int z14), .val (.int z17), .val (.ref bp20), .val (.ref bp26), .val (.int z11)]) rfl ?_
                show Steps pP.tables eE below (T26.setTop (mkF mM 167 #[.val (.int base), .val (.int dl), .val (.int mk), .val (.int r2), .val (.int z5), .val (.int z8), .val (.int z11), .val (.int z14), .val (.int z17), .val (.ref bp20), .val (.ref bp26), .val (.int z11)] [])) _
                refine XS.goto X26.here hx rfl (pc0 := 167) (pc' := 173) rfl (hb hby at_167) (by decide) (by decide) ?_
                exact kg
              ·
                refine ⟨(-1 : Int32), (by rw [if_neg hj89_33, if_neg hj96_48, if_pos hj109_49, if_pos hj130_50, if_neg hj152_51, if_neg hj160_52]), fun tg kg => ?_⟩
                show Steps pP.tables eE below (T26.setTop (mkF mM 89 #[.val (.int base), .val (.int dl), .val (.int mk), .val (.int r2), .val (.int z5), .val (.int z8), .val (.int z11), .val (.int z14), .val (.int z17), .val (.ref bp20), .val (.ref bp26), .unset] [(.int (z14 &&& (1 : Int32)))])) _
                refine XS.ifNo X26.here hx rfl (hb hby at_89) rfl ((if0 _ _).trans (feq hj89_33).1) ?_
                show Steps pP.tables eE below (T26.setTop (mkF mM 92 #[.val (.int base), .val (.int dl), .val (.int mk), .val (.int r2), .val (.int z5), .val (.int z8), .val (.int z11), .val (.int z14), .val (.int z17), .val (.ref bp20), .val (.ref bp26), .unset] [])) _
                refine XS.iload X26.here hx rfl (hb hby at_92) rfl ?_
                show Steps pP.tables eE below (T26.setTop (mkF mM 94 #[.val (.int base), .val (.int dl), .val (.int mk), .val (.int r2), .val (.int z5), .val (.int z8), .val (.int z11), .val (.int z14), .val (.int z17), .val (.ref bp20), .val (.ref bp26), .unset] [(.int z17)])) _
                refine XS.iconst X26.here hx rfl (hb hby at_94) ?_
                show Steps pP.tables eE below (T26.setTop (mkF mM 95 #[.val (.int base), .val (.int dl), .val (.int mk), .val (.int r2), .val (.int z5), .val (.int z8), .val (.int z11), .val (.int z14), .val (.int z17), .val (.ref bp20), .val (.ref bp26), .unset] [(.int (1 : Int32)), (.int z17)])) _
                refine XS.iand X26.here hx rfl (hb hby at_95) rfl ?_
                show Steps pP.tables eE below (T26.setTop (mkF mM 96 #[.val (.int base), .val (.int dl), .val (.int mk), .val (.int r2), .val (.int z5), .val (.int z8), .val (.int z11), .val (.int z14), .val (.int z17), .val (.ref bp20), .val (.ref bp26), .unset] [(.int (z17 &&& (1 : Int32)))])) _
                refine XS.ifYes X26.here hx rfl (pc0 := 96) (pc' := 105) rfl (hb hby at_96) rfl ((if0 _ _).trans (feq hj96_48).2) (by decide) (by decide) ?_
                show Steps pP.tables eE below (T26.setTop (mkF mM 105 #[.val (.int base), .val (.int dl), .val (.int mk), .val (.int r2), .val (.int z5), .val (.int z8), .val (.int z11), .val (.int z14), .val (.int z17), .val (.ref bp20), .val (.ref bp26), .unset] [])) _
                refine XS.iload X26.here hx rfl (hb hby at_105) rfl ?_
                show Steps pP.tables eE below (T26.setTop (mkF mM 107 #[.val (.int base), .val (.int dl), .val (.int mk), .val (.int r2), .val (.int z5), .val (.int z8), .val (.int z11), .val (.int z14), .val (.int z17), .val (.ref bp20), .val (.ref bp26), .unset] [(.int z14)])) _
                refine XS.iconst X26.here hx rfl (hb hby at_107) ?_
                show Steps pP.tables eE below (T26.setTop (mkF mM 108 #[.val (.int base), .val (.int dl), .val (.int mk), .val (.int r2), .val (.int z5), .val (.int z8), .val (.int z11), .val (.int z14), .val (.int z17), .val (.ref bp20), .val (.ref bp26), .unset] [(.int (2 : Int32)), (.int z14)])) _
                refine XS.iand X26.here hx rfl (hb hby at_108) rfl ?_
                show Steps pP.tables eE below (T26.setTop (mkF mM 109 #[.val (.int base), .val (.int dl), .val (.int mk), .val (.int r2), .val (.int z5), .val (.int z8), .val (.int z11), .val (.int z14), .val (.int z17), .val (.ref bp20), .val (.ref bp26), .unset] [(.int (z14 &&& (2 : Int32)))])) _
                refine XS.ifYes X26.here hx rfl (pc0 := 109) (pc' := 126) rfl (hb hby at_109) rfl ((if0 _ _).trans (teq hj109_49).1) (by decide) (by decide) ?_
                show Steps pP.tables eE below (T26.setTop (mkF mM 126 #[.val (.int base), .val (.int dl), .val (.int mk), .val (.int r2), .val (.int z5), .val (.int z8), .val (.int z11), .val (.int z14), .val (.int z17), .val (.ref bp20), .val (.ref bp26), .unset] [])) _
                refine XS.iload X26.here hx rfl (hb hby at_126) rfl ?_
                show Steps pP.tables eE below (T26.setTop (mkF mM 128 #[.val (.int base), .val (.int dl), .val (.int mk), .val (.int r2), .val (.int z5), .val (.int z8), .val (.int z11), .val (.int z14), .val (.int z17), .val (.ref bp20), .val (.ref bp26), .unset] [(.int z14)])) _
                refine XS.iconst X26.here hx rfl (hb hby at_128) ?_
                show Steps pP.tables eE below (T26.setTop (mkF mM 129 #[.val (.int base), .val (.int dl), .val (.int mk), .val (.int r2), .val (.int z5), .val (.int z8), .val (.int z11), .val (.int z14), .val (.int z17), .val (.ref bp20), .val (.ref bp26), .unset] [(.int (4 : Int32)), (.int z14)])) _
                refine XS.iand X26.here hx rfl (hb hby at_129) rfl ?_
                show Steps pP.tables eE below (T26.setTop (mkF mM 130 #[.val (.int base), .val (.int dl), .val (.int mk), .val (.int r2), .val (.int z5), .val (.int z8), .val (.int z11), .val (.int z14), .val (.int z17), .val (.ref bp20), .val (.ref bp26), .unset] [(.int (z14 &&& (4 : Int32)))])) _
                refine XS.ifYes X26.here hx rfl (pc0 := 130) (pc' := 147) rfl (hb hby at_130) rfl ((if0 _ _).trans (teq hj130_50).1) (by decide) (by decide) ?_
                show Steps pP.tables eE below (T26.setTop (mkF mM 147 #[.val (.int base), .val (.int dl), .val (.int mk), .val (.int r2), .val (.int z5), .val (.int z8), .val (.int z11), .val (.int z14), .val (.int z17), .val (.ref bp20), .val (.ref bp26), .unset] [])) _
                refine XS.iload X26.here hx rfl (hb hby at_147) rfl ?_
                show Steps pP.tables eE below (T26.setTop (mkF mM 149 #[.val (.int base), .val (.int dl), .val (.int mk), .val (.int r2), .val (.int z5), .val (.int z8), .val (.int z11), .val (.int z14), .val (.int z17), .val (.ref bp20), .val (.ref bp26), .unset] [(.int z14)])) _
                refine XS.bipush X26.here hx rfl (hb hby at_149) ?_
                show Steps pP.tables eE below (T26.setTop (mkF mM 151 #[.val (.int base), .val (.int dl), .val (.int mk), .val (.int r2), .val (.int z5), .val (.int z8), .val (.int z11), .val (.int z14), .val (.int z17), .val (.ref bp20), .val (.ref bp26), .unset] [(.int (8 : Int32)), (.int z14)])) _
                refine XS.iand X26.here hx rfl (hb hby at_151) rfl ?_
                show Steps pP.tables eE below (T26.setTop (mkF mM 152 #[.val (.int base), .val (.int dl), .val (.int mk), .val (.int r2), .val (.int z5), .val (.int z8), .val (.int z11), .val (.int z14), .val (.int z17), .val (.ref bp20), .val (.ref bp26), .unset] [(.int (z14 &&& (8 : Int32)))])) _
                refine XS.ifNo X26.here hx rfl (hb hby at_152) rfl ((if0 _ _).trans (feq hj152_51).1) ?_
                show Steps pP.tables eE below (T26.setTop (mkF mM 155 #[.val (.int base), .val (.int dl), .val (.int mk), .val (.int r2), .val (.int z5), .val (.int z8), .val (.int z11), .val (.int z14), .val (.int z17), .val (.ref bp20), .val (.ref bp26), .unset] [])) _
                refine XS.iload X26.here hx rfl (hb hby at_155) rfl ?_
                show Steps pP.tables eE below (T26.setTop (mkF mM 157 #[.val (.int base), .val (.int dl), .val (.int mk), .val (.int r2), .val (.int z5), .val (.int z8), .val (.int z11), .val (.int z14), .val (.int z17), .val (.ref bp20), .val (.ref bp26), .unset] [(.int z17)])) _
                refine XS.bipush X26.here hx rfl (hb hby at_157) ?_
                show Steps pP.tables eE below (T26.setTop (mkF mM 159 #[.val (.int base), .val (.int dl), .val (.int mk), .val (.int r2), .val (.int z5), .val (.int z8), .val (.int z11), .val (.int z14), .val (.int z17), .val (.ref bp20), .val (.ref bp26), .unset] [(.int (8 : Int32)), (.int z17)])) _
                refine XS.iand X26.here hx rfl (hb hby at_159) rfl ?_
                show Steps pP.tables eE below (T26.setTop (mkF mM 160 #[.val (.int base), .val (.int dl), .val (.int mk), .val (.int r2), .val (.int z5), .val (.int z8), .val (.int z11), .val (.int z14), .val (.int z17), .val (.ref bp20), .val (.ref bp26), .unset] [(.int (z17 &&& (8 : Int32)))])) _
                refine XS.ifYes X26.here hx rfl (pc0 := 160) (pc' := 170) rfl (hb hby at_160) rfl ((if0 _ _).trans (feq hj160_52).2) (by decide) (by decide) ?_
                show Steps pP.tables eE below (T26.setTop (mkF mM 170 #[.val (.int base), .val (.int dl), .val (.int mk), .val (.int r2), .val (.int z5), .val (.int z8), .val (.int z11), .val (.int z14), .val (.int z17), .val (.ref bp20), .val (.ref bp26), .unset] [])) _
                refine XS.iconst X26.here hx rfl (hb hby at_170) ?_
                show Steps pP.tables eE below (T26.setTop (mkF mM 171 #[.val (.int base), .val (.int dl), .val (.int mk), .val (.int r2), .val (.int z5), .val (.int z8), .val (.int z11), .val (.int z14), .val (.int z17), .val (.ref bp20), .val (.ref bp26), .unset] [(.int (-1 : Int32))])) _
                refine XS.istore X26.here hx rfl (hb hby at_171) rfl (l' := #[.val (.int base), .val (.int dl), .val (.int mk), .val (.int r2), .val (.int z5), .val (.int z8), .val (.int z11), .val (.int z14), .val (.int z17), .val (.ref bp20), .val (.ref bp26), .val (.int (-1 : Int32))]) rfl ?_
                exact kg
          ·
            by_cases hj137_53 : (z17 &&& (4 : Int32)) = (0 : Int32)
            ·
              refine ⟨z8, (by rw [if_neg hj89_33, if_neg hj96_48, if_pos hj109_49, if_neg hj130_50, if_pos hj137_53]), fun tg kg => ?_⟩
              show Steps pP.tables eE below (T26.setTop (mkF mM 89 #[.val (.int base), .val (.int dl), .val (.int mk), .val (.int r2), .val (.int z5), .val (.int z8), .val (.int z11), .val (.int z14), .val (.int z17), .val (.ref bp20), .val (.ref bp26), .unset] [(.int (z14 &&& (1 : Int32)))])) _
              refine XS.ifNo X26.here hx rfl (hb hby at_89) rfl ((if0 _ _).trans (feq hj89_33).1) ?_
              show Steps pP.tables eE below (T26.setTop (mkF mM 92 #[.val (.int base), .val (.int dl), .val (.int mk), .val (.int r2), .val (.int z5), .val (.int z8), .val (.int z11), .val (.int z14), .val (.int z17), .val (.ref bp20), .val (.ref bp26), .unset] [])) _
              refine XS.iload X26.here hx rfl (hb hby at_92) rfl ?_
              show Steps pP.tables eE below (T26.setTop (mkF mM 94 #[.val (.int base), .val (.int dl), .val (.int mk), .val (.int r2), .val (.int z5), .val (.int z8), .val (.int z11), .val (.int z14), .val (.int z17), .val (.ref bp20), .val (.ref bp26), .unset] [(.int z17)])) _
              refine XS.iconst X26.here hx rfl (hb hby at_94) ?_
              show Steps pP.tables eE below (T26.setTop (mkF mM 95 #[.val (.int base), .val (.int dl), .val (.int mk), .val (.int r2), .val (.int z5), .val (.int z8), .val (.int z11), .val (.int z14), .val (.int z17), .val (.ref bp20), .val (.ref bp26), .unset] [(.int (1 : Int32)), (.int z17)])) _
              refine XS.iand X26.here hx rfl (hb hby at_95) rfl ?_
              show Steps pP.tables eE below (T26.setTop (mkF mM 96 #[.val (.int base), .val (.int dl), .val (.int mk), .val (.int r2), .val (.int z5), .val (.int z8), .val (.int z11), .val (.int z14), .val (.int z17), .val (.ref bp20), .val (.ref bp26), .unset] [(.int (z17 &&& (1 : Int32)))])) _
              refine XS.ifYes X26.here hx rfl (pc0 := 96) (pc' := 105) rfl (hb hby at_96) rfl ((if0 _ _).trans (feq hj96_48).2) (by decide) (by decide) ?_
              show Steps pP.tables eE below (T26.setTop (mkF mM 105 #[.val (.int base), .val (.int dl), .val (.int mk), .val (.int r2), .val (.int z5), .val (.int z8), .val (.int z11), .val (.int z14), .val (.int z17), .val (.ref bp20), .val (.ref bp26), .unset] [])) _
              refine XS.iload X26.here hx rfl (hb hby at_105) rfl ?_
              show Steps pP.tables eE below (T26.setTop (mkF mM 107 #[.val (.int base), .val (.int dl), .val (.int mk), .val (.int r2), .val (.int z5), .val (.int z8), .val (.int z11), .val (.int z14), .val (.int z17), .val (.ref bp20), .val (.ref bp26), .unset] [(.int z14)])) _
              refine XS.iconst X26.here hx rfl (hb hby at_107) ?_
              show Steps pP.tables eE below (T26.setTop (mkF mM 108 #[.val (.int base), .val (.int dl), .val (.int mk), .val (.int r2), .val (.int z5), .val (.int z8), .val (.int z11), .val (.int z14), .val (.int z17), .val (.ref bp20), .val (.ref bp26), .unset] [(.int (2 : Int32)), (.int z14)])) _
              refine XS.iand X26.here hx rfl (hb hby at_108) rfl ?_
              show Steps pP.tables eE below (T26.setTop (mkF mM 109 #[.val (.int base), .val (.int dl), .val (.int mk), .val (.int r2), .val (.int z5), .val (.int z8), .val (.int z11), .val (.int z14), .val (.int z17), .val (.ref bp20), .val (.ref bp26), .unset] [(.int (z14 &&& (2 : Int32)))])) _
              refine XS.ifYes X26.here hx rfl (pc0 := 109) (pc' := 126) rfl (hb hby at_109) rfl ((if0 _ _).trans (teq hj109_49).1) (by decide) (by decide) ?_
              show Steps pP.tables eE below (T26.setTop (mkF mM 126 #[.val (.int base), .val (.int dl), .val (.int mk), .val (.int r2), .val (.int z5), .val (.int z8), .val (.int z11), .val (.int z14), .val (.int z17), .val (.ref bp20), .val (.ref bp26), .unset] [])) _
              refine XS.iload X26.here hx rfl (hb hby at_126) rfl ?_
              show Steps pP.tables eE below (T26.setTop (mkF mM 128 #[.val (.int base), .val (.int dl), .val (.int mk), .val (.int r2), .val (.int z5), .val (.int z8), .val (.int z11), .val (.int z14), .val (.int z17), .val (.ref bp20), .val (.ref bp26), .unset] [(.int z14)])) _
              refine XS.iconst X26.here hx rfl (hb hby at_128) ?_
              show Steps pP.tables eE below (T26.setTop (mkF mM 129 #[.val (.int base), .val (.int dl), .val (.int mk), .val (.int r2), .val (.int z5), .val (.int z8), .val (.int z11), .val (.int z14), .val (.int z17), .val (.ref bp20), .val (.ref bp26), .unset] [(.int (4 : Int32)), (.int z14)])) _
              refine XS.iand X26.here hx rfl (hb hby at_129) rfl ?_
              show Steps pP.tables eE below (T26.setTop (mkF mM 130 #[.val (.int base), .val (.int dl), .val (.int mk), .val (.int r2), .val (.int z5), .val (.int z8), .val (.int z11), .val (.int z14), .val (.int z17), .val (.ref bp20), .val (.ref bp26), .unset] [(.int (z14 &&& (4 : Int32)))])) _
              refine XS.ifNo X26.here hx rfl (hb hby at_130) rfl ((if0 _ _).trans (feq hj130_50).1) ?_
              show Steps pP.tables eE below (T26.setTop (mkF mM 133 #[.val (.int base), .val (.int dl), .val (.int mk), .val (.int r2), .val (.int z5), .val (.int z8), .val (.int z11), .val (.int z14), .val (.int z17), .val (.ref bp20), .val (.ref bp26), .unset] [])) _
              refine XS.iload X26.here hx rfl (hb hby at_133) rfl ?_
              show Steps pP.tables eE below (T26.setTop (mkF mM 135 #[.val (.int base), .val (.int dl), .val (.int mk), .val (.int r2), .val (.int z5), .val (.int z8), .val (.int z11), .val (.int z14), .val (.int z17), .val (.ref bp20), .val (.ref bp26), .unset] [(.int z17)])) _
              refine XS.iconst X26.here hx rfl (hb hby at_135) ?_
              show Steps pP.tables eE below (T26.setTop (mkF mM 136 #[.val (.int base), .val (.int dl), .val (.int mk), .val (.int r2), .val (.int z5), .val (.int z8), .val (.int z11), .val (.int z14), .val (.int z17), .val (.ref bp20), .val (.ref bp26), .unset] [(.int (4 : Int32)), (.int z17)])) _
              refine XS.iand X26.here hx rfl (hb hby at_136) rfl ?_
              show Steps pP.tables eE below (T26.setTop (mkF mM 137 #[.val (.int base), .val (.int dl), .val (.int mk), .val (.int r2), .val (.int z5), .val (.int z8), .val (.int z11), .val (.int z14), .val (.int z17), .val (.ref bp20), .val (.ref bp26), .unset] [(.int (z17 &&& (4 : Int32)))])) _
              refine XS.ifNo X26.here hx rfl (hb hby at_137) rfl ((if0 _ _).trans (teq hj137_53).2) ?_
              show Steps pP.tables eE below (T26.setTop (mkF mM 140 #[.val (.int base), .val (.int dl), .val (.int mk), .val (.int r2), .val (.int z5), .val (.int z8), .val (.int z11), .val (.int z14), .val (.int z17), .val (.ref bp20), .val (.ref bp26), .unset] [])) _
              refine XS.iload X26.here hx rfl (hb hby at_140) rfl ?_
              show Steps pP.tables eE below (T26.setTop (mkF mM 142 #[.val (.int base), .val (.int dl), .val (.int mk), .val (.int r2), .val (.int z5), .val (.int z8), .val (.int z11), .val (.int z14), .val (.int z17), .val (.ref bp20), .val (.ref bp26), .unset] [(.int z8)])) _
              refine XS.istore X26.here hx rfl (hb hby at_142) rfl (l' := #[.val (.int base), .val (.int dl), .val (.int mk), .val (.int r2), .val (.int z5), .val (.int z8), .val (.int z11), .val (.int z14), .val (.int z17), .val (.ref bp20), .val (.ref bp26), .val (.int z8)]) rfl ?_
              show Steps pP.tables eE below (T26.setTop (mkF mM 144 #[.val (.int base), .val (.int dl), .val (.int mk), .val (.int r2), .val (.int z5), .val (.int z8), .val (.int z11), .val (.int z14), .val (.int z17), .val (.ref bp20), .val (.ref bp26), .val (.int z8)] [])) _
              refine XS.goto X26.here hx rfl (pc0 := 144) (pc' := 173) rfl (hb hby at_144) (by decide) (by decide) ?_
              exact kg
            ·
              by_cases hj152_54 : (z14 &&& (8 : Int32)) = (0 : Int32)
              ·
                refine ⟨(-1 : Int32), (by rw [if_neg hj89_33, if_neg hj96_48, if_pos hj109_49, if_neg hj130_50, if_neg hj137_53, if_pos hj152_54]), fun tg kg => ?_⟩
                show Steps pP.tables eE below (T26.setTop (mkF mM 89 #[.val (.int base), .val (.int dl), .val (.int mk), .val (.int r2), .val (.int z5), .val (.int z8), .val (.int z11), .val (.int z14), .val (.int z17), .val (.ref bp20), .val (.ref bp26), .unset] [(.int (z14 &&& (1 : Int32)))])) _
                refine XS.ifNo X26.here hx rfl (hb hby at_89) rfl ((if0 _ _).trans (feq hj89_33).1) ?_
                show Steps pP.tables eE below (T26.setTop (mkF mM 92 #[.val (.int base), .val (.int dl), .val (.int mk), .val (.int r2), .val (.int z5), .val (.int z8), .val (.int z11), .val (.int z14), .val (.int z17), .val (.ref bp20), .val (.ref bp26), .unset] [])) _
                refine XS.iload X26.here hx rfl (hb hby at_92) rfl ?_
                show Steps pP.tables eE below (T26.setTop (mkF mM 94 #[.val (.int base), .val (.int dl), .val (.int mk), .val (.int r2), .val (.int z5), .val (.int z8), .val (.int z11), .val (.int z14), .val (.int z17), .val (.ref bp20), .val (.ref bp26), .unset] [(.int z17)])) _
                refine XS.iconst X26.here hx rfl (hb hby at_94) ?_
                show Steps pP.tables eE below (T26.setTop (mkF mM 95 #[.val (.int base), .val (.int dl), .val (.int mk), .val (.int r2), .val (.int z5), .val (.int z8), .val (.int z11), .val (.int z14), .val (.int z17), .val (.ref bp20), .val (.ref bp26), .unset] [(.int (1 : Int32)), (.int z17)])) _
                refine XS.iand X26.here hx rfl (hb hby at_95) rfl ?_
                show Steps pP.tables eE below (T26.setTop (mkF mM 96 #[.val (.int base), .val (.int dl), .val (.int mk), .val (.int r2), .val (.int z5), .val (.int z8), .val (.int z11), .val (.int z14), .val (.int z17), .val (.ref bp20), .val (.ref bp26), .unset] [(.int (z17 &&& (1 : Int32)))])) _
                refine XS.ifYes X26.here hx rfl (pc0 := 96) (pc' := 105) rfl (hb hby at_96) rfl ((if0 _ _).trans (feq hj96_48).2) (by decide) (by decide) ?_
                show Steps pP.tables eE below (T26.setTop (mkF mM 105 #[.val (.int base), .val (.int dl), .val (.int mk), .val (.int r2), .val (.int z5), .val (.int z8), .val (.int z11), .val (.int z14), .val (.int z17), .val (.ref bp20), .val (.ref bp26), .unset] [])) _
                refine XS.iload X26.here hx rfl (hb hby at_105) rfl ?_
                show Steps pP.tables eE below (T26.setTop (mkF mM 107 #[.val (.int base), .val (.int dl), .val (.int mk), .val (.int r2), .val (.int z5), .val (.int z8), .val (.int z11), .val (.int z14), .val (.int z17), .val (.ref bp20), .val (.ref bp26), .unset] [(.int z14)])) _
                refine XS.iconst X26.here hx rfl (hb hby at_107) ?_
                show Steps pP.tables eE below (T26.setTop (mkF mM 108 #[.val (.int base), .val (.int dl), .val (.int mk), .val (.int r2), .val (.int z5), .val (.int z8), .val (.int z11), .val (.int z14), .val (.int z17), .val (.ref bp20), .val (.ref bp26), .unset] [(.int (2 : Int32)), (.int z14)])) _
                refine XS.iand X26.here hx rfl (hb hby at_108) rfl ?_
                show Steps pP.tables eE below (T26.setTop (mkF mM 109 #[.val (.int base), .val (.int dl), .val (.int mk), .val (.int r2), .val (.int z5), .val (.int z8), .val (.int z11), .val (.int z14), .val (.int z17), .val (.ref bp20), .val (.ref bp26), .unset] [(.int (z14 &&& (2 : Int32)))])) _
                refine XS.ifYes X26.here hx rfl (pc0 := 109) (pc' := 126) rfl (hb hby at_109) rfl ((if0 _ _).trans (teq hj109_49).1) (by decide) (by decide) ?_
                show Steps pP.tables eE below (T26.setTop (mkF mM 126 #[.val (.int base), .val (.int dl), .val (.int mk), .val (.int r2), .val (.int z5), .val (.int z8), .val (.int z11), .val (.int z14), .val (.int z17), .val (.ref bp20), .val (.ref bp26), .unset] [])) _
                refine XS.iload X26.here hx rfl (hb hby at_126) rfl ?_
                show Steps pP.tables eE below (T26.setTop (mkF mM 128 #[.val (.int base), .val (.int dl), .val (.int mk), .val (.int r2), .val (.int z5), .val (.int z8), .val (.int z11), .val (.int z14), .val (.int z17), .val (.ref bp20), .val (.ref bp26), .unset] [(.int z14)])) _
                refine XS.iconst X26.here hx rfl (hb hby at_128) ?_
                show Steps pP.tables eE below (T26.setTop (mkF mM 129 #[.val (.int base), .val (.int dl), .val (.int mk), .val (.int r2), .val (.int z5), .val (.int z8), .val (.int z11), .val (.int z14), .val (.int z17), .val (.ref bp20), .val (.ref bp26), .unset] [(.int (4 : Int32)), (.int z14)])) _
                refine XS.iand X26.here hx rfl (hb hby at_129) rfl ?_
                show Steps pP.tables eE below (T26.setTop (mkF mM 130 #[.val (.int base), .val (.int dl), .val (.int mk), .val (.int r2), .val (.int z5), .val (.int z8), .val (.int z11), .val (.int z14), .val (.int z17), .val (.ref bp20), .val (.ref bp26), .unset] [(.int (z14 &&& (4 : Int32)))])) _
                refine XS.ifNo X26.here hx rfl (hb hby at_130) rfl ((if0 _ _).trans (feq hj130_50).1) ?_
                show Steps pP.tables eE below (T26.setTop (mkF mM 133 #[.val (.int base), .val (.int dl), .val (.int mk), .val (.int r2), .val (.int z5), .val (.int z8), .val (.int z11), .val (.int z14), .val (.int z17), .val (.ref bp20), .val (.ref bp26), .unset] [])) _
                refine XS.iload X26.here hx rfl (hb hby at_133) rfl ?_
                show Steps pP.tables eE below (T26.setTop (mkF mM 135 #[.val (.int base), .val (.int dl), .val (.int mk), .val (.int r2), .val (.int z5), .val (.int z8), .val (.int z11), .val (.int z14), .val (.int z17), .val (.ref bp20), .val (.ref bp26), .unset] [(.int z17)])) _
                refine XS.iconst X26.here hx rfl (hb hby at_135) ?_
                show Steps pP.tables eE below (T26.setTop (mkF mM 136 #[.val (.int base), .val (.int dl), .val (.int mk), .val (.int r2), .val (.int z5), .val (.int z8), .val (.int z11), .val (.int z14), .val (.int z17), .val (.ref bp20), .val (.ref bp26), .unset] [(.int (4 : Int32)), (.int z17)])) _
                refine XS.iand X26.here hx rfl (hb hby at_136) rfl ?_
                show Steps pP.tables eE below (T26.setTop (mkF mM 137 #[.val (.int base), .val (.int dl), .val (.int mk), .val (.int r2), .val (.int z5), .val (.int z8), .val (.int z11), .val (.int z14), .val (.int z17), .val (.ref bp20), .val (.ref bp26), .unset] [(.int (z17 &&& (4 : Int32)))])) _
                refine XS.ifYes X26.here hx rfl (pc0 := 137) (pc' := 147) rfl (hb hby at_137) rfl ((if0 _ _).trans (feq hj137_53).2) (by decide) (by decide) ?_
                show Steps pP.tables eE below (T26.setTop (mkF mM 147 #[.val (.int base), .val (.int dl), .val (.int mk), .val (.int r2), .val (.int z5), .val (.int z8), .val (.int z11), .val (.int z14), .val (.int z17), .val (.ref bp20), .val (.ref bp26), .unset] [])) _
                refine XS.iload X26.here hx rfl (hb hby at_147) rfl ?_
                show Steps pP.tables eE below (T26.setTop (mkF mM 149 #[.val (.int base), .val (.int dl), .val (.int mk), .val (.int r2), .val (.int z5), .val (.int z8), .val (.int z11), .val (.int z14), .val (.int z17), .val (.ref bp20), .val (.ref bp26), .unset] [(.int z14)])) _
                refine XS.bipush X26.here hx rfl (hb hby at_149) ?_
                show Steps pP.tables eE below (T26.setTop (mkF mM 151 #[.val (.int base), .val (.int dl), .val (.int mk), .val (.int r2), .val (.int z5), .val (.int z8), .val (.int z11), .val (.int z14), .val (.int z17), .val (.ref bp20), .val (.ref bp26), .unset] [(.int (8 : Int32)), (.int z14)])) _
                refine XS.iand X26.here hx rfl (hb hby at_151) rfl ?_
                show Steps pP.tables eE below (T26.setTop (mkF mM 152 #[.val (.int base), .val (.int dl), .val (.int mk), .val (.int r2), .val (.int z5), .val (.int z8), .val (.int z11), .val (.int z14), .val (.int z17), .val (.ref bp20), .val (.ref bp26), .unset] [(.int (z14 &&& (8 : Int32)))])) _
                refine XS.ifYes X26.here hx rfl (pc0 := 152) (pc' := 170) rfl (hb hby at_152) rfl ((if0 _ _).trans (teq hj152_54).1) (by decide) (by decide) ?_
                show Steps pP.tables eE below (T26.setTop (mkF mM 170 #[.val (.int base), .val (.int dl), .val (.int mk), .val (.int r2), .val (.int z5), .val (.int z8), .val (.int z11), .val (.int z14), .val (.int z17), .val (.ref bp20), .val (.ref bp26), .unset] [])) _
                refine XS.iconst X26.here hx rfl (hb hby at_170) ?_
                show Steps pP.tables eE below (T26.setTop (mkF mM 171 #[.val (.int base), .val (.int dl), .val (.int mk), .val (.int r2), .val (.int z5), .val (.int z8), .val (.int z11), .val (.int z14), .val (.int z17), .val (.ref bp20), .val (.ref bp26), .unset] [(.int (-1 : Int32))])) _
                refine XS.istore X26.here hx rfl (hb hby at_171) rfl (l' := #[.val (.int base), .val (.int dl), .val (.int mk), .val (.int r2), .val (.int z5), .val (.int z8), .val (.int z11), .val (.int z14), .val (.int z17), .val (.ref bp20), .val (.ref bp26), .val (.int (-1 : Int32))]) rfl ?_
                exact kg
              ·
                by_cases hj160_55 : (z17 &&& (8 : Int32)) = (0 : Int32)
                ·
                  refine ⟨z11, (by rw [if_neg hj89_33, if_neg hj96_48, if_pos hj109_49, if_neg hj130_50, if_neg hj137_53, if_neg hj152_54, if_pos hj160_55]), fun tg kg => ?_⟩
                  show Steps pP.tables eE below (T26.setTop (mkF mM 89 #[.val (.int base), .val (.int dl), .val (.int mk), .val (.int r2), .val (.int z5), .val (.int z8), .val (.int z11), .val (.int z14), .val (.int z17), .val (.ref bp20), .val (.ref bp26), .unset] [(.int (z14 &&& (1 : Int32)))])) _
                  refine XS.ifNo X26.here hx rfl (hb hby at_89) rfl ((if0 _ _).trans (feq hj89_33).1) ?_
                  show Steps pP.tables eE below (T26.setTop (mkF mM 92 #[.val (.int base), .val (.int dl), .val (.int mk), .val (.int r2), .val (.int z5), .val (.int z8), .val (.int z11), .val (.int z14), .val (.int z17), .val (.ref bp20), .val (.ref bp26), .unset] [])) _
                  refine XS.iload X26.here hx rfl (hb hby at_92) rfl ?_
                  show Steps pP.tables eE below (T26.setTop (mkF mM 94 #[.val (.int base), .val (.int dl), .val (.int mk), .val (.int r2), .val (.int z5), .val (.int z8), .val (.int z11), .val (.int z14), .val (.int z17), .val (.ref bp20), .val (.ref bp26), .unset] [(.int z17)])) _
                  refine XS.iconst X26.here hx rfl (hb hby at_94) ?_
                  show Steps pP.tables eE below (T26.setTop (mkF mM 95 #[.val (.int base), .val (.int dl), .val (.int mk), .val (.int r2), .val (.int z5), .val (.int z8), .val (.int z11), .val (.int z14), .val (.int z17), .val (.ref bp20), .val (.ref bp26), .unset] [(.int (1 : Int32)), (.int z17)])) _
                  refine XS.iand X26.here hx rfl (hb hby at_95) rfl ?_
                  show Steps pP.tables eE below (T26.setTop (mkF mM 96 #[.val (.int base), .val (.int dl), .val (.int mk), .val (.int r2), .val (.int z5), .val (.int z8), .val (.int z11), .val (.int z14), .val (.int z17), .val (.ref bp20), .val (.ref bp26), .unset] [(.int (z17 &&& (1 : Int32)))])) _
                  refine XS.ifYes X26.here hx rfl (pc0 := 96) (pc' := 105) rfl (hb hby at_96) rfl ((if0 _ _).trans (feq hj96_48).2) (by decide) (by decide) ?_
                  show Steps pP.tables eE below (T26.setTop (mkF mM 105 #[.val (.int base), .val (.int dl), .val (.int mk), .val (.int r2), .val (.int z5), .val (.int z8), .val (.int z11), .val (.int z14), .val (.int z17), .val (.ref bp20), .val (.ref bp26), .unset] [])) _
                  refine XS.iload X26.here hx rfl (hb hby at_105) rfl ?_
                  show Steps pP.tables eE below (T26.setTop (mkF mM 107 #[.val (.int base), .val (.int dl), .val (.int mk), .val (.int r2), .val (.int z5), .val (.int z8), .val (.int z11), .val (.int z14), .val (.int z17), .val (.ref bp20), .val (.ref bp26), .unset] [(.int z14)])) _
                  refine XS.iconst X26.here hx rfl (hb hby at_107) ?_
                  show Steps pP.tables eE below (T26.setTop (mkF mM 108 #[.val (.int base), .val (.int dl), .val (.int mk), .val (.int r2), .val (.int z5), .val (.int z8), .val (.int z11), .val (.int z14), .val (.int z17), .val (.ref bp20), .val (.ref bp26), .unset] [(.int (2 : Int32)), (.int z14)])) _
                  refine XS.iand X26.here hx rfl (hb hby at_108) rfl ?_
                  show Steps pP.tables eE below (T26.setTop (mkF mM 109 #[.val (.int base), .val (.int dl), .val (.int mk), .val (.int r2), .val (.int z5), .val (.int z8), .val (.int z11), .val (.int z14), .val (.int z17), .val (.ref bp20), .val (.ref bp26), .unset] [(.int (z14 &&& (2 : Int32)))])) _
                  refine XS.ifYes X26.here hx rfl (pc0 := 109) (pc' := 126) rfl (hb hby at_109) rfl ((if0 _ _).trans (teq hj109_49).1) (by decide) (by decide) ?_
                  show Steps pP.tables eE below (T26.setTop (mkF mM 126 #[.val (.int base), .val (.int dl), .val (.int mk), .val (.int r2), .val (.int z5), .val (.int z8), .val (.int z11), .val (.int z14), .val (.int z17), .val (.ref bp20), .val (.ref bp26), .unset] [])) _
                  refine XS.iload X26.here hx rfl (hb hby at_126) rfl ?_
                  show Steps pP.tables eE below (T26.setTop (mkF mM 128 #[.val (.int base), .val (.int dl), .val (.int mk), .val (.int r2), .val (.int z5), .val (.int z8), .val (.int z11), .val (.int z14), .val (.int z17), .val (.ref bp20), .val (.ref bp26), .unset] [(.int z14)])) _
                  refine XS.iconst X26.here hx rfl (hb hby at_128) ?_
                  show Steps pP.tables eE below (T26.setTop (mkF mM 129 #[.val (.int base), .val (.int dl), .val (.int mk), .val (.int r2), .val (.int z5), .val (.int z8), .val (.int z11), .val (.int z14), .val (.int z17), .val (.ref bp20), .val (.ref bp26), .unset] [(.int (4 : Int32)), (.int z14)])) _
                  refine XS.iand X26.here hx rfl (hb hby at_129) rfl ?_
                  show Steps pP.tables eE below (T26.setTop (mkF mM 130 #[.val (.int base), .val (.int dl), .val (.int mk), .val (.int r2), .val (.int z5), .val (.int z8), .val (.int z11), .val (.int z14), .val (.int z17), .val (.ref bp20), .val (.ref bp26), .unset] [(.int (z14 &&& (4 : Int32)))])) _
                  refine XS.ifNo X26.here hx rfl (hb hby at_130) rfl ((if0 _ _).trans (feq hj130_50).1) ?_
                  show Steps pP.tables eE below (T26.setTop (mkF mM 133 #[.val (.int base), .val (.int dl), .val (.int mk), .val (.int r2), .val (.int z5), .val (.int z8), .val (.int z11), .val (.int z14), .val (.int z17), .val (.ref bp20), .val (.ref bp26), .unset] [])) _
                  refine XS.iload X26.here hx rfl (hb hby at_133) rfl ?_
                  show Steps pP.tables eE below (T26.setTop (mkF mM 135 #[.val (.int base), .val (.int dl), .val (.int mk), .val (.int r2), .val (.int z5), .val (.int z8), .val (.int z11), .val (.int z14), .val (.int z17), .val (.ref bp20), .val (.ref bp26), .unset] [(.int z17)])) _
                  refine XS.iconst X26.here hx rfl (hb hby at_135) ?_
                  show Steps pP.tables eE below (T26.setTop (mkF mM 136 #[.val (.int base), .val (.int dl), .val (.int mk), .val (.int r2), .val (.int z5), .val (.int z8), .val (.int z11), .val (.int z14), .val (.int z17), .val (.ref bp20), .val (.ref bp26), .unset] [(.int (4 : Int32)), (.int z17)])) _
                  refine XS.iand X26.here hx rfl (hb hby at_136) rfl ?_
                  show Steps pP.tables eE below (T26.setTop (mkF mM 137 #[.val (.int base), .val (.int dl), .val (.int mk), .val (.int r2), .val (.int z5), .val (.int z8), .val (.int z11), .val (.int z14), .val (.int z17), .val (.ref bp20), .val (.ref bp26), .unset] [(.int (z17 &&& (4 : Int32)))])) _
                  refine XS.ifYes X26.here hx rfl (pc0 := 137) (pc' := 147) rfl (hb hby at_137) rfl ((if0 _ _).trans (feq hj137_53).2) (by decide) (by decide) ?_
                  show Steps pP.tables eE below (T26.setTop (mkF mM 147 #[.val (.int base), .val (.int dl), .val (.int mk), .val (.int r2), .val (.int z5), .val (.int z8), .val (.int z11), .val (.int z14), .val (.int z17), .val (.ref bp20), .val (.ref bp26), .unset] [])) _
                  refine XS.iload X26.here hx rfl (hb hby at_147) rfl ?_
                  show Steps pP.tables eE below (T26.setTop (mkF mM 149 #[.val (.int base), .val (.int dl), .val (.int mk), .val (.int r2), .val (.int z5), .val (.int z8), .val (.int z11), .val (.int z14), .val (.int z17), .val (.ref bp20), .val (.ref bp26), .unset] [(.int z14)])) _
                  refine XS.bipush X26.here hx rfl (hb hby at_149) ?_
                  show Steps pP.tables eE below (T26.setTop (mkF mM 151 #[.val (.int base), .val (.int dl), .val (.int mk), .val (.int r2), .val (.int z5), .val (.int z8), .val (.int z11), .val (.int z14), .val (.int z17), .val (.ref bp20), .val (.ref bp26), .unset] [(.int (8 : Int32)), (.int z14)])) _
                  refine XS.iand X26.here hx rfl (hb hby at_151) rfl ?_
                  show Steps pP.tables eE below (T26.setTop (mkF mM 152 #[.val (.int base), .val (.int dl), .val (.int mk), .val (.int r2), .val (.int z5), .val (.int z8), .val (.int z11), .val (.int z14), .val (.int z17), .val (.ref bp20), .val (.ref bp26), .unset] [(.int (z14 &&& (8 : Int32)))])) _
                  refine XS.ifNo X26.here hx rfl (hb hby at_152) rfl ((if0 _ _).trans (feq hj152_54).1) ?_
                  show Steps pP.tables eE below (T26.setTop (mkF mM 155 #[.val (.int base), .val (.int dl), .val (.int mk), .val (.int r2), .val (.int z5), .val (.int z8), .val (.int z11), .val (.int z14), .val (.int z17), .val (.ref bp20), .val (.ref bp26), .unset] [])) _
                  refine XS.iload X26.here hx rfl (hb hby at_155) rfl ?_
                  show Steps pP.tables eE below (T26.setTop (mkF mM 157 #[.val (.int base), .val (.int dl), .val (.int mk), .val (.int r2), .val (.int z5), .val (.int z8), .val (.int z11), .val (.int z14), .val (.int z17), .val (.ref bp20), .val (.ref bp26), .unset] [(.int z17)])) _
                  refine XS.bipush X26.here hx rfl (hb hby at_157) ?_
                  show Steps pP.tables eE below (T26.setTop (mkF mM 159 #[.val (.int base), .val (.int dl), .val (.int mk), .val (.int r2), .val (.int z5), .val (.int z8), .val (.int z11), .val (.int z14), .val (.int z17), .val (.ref bp20), .val (.ref bp26), .unset] [(.int (8 : Int32)), (.int z17)])) _
                  refine XS.iand X26.here hx rfl (hb hby at_159) rfl ?_
                  show Steps pP.tables eE below (T26.setTop (mkF mM 160 #[.val (.int base), .val (.int dl), .val (.int mk), .val (.int r2), .val (.int z5), .val (.int z8), .val (.int z11), .val (.int z14), .val (.int z17), .val (.ref bp20), .val (.ref bp26), .unset] [(.int (z17 &&& (8 : Int32)))])) _
                  refine XS.ifNo X26.here hx rfl (hb hby at_160) rfl ((if0 _ _).trans (teq hj160_55).2) ?_
                  show Steps pP.tables eE below (T26.setTop (mkF mM 163 #[.val (.int base), .val (.int dl), .val (.int mk), .val (.int r2), .val (.int z5), .val (.int z8), .val (.int z11), .val (.int z14), .val (.int z17), .val (.ref bp20), .val (.ref bp26), .unset] [])) _
                  refine XS.iload X26.here hx rfl (hb hby at_163) rfl ?_
                  show Steps pP.tables eE below (T26.setTop (mkF mM 165 #[.val (.int base), .val (.int dl), .val (.int mk), .val (.int r2), .val (.int z5), .val (.int z8), .val (.int z11), .val (.int z14), .val (.int z17), .val (.ref bp20), .val (.ref bp26), .unset] [(.int z11)])) _
                  refine XS.istore X26.here hx rfl (hb hby at_165) rfl (l' := #[.val (.int base), .val (.int dl), .val (.int mk), .val (.int r2), .val (.int z5), .val (.int z8), .val (.int z11), .val (.int z14), .val (.int z17), .val (.ref bp20), .val (.ref bp26), .val (.int z11)]) rfl ?_
                  show Steps pP.tables eE below (T26.setTop (mkF mM 167 #[.val (.int base), .val (.int dl), .val (.int mk), .val (.int r2), .val (.int z5), .val (.int z8), .val (.int z11), .val (.int z14), .val (.int z17), .val (.ref bp20), .val (.ref bp26), .val (.int z11)] [])) _
                  refine XS.goto X26.here hx rfl (pc0 := 167) (pc' := 173) rfl (hb hby at_167) (by decide) (by decide) ?_
                  exact kg
                ·
                  refine ⟨(-1 : Int32), (by rw [if_neg hj89_33, if_neg hj96_48, if_pos hj109_49, if_neg hj130_50, if_neg hj137_53, if_neg hj152_54, if_neg hj160_55]), fun tg kg => ?_⟩
                  show Steps pP.tables eE below (T26.setTop (mkF mM 89 #[.val (.int base), .val (.int dl), .val (.int mk), .val (.int r2), .val (.int z5), .val (.int z8), .val (.int z11), .val (.int z14), .val (.int z17), .val (.ref bp20), .val (.ref bp26), .unset] [(.int (z14 &&& (1 : Int32)))])) _
                  refine XS.ifNo X26.here hx rfl (hb hby at_89) rfl ((if0 _ _).trans (feq hj89_33).1) ?_
                  show Steps pP.tables eE below (T26.setTop (mkF mM 92 #[.val (.int base), .val (.int dl), .val (.int mk), .val (.int r2), .val (.int z5), .val (.int z8), .val (.int z11), .val (.int z14), .val (.int z17), .val (.ref bp20), .val (.ref bp26), .unset] [])) _
                  refine XS.iload X26.here hx rfl (hb hby at_92) rfl ?_
                  show Steps pP.tables eE below (T26.setTop (mkF mM 94 #[.val (.int base), .val (.int dl), .val (.int mk), .val (.int r2), .val (.int z5), .val (.int z8), .val (.int z11), .val (.int z14), .val (.int z17), .val (.ref bp20), .val (.ref bp26), .unset] [(.int z17)])) _
                  refine XS.iconst X26.here hx rfl (hb hby at_94) ?_
                  show Steps pP.tables eE below (T26.setTop (mkF mM 95 #[.val (.int base), .val (.int dl), .val (.int mk), .val (.int r2), .val (.int z5), .val (.int z8), .val (.int z11), .val (.int z14), .val (.int z17), .val (.ref bp20), .val (.ref bp26), .unset] [(.int (1 : Int32)), (.int z17)])) _
                  refine XS.iand X26.here hx rfl (hb hby at_95) rfl ?_
                  show Steps pP.tables eE below (T26.setTop (mkF mM 96 #[.val (.int base), .val (.int dl), .val (.int mk), .val (.int r2), .val (.int z5), .val (.int z8), .val (.int z11), .val (.int z14), .val (.int z17), .val (.ref bp20), .val (.ref bp26), .unset] [(.int (z17 &&& (1 : Int32)))])) _
                  refine XS.ifYes X26.here hx rfl (pc0 := 96) (pc' := 105) rfl (hb hby at_96) rfl ((if0 _ _).trans (feq hj96_48).2) (by decide) (by decide) ?_
                  show Steps pP.tables eE below (T26.setTop (mkF mM 105 #[.val (.int base), .val (.int dl), .val (.int mk), .val (.int r2), .val (.int z5), .val (.int z8), .val (.int z11), .val (.int z14), .val (.int z17), .val (.ref bp20), .val (.ref bp26), .unset] [])) _
                  refine XS.iload X26.here hx rfl (hb hby at_105) rfl ?_
                  show Steps pP.tables eE below (T26.setTop (mkF mM 107 #[.val (.int base), .val (.int dl), .val (.int mk), .val (.int r2), .val (.int z5), .val (.int z8), .val (.int z11), .val (.int z14), .val (.int z17), .val (.ref bp20), .val (.ref bp26), .unset] [(.int z14)])) _
                  refine XS.iconst X26.here hx rfl (hb hby at_107) ?_
                  show Steps pP.tables eE below (T26.setTop (mkF mM 108 #[.val (.int base), .val (.int dl), .val (.int mk), .val (.int r2), .val (.int z5), .val (.int z8), .val (.int z11), .val (.int z14), .val (.int z17), .val (.ref bp20), .val (.ref bp26), .unset] [(.int (2 : Int32)), (.int z14)])) _
                  refine XS.iand X26.here hx rfl (hb hby at_108) rfl ?_
                  show Steps pP.tables eE below (T26.setTop (mkF mM 109 #[.val (.int base), .val (.int dl), .val (.int mk), .val (.int r2), .val (.int z5), .val (.int z8), .val (.int z11), .val (.int z14), .val (.int z17), .val (.ref bp20), .val (.ref bp26), .unset] [(.int (z14 &&& (2 : Int32)))])) _
                  refine XS.ifYes X26.here hx rfl (pc0 := 109) (pc' := 126) rfl (hb hby at_109) rfl ((if0 _ _).trans (teq hj109_49).1) (by decide) (by decide) ?_
                  show Steps pP.tables eE below (T26.setTop (mkF mM 126 #[.val (.int base), .val (.int dl), .val (.int mk), .val (.int r2), .val (.int z5), .val (.int z8), .val (.int z11), .val (.int z14), .val (.int z17), .val (.ref bp20), .val (.ref bp26), .unset] [])) _
                  refine XS.iload X26.here hx rfl (hb hby at_126) rfl ?_
                  show Steps pP.tables eE below (T26.setTop (mkF mM 128 #[.val (.int base), .val (.int dl), .val (.int mk), .val (.int r2), .val (.int z5), .val (.int z8), .val (.int z11), .val (.int z14), .val (.int z17), .val (.ref bp20), .val (.ref bp26), .unset] [(.int z14)])) _
                  refine XS.iconst X26.here hx rfl (hb hby at_128) ?_
                  show Steps pP.tables eE below (T26.setTop (mkF mM 129 #[.val (.int base), .val (.int dl), .val (.int mk), .val (.int r2), .val (.int z5), .val (.int z8), .val (.int z11), .val (.int z14), .val (.int z17), .val (.ref bp20), .val (.ref bp26), .unset] [(.int (4 : Int32)), (.int z14)])) _
                  refine XS.iand X26.here hx rfl (hb hby at_129) rfl ?_
                  show Steps pP.tables eE below (T26.setTop (mkF mM 130 #[.val (.int base), .val (.int dl), .val (.int mk), .val (.int r2), .val (.int z5), .val (.int z8), .val (.int z11), .val (.int z14), .val (.int z17), .val (.ref bp20), .val (.ref bp26), .unset] [(.int (z14 &&& (4 : Int32)))])) _
                  refine XS.ifNo X26.here hx rfl (hb hby at_130) rfl ((if0 _ _).trans (feq hj130_50).1) ?_
                  show Steps pP.tables eE below (T26.setTop (mkF mM 133 #[.val (.int base), .val (.int dl), .val (.int mk), .val (.int r2), .val (.int z5), .val (.int z8), .val (.int z11), .val (.int z14), .val (.int z17), .val (.ref bp20), .val (.ref bp26), .unset] [])) _
                  refine XS.iload X26.here hx rfl (hb hby at_133) rfl ?_
                  show Steps pP.tables eE below (T26.setTop (mkF mM 135 #[.val (.int base), .val (.int dl), .val (.int mk), .val (.int r2), .val (.int z5), .val (.int z8), .val (.int z11), .val (.int z14), .val (.int z17), .val (.ref bp20), .val (.ref bp26), .unset] [(.int z17)])) _
                  refine XS.iconst X26.here hx rfl (hb hby at_135) ?_
                  show Steps pP.tables eE below (T26.setTop (mkF mM 136 #[.val (.int base), .val (.int dl), .val (.int mk), .val (.int r2), .val (.int z5), .val (.int z8), .val (.int z11), .val (.int z14), .val (.int z17), .val (.ref bp20), .val (.ref bp26), .unset] [(.int (4 : Int32)), (.int z17)])) _
                  refine XS.iand X26.here hx rfl (hb hby at_136) rfl ?_
                  show Steps pP.tables eE below (T26.setTop (mkF mM 137 #[.val (.int base), .val (.int dl), .val (.int mk), .val (.int r2), .val (.int z5), .val (.int z8), .val (.int z11), .val (.int z14), .val (.int z17), .val (.ref bp20), .val (.ref bp26), .unset] [(.int (z17 &&& (4 : Int32)))])) _
                  refine XS.ifYes X26.here hx rfl (pc0 := 137) (pc' := 147) rfl (hb hby at_137) rfl ((if0 _ _).trans (feq hj137_53).2) (by decide) (by decide) ?_
                  show Steps pP.tables eE below (T26.setTop (mkF mM 147 #[.val (.int base), .val (.int dl), .val (.int mk), .val (.int r2), .val (.int z5), .val (.int z8), .val (.int z11), .val (.int z14), .val (.int z17), .val (.ref bp20), .val (.ref bp26), .unset] [])) _
                  refine XS.iload X26.here hx rfl (hb hby at_147) rfl ?_
                  show Steps pP.tables eE below (T26.setTop (mkF mM 149 #[.val (.int base), .val (.int dl), .val (.int mk), .val (.int r2), .val (.int z5), .val (.int z8), .val (.int z11), .val (.int z14), .val (.int z17), .val (.ref bp20), .val (.ref bp26), .unset] [(.int z14)])) _
                  refine XS.bipush X26.here hx rfl (hb hby at_149) ?_
                  show Steps pP.tables eE below (T26.setTop (mkF mM 151 #[.val (.int base), .val (.int dl), .val (.int mk), .val (.int r2), .val (.int z5), .val (.int z8), .val (.int z11), .val (.int z14), .val (.int z17), .val (.ref bp20), .val (.ref bp26), .unset] [(.int (8 : Int32)), (.int z14)])) _
                  refine XS.iand X26.here hx rfl (hb hby at_151) rfl ?_
                  show Steps pP.tables eE below (T26.setTop (mkF mM 152 #[.val (.int base), .val (.int dl), .val (.int mk), .val (.int r2), .val (.int z5), .val (.int z8), .val (.int z11), .val (.int z14), .val (.int z17), .val (.ref bp20), .val (.ref bp26), .unset] [(.int (z14 &&& (8 : Int32)))])) _
                  refine XS.ifNo X26.here hx rfl (hb hby at_152) rfl ((if0 _ _).trans (feq hj152_54).1) ?_
                  show Steps pP.tables eE below (T26.setTop (mkF mM 155 #[.val (.int base), .val (.int dl), .val (.int mk), .val (.int r2), .val (.int z5), .val (.int z8), .val (.int z11), .val (.int z14), .val (.int z17), .val (.ref bp20), .val (.ref bp26), .unset] [])) _
                  refine XS.iload X26.here hx rfl (hb hby at_155) rfl ?_
                  show Steps pP.tables eE below (T26.setTop (mkF mM 157 #[.val (.int base), .val (.int dl), .val (.int mk), .val (.int r2), .val (.int z5), .val (.int z8), .val (.int z11), .val (.int z14), .val (.int z17), .val (.ref bp20), .val (.ref bp26), .unset] [(.int z17)])) _
                  refine XS.bipush X26.here hx rfl (hb hby at_157) ?_
                  show Steps pP.tables eE below (T26.setTop (mkF mM 159 #[.val (.int base), .val (.int dl), .val (.int mk), .val (.int r2), .val (.int z5), .val (.int z8), .val (.int z11), .val (.int z14), .val (.int z17), .val (.ref bp20), .val (.ref bp26), .unset] [(.int (8 : Int32)), (.int z17)])) _
                  refine XS.iand X26.here hx rfl (hb hby at_159) rfl ?_
                  show Steps pP.tables eE below (T26.setTop (mkF mM 160 #[.val (.int base), .val (.int dl), .val (.int mk), .val (.int r2), .val (.int z5), .val (.int z8), .val (.int z11), .val (.int z14), .val (.int z17), .val (.ref bp20), .val (.ref bp26), .unset] [(.int (z17 &&& (8 : Int32)))])) _
                  refine XS.ifYes X26.here hx rfl (pc0 := 160) (pc' := 170) rfl (hb hby at_160) rfl ((if0 _ _).trans (feq hj160_55).2) (by decide) (by decide) ?_
                  show Steps pP.tables eE below (T26.setTop (mkF mM 170 #[.val (.int base), .val (.int dl), .val (.int mk), .val (.int r2), .val (.int z5), .val (.int z8), .val (.int z11), .val (.int z14), .val (.int z17), .val (.ref bp20), .val (.ref bp26), .unset] [])) _
                  refine XS.iconst X26.here hx rfl (hb hby at_170) ?_
                  show Steps pP.tables eE below (T26.setTop (mkF mM 171 #[.val (.int base), .val (.int dl), .val (.int mk), .val (.int r2), .val (.int z5), .val (.int z8), .val (.int z11), .val (.int z14), .val (.int z17), .val (.ref bp20), .val (.ref bp26), .unset] [(.int (-1 : Int32))])) _
                  refine XS.istore X26.here hx rfl (hb hby at_171) rfl (l' := #[.val (.int base), .val (.int dl), .val (.int mk), .val (.int r2), .val (.int z5), .val (.int z8), .val (.int z11), .val (.int z14), .val (.int z17), .val (.ref bp20), .val (.ref bp26), .val (.int (-1 : Int32))]) rfl ?_
                  exact kg
        ·
          by_cases hj116_56 : (z17 &&& (2 : Int32)) = (0 : Int32)
          ·
            refine ⟨z5, (by rw [if_neg hj89_33, if_neg hj96_48, if_neg hj109_49, if_pos hj116_56]), fun tg kg => ?_⟩
            show Steps pP.tables eE below (T26.setTop (mkF mM 89 #[.val (.int base), .val (.int dl), .val (.int mk), .val (.int r2), .val (.int z5), .val (.int z8), .val (.int z11), .val (.int z14), .val (.int z17), .val (.ref bp20), .val (.ref bp26), .unset] [(.int (z14 &&& (1 : Int32)))])) _
            refine XS.ifNo X26.here hx rfl (hb hby at_89) rfl ((if0 _ _).trans (feq hj89_33).1) ?_
            show Steps pP.tables eE below (T26.setTop (mkF mM 92 #[.val (.int base), .val (.int dl), .val (.int mk), .val (.int r2), .val (.int z5), .val (.int z8), .val (.int z11), .val (.int z14), .val (.int z17), .val (.ref bp20), .val (.ref bp26), .unset] [])) _
            refine XS.iload X26.here hx rfl (hb hby at_92) rfl ?_
            show Steps pP.tables eE below (T26.setTop (mkF mM 94 #[.val (.int base), .val (.int dl), .val (.int mk), .val (.int r2), .val (.int z5), .val (.int z8), .val (.int z11), .val (.int z14), .val (.int z17), .val (.ref bp20), .val (.ref bp26), .unset] [(.int z17)])) _
            refine XS.iconst X26.here hx rfl (hb hby at_94) ?_
            show Steps pP.tables eE below (T26.setTop (mkF mM 95 #[.val (.int base), .val (.int dl), .val (.int mk), .val (.int r2), .val (.int z5), .val (.int z8), .val (.int z11), .val (.int z14), .val (.int z17), .val (.ref bp20), .val (.ref bp26), .unset] [(.int (1 : Int32)), (.int z17)])) _
            refine XS.iand X26.here hx rfl (hb hby at_95) rfl ?_
            show Steps pP.tables eE below (T26.setTop (mkF mM 96 #[.val (.int base), .val (.int dl), .val (.int mk), .val (.int r2), .val (.int z5), .val (.int z8), .val (.int z11), .val (.int z14), .val (.int z17), .val (.ref bp20), .val (.ref bp26), .unset] [(.int (z17 &&& (1 : Int32)))])) _
            refine XS.ifYes X26.here hx rfl (pc0 := 96) (pc' := 105) rfl (hb hby at_96) rfl ((if0 _ _).trans (feq hj96_48).2) (by decide) (by decide) ?_
            show Steps pP.tables eE below (T26.setTop (mkF mM 105 #[.val (.int base), .val (.int dl), .val (.int mk), .val (.int r2), .val (.int z5), .val (.int z8), .val (.int z11), .val (.int z14), .val (.int z17), .val (.ref bp20), .val (.ref bp26), .unset] [])) _
            refine XS.iload X26.here hx rfl (hb hby at_105) rfl ?_
            show Steps pP.tables eE below (T26.setTop (mkF mM 107 #[.val (.int base), .val (.int dl), .val (.int mk), .val (.int r2), .val (.int z5), .val (.int z8), .val (.int z11), .val (.int z14), .val (.int z17), .val (.ref bp20), .val (.ref bp26), .unset] [(.int z14)])) _
            refine XS.iconst X26.here hx rfl (hb hby at_107) ?_
            show Steps pP.tables eE below (T26.setTop (mkF mM 108 #[.val (.int base), .val (.int dl), .val (.int mk), .val (.int r2), .val (.int z5), .val (.int z8), .val (.int z11), .val (.int z14), .val (.int z17), .val (.ref bp20), .val (.ref bp26), .unset] [(.int (2 : Int32)), (.int z14)])) _
            refine XS.iand X26.here hx rfl (hb hby at_108) rfl ?_
            show Steps pP.tables eE below (T26.setTop (mkF mM 109 #[.val (.int base), .val (.int dl), .val (.int mk), .val (.int r2), .val (.int z5), .val (.int z8), .val (.int z11), .val (.int z14), .val (.int z17), .val (.ref bp20), .val (.ref bp26), .unset] [(.int (z14 &&& (2 : Int32)))])) _
            refine XS.ifNo X26.here hx rfl (hb hby at_109) rfl ((if0 _ _).trans (feq hj109_49).1) ?_
            show Steps pP.tables eE below (T26.setTop (mkF mM 112 #[.val (.int base), .val (.int dl), .val (.int mk), .val (.int r2), .val (.int z5), .val (.int z8), .val (.int z11), .val (.int z14), .val (.int z17), .val (.ref bp20), .val (.ref bp26), .unset] [])) _
            refine XS.iload X26.here hx rfl (hb hby at_112) rfl ?_
            show Steps pP.tables eE below (T26.setTop (mkF mM 114 #[.val (.int base), .val (.int dl), .val (.int mk), .val (.int r2), .val (.int z5), .val (.int z8), .val (.int z11), .val (.int z14), .val (.int z17), .val (.ref bp20), .val (.ref bp26), .unset] [(.int z17)])) _
            refine XS.iconst X26.here hx rfl (hb hby at_114) ?_
            show Steps pP.tables eE below (T26.setTop (mkF mM 115 #[.val (.int base), .val (.int dl), .val (.int mk), .val (.int r2), .val (.int z5), .val (.int z8), .val (.int z11), .val (.int z14), .val (.int z17), .val (.ref bp20), .val (.ref bp26), .unset] [(.int (2 : Int32)), (.int z17)])) _
            refine XS.iand X26.here hx rfl (hb hby at_115) rfl ?_
            show Steps pP.tables eE below (T26.setTop (mkF mM 116 #[.val (.int base), .val (.int dl), .val (.int mk), .val (.int r2), .val (.int z5), .val (.int z8), .val (.int z11), .val (.int z14), .val (.int z17), .val (.ref bp20), .val (.ref bp26), .unset] [(.int (z17 &&& (2 : Int32)))])) _
            refine XS.ifNo X26.here hx rfl (hb hby at_116) rfl ((if0 _ _).trans (teq hj116_56).2) ?_
            show Steps pP.tables eE below (T26.setTop (mkF mM 119 #[.val (.int base), .val (.int dl), .val (.int mk), .val (.int r2), .val (.int z5), .val (.int z8), .val (.int z11), .val (.int z14), .val (.int z17), .val (.ref bp20), .val (.ref bp26), .unset] [])) _
            refine XS.iload X26.here hx rfl (hb hby at_119) rfl ?_
            show Steps pP.tables eE below (T26.setTop (mkF mM 121 #[.val (.int base), .val (.int dl), .val (.int mk), .val (.int r2), .val (.int z5), .val (.int z8), .val (.int z11), .val (.int z14), .val (.int z17), .val (.ref bp20), .val (.ref bp26), .unset] [(.int z5)])) _
            refine XS.istore X26.here hx rfl (hb hby at_121) rfl (l' := #[.val (.int base), .val (.int dl), .val (.int mk), .val (.int r2), .val (.int z5), .val (.int z8), .val (.int z11), .val (.int z14), .val (.int z17), .val (.ref bp20), .val (.ref bp26), .val (.int z5)]) rfl ?_
            show Steps pP.tables eE below (T26.setTop (mkF mM 123 #[.val (.int base), .val (.int dl), .val (.int mk), .val (.int r2), .val (.int z5), .val (.int z8), .val (.int z11), .val (.int z14), .val (.int z17), .val (.ref bp20), .val (.ref bp26), .val (.int z5)] [])) _
            refine XS.goto X26.here hx rfl (pc0 := 123) (pc' := 173) rfl (hb hby at_123) (by decide) (by decide) ?_
            exact kg
          ·
            by_cases hj130_57 : (z14 &&& (4 : Int32)) = (0 : Int32)
            ·
              by_cases hj152_58 : (z14 &&& (8 : Int32)) = (0 : Int32)
              ·
                refine ⟨(-1 : Int32), (by rw [if_neg hj89_33, if_neg hj96_48, if_neg hj109_49, if_neg hj116_56, if_pos hj130_57, if_pos hj152_58]), fun tg kg => ?_⟩
                show Steps pP.tables eE below (T26.setTop (mkF mM 89 #[.val (.int base), .val (.int dl), .val (.int mk), .val (.int r2), .val (.int z5), .val (.int z8), .val (.int z11), .val (.int z14), .val (.int z17), .val (.ref bp20), .val (.ref bp26), .unset] [(.int (z14 &&& (1 : Int32)))])) _
                refine XS.ifNo X26.here hx rfl (hb hby at_89) rfl ((if0 _ _).trans (feq hj89_33).1) ?_
                show Steps pP.tables eE below (T26.setTop (mkF mM 92 #[.val (.int base), .val (.int dl), .val (.int mk), .val (.int r2), .val (.int z5), .val (.int z8), .val (.int z11), .val (.int z14), .val (.int z17), .val (.ref bp20), .val (.ref bp26), .unset] [])) _
                refine XS.iload X26.here hx rfl (hb hby at_92) rfl ?_
                show Steps pP.tables eE below (T26.setTop (mkF mM 94 #[.val (.int base), .val (.int dl), .val (.int mk), .val (.int r2), .val (.int z5), .val (.int z8), .val (.int z11), .val (.int z14), .val (.int z17), .val (.ref bp20), .val (.ref bp26), .unset] [(.int z17)])) _
                refine XS.iconst X26.here hx rfl (hb hby at_94) ?_
                show Steps pP.tables eE below (T26.setTop (mkF mM 95 #[.val (.int base), .val (.int dl), .val (.int mk), .val (.int r2), .val (.int z5), .val (.int z8), .val (.int z11), .val (.int z14), .val (.int z17), .val (.ref bp20), .val (.ref bp26), .unset] [(.int (1 : Int32)), (.int z17)])) _
                refine XS.iand X26.here hx rfl (hb hby at_95) rfl ?_
                show Steps pP.tables eE below (T26.setTop (mkF mM 96 #[.val (.int base), .val (.int dl), .val (.int mk), .val (.int r2), .val (.int z5), .val (.int z8), .val (.int z11), .val (.int z14), .val (.int z17), .val (.ref bp20), .val (.ref bp26), .unset] [(.int (z17 &&& (1 : Int32)))])) _
                refine XS.ifYes X26.here hx rfl (pc0 := 96) (pc' := 105) rfl (hb hby at_96) rfl ((if0 _ _).trans (feq hj96_48).2) (by decide) (by decide) ?_
                show Steps pP.tables eE below (T26.setTop (mkF mM 105 #[.val (.int base), .val (.int dl), .val (.int mk), .val (.int r2), .val (.int z5), .val (.int z8), .val (.int z11), .val (.int z14), .val (.int z17), .val (.ref bp20), .val (.ref bp26), .unset] [])) _
                refine XS.iload X26.here hx rfl (hb hby at_105) rfl ?_
                show Steps pP.tables eE below (T26.setTop (mkF mM 107 #[.val (.int base), .val (.int dl), .val (.int mk), .val (.int r2), .val (.int z5), .val (.int z8), .val (.int z11), .val (.int z14), .val (.int z17), .val (.ref bp20), .val (.ref bp26), .unset] [(.int z14)])) _
                refine XS.iconst X26.here hx rfl (hb hby at_107) ?_
                show Steps pP.tables eE below (T26.setTop (mkF mM 108 #[.val (.int base), .val (.int dl), .val (.int mk), .val (.int r2), .val (.int z5), .val (.int z8), .val (.int z11), .val (.int z14), .val (.int z17), .val (.ref bp20), .val (.ref bp26), .unset] [(.int (2 : Int32)), (.int z14)])) _
                refine XS.iand X26.here hx rfl (hb hby at_108) rfl ?_
                show Steps pP.tables eE below (T26.setTop (mkF mM 109 #[.val (.int base), .val (.int dl), .val (.int mk), .val (.int r2), .val (.int z5), .val (.int z8), .val (.int z11), .val (.int z14), .val (.int z17), .val (.ref bp20), .val (.ref bp26), .unset] [(.int (z14 &&& (2 : Int32)))])) _
                refine XS.ifNo X26.here hx rfl (hb hby at_109) rfl ((if0 _ _).trans (feq hj109_49).1) ?_
                show Steps pP.tables eE below (T26.setTop (mkF mM 112 #[.val (.int base), .val (.int dl), .val (.int mk), .val (.int r2), .val (.int z5), .val (.int z8), .val (.int z11), .val (.int z14), .val (.int z17), .val (.ref bp20), .val (.ref bp26), .unset] [])) _
                refine XS.iload X26.here hx rfl (hb hby at_112) rfl ?_
                show Steps pP.tables eE below (T26.setTop (mkF mM 114 #[.val (.int base), .val (.int dl), .val (.int mk), .val (.int r2), .val (.int z5), .val (.int z8), .val (.int z11), .val (.int z14), .val (.int z17), .val (.ref bp20), .val (.ref bp26), .unset] [(.int z17)])) _
                refine XS.iconst X26.here hx rfl (hb hby at_114) ?_
                show Steps pP.tables eE below (T26.setTop (mkF mM 115 #[.val (.int base), .val (.int dl), .val (.int mk), .val (.int r2), .val (.int z5), .val (.int z8), .val (.int z11), .val (.int z14), .val (.int z17), .val (.ref bp20), .val (.ref bp26), .unset] [(.int (2 : Int32)), (.int z17)])) _
                refine XS.iand X26.here hx rfl (hb hby at_115) rfl ?_
                show Steps pP.tables eE below (T26.setTop (mkF mM 116 #[.val (.int base), .val (.int dl), .val (.int mk), .val (.int r2), .val (.int z5), .val (.int z8), .val (.int z11), .val (.int z14), .val (.int z17), .val (.ref bp20), .val (.ref bp26), .unset] [(.int (z17 &&& (2 : Int32)))])) _
                refine XS.ifYes X26.here hx rfl (pc0 := 116) (pc' := 126) rfl (hb hby at_116) rfl ((if0 _ _).trans (feq hj116_56).2) (by decide) (by decide) ?_
                show Steps pP.tables eE below (T26.setTop (mkF mM 126 #[.val (.int base), .val (.int dl), .val (.int mk), .val (.int r2), .val (.int z5), .val (.int z8), .val (.int z11), .val (.int z14), .val (.int z17), .val (.ref bp20), .val (.ref bp26), .unset] [])) _
                refine XS.iload X26.here hx rfl (hb hby at_126) rfl ?_
                show Steps pP.tables eE below (T26.setTop (mkF mM 128 #[.val (.int base), .val (.int dl), .val (.int mk), .val (.int r2), .val (.int z5), .val (.int z8), .val (.int z11), .val (.int z14), .val (.int z17), .val (.ref bp20), .val (.ref bp26), .unset] [(.int z14)])) _
                refine XS.iconst X26.here hx rfl (hb hby at_128) ?_
                show Steps pP.tables eE below (T26.setTop (mkF mM 129 #[.val (.int base), .val (.int dl), .val (.int mk), .val (.int r2), .val (.int z5), .val (.int z8), .val (.int z11), .val (.int z14), .val (.int z17), .val (.ref bp20), .val (.ref bp26), .unset] [(.int (4 : Int32)), (.int z14)])) _
                refine XS.iand X26.here hx rfl (hb hby at_129) rfl ?_
                show Steps pP.tables eE below (T26.setTop (mkF mM 130 #[.val (.int base), .val (.int dl), .val (.int mk), .val (.int r2), .val (.int z5), .val (.int z8), .val (.int z11), .val (.int z14), .val (.int z17), .val (.ref bp20), .val (.ref bp26), .unset] [(.int (z14 &&& (4 : Int32)))])) _
                refine XS.ifYes X26.here hx rfl (pc0 := 130) (pc' := 147) rfl (hb hby at_130) rfl ((if0 _ _).trans (teq hj130_57).1) (by decide) (by decide) ?_
                show Steps pP.tables eE below (T26.setTop (mkF mM 147 #[.val (.int base), .val (.int dl), .val (.int mk), .val (.int r2), .val (.int z5), .val (.int z8), .val (.int z11), .val (.int z14), .val (.int z17), .val (.ref bp20), .val (.ref bp26), .unset] [])) _
                refine XS.iload X26.here hx rfl (hb hby at_147) rfl ?_
                show Steps pP.tables eE below (T26.setTop (mkF mM 149 #[.val (.int base), .val (.int dl), .val (.int mk), .val (.int r2), .val (.int z5), .val (.int z8), .val (.int z11), .val (.int z14), .val (.int z17), .val (.ref bp20), .val (.ref bp26), .unset] [(.int z14)])) _
                refine XS.bipush X26.here hx rfl (hb hby at_149) ?_
                show Steps pP.tables eE below (T26.setTop (mkF mM 151 #[.val (.int base), .val (.int dl), .val (.int mk), .val (.int r2), .val (.int z5), .val (.int z8), .val (.int z11), .val (.int z14), .val (.int z17), .val (.ref bp20), .val (.ref bp26), .unset] [(.int (8 : Int32)), (.int z14)])) _
                refine XS.iand X26.here hx rfl (hb hby at_151) rfl ?_
                show Steps pP.tables eE below (T26.setTop (mkF mM 152 #[.val (.int base), .val (.int dl), .val (.int mk), .val (.int r2), .val (.int z5), .val (.int z8), .val (.int z11), .val (.int z14), .val (.int z17), .val (.ref bp20), .val (.ref bp26), .unset] [(.int (z14 &&& (8 : Int32)))])) _
                refine XS.ifYes X26.here hx rfl (pc0 := 152) (pc' := 170) rfl (hb hby at_152) rfl ((if0 _ _).trans (teq hj152_58).1) (by decide) (by decide) ?_
                show Steps pP.tables eE below (T26.setTop (mkF mM 170 #[.val (.int base), .val (.int dl), .val (.int mk), .val (.int r2), .val (.int z5), .val (.int z8), .val (.int z11), .val (.int z14), .val (.int z17), .val (.ref bp20), .val (.ref bp26), .unset] [])) _
                refine XS.iconst X26.here hx rfl (hb hby at_170) ?_
                show Steps pP.tables eE below (T26.setTop (mkF mM 171 #[.val (.int base), .val (.int dl), .val (.int mk), .val (.int r2), .val (.int z5), .val (.int z8), .val (.int z11), .val (.int z14), .val (.int z17), .val (.ref bp20), .val (.ref bp26), .unset] [(.int (-1 : Int32))])) _
                refine XS.istore X26.here hx rfl (hb hby at_171) rfl (l' := #[.val (.int base), .val (.int dl), .val (.int mk), .val (.int r2), .val (.int z5), .val (.int z8), .val (.int z11), .val (.int z14), .val (.int z17), .val (.ref bp20), .val (.ref bp26), .val (.int (-1 : Int32))]) rfl ?_
                exact kg
              ·
                by_cases hj160_59 : (z17 &&& (8 : Int32)) = (0 : Int32)
                ·
                  refine ⟨z11, (by rw [if_neg hj89_33, if_neg hj96_48, if_neg hj109_49, if_neg hj116_56, if_pos hj130_57, if_neg hj152_58, if_pos hj160_59]), fun tg kg => ?_⟩
                  show Steps pP.tables eE below (T26.setTop (mkF mM 89 #[.val (.int base), .val (.int dl), .val (.int mk), .val (.int r2), .val (.int z5), .val (.int z8), .val (.int z11), .val (.int z14), .val (.int z17), .val (.ref bp20), .val (.ref bp26), .unset] [(.int (z14 &&& (1 : Int32)))])) _
                  refine XS.ifNo X26.here hx rfl (hb hby at_89) rfl ((if0 _ _).trans (feq hj89_33).1) ?_
                  show Steps pP.tables eE below (T26.setTop (mkF mM 92 #[.val (.int base), .val (.int dl), .val (.int mk), .val (.int r2), .val (.int z5), .val (.int z8), .val (.int z11), .val (.int z14), .val (.int z17), .val (.ref bp20), .val (.ref bp26), .unset] [])) _
                  refine XS.iload X26.here hx rfl (hb hby at_92) rfl ?_
                  show Steps pP.tables eE below (T26.setTop (mkF mM 94 #[.val (.int base), .val (.int dl), .val (.int mk), .val (.int r2), .val (.int z5), .val (.int z8), .val (.int z11), .val (.int z14), .val (.int z17), .val (.ref bp20), .val (.ref bp26), .unset] [(.int z17)])) _
                  refine XS.iconst X26.here hx rfl (hb hby at_94) ?_
                  show Steps pP.tables eE below (T26.setTop (mkF mM 95 #[.val (.int base), .val (.int dl), .val (.int mk), .val (.int r2), .val (.int z5), .val (.int z8), .val (.int z11), .val (.int z14), .val (.int z17), .val (.ref bp20), .val (.ref bp26), .unset] [(.int (1 : Int32)), (.int z17)])) _
                  refine XS.iand X26.here hx rfl (hb hby at_95) rfl ?_
                  show Steps pP.tables eE below (T26.setTop (mkF mM 96 #[.val (.int base), .val (.int dl), .val (.int mk), .val (.int r2), .val (.int z5), .val (.int z8), .val (.int z11), .val (.int z14), .val (.int z17), .val (.ref bp20), .val (.ref bp26), .unset] [(.int (z17 &&& (1 : Int32)))])) _
                  refine XS.ifYes X26.here hx rfl (pc0 := 96) (pc' := 105) rfl (hb hby at_96) rfl ((if0 _ _).trans (feq hj96_48).2) (by decide) (by decide) ?_
                  show Steps pP.tables eE below (T26.setTop (mkF mM 105 #[.val (.int base), .val (.int dl), .val (.int mk), .val (.int r2), .val (.int z5), .val (.int z8), .val (.int z11), .val (.int z14), .val (.int z17), .val (.ref bp20), .val (.ref bp26), .unset] [])) _
                  refine XS.iload X26.here hx rfl (hb hby at_105) rfl ?_
                  show Steps pP.tables eE below (T26.setTop (mkF mM 107 #[.val (.int base), .val (.int dl), .val (.int mk), .val (.int r2), .val (.int z5), .val (.int z8), .val (.int z11), .val (.int z14), .val (.int z17), .val (.ref bp20), .val (.ref bp26), .unset] [(.int z14)])) _
                  refine XS.iconst X26.here hx rfl (hb hby at_107) ?_
                  show Steps pP.tables eE below (T26.setTop (mkF mM 108 #[.val (.int base), .val (.int dl), .val (.int mk), .val (.int r2), .val (.int z5), .val (.int z8), .val (.int z11), .val (.int z14), .val (.int z17), .val (.ref bp20), .val (.ref bp26), .unset] [(.int (2 : Int32)), (.int z14)])) _
                  refine XS.iand X26.here hx rfl (hb hby at_108) rfl ?_
                  show Steps pP.tables eE below (T26.setTop (mkF mM 109 #[.val (.int base), .val (.int dl), .val (.int mk), .val (.int r2), .val (.int z5), .val (.int z8), .val (.int z11), .val (.int z14), .val (.int z17), .val (.ref bp20), .val (.ref bp26), .unset] [(.int (z14 &&& (2 : Int32)))])) _
                  refine XS.ifNo X26.here hx rfl (hb hby at_109) rfl ((if0 _ _).trans (feq hj109_49).1) ?_
                  show Steps pP.tables eE below (T26.setTop (mkF mM 112 #[.val (.int base), .val (.int dl), .val (.int mk), .val (.int r2), .val (.int z5), .val (.int z8), .val (.int z11), .val (.int z14), .val (.int z17), .val (.ref bp20), .val (.ref bp26), .unset] [])) _
                  refine XS.iload X26.here hx rfl (hb hby at_112) rfl ?_
                  show Steps pP.tables eE below (T26.setTop (mkF mM 114 #[.val (.int base), .val (.int dl), .val (.int mk), .val (.int r2), .val (.int z5), .val (.int z8), .val (.int z11), .val (.int z14), .val (.int z17), .val (.ref bp20), .val (.ref bp26), .unset] [(.int z17)])) _
                  refine XS.iconst X26.here hx rfl (hb hby at_114) ?_
                  show Steps pP.tables eE below (T26.setTop (mkF mM 115 #[.val (.int base), .val (.int dl), .val (.int mk), .val (.int r2), .val (.int z5), .val (.int z8), .val (.int z11), .val (.int z14), .val (.int z17), .val (.ref bp20), .val (.ref bp26), .unset] [(.int (2 : Int32)), (.int z17)])) _
                  refine XS.iand X26.here hx rfl (hb hby at_115) rfl ?_
                  show Steps pP.tables eE below (T26.setTop (mkF mM 116 #[.val (.int base), .val (.int dl), .val (.int mk), .val (.int r2), .val (.int z5), .val (.int z8), .val (.int z11), .val (.int z14), .val (.int z17), .val (.ref bp20), .val (.ref bp26), .unset] [(.int (z17 &&& (2 : Int32)))])) _
                  refine XS.ifYes X26.here hx rfl (pc0 := 116) (pc' := 126) rfl (hb hby at_116) rfl ((if0 _ _).trans (feq hj116_56).2) (by decide) (by decide) ?_
                  show Steps pP.tables eE below (T26.setTop (mkF mM 126 #[.val (.int base), .val (.int dl), .val (.int mk), .val (.int r2), .val (.int z5), .val (.int z8), .val (.int z11), .val (.int z14), .val (.int z17), .val (.ref bp20), .val (.ref bp26), .unset] [])) _
                  refine XS.iload X26.here hx rfl (hb hby at_126) rfl ?_
                  show Steps pP.tables eE below (T26.setTop (mkF mM 128 #[.val (.int base), .val (.int dl), .val (.int mk), .val (.int r2), .val (.int z5), .val (.int z8), .val (.int z11), .val (.int z14), .val (.int z17), .val (.ref bp20), .val (.ref bp26), .unset] [(.int z14)])) _
                  refine XS.iconst X26.here hx rfl (hb hby at_128) ?_
                  show Steps pP.tables eE below (T26.setTop (mkF mM 129 #[.val (.int base), .val (.int dl), .val (.int mk), .val (.int r2), .val (.int z5), .val (.int z8), .val (.int z11), .val (.int z14), .val (.int z17), .val (.ref bp20), .val (.ref bp26), .unset] [(.int (4 : Int32)), (.int z14)])) _
                  refine XS.iand X26.here hx rfl (hb hby at_129) rfl ?_
                  show Steps pP.tables eE below (T26.setTop (mkF mM 130 #[.val (.int base), .val (.int dl), .val (.int mk), .val (.int r2), .val (.int z5), .val (.int z8), .val (.int z11), .val (.int z14), .val (.int z17), .val (.ref bp20), .val (.ref bp26), .unset] [(.int (z14 &&& (4 : Int32)))])) _
                  refine XS.ifYes X26.here hx rfl (pc0 := 130) (pc' := 147) rfl (hb hby at_130) rfl ((if0 _ _).trans (teq hj130_57).1) (by decide) (by decide) ?_
                  show Steps pP.tables eE below (T26.setTop (mkF mM 147 #[.val (.int base), .val (.int dl), .val (.int mk), .val (.int r2), .val (.int z5), .val (.int z8), .val (.int z11), .val (.int z14), .val (.int z17), .val (.ref bp20), .val (.ref bp26), .unset] [])) _
                  refine XS.iload X26.here hx rfl (hb hby at_147) rfl ?_
                  show Steps pP.tables eE below (T26.setTop (mkF mM 149 #[.val (.int base), .val (.int dl), .val (.int mk), .val (.int r2), .val (.int z5), .val (.int z8), .val (.int z11), .val (.int z14), .val (.int z17), .val (.ref bp20), .val (.ref bp26), .unset] [(.int z14)])) _
                  refine XS.bipush X26.here hx rfl (hb hby at_149) ?_
                  show Steps pP.tables eE below (T26.setTop (mkF mM 151 #[.val (.int base), .val (.int dl), .val (.int mk), .val (.int r2), .val (.int z5), .val (.int z8), .val (.int z11), .val (.int z14), .val (.int z17), .val (.ref bp20), .val (.ref bp26), .unset] [(.int (8 : Int32)), (.int z14)])) _
                  refine XS.iand X26.here hx rfl (hb hby at_151) rfl ?_
                  show Steps pP.tables eE below (T26.setTop (mkF mM 152 #[.val (.int base), .val (.int dl), .val (.int mk), .val (.int r2), .val (.int z5), .val (.int z8), .val (.int z11), .val (.int z14), .val (.int z17), .val (.ref bp20), .val (.ref bp26), .unset] [(.int (z14 &&& (8 : Int32)))])) _
                  refine XS.ifNo X26.here hx rfl (hb hby at_152) rfl ((if0 _ _).trans (feq hj152_58).1) ?_
                  show Steps pP.tables eE below (T26.setTop (mkF mM 155 #[.val (.int base), .val (.int dl), .val (.int mk), .val (.int r2), .val (.int z5), .val (.int z8), .val (.int z11), .val (.int z14), .val (.int z17), .val (.ref bp20), .val (.ref bp26), .unset] [])) _
                  refine XS.iload X26.here hx rfl (hb hby at_155) rfl ?_
                  show Steps pP.tables eE below (T26.setTop (mkF mM 157 #[.val (.int base), .val (.int dl), .val (.int mk), .val (.int r2), .val (.int z5), .val (.int z8), .val (.int z11), .val (.int z14), .val (.int z17), .val (.ref bp20), .val (.ref bp26), .unset] [(.int z17)])) _
                  refine XS.bipush X26.here hx rfl (hb hby at_157) ?_
                  show Steps pP.tables eE below (T26.setTop (mkF mM 159 #[.val (.int base), .val (.int dl), .val (.int mk), .val (.int r2), .val (.int z5), .val (.int z8), .val (.int z11), .val (.int z14), .val (.int z17), .val (.ref bp20), .val (.ref bp26), .unset] [(.int (8 : Int32)), (.int z17)])) _
                  refine XS.iand X26.here hx rfl (hb hby at_159) rfl ?_
                  show Steps pP.tables eE below (T26.setTop (mkF mM 160 #[.val (.int base), .val (.int dl), .val (.int mk), .val (.int r2), .val (.int z5), .val (.int z8), .val (.int z11), .val (.int z14), .val (.int z17), .val (.ref bp20), .val (.ref bp26), .unset] [(.int (z17 &&& (8 : Int32)))])) _
                  refine XS.ifNo X26.here hx rfl (hb hby at_160) rfl ((if0 _ _).trans (teq hj160_59).2) ?_
                  show Steps pP.tables eE below (T26.setTop (mkF mM 163 #[.val (.int base), .val (.int dl), .val (.int mk), .val (.int r2), .val (.int z5), .val (.int z8), .val (.int z11), .val (.int z14), .val (.int z17), .val (.ref bp20), .val (.ref bp26), .unset] [])) _
                  refine XS.iload X26.here hx rfl (hb hby at_163) rfl ?_
                  show Steps pP.tables eE below (T26.setTop (mkF mM 165 #[.val (.int base), .val (.int dl), .val (.int mk), .val (.int r2), .val (.int z5), .val (.int z8), .val (.int z11), .val (.int z14), .val (.int z17), .val (.ref bp20), .val (.ref bp26), .unset] [(.int z11)])) _
                  refine XS.istore X26.here hx rfl (hb hby at_165) rfl (l' := #[.val (.int base), .val (.int dl), .val (.int mk), .val (.int r2), .val (.int z5), .val (.int z8), .val (.int z11), .val (.int z14), .val (.int z17), .val (.ref bp20), .val (.ref bp26), .val (.int z11)]) rfl ?_
                  show Steps pP.tables eE below (T26.setTop (mkF mM 167 #[.val (.int base), .val (.int dl), .val (.int mk), .val (.int r2), .val (.int z5), .val (.int z8), .val (.int z11), .val (.int z14), .val (.int z17), .val (.ref bp20), .val (.ref bp26), .val (.int z11)] [])) _
                  refine XS.goto X26.here hx rfl (pc0 := 167) (pc' := 173) rfl (hb hby at_167) (by decide) (by decide) ?_
                  exact kg
                ·
                  refine ⟨(-1 : Int32), (by rw [if_neg hj89_33, if_neg hj96_48, if_neg hj109_49, if_neg hj116_56, if_pos hj130_57, if_neg hj152_58, if_neg hj160_59]), fun tg kg => ?_⟩
                  show Steps pP.tables eE below (T26.setTop (mkF mM 89 #[.val (.int base), .val (.int dl), .val (.int mk), .val (.int r2), .val (.int z5), .val (.int z8), .val (.int z11), .val (.int z14), .val (.int z17), .val (.ref bp20), .val (.ref bp26), .unset] [(.int (z14 &&& (1 : Int32)))])) _
                  refine XS.ifNo X26.here hx rfl (hb hby at_89) rfl ((if0 _ _).trans (feq hj89_33).1) ?_
                  show Steps pP.tables eE below (T26.setTop (mkF mM 92 #[.val (.int base), .val (.int dl), .val (.int mk), .val (.int r2), .val (.int z5), .val (.int z8), .val (.int z11), .val (.int z14), .val (.int z17), .val (.ref bp20), .val (.ref bp26), .unset] [])) _
                  refine XS.iload X26.here hx rfl (hb hby at_92) rfl ?_
                  show Steps pP.tables eE below (T26.setTop (mkF mM 94 #[.val (.int base), .val (.int dl), .val (.int mk), .val (.int r2), .val (.int z5), .val (.int z8), .val (.int z11), .val (.int z14), .val (.int z17), .val (.ref bp20), .val (.ref bp26), .unset] [(.int z17)])) _
                  refine XS.iconst X26.here hx rfl (hb hby at_94) ?_
                  show Steps pP.tables eE below (T26.setTop (mkF mM 95 #[.val (.int base), .val (.int dl), .val (.int mk), .val (.int r2), .val (.int z5), .val (.int z8), .val (.int z11), .val (.int z14), .val (.int z17), .val (.ref bp20), .val (.ref bp26), .unset] [(.int (1 : Int32)), (.int z17)])) _
                  refine XS.iand X26.here hx rfl (hb hby at_95) rfl ?_
                  show Steps pP.tables eE below (T26.setTop (mkF mM 96 #[.val (.int base), .val (.int dl), .val (.int mk), .val (.int r2), .val (.int z5), .val (.int z8), .val (.int z11), .val (.int z14), .val (.int z17), .val (.ref bp20), .val (.ref bp26), .unset] [(.int (z17 &&& (1 : Int32)))])) _
                  refine XS.ifYes X26.here hx rfl (pc0 := 96) (pc' := 105) rfl (hb hby at_96) rfl ((if0 _ _).trans (feq hj96_48).2) (by decide) (by decide) ?_
                  show Steps pP.tables eE below (T26.setTop (mkF mM 105 #[.val (.int base), .val (.int dl), .val (.int mk), .val (.int r2), .val (.int z5), .val (.int z8), .val (.int z11), .val (.int z14), .val (.int z17), .val (.ref bp20), .val (.ref bp26), .unset] [])) _
                  refine XS.iload X26.here hx rfl (hb hby at_105) rfl ?_
                  show Steps pP.tables eE below (T26.setTop (mkF mM 107 #[.val (.int base), .val (.int dl), .val (.int mk), .val (.int r2), .val (.int z5), .val (.int z8), .val (.int z11), .val (.int z14), .val (.int z17), .val (.ref bp20), .val (.ref bp26), .unset] [(.int z14)])) _
                  refine XS.iconst X26.here hx rfl (hb hby at_107) ?_
                  show Steps pP.tables eE below (T26.setTop (mkF mM 108 #[.val (.int base), .val (.int dl), .val (.int mk), .val (.int r2), .val (.int z5), .val (.int z8), .val (.int z11), .val (.int z14), .val (.int z17), .val (.ref bp20), .val (.ref bp26), .unset] [(.int (2 : Int32)), (.int z14)])) _
                  refine XS.iand X26.here hx rfl (hb hby at_108) rfl ?_
                  show Steps pP.tables eE below (T26.setTop (mkF mM 109 #[.val (.int base), .val (.int dl), .val (.int mk), .val (.int r2), .val (.int z5), .val (.int z8), .val (.int z11), .val (.int z14), .val (.int z17), .val (.ref bp20), .val (.ref bp26), .unset] [(.int (z14 &&& (2 : Int32)))])) _
                  refine XS.ifNo X26.here hx rfl (hb hby at_109) rfl ((if0 _ _).trans (feq hj109_49).1) ?_
                  show Steps pP.tables eE below (T26.setTop (mkF mM 112 #[.val (.int base), .val (.int dl), .val (.int mk), .val (.int r2), .val (.int z5), .val (.int z8), .val (.int z11), .val (.int z14), .val (.int z17), .val (.ref bp20), .val (.ref bp26), .unset] [])) _
                  refine XS.iload X26.here hx rfl (hb hby at_112) rfl ?_
                  show Steps pP.tables eE below (T26.setTop (mkF mM 114 #[.val (.int base), .val (.int dl), .val (.int mk), .val (.int r2), .val (.int z5), .val (.int z8), .val (.int z11), .val (.int z14), .val (.int z17), .val (.ref bp20), .val (.ref bp26), .unset] [(.int z17)])) _
                  refine XS.iconst X26.here hx rfl (hb hby at_114) ?_
                  show Steps pP.tables eE below (T26.setTop (mkF mM 115 #[.val (.int base), .val (.int dl), .val (.int mk), .val (.int r2), .val (.int z5), .val (.int z8), .val (.int z11), .val (.int z14), .val (.int z17), .val (.ref bp20), .val (.ref bp26), .unset] [(.int (2 : Int32)), (.int z17)])) _
                  refine XS.iand X26.here hx rfl (hb hby at_115) rfl ?_
                  show Steps pP.tables eE below (T26.setTop (mkF mM 116 #[.val (.int base), .val (.int dl), .val (.int mk), .val (.int r2), .val (.int z5), .val (.int z8), .val (.int z11), .val (.int z14), .val (.int z17), .val (.ref bp20), .val (.ref bp26), .unset] [(.int (z17 &&& (2 : Int32)))])) _
                  refine XS.ifYes X26.here hx rfl (pc0 := 116) (pc' := 126) rfl (hb hby at_116) rfl ((if0 _ _).trans (feq hj116_56).2) (by decide) (by decide) ?_
                  show Steps pP.tables eE below (T26.setTop (mkF mM 126 #[.val (.int base), .val (.int dl), .val (.int mk), .val (.int r2), .val (.int z5), .val (.int z8), .val (.int z11), .val (.int z14), .val (.int z17), .val (.ref bp20), .val (.ref bp26), .unset] [])) _
                  refine XS.iload X26.here hx rfl (hb hby at_126) rfl ?_
                  show Steps pP.tables eE below (T26.setTop (mkF mM 128 #[.val (.int base), .val (.int dl), .val (.int mk), .val (.int r2), .val (.int z5), .val (.int z8), .val (.int z11), .val (.int z14), .val (.int z17), .val (.ref bp20), .val (.ref bp26), .unset] [(.int z14)])) _
                  refine XS.iconst X26.here hx rfl (hb hby at_128) ?_
                  show Steps pP.tables eE below (T26.setTop (mkF mM 129 #[.val (.int base), .val (.int dl), .val (.int mk), .val (.int r2), .val (.int z5), .val (.int z8), .val (.int z11), .val (.int z14), .val (.int z17), .val (.ref bp20), .val (.ref bp26), .unset] [(.int (4 : Int32)), (.int z14)])) _
                  refine XS.iand X26.here hx rfl (hb hby at_129) rfl ?_
                  show Steps pP.tables eE below (T26.setTop (mkF mM 130 #[.val (.int base), .val (.int dl), .val (.int mk), .val (.int r2), .val (.int z5), .val (.int z8), .val (.int z11), .val (.int z14), .val (.int z17), .val (.ref bp20), .val (.ref bp26), .unset] [(.int (z14 &&& (4 : Int32)))])) _
                  refine XS.ifYes X26.here hx rfl (pc0 := 130) (pc' := 147) rfl (hb hby at_130) rfl ((if0 _ _).trans (teq hj130_57).1) (by decide) (by decide) ?_
                  show Steps pP.tables eE below (T26.setTop (mkF mM 147 #[.val (.int base), .val (.int dl), .val (.int mk), .val (.int r2), .val (.int z5), .val (.int z8), .val (.int z11), .val (.int z14), .val (.int z17), .val (.ref bp20), .val (.ref bp26), .unset] [])) _
                  refine XS.iload X26.here hx rfl (hb hby at_147) rfl ?_
                  show Steps pP.tables eE below (T26.setTop (mkF mM 149 #[.val (.int base), .val (.int dl), .val (.int mk), .val (.int r2), .val (.int z5), .val (.int z8), .val (.int z11), .val (.int z14), .val (.int z17), .val (.ref bp20), .val (.ref bp26), .unset] [(.int z14)])) _
                  refine XS.bipush X26.here hx rfl (hb hby at_149) ?_
                  show Steps pP.tables eE below (T26.setTop (mkF mM 151 #[.val (.int base), .val (.int dl), .val (.int mk), .val (.int r2), .val (.int z5), .val (.int z8), .val (.int z11), .val (.int z14), .val (.int z17), .val (.ref bp20), .val (.ref bp26), .unset] [(.int (8 : Int32)), (.int z14)])) _
                  refine XS.iand X26.here hx rfl (hb hby at_151) rfl ?_
                  show Steps pP.tables eE below (T26.setTop (mkF mM 152 #[.val (.int base), .val (.int dl), .val (.int mk), .val (.int r2), .val (.int z5), .val (.int z8), .val (.int z11), .val (.int z14), .val (.int z17), .val (.ref bp20), .val (.ref bp26), .unset] [(.int (z14 &&& (8 : Int32)))])) _
                  refine XS.ifNo X26.here hx rfl (hb hby at_152) rfl ((if0 _ _).trans (feq hj152_58).1) ?_
                  show Steps pP.tables eE below (T26.setTop (mkF mM 155 #[.val (.int base), .val (.int dl), .val (.int mk), .val (.int r2), .val (.int z5), .val (.int z8), .val (.int z11), .val (.int z14), .val (.int z17), .val (.ref bp20), .val (.ref bp26), .unset] [])) _
                  refine XS.iload X26.here hx rfl (hb hby at_155) rfl ?_
                  show Steps pP.tables eE below (T26.setTop (mkF mM 157 #[.val (.int base), .val (.int dl), .val (.int mk), .val (.int r2), .val (.int z5), .val (.int z8), .val (.int z11), .val (.int z14), .val (.int z17), .val (.ref bp20), .val (.ref bp26), .unset] [(.int z17)])) _
                  refine XS.bipush X26.here hx rfl (hb hby at_157) ?_
                  show Steps pP.tables eE below (T26.setTop (mkF mM 159 #[.val (.int base), .val (.int dl), .val (.int mk), .val (.int r2), .val (.int z5), .val (.int z8), .val (.int z11), .val (.int z14), .val (.int z17), .val (.ref bp20), .val (.ref bp26), .unset] [(.int (8 : Int32)), (.int z17)])) _
                  refine XS.iand X26.here hx rfl (hb hby at_159) rfl ?_
                  show Steps pP.tables eE below (T26.setTop (mkF mM 160 #[.val (.int base), .val (.int dl), .val (.int mk), .val (.int r2), .val (.int z5), .val (.int z8), .val (.int z11), .val (.int z14), .val (.int z17), .val (.ref bp20), .val (.ref bp26), .unset] [(.int (z17 &&& (8 : Int32)))])) _
                  refine XS.ifYes X26.here hx rfl (pc0 := 160) (pc' := 170) rfl (hb hby at_160) rfl ((if0 _ _).trans (feq hj160_59).2) (by decide) (by decide) ?_
                  show Steps pP.tables eE below (T26.setTop (mkF mM 170 #[.val (.int base), .val (.int dl), .val (.int mk), .val (.int r2), .val (.int z5), .val (.int z8), .val (.int z11), .val (.int z14), .val (.int z17), .val (.ref bp20), .val (.ref bp26), .unset] [])) _
                  refine XS.iconst X26.here hx rfl (hb hby at_170) ?_
                  show Steps pP.tables eE below (T26.setTop (mkF mM 171 #[.val (.int base), .val (.int dl), .val (.int mk), .val (.int r2), .val (.int z5), .val (.int z8), .val (.int z11), .val (.int z14), .val (.int z17), .val (.ref bp20), .val (.ref bp26), .unset] [(.int (-1 : Int32))])) _
                  refine XS.istore X26.here hx rfl (hb hby at_171) rfl (l' := #[.val (.int base), .val (.int dl), .val (.int mk), .val (.int r2), .val (.int z5), .val (.int z8), .val (.int z11), .val (.int z14), .val (.int z17), .val (.ref bp20), .val (.ref bp26), .val (.int (-1 : Int32))]) rfl ?_
                  exact kg
            ·
              by_cases hj137_60 : (z17 &&& (4 : Int32)) = (0 : Int32)
              ·
                refine ⟨z8, (by rw [if_neg hj89_33, if_neg hj96_48, if_neg hj109_49, if_neg hj116_56, if_neg hj130_57, if_pos hj137_60]), fun tg kg => ?_⟩
                show Steps pP.tables eE below (T26.setTop (mkF mM 89 #[.val (.int base), .val (.int dl), .val (.int mk), .val (.int r2), .val (.int z5), .val (.int z8), .val (.int z11), .val (.int z14), .val (.int z17), .val (.ref bp20), .val (.ref bp26), .unset] [(.int (z14 &&& (1 : Int32)))])) _
                refine XS.ifNo X26.here hx rfl (hb hby at_89) rfl ((if0 _ _).trans (feq hj89_33).1) ?_
                show Steps pP.tables eE below (T26.setTop (mkF mM 92 #[.val (.int base), .val (.int dl), .val (.int mk), .val (.int r2), .val (.int z5), .val (.int z8), .val (.int z11), .val (.int z14), .val (.int z17), .val (.ref bp20), .val (.ref bp26), .unset] [])) _
                refine XS.iload X26.here hx rfl (hb hby at_92) rfl ?_
                show Steps pP.tables eE below (T26.setTop (mkF mM 94 #[.val (.int base), .val (.int dl), .val (.int mk), .val (.int r2), .val (.int z5), .val (.int z8), .val (.int z11), .val (.int z14), .val (.int z17), .val (.ref bp20), .val (.ref bp26), .unset] [(.int z17)])) _
                refine XS.iconst X26.here hx rfl (hb hby at_94) ?_
                show Steps pP.tables eE below (T26.setTop (mkF mM 95 #[.val (.int base), .val (.int dl), .val (.int mk), .val (.int r2), .val (.int z5), .val (.int z8), .val (.int z11), .val (.int z14), .val (.int z17), .val (.ref bp20), .val (.ref bp26), .unset] [(.int (1 : Int32)), (.int z17)])) _
                refine XS.iand X26.here hx rfl (hb hby at_95) rfl ?_
                show Steps pP.tables eE below (T26.setTop (mkF mM 96 #[.val (.int base), .val (.int dl), .val (.int mk), .val (.int r2), .val (.int z5), .val (.int z8), .val (.int z11), .val (.int z14), .val (.int z17), .val (.ref bp20), .val (.ref bp26), .unset] [(.int (z17 &&& (1 : Int32)))])) _
                refine XS.ifYes X26.here hx rfl (pc0 := 96) (pc' := 105) rfl (hb hby at_96) rfl ((if0 _ _).trans (feq hj96_48).2) (by decide) (by decide) ?_
                show Steps pP.tables eE below (T26.setTop (mkF mM 105 #[.val (.int base), .val (.int dl), .val (.int mk), .val (.int r2), .val (.int z5), .val (.int z8), .val (.int z11), .val (.int z14), .val (.int z17), .val (.ref bp20), .val (.ref bp26), .unset] [])) _
                refine XS.iload X26.here hx rfl (hb hby at_105) rfl ?_
                show Steps pP.tables eE below (T26.setTop (mkF mM 107 #[.val (.int base), .val (.int dl), .val (.int mk), .val (.int r2), .val (.int z5), .val (.int z8), .val (.int z11), .val (.int z14), .val (.int z17), .val (.ref bp20), .val (.ref bp26), .unset] [(.int z14)])) _
                refine XS.iconst X26.here hx rfl (hb hby at_107) ?_
                show Steps pP.tables eE below (T26.setTop (mkF mM 108 #[.val (.int base), .val (.int dl), .val (.int mk), .val (.int r2), .val (.int z5), .val (.int z8), .val (.int z11), .val (.int z14), .val (.int z17), .val (.ref bp20), .val (.ref bp26), .unset] [(.int (2 : Int32)), (.int z14)])) _
                refine XS.iand X26.here hx rfl (hb hby at_108) rfl ?_
                show Steps pP.tables eE below (T26.setTop (mkF mM 109 #[.val (.int base), .val (.int dl), .val (.int mk), .val (.int r2), .val (.int z5), .val (.int z8), .val (.int z11), .val (.int z14), .val (.int z17), .val (.ref bp20), .val (.ref bp26), .unset] [(.int (z14 &&& (2 : Int32)))])) _
                refine XS.ifNo X26.here hx rfl (hb hby at_109) rfl ((if0 _ _).trans (feq hj109_49).1) ?_
                show Steps pP.tables eE below (T26.setTop (mkF mM 112 #[.val (.int base), .val (.int dl), .val (.int mk), .val (.int r2), .val (.int z5), .val (.int z8), .val (.int z11), .val (.int z14), .val (.int z17), .val (.ref bp20), .val (.ref bp26), .unset] [])) _
                refine XS.iload X26.here hx rfl (hb hby at_112) rfl ?_
                show Steps pP.tables eE below (T26.setTop (mkF mM 114 #[.val (.int base), .val (.int dl), .val (.int mk), .val (.int r2), .val (.int z5), .val (.int z8), .val (.int z11), .val (.int z14), .val (.int z17), .val (.ref bp20), .val (.ref bp26), .unset] [(.int z17)])) _
                refine XS.iconst X26.here hx rfl (hb hby at_114) ?_
                show Steps pP.tables eE below (T26.setTop (mkF mM 115 #[.val (.int base), .val (.int dl), .val (.int mk), .val (.int r2), .val (.int z5), .val (.int z8), .val (.int z11), .val (.int z14), .val (.int z17), .val (.ref bp20), .val (.ref bp26), .unset] [(.int (2 : Int32)), (.int z17)])) _
                refine XS.iand X26.here hx rfl (hb hby at_115) rfl ?_
                show Steps pP.tables eE below (T26.setTop (mkF mM 116 #[.val (.int base), .val (.int dl), .val (.int mk), .val (.int r2), .val (.int z5), .val (.int z8), .val (.int z11), .val (.int z14), .val (.int z17), .val (.ref bp20), .val (.ref bp26), .unset] [(.int (z17 &&& (2 : Int32)))])) _
                refine XS.ifYes X26.here hx rfl (pc0 := 116) (pc' := 126) rfl (hb hby at_116) rfl ((if0 _ _).trans (feq hj116_56).2) (by decide) (by decide) ?_
                show Steps pP.tables eE below (T26.setTop (mkF mM 126 #[.val (.int base), .val (.int dl), .val (.int mk), .val (.int r2), .val (.int z5), .val (.int z8), .val (.int z11), .val (.int z14), .val (.int z17), .val (.ref bp20), .val (.ref bp26), .unset] [])) _
                refine XS.iload X26.here hx rfl (hb hby at_126) rfl ?_
                show Steps pP.tables eE below (T26.setTop (mkF mM 128 #[.val (.int base), .val (.int dl), .val (.int mk), .val (.int r2), .val (.int z5), .val (.int z8), .val (.int z11), .val (.int z14), .val (.int z17), .val (.ref bp20), .val (.ref bp26), .unset] [(.int z14)])) _
                refine XS.iconst X26.here hx rfl (hb hby at_128) ?_
                show Steps pP.tables eE below (T26.setTop (mkF mM 129 #[.val (.int base), .val (.int dl), .val (.int mk), .val (.int r2), .val (.int z5), .val (.int z8), .val (.int z11), .val (.int z14), .val (.int z17), .val (.ref bp20), .val (.ref bp26), .unset] [(.int (4 : Int32)), (.int z14)])) _
                refine XS.iand X26.here hx rfl (hb hby at_129) rfl ?_
                show Steps pP.tables eE below (T26.setTop (mkF mM 130 #[.val (.int base), .val (.int dl), .val (.int mk), .val (.int r2), .val (.int z5), .val (.int z8), .val (.int z11), .val (.int z14), .val (.int z17), .val (.ref bp20), .val (.ref bp26), .unset] [(.int (z14 &&& (4 : Int32)))])) _
                refine XS.ifNo X26.here hx rfl (hb hby at_130) rfl ((if0 _ _).trans (feq hj130_57).1) ?_
                show Steps pP.tables eE below (T26.setTop (mkF mM 133 #[.val (.int base), .val (.int dl), .val (.int mk), .val (.int r2), .val (.int z5), .val (.int z8), .val (.int z11), .val (.int z14), .val (.int z17), .val (.ref bp20), .val (.ref bp26), .unset] [])) _
                refine XS.iload X26.here hx rfl (hb hby at_133) rfl ?_
                show Steps pP.tables eE below (T26.setTop (mkF mM 135 #[.val (.int base), .val (.int dl), .val (.int mk), .val (.int r2), .val (.int z5), .val (.int z8), .val (.int z11), .val (.int z14), .val (.int z17), .val (.ref bp20), .val (.ref bp26), .unset] [(.int z17)])) _
                refine XS.iconst X26.here hx rfl (hb hby at_135) ?_
                show Steps pP.tables eE below (T26.setTop (mkF mM 136 #[.val (.int base), .val (.int dl), .val (.int mk), .val (.int r2), .val (.int z5), .val (.int z8), .val (.int z11), .val (.int z14), .val (.int z17), .val (.ref bp20), .val (.ref bp26), .unset] [(.int (4 : Int32)), (.int z17)])) _
                refine XS.iand X26.here hx rfl (hb hby at_136) rfl ?_
                show Steps pP.tables eE below (T26.setTop (mkF mM 137 #[.val (.int base), .val (.int dl), .val (.int mk), .val (.int r2), .val (.int z5), .val (.int z8), .val (.int z11), .val (.int z14), .val (.int z17), .val (.ref bp20), .val (.ref bp26), .unset] [(.int (z17 &&& (4 : Int32)))])) _
                refine XS.ifNo X26.here hx rfl (hb hby at_137) rfl ((if0 _ _).trans (teq hj137_60).2) ?_
                show Steps pP.tables eE below (T26.setTop (mkF mM 140 #[.val (.int base), .val (.int dl), .val (.int mk), .val (.int r2), .val (.int z5), .val (.int z8), .val (.int z11), .val (.int z14), .val (.int z17), .val (.ref bp20), .val (.ref bp26), .unset] [])) _
                refine XS.iload X26.here hx rfl (hb hby at_140) rfl ?_
                show Steps pP.tables eE below (T26.setTop (mkF mM 142 #[.val (.int base), .val (.int dl), .val (.int mk), .val (.int r2), .val (.int z5), .val (.int z8), .val (.int z11), .val (.int z14), .val (.int z17), .val (.ref bp20), .val (.ref bp26), .unset] [(.int z8)])) _
                refine XS.istore X26.here hx rfl (hb hby at_142) rfl (l' := #[.val (.int base), .val (.int dl), .val (.int mk), .val (.int r2), .val (.int z5), .val (.int z8), .val (.int z11), .val (.int z14), .val (.int z17), .val (.ref bp20), .val (.ref bp26), .val (.int z8)]) rfl ?_
                show Steps pP.tables eE below (T26.setTop (mkF mM 144 #[.val (.int base), .val (.int dl), .val (.int mk), .val (.int r2), .val (.int z5), .val (.int z8), .val (.int z11), .val (.int z14), .val (.int z17), .val (.ref bp20), .val (.ref bp26), .val (.int z8)] [])) _
                refine XS.goto X26.here hx rfl (pc0 := 144) (pc' := 173) rfl (hb hby at_144) (by decide) (by decide) ?_
                exact kg
              ·
                by_cases hj152_61 : (z14 &&& (8 : Int32)) = (0 : Int32)
                ·
                  refine ⟨(-1 : Int32), (by rw [if_neg hj89_33, if_neg hj96_48, if_neg hj109_49, if_neg hj116_56, if_neg hj130_57, if_neg hj137_60, if_pos hj152_61]), fun tg kg => ?_⟩
                  show Steps pP.tables eE below (T26.setTop (mkF mM 89 #[.val (.int base), .val (.int dl), .val (.int mk), .val (.int r2), .val (.int z5), .val (.int z8), .val (.int z11), .val (.int z14), .val (.int z17), .val (.ref bp20), .val (.ref bp26), .unset] [(.int (z14 &&& (1 : Int32)))])) _
                  refine XS.ifNo X26.here hx rfl (hb hby at_89) rfl ((if0 _ _).trans (feq hj89_33).1) ?_
                  show Steps pP.tables eE below (T26.setTop (mkF mM 92 #[.val (.int base), .val (.int dl), .val (.int mk), .val (.int r2), .val (.int z5), .val (.int z8), .val (.int z11), .val (.int z14), .val (.int z17), .val (.ref bp20), .val (.ref bp26), .unset] [])) _
                  refine XS.iload X26.here hx rfl (hb hby at_92) rfl ?_
                  show Steps pP.tables eE below (T26.setTop (mkF mM 94 #[.val (.int base), .val (.int dl), .val (.int mk), .val (.int r2), .val (.int z5), .val (.int z8), .val (.int z11), .val (.int z14), .val (.int z17), .val (.ref bp20), .val (.ref bp26), .unset] [(.int z17)])) _
                  refine XS.iconst X26.here hx rfl (hb hby at_94) ?_
                  show Steps pP.tables eE below (T26.setTop (mkF mM 95 #[.val (.int base), .val (.int dl), .val (.int mk), .val (.int r2), .val (.int z5), .val (.int z8), .val (.int z11), .val (.int z14), .val (.int z17), .val (.ref bp20), .val (.ref bp26), .unset] [(.int (1 : Int32)), (.int z17)])) _
                  refine XS.iand X26.here hx rfl (hb hby at_95) rfl ?_
                  show Steps pP.tables eE below (T26.setTop (mkF mM 96 #[.val (.int base), .val (.int dl), .val (.int mk), .val (.int r2), .val (.int z5), .val (.int z8), .val (.int z11), .val (.int z14), .val (.int z17), .val (.ref bp20), .val (.ref bp26), .unset] [(.int (z17 &&& (1 : Int32)))])) _
                  refine XS.ifYes X26.here hx rfl (pc0 := 96) (pc' := 105) rfl (hb hby at_96) rfl ((if0 _ _).trans (feq hj96_48).2) (by decide) (by decide) ?_
                  show Steps pP.tables eE below (T26.setTop (mkF mM 105 #[.val (.int base), .val (.int dl), .val (.int mk), .val (.int r2), .val (.int z5), .val (.int z8), .val (.int z11), .val (.int z14), .val (.int z17), .val (.ref bp20), .val (.ref bp26), .unset] [])) _
                  refine XS.iload X26.here hx rfl (hb hby at_105) rfl ?_
                  show Steps pP.tables eE below (T26.setTop (mkF mM 107 #[.val (.int base), .val (.int dl), .val (.int mk), .val (.int r2), .val (.int z5), .val (.int z8), .val (.int z11), .val (.int z14), .val (.int z17), .val (.ref bp20), .val (.ref bp26), .unset] [(.int z14)])) _
                  refine XS.iconst X26.here hx rfl (hb hby at_107) ?_
                  show Steps pP.tables eE below (T26.setTop (mkF mM 108 #[.val (.int base), .val (.int dl), .val (.int mk), .val (.int r2), .val (.int z5), .val (.int z8), .val (.int z11), .val (.int z14), .val (.int z17), .val (.ref bp20), .val (.ref bp26), .unset] [(.int (2 : Int32)), (.int z14)])) _
                  refine XS.iand X26.here hx rfl (hb hby at_108) rfl ?_
                  show Steps pP.tables eE below (T26.setTop (mkF mM 109 #[.val (.int base), .val (.int dl), .val (.int mk), .val (.int r2), .val (.int z5), .val (.int z8), .val (.int z11), .val (.int z14), .val (.int z17), .val (.ref bp20), .val (.ref bp26), .unset] [(.int (z14 &&& (2 : Int32)))])) _
                  refine XS.ifNo X26.here hx rfl (hb hby at_109) rfl ((if0 _ _).trans (feq hj109_49).1) ?_
                  show Steps pP.tables eE below (T26.setTop (mkF mM 112 #[.val (.int base), .val (.int dl), .val (.int mk), .val (.int r2), .val (.int z5), .val (.int z8), .val (.int z11), .val (.int z14), .val (.int z17), .val (.ref bp20), .val (.ref bp26), .unset] [])) _
                  refine XS.iload X26.here hx rfl (hb hby at_112) rfl ?_
                  show Steps pP.tables eE below (T26.setTop (mkF mM 114 #[.val (.int base), .val (.int dl), .val (.int mk), .val (.int r2), .val (.int z5), .val (.int z8), .val (.int z11), .val (.int z14), .val (.int z17), .val (.ref bp20), .val (.ref bp26), .unset] [(.int z17)])) _
                  refine XS.iconst X26.here hx rfl (hb hby at_114) ?_
                  show Steps pP.tables eE below (T26.setTop (mkF mM 115 #[.val (.int base), .val (.int dl), .val (.int mk), .val (.int r2), .val (.int z5), .val (.int z8), .val (.int z11), .val (.int z14), .val (.int z17), .val (.ref bp20), .val (.ref bp26), .unset] [(.int (2 : Int32)), (.int z17)])) _
                  refine XS.iand X26.here hx rfl (hb hby at_115) rfl ?_
                  show Steps pP.tables eE below (T26.setTop (mkF mM 116 #[.val (.int base), .val (.int dl), .val (.int mk), .val (.int r2), .val (.int z5), .val (.int z8), .val (.int z11), .val (.int z14), .val (.int z17), .val (.ref bp20), .val (.ref bp26), .unset] [(.int (z17 &&& (2 : Int32)))])) _
                  refine XS.ifYes X26.here hx rfl (pc0 := 116) (pc' := 126) rfl (hb hby at_116) rfl ((if0 _ _).trans (feq hj116_56).2) (by decide) (by decide) ?_
                  show Steps pP.tables eE below (T26.setTop (mkF mM 126 #[.val (.int base), .val (.int dl), .val (.int mk), .val (.int r2), .val (.int z5), .val (.int z8), .val (.int z11), .val (.int z14), .val (.int z17), .val (.ref bp20), .val (.ref bp26), .unset] [])) _
                  refine XS.iload X26.here hx rfl (hb hby at_126) rfl ?_
                  show Steps pP.tables eE below (T26.setTop (mkF mM 128 #[.val (.int base), .val (.int dl), .val (.int mk), .val (.int r2), .val (.int z5), .val (.int z8), .val (.int z11), .val (.int z14), .val (.int z17), .val (.ref bp20), .val (.ref bp26), .unset] [(.int z14)])) _
                  refine XS.iconst X26.here hx rfl (hb hby at_128) ?_
                  show Steps pP.tables eE below (T26.setTop (mkF mM 129 #[.val (.int base), .val (.int dl), .val (.int mk), .val (.int r2), .val (.int z5), .val (.int z8), .val (.int z11), .val (.int z14), .val (.int z17), .val (.ref bp20), .val (.ref bp26), .unset] [(.int (4 : Int32)), (.int z14)])) _
                  refine XS.iand X26.here hx rfl (hb hby at_129) rfl ?_
                  show Steps pP.tables eE below (T26.setTop (mkF mM 130 #[.val (.int base), .val (.int dl), .val (.int mk), .val (.int r2), .val (.int z5), .val (.int z8), .val (.int z11), .val (.int z14), .val (.int z17), .val (.ref bp20), .val (.ref bp26), .unset] [(.int (z14 &&& (4 : Int32)))])) _
                  refine XS.ifNo X26.here hx rfl (hb hby at_130) rfl ((if0 _ _).trans (feq hj130_57).1) ?_
                  show Steps pP.tables eE below (T26.setTop (mkF mM 133 #[.val (.int base), .val (.int dl), .val (.int mk), .val (.int r2), .val (.int z5), .val (.int z8), .val (.int z11), .val (.int z14), .val (.int z17), .val (.ref bp20), .val (.ref bp26), .unset] [])) _
                  refine XS.iload X26.here hx rfl (hb hby at_133) rfl ?_
                  show Steps pP.tables eE below (T26.setTop (mkF mM 135 #[.val (.int base), .val (.int dl), .val (.int mk), .val (.int r2), .val (.int z5), .val (.int z8), .val (.int z11), .val (.int z14), .val (.int z17), .val (.ref bp20), .val (.ref bp26), .unset] [(.int z17)])) _
                  refine XS.iconst X26.here hx rfl (hb hby at_135) ?_
                  show Steps pP.tables eE below (T26.setTop (mkF mM 136 #[.val (.int base), .val (.int dl), .val (.int mk), .val (.int r2), .val (.int z5), .val (.int z8), .val (.int z11), .val (.int z14), .val (.int z17), .val (.ref bp20), .val (.ref bp26), .unset] [(.int (4 : Int32)), (.int z17)])) _
                  refine XS.iand X26.here hx rfl (hb hby at_136) rfl ?_
                  show Steps pP.tables eE below (T26.setTop (mkF mM 137 #[.val (.int base), .val (.int dl), .val (.int mk), .val (.int r2), .val (.int z5), .val (.int z8), .val (.int z11), .val (.int z14), .val (.int z17), .val (.ref bp20), .val (.ref bp26), .unset] [(.int (z17 &&& (4 : Int32)))])) _
                  refine XS.ifYes X26.here hx rfl (pc0 := 137) (pc' := 147) rfl (hb hby at_137) rfl ((if0 _ _).trans (feq hj137_60).2) (by decide) (by decide) ?_
                  show Steps pP.tables eE below (T26.setTop (mkF mM 147 #[.val (.int base), .val (.int dl), .val (.int mk), .val (.int r2), .val (.int z5), .val (.int z8), .val (.int z11), .val (.int z14), .val (.int z17), .val (.ref bp20), .val (.ref bp26), .unset] [])) _
                  refine XS.iload X26.here hx rfl (hb hby at_147) rfl ?_
                  show Steps pP.tables eE below (T26.setTop (mkF mM 149 #[.val (.int base), .val (.int dl), .val (.int mk), .val (.int r2), .val (.int z5), .val (.int z8), .val (.int z11), .val (.int z14), .val (.int z17), .val (.ref bp20), .val (.ref bp26), .unset] [(.int z14)])) _
                  refine XS.bipush X26.here hx rfl (hb hby at_149) ?_
                  show Steps pP.tables eE below (T26.setTop (mkF mM 151 #[.val (.int base), .val (.int dl), .val (.int mk), .val (.int r2), .val (.int z5), .val (.int z8), .val (.int z11), .val (.int z14), .val (.int z17), .val (.ref bp20), .val (.ref bp26), .unset] [(.int (8 : Int32)), (.int z14)])) _
                  refine XS.iand X26.here hx rfl (hb hby at_151) rfl ?_
                  show Steps pP.tables eE below (T26.setTop (mkF mM 152 #[.val (.int base), .val (.int dl), .val (.int mk), .val (.int r2), .val (.int z5), .val (.int z8), .val (.int z11), .val (.int z14), .val (.int z17), .val (.ref bp20), .val (.ref bp26), .unset] [(.int (z14 &&& (8 : Int32)))])) _
                  refine XS.ifYes X26.here hx rfl (pc0 := 152) (pc' := 170) rfl (hb hby at_152) rfl ((if0 _ _).trans (teq hj152_61).1) (by decide) (by decide) ?_
                  show Steps pP.tables eE below (T26.setTop (mkF mM 170 #[.val (.int base), .val (.int dl), .val (.int mk), .val (.int r2), .val (.int z5), .val (.int z8), .val (.int z11), .val (.int z14), .val (.int z17), .val (.ref bp20), .val (.ref bp26), .unset] [])) _
                  refine XS.iconst X26.here hx rfl (hb hby at_170) ?_
                  show Steps pP.tables eE below (T26.setTop (mkF mM 171 #[.val (.int base), .val (.int dl), .val (.int mk), .val (.int r2), .val (.int z5), .val (.int z8), .val (.int z11), .val (.int z14), .val (.int z17), .val (.ref bp20), .val (.ref bp26), .unset] [(.int (-1 : Int32))])) _
                  refine XS.istore X26.here hx rfl (hb hby at_171) rfl (l' := #[.val (.int base), .val (.int dl), .val (.int mk), .val (.int r2), .val (.int z5), .val (.int z8), .val (.int z11), .val (.int z14), .val (.int z17), .val (.ref bp20), .val (.ref bp26), .val (.int (-1 : Int32))]) rfl ?_
                  exact kg
                ·
                  by_cases hj160_62 : (z17 &&& (8 : Int32)) = (0 : Int32)
                  ·
                    refine ⟨z11, (by rw [if_neg hj89_33, if_neg hj96_48, if_neg hj109_49, if_neg hj116_56, if_neg hj130_57, if_neg hj137_60, if_neg hj152_61, if_pos hj160_62]), fun tg kg => ?_⟩
                    show Steps pP.tables eE below (T26.setTop (mkF mM 89 #[.val (.int base), .val (.int dl), .val (.int mk), .val (.int r2), .val (.int z5), .val (.int z8), .val (.int z11), .val (.int z14), .val (.int z17), .val (.ref bp20), .val (.ref bp26), .unset] [(.int (z14 &&& (1 : Int32)))])) _
                    refine XS.ifNo X26.here hx rfl (hb hby at_89) rfl ((if0 _ _).trans (feq hj89_33).1) ?_
                    show Steps pP.tables eE below (T26.setTop (mkF mM 92 #[.val (.int base), .val (.int dl), .val (.int mk), .val (.int r2), .val (.int z5), .val (.int z8), .val (.int z11), .val (.int z14), .val (.int z17), .val (.ref bp20), .val (.ref bp26), .unset] [])) _
                    refine XS.iload X26.here hx rfl (hb hby at_92) rfl ?_
                    show Steps pP.tables eE below (T26.setTop (mkF mM 94 #[.val (.int base), .val (.int dl), .val (.int mk), .val (.int r2), .val (.int z5), .val (.int z8), .val (.int z11), .val (.int z14), .val (.int z17), .val (.ref bp20), .val (.ref bp26), .unset] [(.int z17)])) _
                    refine XS.iconst X26.here hx rfl (hb hby at_94) ?_
                    show Steps pP.tables eE below (T26.setTop (mkF mM 95 #[.val (.int base), .val (.int dl), .val (.int mk), .val (.int r2), .val (.int z5), .val (.int z8), .val (.int z11), .val (.int z14), .val (.int z17), .val (.ref bp20), .val (.ref bp26), .unset] [(.int (1 : Int32)), (.int z17)])) _
                    refine XS.iand X26.here hx rfl (hb hby at_95) rfl ?_
                    show Steps pP.tables eE below (T26.setTop (mkF mM 96 #[.val (.int base), .val (.int dl), .val (.int mk), .val (.int r2), .val (.int z5), .val (.int z8), .val (.int z11), .val (.int z14), .val (.int z17), .val (.ref bp20), .val (.ref bp26), .unset] [(.int (z17 &&& (1 : Int32)))])) _
                    refine XS.ifYes X26.here hx rfl (pc0 := 96) (pc' := 105) rfl (hb hby at_96) rfl ((if0 _ _).trans (feq hj96_48).2) (by decide) (by decide) ?_
                    show Steps pP.tables eE below (T26.setTop (mkF mM 105 #[.val (.int base), .val (.int dl), .val (.int mk), .val (.int r2), .val (.int z5), .val (.int z8), .val (.int z11), .val (.int z14), .val (.int z17), .val (.ref bp20), .val (.ref bp26), .unset] [])) _
                    refine XS.iload X26.here hx rfl (hb hby at_105) rfl ?_
                    show Steps pP.tables eE below (T26.setTop (mkF mM 107 #[.val (.int base), .val (.int dl), .val (.int mk), .val (.int r2), .val (.int z5), .val (.int z8), .val (.int z11), .val (.int z14), .val (.int z17), .val (.ref bp20), .val (.ref bp26), .unset] [(.int z14)])) _
                    refine XS.iconst X26.here hx rfl (hb hby at_107) ?_
                    show Steps pP.tables eE below (T26.setTop (mkF mM 108 #[.val (.int base), .val (.int dl), .val (.int mk), .val (.int r2), .val (.int z5), .val (.int z8), .val (.int z11), .val (.int z14), .val (.int z17), .val (.ref bp20), .val (.ref bp26), .unset] [(.int (2 : Int32)), (.int z14)])) _
                    refine XS.iand X26.here hx rfl (hb hby at_108) rfl ?_
                    show Steps pP.tables eE below (T26.setTop (mkF mM 109 #[.val (.int base), .val (.int dl), .val (.int mk), .val (.int r2), .val (.int z5), .val (.int z8), .val (.int z11), .val (.int z14), .val (.int z17), .val (.ref bp20), .val (.ref bp26), .unset] [(.int (z14 &&& (2 : Int32)))])) _
                    refine XS.ifNo X26.here hx rfl (hb hby at_109) rfl ((if0 _ _).trans (feq hj109_49).1) ?_
                    show Steps pP.tables eE below (T26.setTop (mkF mM 112 #[.val (.int base), .val (.int dl), .val (.int mk), .val (.int r2), .val (.int z5), .val (.int z8), .val (.int z11), .val (.int z14), .val (.int z17), .val (.ref bp20), .val (.ref bp26), .unset] [])) _
                    refine XS.iload X26.here hx rfl (hb hby at_112) rfl ?_
                    show Steps pP.tables eE below (T26.setTop (mkF mM 114 #[.val (.int base), .val (.int dl), .val (.int mk), .val (.int r2), .val (.int z5), .val (.int z8), .val (.int z11), .val (.int z14), .val (.int z17), .val (.ref bp20), .val (.ref bp26), .unset] [(.int z17)])) _
                    refine XS.iconst X26.here hx rfl (hb hby at_114) ?_
                    show Steps pP.tables eE below (T26.setTop (mkF mM 115 #[.val (.int base), .val (.int dl), .val (.int mk), .val (.int r2), .val (.int z5), .val (.int z8), .val (.int z11), .val (.int z14), .val (.int z17), .val (.ref bp20), .val (.ref bp26), .unset] [(.int (2 : Int32)), (.int z17)])) _
                    refine XS.iand X26.here hx rfl (hb hby at_115) rfl ?_
                    show Steps pP.tables eE below (T26.setTop (mkF mM 116 #[.val (.int base), .val (.int dl), .val (.int mk), .val (.int r2), .val (.int z5), .val (.int z8), .val (.int z11), .val (.int z14), .val (.int z17), .val (.ref bp20), .val (.ref bp26), .unset] [(.int (z17 &&& (2 : Int32)))])) _
                    refine XS.ifYes X26.here hx rfl (pc0 := 116) (pc' := 126) rfl (hb hby at_116) rfl ((if0 _ _).trans (feq hj116_56).2) (by decide) (by decide) ?_
                    show Steps pP.tables eE below (T26.setTop (mkF mM 126 #[.val (.int base), .val (.int dl), .val (.int mk), .val (.int r2), .val (.int z5), .val (.int z8), .val (.int z11), .val (.int z14), .val (.int z17), .val (.ref bp20), .val (.ref bp26), .unset] [])) _
                    refine XS.iload X26.here hx rfl (hb hby at_126) rfl ?_
                    show Steps pP.tables eE below (T26.setTop (mkF mM 128 #[.val (.int base), .val (.int dl), .val (.int mk), .val (.int r2), .val (.int z5), .val (.int z8), .val (.int z11), .val (.int z14), .val (.int z17), .val (.ref bp20), .val (.ref bp26), .unset] [(.int z14)])) _
                    refine XS.iconst X26.here hx rfl (hb hby at_128) ?_
                    show Steps pP.tables eE below (T26.setTop (mkF mM 129 #[.val (.int base), .val (.int dl), .val (.int mk), .val (.int r2), .val (.int z5), .val (.int z8), .val (.int z11), .val (.int z14), .val (.int z17), .val (.ref bp20), .val (.ref bp26), .unset] [(.int (4 : Int32)), (.int z14)])) _
                    refine XS.iand X26.here hx rfl (hb hby at_129) rfl ?_
                    show Steps pP.tables eE below (T26.setTop (mkF mM 130 #[.val (.int base), .val (.int dl), .val (.int mk), .val (.int r2), .val (.int z5), .val (.int z8), .val (.int z11), .val (.int z14), .val (.int z17), .val (.ref bp20), .val (.ref bp26), .unset] [(.int (z14 &&& (4 : Int32)))])) _
                    refine XS.ifNo X26.here hx rfl (hb hby at_130) rfl ((if0 _ _).trans (feq hj130_57).1) ?_
                    show Steps pP.tables eE below (T26.setTop (mkF mM 133 #[.val (.int base), .val (.int dl), .val (.int mk), .val (.int r2), .val (.int z5), .val (.int z8), .val (.int z11), .val (.int z14), .val (.int z17), .val (.ref bp20), .val (.ref bp26), .unset] [])) _
                    refine XS.iload X26.here hx rfl (hb hby at_133) rfl ?_
                    show Steps pP.tables eE below (T26.setTop (mkF mM 135 #[.val (.int base), .val (.int dl), .val (.int mk), .val (.int r2), .val (.int z5), .val (.int z8), .val (.int z11), .val (.int z14), .val (.int z17), .val (.ref bp20), .val (.ref bp26), .unset] [(.int z17)])) _
                    refine XS.iconst X26.here hx rfl (hb hby at_135) ?_
                    show Steps pP.tables eE below (T26.setTop (mkF mM 136 #[.val (.int base), .val (.int dl), .val (.int mk), .val (.int r2), .val (.int z5), .val (.int z8), .val (.int z11), .val (.int z14), .val (.int z17), .val (.ref bp20), .val (.ref bp26), .unset] [(.int (4 : Int32)), (.int z17)])) _
                    refine XS.iand X26.here hx rfl (hb hby at_136) rfl ?_
                    show Steps pP.tables eE below (T26.setTop (mkF mM 137 #[.val (.int base), .val (.int dl), .val (.int mk), .val (.int r2), .val (.int z5), .val (.int z8), .val (.int z11), .val (.int z14), .val (.int z17), .val (.ref bp20), .val (.ref bp26), .unset] [(.int (z17 &&& (4 : Int32)))])) _
                    refine XS.ifYes X26.here hx rfl (pc0 := 137) (pc' := 147) rfl (hb hby at_137) rfl ((if0 _ _).trans (feq hj137_60).2) (by decide) (by decide) ?_
                    show Steps pP.tables eE below (T26.setTop (mkF mM 147 #[.val (.int base), .val (.int dl), .val (.int mk), .val (.int r2), .val (.int z5), .val (.int z8), .val (.int z11), .val (.int z14), .val (.int z17), .val (.ref bp20), .val (.ref bp26), .unset] [])) _
                    refine XS.iload X26.here hx rfl (hb hby at_147) rfl ?_
                    show Steps pP.tables eE below (T26.setTop (mkF mM 149 #[.val (.int base), .val (.int dl), .val (.int mk), .val (.int r2), .val (.int z5), .val (.int z8), .val (.int z11), .val (.int z14), .val (.int z17), .val (.ref bp20), .val (.ref bp26), .unset] [(.int z14)])) _
                    refine XS.bipush X26.here hx rfl (hb hby at_149) ?_
                    show Steps pP.tables eE below (T26.setTop (mkF mM 151 #[.val (.int base), .val (.int dl), .val (.int mk), .val (.int r2), .val (.int z5), .val (.int z8), .val (.int z11), .val (.int z14), .val (.int z17), .val (.ref bp20), .val (.ref bp26), .unset] [(.int (8 : Int32)), (.int z14)])) _
                    refine XS.iand X26.here hx rfl (hb hby at_151) rfl ?_
                    show Steps pP.tables eE below (T26.setTop (mkF mM 152 #[.val (.int base), .val (.int dl), .val (.int mk), .val (.int r2), .val (.int z5), .val (.int z8), .val (.int z11), .val (.int z14), .val (.int z17), .val (.ref bp20), .val (.ref bp26), .unset] [(.int (z14 &&& (8 : Int32)))])) _
                    refine XS.ifNo X26.here hx rfl (hb hby at_152) rfl ((if0 _ _).trans (feq hj152_61).1) ?_
                    show Steps pP.tables eE below (T26.setTop (mkF mM 155 #[.val (.int base), .val (.int dl), .val (.int mk), .val (.int r2), .val (.int z5), .val (.int z8), .val (.int z11), .val (.int z14), .val (.int z17), .val (.ref bp20), .val (.ref bp26), .unset] [])) _
                    refine XS.iload X26.here hx rfl (hb hby at_155) rfl ?_
                    show Steps pP.tables eE below (T26.setTop (mkF mM 157 #[.val (.int base), .val (.int dl), .val (.int mk), .val (.int r2), .val (.int z5), .val (.int z8), .val (.int z11), .val (.int z14), .val (.int z17), .val (.ref bp20), .val (.ref bp26), .unset] [(.int z17)])) _
                    refine XS.bipush X26.here hx rfl (hb hby at_157) ?_
                    show Steps pP.tables eE below (T26.setTop (mkF mM 159 #[.val (.int base), .val (.int dl), .val (.int mk), .val (.int r2), .val (.int z5), .val (.int z8), .val (.int z11), .val (.int z14), .val (.int z17), .val (.ref bp20), .val (.ref bp26), .unset] [(.int (8 : Int32)), (.int z17)])) _
                    refine XS.iand X26.here hx rfl (hb hby at_159) rfl ?_
                    show Steps pP.tables eE below (T26.setTop (mkF mM 160 #[.val (.int base), .val (.int dl), .val (.int mk), .val (.int r2), .val (.int z5), .val (.int z8), .val (.int z11), .val (.int z14), .val (.int z17), .val (.ref bp20), .val (.ref bp26), .unset] [(.int (z17 &&& (8 : Int32)))])) _
                    refine XS.ifNo X26.here hx rfl (hb hby at_160) rfl ((if0 _ _).trans (teq hj160_62).2) ?_
                    show Steps pP.tables eE below (T26.setTop (mkF mM 163 #[.val (.int base), .val (.int dl), .val (.int mk), .val (.int r2), .val (.int z5), .val (.int z8), .val (.int z11), .val (.int z14), .val (.int z17), .val (.ref bp20), .val (.ref bp26), .unset] [])) _
                    refine XS.iload X26.here hx rfl (hb hby at_163) rfl ?_
                    show Steps pP.tables eE below (T26.setTop (mkF mM 165 #[.val (.int base), .val (.int dl), .val (.int mk), .val (.int r2), .val (.int z5), .val (.int z8), .val (.int z11), .val (.int z14), .val (.int z17), .val (.ref bp20), .val (.ref bp26), .unset] [(.int z11)])) _
                    refine XS.istore X26.here hx rfl (hb hby at_165) rfl (l' := #[.val (.int base), .val (.int dl), .val (.int mk), .val (.int r2), .val (.int z5), .val (.int z8), .val (.int z11), .val (.int z14), .val (.int z17), .val (.ref bp20), .val (.ref bp26), .val (.int z11)]) rfl ?_
                    show Steps pP.tables eE below (T26.setTop (mkF mM 167 #[.val (.int base), .val (.int dl), .val (.int mk), .val (.int r2), .val (.int z5), .val (.int z8), .val (.int z11), .val (.int z14), .val (.int z17), .val (.ref bp20), .val (.ref bp26), .val (.int z11)] [])) _
                    refine XS.goto X26.here hx rfl (pc0 := 167) (pc' := 173) rfl (hb hby at_167) (by decide) (by decide) ?_
                    exact kg
                  ·
                    refine ⟨(-1 : Int32), (by rw [if_neg hj89_33, if_neg hj96_48, if_neg hj109_49, if_neg hj116_56, if_neg hj130_57, if_neg hj137_60, if_neg hj152_61, if_neg hj160_62]), fun tg kg => ?_⟩
                    show Steps pP.tables eE below (T26.setTop (mkF mM 89 #[.val (.int base), .val (.int dl), .val (.int mk), .val (.int r2), .val (.int z5), .val (.int z8), .val (.int z11), .val (.int z14), .val (.int z17), .val (.ref bp20), .val (.ref bp26), .unset] [(.int (z14 &&& (1 : Int32)))])) _
                    refine XS.ifNo X26.here hx rfl (hb hby at_89) rfl ((if0 _ _).trans (feq hj89_33).1) ?_
                    show Steps pP.tables eE below (T26.setTop (mkF mM 92 #[.val (.int base), .val (.int dl), .val (.int mk), .val (.int r2), .val (.int z5), .val (.int z8), .val (.int z11), .val (.int z14), .val (.int z17), .val (.ref bp20), .val (.ref bp26), .unset] [])) _
                    refine XS.iload X26.here hx rfl (hb hby at_92) rfl ?_
                    show Steps pP.tables eE below (T26.setTop (mkF mM 94 #[.val (.int base), .val (.int dl), .val (.int mk), .val (.int r2), .val (.int z5), .val (.int z8), .val (.int z11), .val (.int z14), .val (.int z17), .val (.ref bp20), .val (.ref bp26), .unset] [(.int z17)])) _
                    refine XS.iconst X26.here hx rfl (hb hby at_94) ?_
                    show Steps pP.tables eE below (T26.setTop (mkF mM 95 #[.val (.int base), .val (.int dl), .val (.int mk), .val (.int r2), .val (.int z5), .val (.int z8), .val (.int z11), .val (.int z14), .val (.int z17), .val (.ref bp20), .val (.ref bp26), .unset] [(.int (1 : Int32)), (.int z17)])) _
                    refine XS.iand X26.here hx rfl (hb hby at_95) rfl ?_
                    show Steps pP.tables eE below (T26.setTop (mkF mM 96 #[.val (.int base), .val (.int dl), .val (.int mk), .val (.int r2), .val (.int z5), .val (.int z8), .val (.int z11), .val (.int z14), .val (.int z17), .val (.ref bp20), .val (.ref bp26), .unset] [(.int (z17 &&& (1 : Int32)))])) _
                    refine XS.ifYes X26.here hx rfl (pc0 := 96) (pc' := 105) rfl (hb hby at_96) rfl ((if0 _ _).trans (feq hj96_48).2) (by decide) (by decide) ?_
                    show Steps pP.tables eE below (T26.setTop (mkF mM 105 #[.val (.int base), .val (.int dl), .val (.int mk), .val (.int r2), .val (.int z5), .val (.int z8), .val (.int z11), .val (.int z14), .val (.int z17), .val (.ref bp20), .val (.ref bp26), .unset] [])) _
                    refine XS.iload X26.here hx rfl (hb hby at_105) rfl ?_
                    show Steps pP.tables eE below (T26.setTop (mkF mM 107 #[.val (.int base), .val (.int dl), .val (.int mk), .val (.int r2), .val (.int z5), .val (.int z8), .val (.int z11), .val (.int z14), .val (.int z17), .val (.ref bp20), .val (.ref bp26), .unset] [(.int z14)])) _
                    refine XS.iconst X26.here hx rfl (hb hby at_107) ?_
                    show Steps pP.tables eE below (T26.setTop (mkF mM 108 #[.val (.int base), .val (.int dl), .val (.int mk), .val (.int r2), .val (.int z5), .val (.int z8), .val (.int z11), .val (.int z14), .val (.int z17), .val (.ref bp20), .val (.ref bp26), .unset] [(.int (2 : Int32)), (.int z14)])) _
                    refine XS.iand X26.here hx rfl (hb hby at_108) rfl ?_
                    show Steps pP.tables eE below (T26.setTop (mkF mM 109 #[.val (.int base), .val (.int dl), .val (.int mk), .val (.int r2), .val (.int z5), .val (.int z8), .val (.int z11), .val (.int z14), .val (.int z17), .val (.ref bp20), .val (.ref bp26), .unset] [(.int (z14 &&& (2 : Int32)))])) _
                    refine XS.ifNo X26.here hx rfl (hb hby at_109) rfl ((if0 _ _).trans (feq hj109_49).1) ?_
                    show Steps pP.tables eE below (T26.setTop (mkF mM 112 #[.val (.int base), .val (.int dl), .val (.int mk), .val (.int r2), .val (.int z5), .val (.int z8), .val (.int z11), .val (.int z14), .val (.int z17), .val (.ref bp20), .val (.ref bp26), .unset] [])) _
                    refine XS.iload X26.here hx rfl (hb hby at_112) rfl ?_
                    show Steps pP.tables eE below (T26.setTop (mkF mM 114 #[.val (.int base), .val (.int dl), .val (.int mk), .val (.int r2), .val (.int z5), .val (.int z8), .val (.int z11), .val (.int z14), .val (.int z17), .val (.ref bp20), .val (.ref bp26), .unset] [(.int z17)])) _
                    refine XS.iconst X26.here hx rfl (hb hby at_114) ?_
                    show Steps pP.tables eE below (T26.setTop (mkF mM 115 #[.val (.int base), .val (.int dl), .val (.int mk), .val (.int r2), .val (.int z5), .val (.int z8), .val (.int z11), .val (.int z14), .val (.int z17), .val (.ref bp20), .val (.ref bp26), .unset] [(.int (2 : Int32)), (.int z17)])) _
                    refine XS.iand X26.here hx rfl (hb hby at_115) rfl ?_
                    show Steps pP.tables eE below (T26.setTop (mkF mM 116 #[.val (.int base), .val (.int dl), .val (.int mk), .val (.int r2), .val (.int z5), .val (.int z8), .val (.int z11), .val (.int z14), .val (.int z17), .val (.ref bp20), .val (.ref bp26), .unset] [(.int (z17 &&& (2 : Int32)))])) _
                    refine XS.ifYes X26.here hx rfl (pc0 := 116) (pc' := 126) rfl (hb hby at_116) rfl ((if0 _ _).trans (feq hj116_56).2) (by decide) (by decide) ?_
                    show Steps pP.tables eE below (T26.setTop (mkF mM 126 #[.val (.int base), .val (.int dl), .val (.int mk), .val (.int r2), .val (.int z5), .val (.int z8), .val (.int z11), .val (.int z14), .val (.int z17), .val (.ref bp20), .val (.ref bp26), .unset] [])) _
                    refine XS.iload X26.here hx rfl (hb hby at_126) rfl ?_
                    show Steps pP.tables eE below (T26.setTop (mkF mM 128 #[.val (.int base), .val (.int dl), .val (.int mk), .val (.int r2), .val (.int z5), .val (.int z8), .val (.int z11), .val (.int z14), .val (.int z17), .val (.ref bp20), .val (.ref bp26), .unset] [(.int z14)])) _
                    refine XS.iconst X26.here hx rfl (hb hby at_128) ?_
                    show Steps pP.tables eE below (T26.setTop (mkF mM 129 #[.val (.int base), .val (.int dl), .val (.int mk), .val (.int r2), .val (.int z5), .val (.int z8), .val (.int z11), .val (.int z14), .val (.int z17), .val (.ref bp20), .val (.ref bp26), .unset] [(.int (4 : Int32)), (.int z14)])) _
                    refine XS.iand X26.here hx rfl (hb hby at_129) rfl ?_
                    show Steps pP.tables eE below (T26.setTop (mkF mM 130 #[.val (.int base), .val (.int dl), .val (.int mk), .val (.int r2), .val (.int z5), .val (.int z8), .val (.int z11), .val (.int z14), .val (.int z17), .val (.ref bp20), .val (.ref bp26), .unset] [(.int (z14 &&& (4 : Int32)))])) _
                    refine XS.ifNo X26.here hx rfl (hb hby at_130) rfl ((if0 _ _).trans (feq hj130_57).1) ?_
                    show Steps pP.tables eE below (T26.setTop (mkF mM 133 #[.val (.int base), .val (.int dl), .val (.int mk), .val (.int r2), .val (.int z5), .val (.int z8), .val (.int z11), .val (.int z14), .val (.int z17), .val (.ref bp20), .val (.ref bp26), .unset] [])) _
                    refine XS.iload X26.here hx rfl (hb hby at_133) rfl ?_
                    show Steps pP.tables eE below (T26.setTop (mkF mM 135 #[.val (.int base), .val (.int dl), .val (.int mk), .val (.int r2), .val (.int z5), .val (.int z8), .val (.int z11), .val (.int z14), .val (.int z17), .val (.ref bp20), .val (.ref bp26), .unset] [(.int z17)])) _
                    refine XS.iconst X26.here hx rfl (hb hby at_135) ?_
                    show Steps pP.tables eE below (T26.setTop (mkF mM 136 #[.val (.int base), .val (.int dl), .val (.int mk), .val (.int r2), .val (.int z5), .val (.int z8), .val (.int z11), .val (.int z14), .val (.int z17), .val (.ref bp20), .val (.ref bp26), .unset] [(.int (4 : Int32)), (.int z17)])) _
                    refine XS.iand X26.here hx rfl (hb hby at_136) rfl ?_
                    show Steps pP.tables eE below (T26.setTop (mkF mM 137 #[.val (.int base), .val (.int dl), .val (.int mk), .val (.int r2), .val (.int z5), .val (.int z8), .val (.int z11), .val (.int z14), .val (.int z17), .val (.ref bp20), .val (.ref bp26), .unset] [(.int (z17 &&& (4 : Int32)))])) _
                    refine XS.ifYes X26.here hx rfl (pc0 := 137) (pc' := 147) rfl (hb hby at_137) rfl ((if0 _ _).trans (feq hj137_60).2) (by decide) (by decide) ?_
                    show Steps pP.tables eE below (T26.setTop (mkF mM 147 #[.val (.int base), .val (.int dl), .val (.int mk), .val (.int r2), .val (.int z5), .val (.int z8), .val (.int z11), .val (.int z14), .val (.int z17), .val (.ref bp20), .val (.ref bp26), .unset] [])) _
                    refine XS.iload X26.here hx rfl (hb hby at_147) rfl ?_
                    show Steps pP.tables eE below (T26.setTop (mkF mM 149 #[.val (.int base), .val (.int dl), .val (.int mk), .val (.int r2), .val (.int z5), .val (.int z8), .val (.int z11), .val (.int z14), .val (.int z17), .val (.ref bp20), .val (.ref bp26), .unset] [(.int z14)])) _
                    refine XS.bipush X26.here hx rfl (hb hby at_149) ?_
                    show Steps pP.tables eE below (T26.setTop (mkF mM 151 #[.val (.int base), .val (.int dl), .val (.int mk), .val (.int r2), .val (.int z5), .val (.int z8), .val (.int z11), .val (.int z14), .val (.int z17), .val (.ref bp20), .val (.ref bp26), .unset] [(.int (8 : Int32)), (.int z14)])) _
                    refine XS.iand X26.here hx rfl (hb hby at_151) rfl ?_
                    show Steps pP.tables eE below (T26.setTop (mkF mM 152 #[.val (.int base), .val (.int dl), .val (.int mk), .val (.int r2), .val (.int z5), .val (.int z8), .val (.int z11), .val (.int z14), .val (.int z17), .val (.ref bp20), .val (.ref bp26), .unset] [(.int (z14 &&& (8 : Int32)))])) _
                    refine XS.ifNo X26.here hx rfl (hb hby at_152) rfl ((if0 _ _).trans (feq hj152_61).1) ?_
                    show Steps pP.tables eE below (T26.setTop (mkF mM 155 #[.val (.int base), .val (.int dl), .val (.int mk), .val (.int r2), .val (.int z5), .val (.int z8), .val (.int z11), .val (.int z14), .val (.int z17), .val (.ref bp20), .val (.ref bp26), .unset] [])) _
                    refine XS.iload X26.here hx rfl (hb hby at_155) rfl ?_
                    show Steps pP.tables eE below (T26.setTop (mkF mM 157 #[.val (.int base), .val (.int dl), .val (.int mk), .val (.int r2), .val (.int z5), .val (.int z8), .val (.int z11), .val (.int z14), .val (.int z17), .val (.ref bp20), .val (.ref bp26), .unset] [(.int z17)])) _
                    refine XS.bipush X26.here hx rfl (hb hby at_157) ?_
                    show Steps pP.tables eE below (T26.setTop (mkF mM 159 #[.val (.int base), .val (.int dl), .val (.int mk), .val (.int r2), .val (.int z5), .val (.int z8), .val (.int z11), .val (.int z14), .val (.int z17), .val (.ref bp20), .val (.ref bp26), .unset] [(.int (8 : Int32)), (.int z17)])) _
                    refine XS.iand X26.here hx rfl (hb hby at_159) rfl ?_
                    show Steps pP.tables eE below (T26.setTop (mkF mM 160 #[.val (.int base), .val (.int dl), .val (.int mk), .val (.int r2), .val (.int z5), .val (.int z8), .val (.int z11), .val (.int z14), .val (.int z17), .val (.ref bp20), .val (.ref bp26), .unset] [(.int (z17 &&& (8 : Int32)))])) _
                    refine XS.ifYes X26.here hx rfl (pc0 := 160) (pc' := 170) rfl (hb hby at_160) rfl ((if0 _ _).trans (feq hj160_62).2) (by decide) (by decide) ?_
                    show Steps pP.tables eE below (T26.setTop (mkF mM 170 #[.val (.int base), .val (.int dl), .val (.int mk), .val (.int r2), .val (.int z5), .val (.int z8), .val (.int z11), .val (.int z14), .val (.int z17), .val (.ref bp20), .val (.ref bp26), .unset] [])) _
                    refine XS.iconst X26.here hx rfl (hb hby at_170) ?_
                    show Steps pP.tables eE below (T26.setTop (mkF mM 171 #[.val (.int base), .val (.int dl), .val (.int mk), .val (.int r2), .val (.int z5), .val (.int z8), .val (.int z11), .val (.int z14), .val (.int z17), .val (.ref bp20), .val (.ref bp26), .unset] [(.int (-1 : Int32))])) _
                    refine XS.istore X26.here hx rfl (hb hby at_171) rfl (l' := #[.val (.int base), .val (.int dl), .val (.int mk), .val (.int r2), .val (.int z5), .val (.int z8), .val (.int z11), .val (.int z14), .val (.int z17), .val (.ref bp20), .val (.ref bp26), .val (.int (-1 : Int32))]) rfl ?_
                    exact kg
  have pr65 : ∀ tg, Steps pP.tables eE below (T26.setTop (mkF mM 173 #[.val (.int base), .val (.int dl), .val (.int mk), .val (.int r2), .val (.int z5), .val (.int z8), .val (.int z11), .val (.int z14), .val (.int z17), .val (.ref bp20), .val (.ref bp26), .val (.int j63)] [])) tg → Steps pP.tables eE below (s₁.setTop (entryFrame mM #[(.int base), (.int dl), (.int mk)] maxLocals)) tg := fun tg kg => pr32 _ (st64 _ kg)
  have c66 := (Arv.keep V20 K26 nin0)
  have pr67 : ∀ tg, Steps pP.tables eE below (T26.setTop (mkF mM 177 #[.val (.int base), .val (.int dl), .val (.int mk), .val (.int r2), .val (.int z5), .val (.int z8), .val (.int z11), .val (.int z14), .val (.int z17), .val (.ref bp20), .val (.ref bp26), .val (.int j63)] [(.ref bp26), (.ref bp20)])) tg → Steps pP.tables eE below (s₁.setTop (entryFrame mM #[(.int base), (.int dl), (.int mk)] maxLocals)) tg := fun tg kg => pr65 _ (by
    show Steps pP.tables eE below (T26.setTop (mkF mM 173 #[.val (.int base), .val (.int dl), .val (.int mk), .val (.int r2), .val (.int z5), .val (.int z8), .val (.int z11), .val (.int z14), .val (.int z17), .val (.ref bp20), .val (.ref bp26), .val (.int j63)] [])) _
    refine XS.aload X26.here hx rfl (hb hby at_173) rfl rfl ?_
    show Steps pP.tables eE below (T26.setTop (mkF mM 175 #[.val (.int base), .val (.int dl), .val (.int mk), .val (.int r2), .val (.int z5), .val (.int z8), .val (.int z11), .val (.int z14), .val (.int z17), .val (.ref bp20), .val (.ref bp26), .val (.int j63)] [(.ref bp20)])) _
    refine XS.aload X26.here hx rfl (hb hby at_175) rfl rfl ?_
    exact kg)
  have c68 := (Nat.le_trans c25 K26.1)
  obtain ⟨_, _, ⟨T69, L69, kk69, nn69⟩, -, X69, ⟨Lc69, hQ69, l69, y69, z69⟩, st69⟩ := Jvm.LawKit.callS X26 hx (y := (⟨"com/example/refine/refine/refinement/NormalisedLts", "firstNotIn", "([I[I)I"⟩ : MethodName)) hown (mvT hZ (hw _ (List.mem_of_getElem? (i := 14) rfl))) (mvT hZ (hw _ (List.mem_of_getElem? (i := 15) rfl))) (mvT hZ (hw _ (List.mem_of_getElem? (i := 16) rfl))) (mvT hZ (hw _ (List.mem_of_getElem? (i := 17) rfl))) (by decide) (backOf (W := 0) (rm4 l Z a0 hw [] bp20 bp26 kp20 kp26 (own_pick r2 z5 z8 z11 z14) (own_pick r2 z5 z8 z11 z17) T26.heap n0 c68 c66 V26 (own_plen _ _ _ _ _) (own_plen _ _ _ _ _)) hZ (hw _ (List.mem_of_getElem? (i := 17) rfl)) (hw _ (List.mem_of_getElem? (i := 16) rfl)) (by decide) (by decide)) (g := (mkF mM 177 #[.val (.int base), .val (.int dl), .val (.int mk), .val (.int r2), .val (.int z5), .val (.int z8), .val (.int z11), .val (.int z14), .val (.int z17), .val (.ref bp20), .val (.ref bp26), .val (.int j63)] [(.ref bp26), (.ref bp20)])) rfl (by rw [hml]; rfl) (argsL := [(.ref bp20), (.ref bp26)]) (rest := []) (lenOf pd_3 rfl) rfl (by show 2 * 0 + _ ≤ _; exact Nat.le_of_eq rfl) (hb hby at_177) (fun _ _ => ⟨rfl, rfl, (by decide : 4 + 0 ≤ _), (by decide : 16 + 0 ≤ _)⟩)
  dsimp only [Pt.U, Pt.locs, Pt.cells, Pt.slots] at X69 l69 y69 z69 st69 hQ69
  subst l69 y69 z69
  obtain ⟨rfl, Nq69, e69⟩ := hQ69
  have N69 := Fr.app N26 Nq69
  have pr70 : ∀ tg, Steps pP.tables eE below (T69.setTop (mkF mM 180 #[.val (.int base), .val (.int dl), .val (.int mk), .val (.int r2), .val (.int z5), .val (.int z8), .val (.int z11), .val (.int z14), .val (.int z17), .val (.ref bp20), .val (.ref bp26), .val (.int j63)] [(.int (own_fni (own_pick r2 z5 z8 z11 z14) (own_pick r2 z5 z8 z11 z17)))])) tg → Steps pP.tables eE below (s₁.setTop (entryFrame mM #[(.int base), (.int dl), (.int mk)] maxLocals)) tg := fun tg kg => pr67 _ (st69 _ kg)
  have pr71 : ∀ tg, Steps pP.tables eE below (T69.setTop (mkF mM 182 #[.val (.int base), .val (.int dl), .val (.int mk), .val (.int r2), .val (.int z5), .val (.int z8), .val (.int z11), .val (.int z14), .val (.int z17), .val (.ref bp20), .val (.ref bp26), .val (.int j63)] [(.int j63), (.int (own_fni (own_pick r2 z5 z8 z11 z14) (own_pick r2 z5 z8 z11 z17)))])) tg → Steps pP.tables eE below (s₁.setTop (entryFrame mM #[(.int base), (.int dl), (.int mk)] maxLocals)) tg := fun tg kg => pr70 _ (by
    show Steps pP.tables eE below (T69.setTop (mkF mM 180 #[.val (.int base), .val (.int dl), .val (.int mk), .val (.int r2), .val (.int z5), .val (.int z8), .val (.int z11), .val (.int z14), .val (.int z17), .val (.ref bp20), .val (.ref bp26), .val (.int j63)] [(.int (own_fni (own_pick r2 z5 z8 z11 z14) (own_pick r2 z5 z8 z11 z17)))])) _
    refine XS.iload X69.here hx rfl (hb hby at_180) rfl ?_
    exact kg)
  obtain ⟨hu1, hu2, hu3⟩ := own_u hr2 hz5 hz8 hz11
  have pr72 : ∀ tg, Steps pP.tables eE below (T69.setTop (mkF mM 190 #[.val (.int base), .val (.int dl), .val (.int mk), .val (.int r2), .val (.int z5), .val (.int z8), .val (.int z11), .val (.int z14), .val (.int z17), .val (.ref bp20), .val (.ref bp26), .val (.int j63)] [(.int (1 : Int32))])) tg → Steps pP.tables eE below (s₁.setTop (entryFrame mM #[(.int base), (.int dl), (.int mk)] maxLocals)) tg := fun tg kg => pr71 _ (by
    show Steps pP.tables eE below (T69.setTop (mkF mM 182 #[.val (.int base), .val (.int dl), .val (.int mk), .val (.int r2), .val (.int z5), .val (.int z8), .val (.int z11), .val (.int z14), .val (.int z17), .val (.ref bp20), .val (.ref bp26), .val (.int j63)] [(.int j63), (.int (own_fni (own_pick r2 z5 z8 z11 z14) (own_pick r2 z5 z8 z11 z17)))])) _
    refine XS.icmpNo X69.here hx rfl (hb hby at_182) rfl (teq ((own_final z14 z17 hu1 hu2 hu3).trans hj63.symm)).2 ?_
    show Steps pP.tables eE below (T69.setTop (mkF mM 185 #[.val (.int base), .val (.int dl), .val (.int mk), .val (.int r2), .val (.int z5), .val (.int z8), .val (.int z11), .val (.int z14), .val (.int z17), .val (.ref bp20), .val (.ref bp26), .val (.int j63)] [])) _
    refine XS.iconst X69.here hx rfl (hb hby at_185) ?_
    show Steps pP.tables eE below (T69.setTop (mkF mM 186 #[.val (.int base), .val (.int dl), .val (.int mk), .val (.int r2), .val (.int z5), .val (.int z8), .val (.int z11), .val (.int z14), .val (.int z17), .val (.ref bp20), .val (.ref bp26), .val (.int j63)] [(.int (1 : Int32))])) _
    refine XS.goto X69.here hx rfl (pc0 := 186) (pc' := 190) rfl (hb hby at_186) (by decide) (by decide) ?_
    exact kg)
  obtain ⟨fs, hr, hrun, hended, hW, hsame⟩ := X69.leave (v := some (.int (1 : Int32))) (fun h => by rw [Bd.returns] at h; cases h)
  refine ⟨_, _, pr72 _ (retOut X69 hx (t := .boolean) Bd.returns rfl (Or.inl ⟨rfl, Or.inr (Or.inl rfl), _, rfl⟩) (hb hby at_190) hr), hrun, hended, _, _, rfl, ?_, ⟨_, rfl⟩, hW, hsame.mono (by decide) (by decide)⟩
  show Q0 Z base dl mk h0 n0 _ T69.heap _
  rw [e69]
  exact ⟨rfl, N69⟩
set_option maxRecDepth 65536 in
set_option maxHeartbeats 40000000 in
theorem comes_1 {Post : Tables → Env → Array Value → State → Outcome → State → Prop} (hpost : ∀ tb e args s v u, (limb_1_1.after args s (.returned v) u = true ∧ limb_1_2.after args s (.returned v) u = true ∧ True) → FrameEnd s (.returned v) u (Jvm.fieldLocs frame_1_writes args s ++ Jvm.arrayLocs frame_1_arrays args s ++ Jvm.staticLocs frame_1_statics s) 16 128 → Post tb e args s (.returned v) u) :
    ArmFor flags0 classFile x code maxLocals ret World_1 tables_1 room_1 Calls_1 rest_1 Pre_1 Post := by
  intro l hfl _ _ p e ha hc hk s m args below hf hA hF happ hP
  obtain ⟨hcalls, hrest, hpre⟩ := hP
  obtain ⟨-, -, -, hnamed, -, -, -, hat⟩ := (Spec.applies_iff hf).mp happ
  obtain ⟨hg, hn⟩ := and_e (Cond.before_iff.mp (show (Jvm.Cond.and given_1 narrow_1).before args s = true from hpre))
  obtain ⟨n1, n2⟩ := and_e hg
  obtain ⟨n3, n4⟩ := and_e n2
  obtain ⟨n5, n6⟩ := and_e n4
  obtain ⟨w0, w1, w2, rfl⟩ : ∃ w0 w1 w2 : Value, args = #[w0, w1, w2] := by
    have hs : args.size = 3 := by simpa [Cond.value, given_1] using n1
    obtain ⟨L⟩ := args
    match L, hs with
    | [w0, w1, w2], _ => exact ⟨w0, w1, w2, rfl⟩
  have hw := fun d (hd : d ∈ tables_1) => atoms_spec (ws := Jvm.Cond.code x code maxLocals ret :: tables_1) hat d (List.mem_cons_of_mem _ hd)
  have hfit : Fit s := fun {y c} hc i hi => by
    obtain ⟨ha, rfl⟩ := Array.getElem?_eq_some_iff.mp hc
    have q := List.all_eq_true.mp ((Array.all_eq_true_iff_forall_mem.mp hF) _ (Array.getElem_mem ha)) i (List.mem_range.mpr hi)
    simpa [Array.getElem?_eq_getElem hi] using q
  obtain ⟨i0, ei0⟩ := is_v n3
  obtain rfl : w0 = (.int i0) := Option.some.inj ei0
  obtain ⟨i1, ei1⟩ := is_v n5
  obtain rfl : w1 = (.int i1) := Option.some.inj ei1
  obtain ⟨i2, ei2⟩ := is_v n6
  obtain rfl : w2 = (.int i2) := Option.some.inj ei2
  obtain ⟨n, o, h1, h2, h3, _, L, rfl, ⟨rfl, N⟩, hq⟩ := rm0 l s _ hw tables_1 i0 i1 i2 s.heap s.heap.size (Nat.le_refl _)  p e ha hc hk s m _ below hf ((Spec.applies_iff_loose hf).mp happ).1 ⟨rfl, State.Warmed39.refl s, rfl⟩ trivial
  refine ⟨n, _, h1, h2, h3, hpost _ _ _ _ _ _ ⟨Cond.after_iff.mpr rfl, Cond.after_iff.mpr (eq_i res_at (Term.int_eval (1)) rfl), trivial⟩ ⟨hq.1, hq.2.1, (hq.2.2.sift fun y hy => Or.inr (N y hy)).mono (by decide) (by decide)⟩⟩
theorem main_1_1 : Claimed_1_1 := comes_1 fun _ _ _ _ _ _ h hF => ⟨h.1, hF⟩
theorem main_1_2 : Claimed_1_2 := comes_1 fun _ _ _ _ _ _ h hF => ⟨h.2.1, hF⟩
end Jvm.Pilot.@@N@@
namespace Jvm.Pilot.@@N@@
open Jvm Jvm.ClassFile Sem Op Lib Jvm.Free Jvm.Stand Jvm.Pilot.@@N@@.Jvm.D
/-! MADE BY PROGRAM (witnessworld.py) out of the Statement's table words and the real class files: 11 classes; the members and pool entries that the words name. The judged class is class 1, her method 1. -/
namespace start1
open Jvm.ClassFile
def u (s : String) : CpInfo := .utf8 (stringToUtf16 s)
/-- a pool by its gaps: so many unusable entries, then the entry; so many at the end -/
def gap : Nat → List CpInfo → List CpInfo
  | 0, r => r
  | n + 1, r => .unusable :: gap n r
def poolList (es : List (Nat × CpInfo)) (last : Nat) : List CpInfo := es.foldr (fun e r => gap e.1 (e.2 :: r)) (gap last [])
def pool (es : List (Nat × CpInfo)) (last : Nat) : Array CpInfo := ⟨poolList es last⟩
def fileOf (pool : Array CpInfo) (this : Nat) (attrs : Array Attribute := #[]) (ms : Array MethodInfo := #[]) (fl : Nat := 33) (sup : Nat := 0) (ifs : Array Nat := #[]) (fds : Array FieldInfo := #[]) : ClassFile where
  minorVersion := 0
  majorVersion := 65
  constantPool := pool
  accessFlags := fl
  thisClass := this
  superClass := sup
  interfaces := ifs
  fields := fds
  methods := ms
  attributes := attrs
def plain (name : String) (sup : Option ClassId) : Class where
  name := name
  kind := .ordinary
  loader := none
  accessFlags := 33
  super := sup
  interfaces := #[]
  cf := none
  fields := #[]
  methods := #[]
  instanceTypes := #[]
  staticTypes := #[]
  resolved := #[]
  callSites := []
  init := .initialized
  statics := none
  mirror := none

def pool0 : Array CpInfo := pool [(5, u "<init>"), (0, u "()V"), (1, .class_ 10), (1, u "java/lang/Object")] 113

def k0m0 : Method := { name := "<init>", desc := "()V", sig := { parameters := [], returnType := none }, accessFlags := 1, code := none }
/-- java/lang/Object -/
def k0 : Class := { plain "java/lang/Object" none with
  accessFlags := 33
  interfaces := #[]
  cf := some (fileOf pool0 8 #[] #[{ accessFlags := 1, nameIndex := 5, descriptorIndex := 6, attributes := #[] }] 33 0 #[] #[])
  fields := #[]
  methods := #[k0m0]
  instanceTypes := #[]
  staticTypes := #[]
  resolved := Array.replicate 124 none
  statics := none }

def pool1 : Array CpInfo := pool [(2, .class_ 4), (1, u "java/lang/Object"), (0, u "<init>"), (0, u "()V"), (0, .integer 2147483647), (0, .integer 2147483631), (0, .methodref 10 11), (0, .class_ 12), (0, .nameAndType 13 14), (0, u "java/lang/Math"), (0, u "min"), (0, u "(II)I"), (0, .methodref 16 17), (0, .class_ 18), (0, .nameAndType 19 20), (0, u "com/example/refine/refine/refinement/NormalisedLtsFirstNotInPinLaw"), (0, u "pick"), (0, u "(IIIII)[I"), (0, .methodref 22 23), (0, .class_ 24), (0, .nameAndType 25 26), (0, u "com/example/refine/refine/refinement/NormalisedLts"), (0, u "firstNotIn"), (0, u "([I[I)I"), (0, .methodref 16 28), (0, .nameAndType 29 30), (0, u "take"), (0, u "([II)[I"), (2, u "law"), (0, u "(III)Z")] 5

def k1m0 : Method := { name := "<init>", desc := "()V", sig := { parameters := [], returnType := none }, accessFlags := 2, code := none }
def k1c1 : Code := { maxStack := 5, maxLocals := 12, code := code, exceptionTable := #[], attributes := #[] }
def k1m1 : Method := { name := "law", desc := "(III)Z", sig := { parameters := [.int, .int, .int], returnType := some .boolean }, accessFlags := 9, code := some k1c1 }
def k1c2 : Code := { maxStack := 3, maxLocals := 7, code := method_3_code, exceptionTable := #[], attributes := #[] }
def k1m2 : Method := { name := "pick", desc := "(IIIII)[I", sig := { parameters := [.int, .int, .int, .int, .int], returnType := some (.array .int) }, accessFlags := 10, code := some k1c2 }
def k1c3 : Code := { maxStack := 5, maxLocals := 2, code := method_4_code, exceptionTable := #[], attributes := #[] }
def k1m3 : Method := { name := "take", desc := "([II)[I", sig := { parameters := [(.array .int), .int], returnType := some (.array .int) }, accessFlags := 10, code := some k1c3 }
/-- com/example/refine/refine/refinement/NormalisedLtsFirstNotInPinLaw -/
def k1 : Class := { plain "com/example/refine/refine/refinement/NormalisedLtsFirstNotInPinLaw" (some 0) with
  accessFlags := 49
  interfaces := #[]
  cf := some (fileOf pool1 16 #[] #[{ accessFlags := 2, nameIndex := 5, descriptorIndex := 6, attributes := #[] }, { accessFlags := 9, nameIndex := 33, descriptorIndex := 34, attributes := #[] }, { accessFlags := 10, nameIndex := 19, descriptorIndex := 20, attributes := #[] }, { accessFlags := 10, nameIndex := 29, descriptorIndex := 30, attributes := #[] }] 49 2 #[] #[])
  fields := #[]
  methods := #[k1m0, k1m1, k1m2, k1m3]
  instanceTypes := #[]
  staticTypes := #[]
  resolved := Array.replicate 40 none
  statics := none }

def pool2 : Array CpInfo := pool [(1, .class_ 2), (0, u "java/lang/Math"), (1, .class_ 6), (1, u "java/lang/Object"), (0, u "<init>"), (0, u "()V"), (89, .class_ 100), (1, u "java/lang/Math$RandomNumberGeneratorHolder"), (71, u "negativeZeroFloatBits"), (0, u "J"), (2, u "negativeZeroDoubleBits"), (24, u "min"), (43, u "$assertionsDisabled"), (0, u "Z"), (88, u "(II)I"), (2, u "twoToTheDoubleScaleDown"), (0, u "D"), (4, u "twoToTheDoubleScaleUp"), (9, u "E"), (3, u "PI"), (2, u "TAU"), (2, u "DEGREES_TO_RADIANS"), (0, u "RADIANS_TO_DEGREES")] 94

def k2m0 : Method := { name := "<init>", desc := "()V", sig := { parameters := [], returnType := none }, accessFlags := 2, code := none }
def k2c1 : Code := { maxStack := 2, maxLocals := 2, code := jdk_29_method_69_code, exceptionTable := #[], attributes := #[] }
def k2m1 : Method := { name := "min", desc := "(II)I", sig := { parameters := [.int, .int], returnType := some .int }, accessFlags := 9, code := some k2c1 }
/-- java/lang/Math -/
def k2 : Class := { plain "java/lang/Math" (some 0) with
  accessFlags := 49
  interfaces := #[]
  cf := some (fileOf pool2 1 #[.nestMembers #[98]] #[{ accessFlags := 2, nameIndex := 7, descriptorIndex := 8, attributes := #[] }, { accessFlags := 9, nameIndex := 201, descriptorIndex := 335, attributes := #[] }] 49 4 #[] #[{ accessFlags := 25, nameIndex := 354, descriptorIndex := 339, attributes := #[] }, { accessFlags := 25, nameIndex := 358, descriptorIndex := 339, attributes := #[] }, { accessFlags := 25, nameIndex := 361, descriptorIndex := 339, attributes := #[] }, { accessFlags := 26, nameIndex := 364, descriptorIndex := 339, attributes := #[] }, { accessFlags := 26, nameIndex := 365, descriptorIndex := 339, attributes := #[] }, { accessFlags := 26, nameIndex := 172, descriptorIndex := 173, attributes := #[] }, { accessFlags := 26, nameIndex := 176, descriptorIndex := 173, attributes := #[] }, { accessFlags := 8, nameIndex := 344, descriptorIndex := 339, attributes := #[] }, { accessFlags := 8, nameIndex := 338, descriptorIndex := 339, attributes := #[] }, { accessFlags := 4120, nameIndex := 245, descriptorIndex := 246, attributes := #[] }])
  fields := #[{ name := "E", type := .double, accessFlags := 25, slot := 0, constantValue := 0 }, { name := "PI", type := .double, accessFlags := 25, slot := 1, constantValue := 0 }, { name := "TAU", type := .double, accessFlags := 25, slot := 2, constantValue := 0 }, { name := "DEGREES_TO_RADIANS", type := .double, accessFlags := 26, slot := 3, constantValue := 0 }, { name := "RADIANS_TO_DEGREES", type := .double, accessFlags := 26, slot := 4, constantValue := 0 }, { name := "negativeZeroFloatBits", type := .long, accessFlags := 26, slot := 5, constantValue := 0 }, { name := "negativeZeroDoubleBits", type := .long, accessFlags := 26, slot := 6, constantValue := 0 }, { name := "twoToTheDoubleScaleUp", type := .double, accessFlags := 8, slot := 7, constantValue := 0 }, { name := "twoToTheDoubleScaleDown", type := .double, accessFlags := 8, slot := 8, constantValue := 0 }, { name := "$assertionsDisabled", type := .boolean, accessFlags := 4120, slot := 9, constantValue := 0 }]
  methods := #[k2m0, k2m1]
  instanceTypes := #[]
  staticTypes := #[.double, .double, .double, .double, .double, .long, .long, .double, .double, .boolean]
  resolved := Array.replicate 460 none
  statics := none }

def pool3 : Array CpInfo := pool [(1, .class_ 2), (0, u "com/example/refine/refine/refinement/Specification"), (0, .class_ 4), (0, u "java/lang/Object"), (0, u "NONE"), (0, u "I")] 16

/-- com/example/refine/refine/refinement/Specification -/
def k3 : Class := { plain "com/example/refine/refine/refinement/Specification" (some 0) with
  accessFlags := 1536
  interfaces := #[]
  cf := some (fileOf pool3 1 #[] #[] 1536 3 #[] #[{ accessFlags := 25, nameIndex := 5, descriptorIndex := 6, attributes := #[] }])
  fields := #[{ name := "NONE", type := .int, accessFlags := 25, slot := 0, constantValue := 0 }]
  methods := #[]
  instanceTypes := #[]
  staticTypes := #[.int]
  resolved := Array.replicate 23 none
  statics := none }

def pool4 : Array CpInfo := pool [(2, .class_ 4), (1, u "java/lang/Object"), (6, .class_ 13), (1, u "com/example/refine/refine/refinement/NormalisedLts"), (0, u "nodes"), (0, u "Lcom/example/refine/refine/lts/StateTable;"), (2, u "lts"), (0, u "Lcom/example/refine/refine/lts/Lts;"), (7, u "cycles"), (0, u "Lcom/example/refine/refine/lts/InternalCycles;"), (31, .class_ 62), (1, u "com/example/refine/refine/refinement/NormalisedLts$Node"), (106, u "firstNotIn"), (0, u "([I[I)I"), (0, .class_ 172), (0, u "com/example/refine/refine/refinement/Specification")] 20

def k4c0 : Code := { maxStack := 2, maxLocals := 7, code := prog_150_method_11_code, exceptionTable := #[], attributes := #[] }
def k4m0 : Method := { name := "firstNotIn", desc := "([I[I)I", sig := { parameters := [(.array .int), (.array .int)], returnType := some .int }, accessFlags := 8, code := some k4c0 }
/-- com/example/refine/refine/refinement/NormalisedLts -/
def k4 : Class := { plain "com/example/refine/refine/refinement/NormalisedLts" (some 0) with
  accessFlags := 48
  interfaces := #[3]
  cf := some (fileOf pool4 11 #[.nestMembers #[60]] #[{ accessFlags := 8, nameIndex := 169, descriptorIndex := 170, attributes := #[] }] 48 2 #[171] #[{ accessFlags := 18, nameIndex := 18, descriptorIndex := 19, attributes := #[] }, { accessFlags := 18, nameIndex := 27, descriptorIndex := 28, attributes := #[] }, { accessFlags := 18, nameIndex := 14, descriptorIndex := 15, attributes := #[] }])
  fields := #[{ name := "lts", type := (.object "com/example/refine/refine/lts/Lts"), accessFlags := 18, slot := 0, constantValue := 0 }, { name := "cycles", type := (.object "com/example/refine/refine/lts/InternalCycles"), accessFlags := 18, slot := 1, constantValue := 0 }, { name := "nodes", type := (.object "com/example/refine/refine/lts/StateTable"), accessFlags := 18, slot := 2, constantValue := 0 }]
  methods := #[k4m0]
  instanceTypes := #[(.object "com/example/refine/refine/lts/Lts"), (.object "com/example/refine/refine/lts/InternalCycles"), (.object "com/example/refine/refine/lts/StateTable")]
  staticTypes := #[]
  resolved := Array.replicate 193 none
  statics := none }

def pool5 : Array CpInfo := pool [(1, u "java/lang/Cloneable"), (0, .class_ 1), (0, u "java/lang/Object"), (0, .class_ 3)] 3

/-- java/lang/Cloneable -/
def k5 : Class := { plain "java/lang/Cloneable" (some 0) with
  accessFlags := 1537
  interfaces := #[]
  cf := some (fileOf pool5 2 #[] #[] 1537 4 #[] #[])
  fields := #[]
  methods := #[]
  instanceTypes := #[]
  staticTypes := #[]
  resolved := Array.replicate 8 none
  statics := none }

def pool6 : Array CpInfo := pool [(1, u "java/io/Serializable"), (0, .class_ 1), (0, u "java/lang/Object"), (0, .class_ 3)] 3

/-- java/io/Serializable -/
def k6 : Class := { plain "java/io/Serializable" (some 0) with
  accessFlags := 1537
  interfaces := #[]
  cf := some (fileOf pool6 2 #[] #[] 1537 4 #[] #[])
  fields := #[]
  methods := #[]
  instanceTypes := #[]
  staticTypes := #[]
  resolved := Array.replicate 8 none
  statics := none }

/-- the primitive byte -/
def k7 : Class := { plain "byte" none with kind := .primitive 'B', accessFlags := 0x411 }
/-- [B -/
def k8 : Class := { plain "[B" (some 0) with kind := .array 7 .byte, interfaces := #[5, 6], accessFlags := 1041 }

/-- the primitive int -/
def k9 : Class := { plain "int" none with kind := .primitive 'I', accessFlags := 0x411 }
/-- [I -/
def k10 : Class := { plain "[I" (some 0) with kind := .array 9 .int, interfaces := #[5, 6], accessFlags := 1041 }

def heap : Heap := #[]
def classes : Array Class := #[k0, k1, k2, k3, k4, k5, k6, k7, k8, k9, k10]
def interned : List (Array UInt16 × Addr) := []
def slotsUsed : Nat := 0
def theMethod : MethodId := ⟨1, 1⟩
def args0 : Array Value := #[.int 5, .int 3, .int 77]
def aboutOver (below : List Frame) : State where
  vm := { classes := classes, interned := interned.toArray }
  heap := heap
  slotsUsed := slotsUsed
  threads := #[{ frames := .invoking theMethod args0 :: below }]
def below0 : List Frame := [.native { method := ⟨0, 0⟩, args := #[] }]
def about1 : State := aboutOver below0
def p0 : Program := .bare "" "" ""
def e0 : Env := launch0.env 0 0 0
theorem w_frames : about1.frames = Frame.invoking theMethod args0 :: below0 := rfl
set_option maxRecDepth 65536 in
theorem w_args : argsFit about1.vm theMethod args0 = true := by decide +kernel
set_option maxRecDepth 65536 in
theorem w_heap : heapFits about1 = true := by decide +kernel
set_option maxRecDepth 65536 in
theorem w_runnable : about1.curStatus? = some .runnable := by decide +kernel
set_option maxRecDepth 65536 in
theorem w_alone : about1.alone = true := by decide +kernel
set_option maxRecDepth 65536 in
theorem w_named : about1.methodNamed? x = some theMethod := by decide +kernel
set_option maxRecDepth 65536 in
theorem w_hears : about1.hears theMethod below0 = true := by decide +kernel
set_option maxRecDepth 65536 in
theorem w_ripe : about1.ripe theMethod args0 below0 = true := by decide +kernel
theorem w_running : about1.status = .running := rfl
set_option maxRecDepth 65536 in
theorem w_room : about1.hasRoom e0.platform room_1 = true :=
  launch0.hasRoom_least _ room_1 (by decide +kernel) (by decide +kernel) (by decide +kernel) (by decide +kernel) (by decide +kernel) (by decide +kernel)
theorem allAtoms_all (ts : List Jvm.Cond) (a : Array Jvm.Value) (st : Jvm.State) : (allAtoms ts).before a st = ts.all (fun c => c.before a st) := by
  induction ts with
  | nil => rfl
  | cons c t ih =>
    show (Jvm.Cond.and c (allAtoms t)).before a st = _
    rw [Jvm.Cond.before_and, ih, List.all_cons]
def words1 : List Jvm.Cond := Jvm.Cond.code x code maxLocals ret :: tables_1
/-- a 'code' word, met by the world's own term for the bytes: nothing is compared byte by byte -/
theorem code_word {y : MethodName} {bytes : ByteArray} {mx : Nat} {rt : Option FieldType} {a : Array Value} {s : State} {m : MethodId} {meth : Method} {c : Code} (h1 : s.methodNamed? y = some m) (h2 : s.vm.method? m = some meth) (h3 : meth.code = some c) (h4 : c.code = bytes)
    (h5 : (c.maxLocals == mx && c.exceptionTable.isEmpty && decide (c.maxStack ≤ mostOperands) && decide (meth.sig.returnType = rt) && !meth.locks && decide (parseMethodDescriptor y.desc = some meth.sig)) = true) : (Jvm.Cond.code y bytes mx rt).before a s = true := by
  simp only [Bool.and_eq_true, beq_iff_eq, Bool.not_eq_true', decide_eq_true_eq] at h5
  obtain ⟨⟨⟨⟨⟨g1, g2⟩, g3⟩, g4⟩, g5⟩, g6⟩ := h5
  simp [Cond.before, Cond.holds, Cond.value, h1, h2, h3, h4, g1, g2, g3, g4, g5, g6]
def isCode : Jvm.Cond → Bool
  | .code _ _ _ _ => true
  | _ => false
theorem all_split {L : List Jvm.Cond} {P : Jvm.Cond → Bool} (h1 : L.all (fun c => isCode c || P c) = true) (h2 : ∀ c ∈ L.filter isCode, P c = true) : L.all P = true := by
  refine List.all_eq_true.mpr fun c hc => ?_
  have h := List.all_eq_true.mp h1 c hc
  rcases Bool.eq_false_or_eq_true (isCode c) with hi | hi
  · exact h2 c (List.mem_filter.mpr ⟨hc, hi⟩)
  · simpa [hi] using h
set_option maxRecDepth 65536 in
theorem w_c0 : (Jvm.Cond.code x code maxLocals ret).before args0 about1 = true := code_word (m := ⟨1, 1⟩) (meth := k1m1) (c := k1c1) (by decide +kernel) rfl rfl rfl (by decide +kernel)
set_option maxRecDepth 65536 in
theorem w_c1 : (Jvm.Cond.code ({ cls := "java/lang/Math", name := "min", desc := "(II)I" } : Jvm.MethodName) jdk_29_method_69_code (2 : Nat) (Option.some Jvm.ClassFile.FieldType.int)).before args0 about1 = true := code_word (m := ⟨2, 1⟩) (meth := k2m1) (c := k2c1) (by decide +kernel) rfl rfl rfl (by decide +kernel)
set_option maxRecDepth 65536 in
theorem w_c2 : (Jvm.Cond.code ({ cls := "com/example/refine/refine/refinement/NormalisedLtsFirstNotInPinLaw", name := "pick", desc := "(IIIII)[I" } : Jvm.MethodName) method_3_code (7 : Nat) (Option.some (Jvm.ClassFile.FieldType.array Jvm.ClassFile.FieldType.int))).before args0 about1 = true := code_word (m := ⟨1, 2⟩) (meth := k1m2) (c := k1c2) (by decide +kernel) rfl rfl rfl (by decide +kernel)
set_option maxRecDepth 65536 in
theorem w_c3 : (Jvm.Cond.code ({ cls := "com/example/refine/refine/refinement/NormalisedLtsFirstNotInPinLaw", name := "take", desc := "([II)[I" } : Jvm.MethodName) method_4_code (2 : Nat) (Option.some (Jvm.ClassFile.FieldType.array Jvm.ClassFile.FieldType.int))).before args0 about1 = true := code_word (m := ⟨1, 3⟩) (meth := k1m3) (c := k1c3) (by decide +kernel) rfl rfl rfl (by decide +kernel)
set_option maxRecDepth 65536 in
theorem w_c4 : (Jvm.Cond.code ({ cls := "com/example/refine/refine/refinement/NormalisedLts", name := "firstNotIn", desc := "([I[I)I" } : Jvm.MethodName) prog_150_method_11_code (7 : Nat) (Option.some Jvm.ClassFile.FieldType.int)).before args0 about1 = true := code_word (m := ⟨4, 0⟩) (meth := k4m0) (c := k4c0) (by decide +kernel) rfl rfl rfl (by decide +kernel)
def codes1 : List Jvm.Cond := [Jvm.Cond.code x code maxLocals ret, Jvm.Cond.code ({ cls := "java/lang/Math", name := "min", desc := "(II)I" } : Jvm.MethodName) jdk_29_method_69_code (2 : Nat) (Option.some Jvm.ClassFile.FieldType.int), Jvm.Cond.code ({ cls := "com/example/refine/refine/refinement/NormalisedLtsFirstNotInPinLaw", name := "pick", desc := "(IIIII)[I" } : Jvm.MethodName) method_3_code (7 : Nat) (Option.some (Jvm.ClassFile.FieldType.array Jvm.ClassFile.FieldType.int)), Jvm.Cond.code ({ cls := "com/example/refine/refine/refinement/NormalisedLtsFirstNotInPinLaw", name := "take", desc := "([II)[I" } : Jvm.MethodName) method_4_code (2 : Nat) (Option.some (Jvm.ClassFile.FieldType.array Jvm.ClassFile.FieldType.int)), Jvm.Cond.code ({ cls := "com/example/refine/refine/refinement/NormalisedLts", name := "firstNotIn", desc := "([I[I)I" } : Jvm.MethodName) prog_150_method_11_code (7 : Nat) (Option.some Jvm.ClassFile.FieldType.int)]
set_option maxRecDepth 65536 in
theorem codes_eq : words1.filter isCode = codes1 := rfl
theorem w_codes : ∀ c ∈ words1.filter isCode, c.before args0 about1 = true := by
  rw [codes_eq]
  intro c hc
  simp only [codes1, List.mem_cons, List.not_mem_nil, or_false] at hc
  rcases hc with rfl | rfl | rfl | rfl | rfl
  · exact w_c0
  · exact w_c1
  · exact w_c2
  · exact w_c3
  · exact w_c4
set_option maxRecDepth 65536 in
theorem w_t1 : words1.all (fun c => isCode c || c.before args0 about1) = true := by decide +kernel
theorem w_tables : (allAtoms (Jvm.Cond.code x code maxLocals ret :: tables_1)).before args0 about1 = true := by
  rw [allAtoms_all]
  show words1.all (fun c => c.before args0 about1) = true
  refine all_split ?_ w_codes
  rw [w_t1]
set_option maxRecDepth 65536 in
theorem w_case : (Jvm.Cond.and given_1 narrow_1).before args0 about1 = true := by decide +kernel
theorem w_applies : (headSpec (Jvm.Cond.code x code maxLocals ret :: tables_1) room_1).applies x e0.platform about1 = true :=
  (Spec.applies_iff w_frames).mpr ⟨w_running, w_runnable, w_alone, w_named, w_hears, w_ripe, w_room, w_tables⟩
theorem atStart : AtStart classFile x code maxLocals ret World_1 tables_1 room_1 Calls_1 rest_1 Pre_1 launch0 p0 e0 about1 theMethod args0 below0 :=
  ⟨lists_1, trivial, launch0.admits_env _ _ _, launch0.least_env, fairChoices_fair.cas, fairChoices_fair.clock, w_frames, w_args, w_heap, w_applies, trivial, trivial, w_case⟩
end start1
theorem witness_1 : WitnessClaimed_1 := ⟨start1.p0, start1.e0, start1.about1, start1.theMethod, start1.args0, start1.below0, start1.atStart⟩
end Jvm.Pilot.@@N@@
