import JvmDerived
import JvmDerived.Pilot.@@N@@Statement
import JvmDerived.Pilot.@@N@@Code
set_option linter.unusedVariables false
set_option linter.unusedSimpArgs false
@@BLOCK:NumsL.lean.txt@@
/- laws to paste: Road.backV, Road.eqW, Road.codOf (cut by pick.py; bodies as the Statement names them) -/
namespace Jvm.Pilot.@@N@@
namespace StrChars
open Jvm Sem ClassFile Op Lib Jvm.Stand Jvm.Free.XT Jvm.Free.ALB Jvm.Free.JM Jvm.Free
open Jvm.Lib.Cold (StaticIs)
/-- a char array whose places are chars -/
def Ch (a : Addr) (A : Cell) (U : State) : Prop := Arr .char a A U ∧ Typed .char A
theorem Ch.mv {a : Addr} {A : Cell} {U U' : State} (h : Ch a A U) (hal : U.vm.Alike U'.vm) (hh : U'.heap = U.heap) : Ch a A U' := ⟨h.1.mv hal hh, h.2⟩
theorem Ch.keep {a : Addr} {A : Cell} {U U' : State} (h : Ch a A U) (hal : U.vm.Alike U'.vm) (hk : U'.heap[a]? = some A) : Ch a A U' := ⟨h.1.keep hal hk, h.2⟩
/-- what place i of a char[]'s cell holds -/
def cv (A : Cell) (i : Nat) : Int32 := match A.slots[i]? with | some (.int x) => x | _ => 0
theorem Ch.get {a : Addr} {A : Cell} {U : State} (h : Ch a A U) {i : Nat} (hi : i < A.slots.size) : A.slots[i]? = some (.int (cv A i)) := by
  have e := Array.getElem?_eq_getElem hi
  have f := h.2 i _ e
  unfold cv; rw [e]
  generalize A.slots[i] = v at f
  cases v <;> simp [fits] at f ⊢
/-- the byte that i2b leaves of a char -/
def lo8 (x : Int32) : Int32 := x.toInt8.toInt32
theorem fits_lo8 (y : Int32) : fits .byte (.int (lo8 y)) = true := by
  have h1 := y.toInt8.le_toInt
  have h2 := y.toInt8.toInt_lt
  simp only [lo8, fits, Bool.and_eq_true, decide_eq_true_eq, Int32.le_iff_toInt_le, Int8.toInt_toInt32, show (-128 : Int32).toInt = -128 from by decide, show (127 : Int32).toInt = 127 from by decide]
  omega
/-- A' is A but that each place j of lo .. hi - 1 holds f j -/
def Laid (A A' : Cell) (lo hi : Nat) (f : Nat → Value) : Prop := A'.cls = A.cls ∧ A'.vm = A.vm ∧ A'.slots.size = A.slots.size ∧ ∀ i, A'.slots[i]? = if lo ≤ i ∧ i < hi then some (f i) else A.slots[i]?
theorem Laid.zero (A : Cell) (lo : Nat) (f : Nat → Value) : Laid A A lo (lo + 0) f := ⟨rfl, rfl, rfl, fun i => by rw [if_neg (by omega)]⟩
theorem Laid.step {A Ak : Cell} {lo k : Nat} {f : Nat → Value} {v : Value} (h : Laid A Ak lo k f) (hlo : lo ≤ k) (hk : k < Ak.slots.size) (hv : v = f k) : Laid A (Ak.setSlot k v) lo (k + 1) f := by
  refine ⟨h.1, h.2.1, by simpa [Cell.setSlot] using h.2.2.1, fun i => ?_⟩
  by_cases e : k = i
  · subst e; rw [Cell.slots_setSlot_self v hk, if_pos (by omega), hv]
  · rw [Cell.slots_setSlot_ne v e, h.2.2.2 i]
    by_cases q : lo ≤ i ∧ i < k
    · rw [if_pos q, if_pos (by omega)]
    · rw [if_neg q, if_neg (by omega)]
def U16 : String := "java/lang/StringUTF16"
namespace Cmp5
def yN : MethodName := ⟨"java/lang/StringUTF16", "compress", "([CI[BII)I"⟩
abbrev yB : ByteArray := jdk_52_method_21_code
theorem d0 : decode yB 0 = .ok (.iconst 0, 1) := by decide +kernel
theorem d1 : decode yB 1 = .ok (.istore 5, 2) := by decide +kernel
theorem d3 : decode yB 3 = .ok (.iload 5, 2) := by decide +kernel
theorem d5 : decode yB 5 = .ok (.iload 4, 2) := by decide +kernel
theorem d7 : decode yB 7 = .ok (.if_icmp (.ge) 37, 3) := by decide +kernel
theorem d10 : decode yB 10 = .ok (.aload_n 0, 1) := by decide +kernel
theorem d11 : decode yB 11 = .ok (.iload_n 1, 1) := by decide +kernel
theorem d12 : decode yB 12 = .ok (.caload, 1) := by decide +kernel
theorem d13 : decode yB 13 = .ok (.istore 6, 2) := by decide +kernel
theorem d15 : decode yB 15 = .ok (.iload 6, 2) := by decide +kernel
theorem d17 : decode yB 17 = .ok (.sipush 255, 3) := by decide +kernel
theorem d20 : decode yB 20 = .ok (.if_icmp (.le) 6, 3) := by decide +kernel
theorem d26 : decode yB 26 = .ok (.aload_n 2, 1) := by decide +kernel
theorem d27 : decode yB 27 = .ok (.iload_n 3, 1) := by decide +kernel
theorem d28 : decode yB 28 = .ok (.iload 6, 2) := by decide +kernel
theorem d30 : decode yB 30 = .ok (.i2b, 1) := by decide +kernel
theorem d31 : decode yB 31 = .ok (.bastore, 1) := by decide +kernel
theorem d32 : decode yB 32 = .ok (.iinc 1 1, 3) := by decide +kernel
theorem d35 : decode yB 35 = .ok (.iinc 3 1, 3) := by decide +kernel
theorem d38 : decode yB 38 = .ok (.iinc 5 1, 3) := by decide +kernel
theorem d41 : decode yB 41 = .ok (.goto (-38), 3) := by decide +kernel
theorem d44 : decode yB 44 = .ok (.iload 4, 2) := by decide +kernel
theorem d46 : decode yB 46 = .ok (.ireturn, 1) := by decide +kernel
def site : List Cond := []
def tab : Cond := tabOf yN yB 7 (some .int) site
def P (b : Addr) (A : Cell) (d : Addr) (B : Cell) (o q len : Nat) (args : Array Value) (s : State) : Prop := args = #[.ref b, .int (Int32.ofNat o), .ref d, .int (Int32.ofNat q), .int (Int32.ofNat len)] ∧ Ch b A s ∧ Arr .byte d B s ∧ b ≠ d ∧ o + len ≤ A.slots.size ∧ q + len ≤ B.slots.size ∧ ∀ i, i < len → ¬ 255 < cv A (o + i)
def E (b : Addr) (A : Cell) (d : Addr) (B : Cell) (o q len : Nat) (r : Option Value) (s u : State) : Prop := r = some (.int (Int32.ofNat len)) ∧ ∃ B', Put d B' s u ∧ Laid B B' q (q + len) (fun j => Value.int (lo8 (cv A (o + (j - q)))))
/-- no char of the range above 255: len; the places written hold each char's low byte -/
theorem law (l : Launch) (b : Addr) (A : Cell) (d : Addr) (B : Cell) (o q len : Nat) : Law l yN 5 5 0 0 yB 7 (some .int) site (P b A d B o q len) (E b A d B o q len) (copyLocs d q len) 0 0 := by
  refine Law.of_walk (plainFor_of_name (by decide +kernel)) (by decide +kernel) (by decide +kernel) (by decide) (fun _ _ h => by rw [h.1]; rfl) (fun _ U U' hal hh h => ⟨h.1, h.2.1.mv hal hh, h.2.2.1.mv hal hh, h.2.2.2⟩) (fun r U U' V V' h1 hal h2 h => ⟨h.1, h.2.elim fun B' q => ⟨B', q.1.mv h1 h2, q.2⟩⟩) ?_
  intro p e s m args below meth c s₁ X0 hexec hbytes hml hret hlk hnm hown hh0 W hP
  obtain ⟨rfl, hA, hB, hne, l1, l2, hp⟩ := hP
  have c1 : Steps p.tables e below (s₁.setTop (entryFrame m #[.ref b, .int (Int32.ofNat o), .ref d, .int (Int32.ofNat q), .int (Int32.ofNat len)] 7)) (s₁.setTop (mkF m 0 #[.val (.ref b), .val (.int (Int32.ofNat o)), .val (.ref d), .val (.int (Int32.ofNat q)), .val (.int (Int32.ofNat len)), .unset, .unset] [])) := entry rfl
  have hA0 := hA.1.mv X0.warmed.alike hh0
  have hB0 := hB.mv X0.warmed.alike hh0
  have a31 := hA.1.2.2.2
  have c2 : Steps p.tables e below (s₁.setTop (entryFrame m #[.ref b, .int (Int32.ofNat o), .ref d, .int (Int32.ofNat q), .int (Int32.ofNat len)] 7)) (s₁.setTop (mkF m 3 #[.val (.ref b), .val (.int (Int32.ofNat o)), .val (.ref d), .val (.int (Int32.ofNat q)), .val (.int (Int32.ofNat len)), .val (.int 0), .unset] [])) := c1.trans (by
    refine iconstV X0.here hexec rfl 0 (hb hbytes d0) (by decide) ?_
    refine XS.istore X0.here hexec rfl (hb hbytes d1) rfl rfl ?_
    exact Steps.refl _)
  have loop : ∀ (r i : Nat), i + r = len → ∀ (z : Slot), (z = .unset ∨ ∃ w, z = .val w ∧ w.category = 1) → ∀ (Tl : State) (Bk : Cell), Stand p l e { frames := 0, locals := 0, cells := 0, slots := 0 } s m #[.ref b, .int (Int32.ofNat o), .ref d, .int (Int32.ofNat q), .int (Int32.ofNat len)] below meth c Tl ([] ++ copyLocs d q i) 0 0 → Put d Bk s₁ Tl → Laid B Bk q (q + i) (fun j => Value.int (lo8 (cv A (o + (j - q))))) →
      Steps p.tables e below (s₁.setTop (entryFrame m #[.ref b, .int (Int32.ofNat o), .ref d, .int (Int32.ofNat q), .int (Int32.ofNat len)] 7)) (Tl.setTop (mkF m 3 #[.val (.ref b), .val (.int (Int32.ofNat (o + i))), .val (.ref d), .val (.int (Int32.ofNat (q + i))), .val (.int (Int32.ofNat len)), .val (.int (Int32.ofNat i)), z] [])) → ∃ (T' : State) (B' : Cell) (z' : Slot), Stand p l e { frames := 0, locals := 0, cells := 0, slots := 0 } s m #[.ref b, .int (Int32.ofNat o), .ref d, .int (Int32.ofNat q), .int (Int32.ofNat len)] below meth c T' ([] ++ copyLocs d q len) 0 0 ∧ Put d B' s₁ T' ∧ Laid B B' q (q + len) (fun j => Value.int (lo8 (cv A (o + (j - q))))) ∧
      Steps p.tables e below (s₁.setTop (entryFrame m #[.ref b, .int (Int32.ofNat o), .ref d, .int (Int32.ofNat q), .int (Int32.ofNat len)] 7)) (T'.setTop (mkF m 3 #[.val (.ref b), .val (.int (Int32.ofNat (o + len))), .val (.ref d), .val (.int (Int32.ofNat (q + len))), .val (.int (Int32.ofNat len)), .val (.int (Int32.ofNat len)), z'] [])) := by
    intro r
    induction r with
    | zero =>
      intro i hi z hz Tl Bk Xl pl fl cl
      have hil : i = len := by omega
      rw [hil] at Xl fl cl
      exact ⟨Tl, Bk, z, Xl, pl, fl, cl⟩
    | succ r ih =>
      intro i hi z hz Tl Bk Xl pl fl cl
      have all := X0.warmed.alike.symm.trans Xl.warmed.alike
      have hAl := hA0.keep all (pl.other hne hA0.1)
      have hBk := hB0.like all pl.1 fl.1 fl.2.1 fl.2.2.1
      have hlt : q + i < Bk.slots.size := by rw [fl.2.2.1]; omega
      have c3 : Steps p.tables e below (s₁.setTop (entryFrame m #[.ref b, .int (Int32.ofNat o), .ref d, .int (Int32.ofNat q), .int (Int32.ofNat len)] 7)) (Tl.setTop (mkF m 12 #[.val (.ref b), .val (.int (Int32.ofNat (o + i))), .val (.ref d), .val (.int (Int32.ofNat (q + i))), .val (.int (Int32.ofNat len)), .val (.int (Int32.ofNat i)), z] [.int (Int32.ofNat (o + i)), .ref b])) := cl.trans (by
        refine XS.iload Xl.here hexec rfl (hb hbytes d3) rfl ?_
        refine XS.iload Xl.here hexec rfl (hb hbytes d5) rfl ?_
        refine XS.icmpNo Xl.here hexec rfl (hb hbytes d7) rfl (ii_ge_f (lt32 (by omega) (by omega))) ?_
        refine XS.aloadN Xl.here hexec rfl (hb hbytes d10) rfl rfl ?_
        refine XS.iloadN Xl.here hexec rfl (hb hbytes d11) rfl ?_
        exact Steps.refl _)
      have c4 : Steps p.tables e below (s₁.setTop (entryFrame m #[.ref b, .int (Int32.ofNat o), .ref d, .int (Int32.ofNat q), .int (Int32.ofNat len)] 7)) (Tl.setTop (mkF m 13 #[.val (.ref b), .val (.int (Int32.ofNat (o + i))), .val (.ref d), .val (.int (Int32.ofNat (q + i))), .val (.int (Int32.ofNat len)), .val (.int (Int32.ofNat i)), z] [.int (cv A (o + i))])) := c3.trans (by
        refine Xl.aget hexec hAl rfl (hA.get (i := o + i) (by omega)) rfl rfl (hb hbytes d12) ?_
        exact Steps.refl _)
      have c5 : Steps p.tables e below (s₁.setTop (entryFrame m #[.ref b, .int (Int32.ofNat o), .ref d, .int (Int32.ofNat q), .int (Int32.ofNat len)] 7)) (Tl.setTop (mkF m 15 #[.val (.ref b), .val (.int (Int32.ofNat (o + i))), .val (.ref d), .val (.int (Int32.ofNat (q + i))), .val (.int (Int32.ofNat len)), .val (.int (Int32.ofNat i)), .val (.int (cv A (o + i)))] [])) := c4.trans (by
        refine XS.istoreS Xl.here hexec rfl (hb hbytes d13) rfl rfl hz ?_
        exact Steps.refl _)
      have c6 : Steps p.tables e below (s₁.setTop (entryFrame m #[.ref b, .int (Int32.ofNat o), .ref d, .int (Int32.ofNat q), .int (Int32.ofNat len)] 7)) (Tl.setTop (mkF m 31 #[.val (.ref b), .val (.int (Int32.ofNat (o + i))), .val (.ref d), .val (.int (Int32.ofNat (q + i))), .val (.int (Int32.ofNat len)), .val (.int (Int32.ofNat i)), .val (.int (cv A (o + i)))] [.int (lo8 (cv A (o + i))), .int (Int32.ofNat (q + i)), .ref d])) := c5.trans (by
        refine XS.iload Xl.here hexec rfl (hb hbytes d15) rfl ?_
        refine sipushV Xl.here hexec rfl 255 (hb hbytes d17) (by decide) ?_
        refine XS.icmpYes Xl.here hexec rfl (pc0 := 20) rfl (hb hbytes d20) rfl (ii_le_t (hp i (by omega))) (by decide) rfl ?_
        refine XS.aloadN Xl.here hexec rfl (hb hbytes d26) rfl rfl ?_
        refine XS.iloadN Xl.here hexec rfl (hb hbytes d27) rfl ?_
        refine XS.iload Xl.here hexec rfl (hb hbytes d28) rfl ?_
        refine i2b Xl.here hexec rfl (hb hbytes d30) rfl ?_
        exact Steps.refl _)
      obtain ⟨T7, X7, p7, st7⟩ := Xl.aput hexec hBk rfl hlt rfl (fits_lo8 (cv A (o + i))) (g := (mkF m 31 #[.val (.ref b), .val (.int (Int32.ofNat (o + i))), .val (.ref d), .val (.int (Int32.ofNat (q + i))), .val (.int (Int32.ofNat len)), .val (.int (Int32.ofNat i)), .val (.int (cv A (o + i)))] [.int (lo8 (cv A (o + i))), .int (Int32.ofNat (q + i)), .ref d])) rfl (rest := []) rfl (hb hbytes d31)
      have c8 : Steps p.tables e below (s₁.setTop (entryFrame m #[.ref b, .int (Int32.ofNat o), .ref d, .int (Int32.ofNat q), .int (Int32.ofNat len)] 7)) (T7.setTop (mkF m 32 #[.val (.ref b), .val (.int (Int32.ofNat (o + i))), .val (.ref d), .val (.int (Int32.ofNat (q + i))), .val (.int (Int32.ofNat len)), .val (.int (Int32.ofNat i)), .val (.int (cv A (o + i)))] [])) := c6.trans (st7 _ (Steps.refl _))
      have c9 : Steps p.tables e below (s₁.setTop (entryFrame m #[.ref b, .int (Int32.ofNat o), .ref d, .int (Int32.ofNat q), .int (Int32.ofNat len)] 7)) (T7.setTop (mkF m 3 #[.val (.ref b), .val (.int (Int32.ofNat (o + i) + 1)), .val (.ref d), .val (.int (Int32.ofNat (q + i) + 1)), .val (.int (Int32.ofNat len)), .val (.int (Int32.ofNat i + 1)), .val (.int (cv A (o + i)))] [])) := c8.trans (by
        refine iincV X7.here hexec rfl 1 (hb hbytes d32) (by decide) rfl rfl ?_
        refine iincV X7.here hexec rfl 1 (hb hbytes d35) (by decide) rfl rfl ?_
        refine iincV X7.here hexec rfl 1 (hb hbytes d38) (by decide) rfl rfl ?_
        refine XS.goto X7.here hexec rfl (pc0 := 41) rfl (hb hbytes d41) (by decide) rfl ?_
        exact Steps.refl _)
      have c10 : Steps p.tables e below (s₁.setTop (entryFrame m #[.ref b, .int (Int32.ofNat o), .ref d, .int (Int32.ofNat q), .int (Int32.ofNat len)] 7)) (T7.setTop (mkF m 3 #[.val (.ref b), .val (.int (Int32.ofNat (o + (i + 1)))), .val (.ref d), .val (.int (Int32.ofNat (q + (i + 1)))), .val (.int (Int32.ofNat len)), .val (.int (Int32.ofNat (i + 1))), .val (.int (cv A (o + i)))] [])) := by
        have := c9
        rw [succ32, succ32, succ32] at this
        exact this
      exact ih (i + 1) (by omega) _ (Or.inr ⟨_, rfl, rfl⟩) T7 _ (by rw [copyLocs_step, ← List.append_assoc]; exact X7) (pl.trans p7) (fl.step (by omega) hlt (by simp)) c10
  obtain ⟨T9, B9, z9, X9, p9, f9, g9⟩ := loop len 0 (by omega) .unset (Or.inl rfl) s₁ B (by simpa [copyLocs] using X0) ⟨hB0.1, fun _ _ => rfl, rfl⟩ (Laid.zero _ _ _) c2
  have c11 : Steps p.tables e below (s₁.setTop (entryFrame m #[.ref b, .int (Int32.ofNat o), .ref d, .int (Int32.ofNat q), .int (Int32.ofNat len)] 7)) (T9.setTop (mkF m 46 #[.val (.ref b), .val (.int (Int32.ofNat (o + len))), .val (.ref d), .val (.int (Int32.ofNat (q + len))), .val (.int (Int32.ofNat len)), .val (.int (Int32.ofNat len)), z9] [.int (Int32.ofNat len)])) := g9.trans (by
    refine XS.iload X9.here hexec rfl (hb hbytes d3) rfl ?_
    refine XS.iload X9.here hexec rfl (hb hbytes d5) rfl ?_
    refine XS.icmpYes X9.here hexec rfl (pc0 := 7) rfl (hb hbytes d7) rfl (ii_ge_t (nlt32 (by omega) (Nat.le_refl _))) (by decide) rfl ?_
    refine XS.iload X9.here hexec rfl (hb hbytes d44) rfl ?_
    exact Steps.refl _)
  exact ⟨T9, some (.int (Int32.ofNat len)), _, _, _, X9, by simp, rfl, rfl, (fun h => by cases h), ⟨rfl, B9, p9.from hh0, f9⟩, fun fs hl => c11.trans (X9.ireturnOut hexec hret rfl (Or.inl rfl) (hb hbytes d46) hl)⟩
end Cmp5
namespace Cmp3
def yN : MethodName := ⟨"java/lang/StringUTF16", "compress", "([CII)[B"⟩
abbrev yB : ByteArray := jdk_52_method_16_code
theorem d0 : decode yB 0 = .ok (.iload_n 2, 1) := by decide +kernel
theorem d1 : decode yB 1 = .ok (.newarray .byte, 2) := by decide +kernel
theorem d3 : decode yB 3 = .ok (.astore_n 3, 1) := by decide +kernel
theorem d4 : decode yB 4 = .ok (.aload_n 0, 1) := by decide +kernel
theorem d5 : decode yB 5 = .ok (.iload_n 1, 1) := by decide +kernel
theorem d6 : decode yB 6 = .ok (.aload_n 3, 1) := by decide +kernel
theorem d7 : decode yB 7 = .ok (.iconst 0, 1) := by decide +kernel
theorem d8 : decode yB 8 = .ok (.iload_n 2, 1) := by decide +kernel
theorem d9 : decode yB 9 = .ok (.invokestatic 115, 3) := by decide +kernel
theorem d12 : decode yB 12 = .ok (.istore 4, 2) := by decide +kernel
theorem d14 : decode yB 14 = .ok (.iload 4, 2) := by decide +kernel
theorem d16 : decode yB 16 = .ok (.iload_n 2, 1) := by decide +kernel
theorem d17 : decode yB 17 = .ok (.if_icmp (.eq) 40, 3) := by decide +kernel
theorem d57 : decode yB 57 = .ok (.aload_n 3, 1) := by decide +kernel
theorem d58 : decode yB 58 = .ok (.areturn, 1) := by decide +kernel
def site : List Cond := [.arrayClass .byte, Cmp5.tab] ++ staticW U16 115 Cmp5.yN
def tab : Cond := tabOf yN yB 6 (some (.array .byte)) site
def P (b : Addr) (A : Cell) (o len : Nat) (args : Array Value) (s : State) : Prop := args = #[.ref b, .int (Int32.ofNat o), .int (Int32.ofNat len)] ∧ Ch b A s ∧ o + len ≤ A.slots.size ∧ len ≤ 536870912 ∧ ∀ i, i < len → ¬ 255 < cv A (o + i)
def E (b : Addr) (A : Cell) (o len : Nat) (r : Option Value) (s u : State) : Prop := NewArr .byte "[B" len (fun j => .int (lo8 (cv A (o + j)))) r s u ∧ u.heap.size = s.heap.size + 1
/-- no char of the range above 255: a new byte[] of their low bytes -/
theorem law (l : Launch) (b : Addr) (A : Cell) (o len : Nat) : Law l yN 3 3 1 18 yB 6 (some (.array .byte)) site (P b A o len) (E b A o len) [] 1 len := by
  refine Law.of_walk (plainFor_of_name (by decide +kernel)) (by decide +kernel) (by decide +kernel) (by decide) (fun _ _ h => by rw [h.1]; rfl) (fun _ U U' hal hh h => ⟨h.1, h.2.1.mv hal hh, h.2.2⟩) (fun r U U' V V' h1 hal h2 h => ⟨NewArr.mv r U U' V V' h1 hal h2 h.1, by rw [h1, h2]; exact h.2⟩) ?_
  intro p e s m args below meth c s₁ X0 hexec hbytes hml hret hlk hnm hown hh0 W hP
  obtain ⟨rfl, hA, l1, l2, hp⟩ := hP
  have a31 := hA.1.2.2.2
  have c1 : Steps p.tables e below (s₁.setTop (entryFrame m #[.ref b, .int (Int32.ofNat o), .int (Int32.ofNat len)] 6)) (s₁.setTop (mkF m 0 #[.val (.ref b), .val (.int (Int32.ofNat o)), .val (.int (Int32.ofNat len)), .unset, .unset, .unset] [])) := entry rfl
  have c2 : Steps p.tables e below (s₁.setTop (entryFrame m #[.ref b, .int (Int32.ofNat o), .int (Int32.ofNat len)] 6)) (s₁.setTop (mkF m 1 #[.val (.ref b), .val (.int (Int32.ofNat o)), .val (.int (Int32.ofNat len)), .unset, .unset, .unset] [.int (Int32.ofNat len)])) := c1.trans (by
    refine XS.iloadN X0.here hexec rfl (hb hbytes d0) rfl ?_
    exact Steps.refl _)
  obtain ⟨T3, B3, X3, ba3, bs3, bv3, bh3, bf3, st3⟩ := X0.anew hexec (atype := .byte) (wk W (.arrayClass .byte)) rfl (by show len * 1 ≤ _; omega) (by omega) (g := (mkF m 1 #[.val (.ref b), .val (.int (Int32.ofNat o)), .val (.int (Int32.ofNat len)), .unset, .unset, .unset] [.int (Int32.ofNat len)])) rfl (hb hbytes d1) (rest := []) rfl (Nat.le_refl _) (by show 0 + len ≤ len; omega)
  rw [hh0] at ba3 st3
  have kp3 : XT.Kept s T3 := (XT.Kept.of_eq hh0).push bh3
  have hA3 := hA.keep X3.warmed.alike (kp3 _ _ hA.1.1)
  have hne : b ≠ s.heap.size := hA.1.ne
  have c4 : Steps p.tables e below (s₁.setTop (entryFrame m #[.ref b, .int (Int32.ofNat o), .int (Int32.ofNat len)] 6)) (T3.setTop (mkF m 3 #[.val (.ref b), .val (.int (Int32.ofNat o)), .val (.int (Int32.ofNat len)), .unset, .unset, .unset] [.ref s.heap.size])) := c2.trans (st3 _ (Steps.refl _))
  have c5 : Steps p.tables e below (s₁.setTop (entryFrame m #[.ref b, .int (Int32.ofNat o), .int (Int32.ofNat len)] 6)) (T3.setTop (mkF m 9 #[.val (.ref b), .val (.int (Int32.ofNat o)), .val (.int (Int32.ofNat len)), .val (.ref s.heap.size), .unset, .unset] [.int (Int32.ofNat len), .int 0, .ref s.heap.size, .int (Int32.ofNat o), .ref b])) := c4.trans (by
    refine XS.astoreN X3.here hexec rfl (hb hbytes d3) rfl rfl rfl ?_
    refine XS.aloadN X3.here hexec rfl (hb hbytes d4) rfl rfl ?_
    refine XS.iloadN X3.here hexec rfl (hb hbytes d5) rfl ?_
    refine XS.aloadN X3.here hexec rfl (hb hbytes d6) rfl rfl ?_
    refine iconstV X3.here hexec rfl 0 (hb hbytes d7) (by decide) ?_
    refine XS.iloadN X3.here hexec rfl (hb hbytes d8) rfl ?_
    exact Steps.refl _)
  obtain ⟨v6, T6, X6, E6, g6⟩ := X3.callS hexec (Cmp5.law l b A s.heap.size B3 o 0 len) hown (wks W (staticW U16 115 Cmp5.yN)) (wk W Cmp5.tab) (W := 0) (Nat.le_of_ble_eq_true rfl) (Nat.le_of_ble_eq_true rfl) (Nat.le_refl _) (by show 0 + len + 0 ≤ len; omega) (g := (mkF m 9 #[.val (.ref b), .val (.int (Int32.ofNat o)), .val (.int (Int32.ofNat len)), .val (.ref s.heap.size), .unset, .unset] [.int (Int32.ofNat len), .int (Int32.ofNat 0), .ref s.heap.size, .int (Int32.ofNat o), .ref b])) rfl (by rw [hml]; rfl) c5 (argsL := [.ref b, .int (Int32.ofNat o), .ref s.heap.size, .int (Int32.ofNat 0), .int (Int32.ofNat len)]) (rest := []) rfl rfl (by show 2 * 0 + 0 ≤ _; decide) (hb hbytes d9) (⟨rfl, hA3, ba3, hne, l1, by rw [bs3]; simp, hp⟩)
  obtain ⟨rfl, B6, p6, f6⟩ := E6
  have c7 : Steps p.tables e below (s₁.setTop (entryFrame m #[.ref b, .int (Int32.ofNat o), .int (Int32.ofNat len)] 6)) (T6.setTop (mkF m 12 #[.val (.ref b), .val (.int (Int32.ofNat o)), .val (.int (Int32.ofNat len)), .val (.ref s.heap.size), .unset, .unset] [.int (Int32.ofNat len)])) := g6
  have c8 : Steps p.tables e below (s₁.setTop (entryFrame m #[.ref b, .int (Int32.ofNat o), .int (Int32.ofNat len)] 6)) (T6.setTop (mkF m 58 #[.val (.ref b), .val (.int (Int32.ofNat o)), .val (.int (Int32.ofNat len)), .val (.ref s.heap.size), .val (.int (Int32.ofNat len)), .unset] [.ref s.heap.size])) := c7.trans (by
    refine XS.istore X6.here hexec rfl (hb hbytes d12) rfl rfl ?_
    refine XS.iload X6.here hexec rfl (hb hbytes d14) rfl ?_
    refine XS.iloadN X6.here hexec rfl (hb hbytes d16) rfl ?_
    refine XS.icmpYes X6.here hexec rfl (pc0 := 17) rfl (hb hbytes d17) rfl (ii_eq_t rfl) (by decide) rfl ?_
    refine XS.aloadN X6.here hexec rfl (hb hbytes d57) rfl rfl ?_
    exact Steps.refl _)
  have X8 := X6.wide (L' := []) (cells' := 1) (slots' := len) (fun x hx hlt => by
    simp only [List.nil_append, copyLocs, List.mem_map, List.mem_range] at hx
    obtain ⟨i, -, rfl⟩ := hx
    exact absurd hlt (Nat.lt_irrefl _)) (Nat.le_refl _) (by omega)
  exact ⟨T6, some (.ref s.heap.size), _, _, _, X8, rfl, rfl, rfl, (fun h => by cases h), ⟨⟨rfl, B6, ba3.like (X3.warmed.alike.symm.trans X6.warmed.alike) p6.1 f6.1 f6.2.1 f6.2.2.1, f6.2.1.trans bv3, by rw [X6.warmed.alike.findClass, f6.1]; exact bf3, by rw [f6.2.2.1, bs3]; simp, fun j hj => by rw [f6.2.2.2 j, if_pos (by omega)]; rfl, kp3.put p6 (Nat.le_refl _)⟩, by rw [p6.2.2, bh3, hh0]; simp⟩, fun fs hl => c8.trans (X8.areturnOut hexec rfl hret rfl (hb hbytes d58) hl)⟩
end Cmp3
namespace CodL
def yN : MethodName := ⟨"java/lang/StringUTF16", "coderFromArrayLen", "([BI)B"⟩
abbrev yB : ByteArray := jdk_52_method_15_code
theorem d0 : decode yB 0 = .ok (.iload_n 1, 1) := by decide +kernel
theorem d1 : decode yB 1 = .ok (.aload_n 0, 1) := by decide +kernel
theorem d2 : decode yB 2 = .ok (.arraylength, 1) := by decide +kernel
theorem d3 : decode yB 3 = .ok (.isub, 1) := by decide +kernel
theorem d4 : decode yB 4 = .ok (.bipush 31, 2) := by decide +kernel
theorem d6 : decode yB 6 = .ok (.iushr, 1) := by decide +kernel
theorem d7 : decode yB 7 = .ok (.i2b, 1) := by decide +kernel
theorem d8 : decode yB 8 = .ok (.ireturn, 1) := by decide +kernel
def site : List Cond := []
def tab : Cond := tabOf yN yB 2 (some .byte) site
def P (d : Addr) (B : Cell) (args : Array Value) (s : State) : Prop := args = #[.ref d, .int (Int32.ofNat B.slots.size)] ∧ Arr .byte d B s
def E (r : Option Value) (s u : State) : Prop := XT.PureE (some (.int 0)) r s u
/-- an array as long as the number of chars: LATIN1 -/
theorem law (l : Launch) (d : Addr) (B : Cell) : Law l yN 2 2 0 0 yB 2 (some .byte) site (P d B) E [] 0 0 := by
  refine Law.of_walk (plainFor_of_name (by decide +kernel)) (by decide +kernel) (by decide +kernel) (by decide) (fun _ _ h => by rw [h.1]; rfl) (fun _ U U' hal hh h => ⟨h.1, h.2.mv hal hh⟩) (fun r U U' V V' h1 hal h2 h => XT.PureE.mv r U U' V V' h1 hal h2 h) ?_
  intro p e s m args below meth c s₁ X0 hexec hbytes hml hret hlk hnm hown hh0 W hP
  obtain ⟨rfl, hB⟩ := hP
  have hB0 := hB.mv X0.warmed.alike hh0
  have c1 : Steps p.tables e below (s₁.setTop (entryFrame m #[.ref d, .int (Int32.ofNat B.slots.size)] 2)) (s₁.setTop (mkF m 0 #[.val (.ref d), .val (.int (Int32.ofNat B.slots.size))] [])) := entry rfl
  have c2 : Steps p.tables e below (s₁.setTop (entryFrame m #[.ref d, .int (Int32.ofNat B.slots.size)] 2)) (s₁.setTop (mkF m 2 #[.val (.ref d), .val (.int (Int32.ofNat B.slots.size))] [.ref d, .int (Int32.ofNat B.slots.size)])) := c1.trans (by
    refine XS.iloadN X0.here hexec rfl (hb hbytes d0) rfl ?_
    refine XS.aloadN X0.here hexec rfl (hb hbytes d1) rfl rfl ?_
    exact Steps.refl _)
  have c3 : Steps p.tables e below (s₁.setTop (entryFrame m #[.ref d, .int (Int32.ofNat B.slots.size)] 2)) (s₁.setTop (mkF m 8 #[.val (.ref d), .val (.int (Int32.ofNat B.slots.size))] [.int (lo8 (ushr (Int32.ofNat B.slots.size - Int32.ofNat B.slots.size) 31))])) := c2.trans (by
    refine X0.alen hexec hB0 rfl rfl (hb hbytes d2) ?_
    refine XS.isub X0.here hexec rfl (hb hbytes d3) rfl ?_
    refine bipushV X0.here hexec rfl 31 (hb hbytes d4) (by decide) ?_
    refine iushr X0.here hexec rfl (hb hbytes d6) rfl ?_
    refine i2b X0.here hexec rfl (hb hbytes d7) rfl ?_
    exact Steps.refl _)
  have e0 : lo8 (ushr (Int32.ofNat B.slots.size - Int32.ofNat B.slots.size) 31) = 0 := by rw [Int32.sub_self]; decide
  rw [e0] at c3
  exact ⟨s₁, some (.int 0), _, _, _, X0, rfl, rfl, rfl, (fun h => by cases h), ⟨rfl, hh0⟩, fun fs hl => c3.trans (X0.ireturnOut hexec hret rfl (Or.inr (Or.inr (Or.inl rfl))) (hb hbytes d8) hl)⟩
end CodL
/-- the String at a is Latin-1 over a new byte[] (the heap's one new cell): the low bytes of the len chars of A from o on; every cell but a is kept -/
def Got (a : Addr) (D : Cell) (fV fC : Field) (A : Cell) (o len : Nat) (r : Option Value) (s u : State) : Prop := r = none ∧ ∃ D' V : Cell, Blank "java/lang/String" a D' u ∧ Same D D' [fV.slot, fC.slot] ∧ D'.slots[fV.slot]? = some (.ref s.heap.size) ∧ D'.slots[fC.slot]? = some (.int 0) ∧ Arr .byte s.heap.size V u ∧ V.vm = .none ∧ u.vm.findClass "[B" = some V.cls ∧ V.slots.size = len ∧ (∀ j, j < len → V.slots[j]? = some (.int (lo8 (cv A (o + j))))) ∧ (∀ (y : Addr) (c : Cell), y ≠ a → s.heap[y]? = some c → u.heap[y]? = some c) ∧ u.heap.size = s.heap.size + 1
theorem Got.mv {a : Addr} {D A : Cell} {fV fC : Field} {o len : Nat} : ∀ r (U U' V V' : State), U'.heap = U.heap → V.vm.Alike V'.vm → V'.heap = V.heap → Got a D fV fC A o len r U V → Got a D fV fC A o len r U' V' :=
  fun r U U' V V' h1 hal h2 ⟨e0, D', X, a1, a2, a3, a4, a5, a6, a7, a8, a9, a10, a11⟩ => ⟨e0, D', X, a1.mv hal h2, a2, by rw [h1]; exact a3, a4, by rw [h1]; exact a5.mv hal h2, a6, by rw [hal.findClass]; exact a7, a8, a9, by rw [h1, h2]; exact a10, by rw [h1, h2]; exact a11⟩
namespace New4
def yN : MethodName := ⟨"java/lang/String", "<init>", "([CIILjava/lang/Void;)V"⟩
abbrev yB : ByteArray := jdk_42_method_149_code
theorem d0 : decode yB 0 = .ok (.aload_n 0, 1) := by decide +kernel
theorem d1 : decode yB 1 = .ok (.invokespecial 1, 3) := by decide +kernel
theorem d4 : decode yB 4 = .ok (.iload_n 3, 1) := by decide +kernel
theorem d5 : decode yB 5 = .ok (.ifCond (.ne) 22, 3) := by decide +kernel
theorem d27 : decode yB 27 = .ok (.getstatic 38, 3) := by decide +kernel
theorem d30 : decode yB 30 = .ok (.ifCond (.eq) 28, 3) := by decide +kernel
theorem d33 : decode yB 33 = .ok (.aload_n 1, 1) := by decide +kernel
theorem d34 : decode yB 34 = .ok (.iload_n 2, 1) := by decide +kernel
theorem d35 : decode yB 35 = .ok (.iload_n 3, 1) := by decide +kernel
theorem d36 : decode yB 36 = .ok (.invokestatic 177, 3) := by decide +kernel
theorem d39 : decode yB 39 = .ok (.astore 5, 2) := by decide +kernel
theorem d41 : decode yB 41 = .ok (.aload_n 0, 1) := by decide +kernel
theorem d42 : decode yB 42 = .ok (.aload 5, 2) := by decide +kernel
theorem d44 : decode yB 44 = .ok (.iload_n 3, 1) := by decide +kernel
theorem d45 : decode yB 45 = .ok (.invokestatic 47, 3) := by decide +kernel
theorem d48 : decode yB 48 = .ok (.putfield 15, 3) := by decide +kernel
theorem d51 : decode yB 51 = .ok (.aload_n 0, 1) := by decide +kernel
theorem d52 : decode yB 52 = .ok (.aload 5, 2) := by decide +kernel
theorem d54 : decode yB 54 = .ok (.putfield 9, 3) := by decide +kernel
theorem d57 : decode yB 57 = .ok (.return_, 1) := by decide +kernel
def site : List Cond := [.fieldLink "java/lang/String" 38 "java/lang/String" "COMPACT_STRINGS" "Z", Cmp3.tab, CodL.tab, .laysFinal "java/lang/String" "java/lang/String" "value" "[B", .fieldLink "java/lang/String" 9 "java/lang/String" "value" "[B", .laysFinal "java/lang/String" "java/lang/String" "coder" "B", .fieldLink "java/lang/String" 15 "java/lang/String" "coder" "B"] ++ objW "java/lang/String" 1 ++ staticW "java/lang/String" 177 Cmp3.yN ++ staticW "java/lang/String" 47 CodL.yN
def tab : Cond := tabOf yN yB 6 none site
def P (a : Addr) (D : Cell) (fV fC : Field) (b : Addr) (A : Cell) (z : Int32) (o len : Nat) (args : Array Value) (s : State) : Prop := args = #[.ref a, .ref b, .int (Int32.ofNat o), .int (Int32.ofNat len), .null] ∧ Blank "java/lang/String" a D s ∧ Found "java/lang/String" "value" "[B" fV s ∧ Found "java/lang/String" "coder" "B" fC s ∧ Ch b A s ∧ StaticIs s "java/lang/String" "COMPACT_STRINGS" "Z" (.int z) ∧ ¬ z = 0 ∧ 0 < len ∧ o + len ≤ A.slots.size ∧ len ≤ 536870912 ∧ ∀ i, i < len → ¬ 255 < cv A (o + i)
def E (a : Addr) (D : Cell) (fV fC : Field) (A : Cell) (o len : Nat) (r : Option Value) (s u : State) : Prop := Got a D fV fC A o len r s u
/-- len > 0, no char of the range above 255: a Latin-1 String of their low bytes -/
theorem law (l : Launch) (a : Addr) (D : Cell) (fV fC : Field) (b : Addr) (A : Cell) (z : Int32) (o len : Nat) : Law l yN 5 4 2 35 yB 6 none site (P a D fV fC b A z o len) (E a D fV fC A o len) [⟨a, fC.slot⟩, ⟨a, fV.slot⟩] 1 len := by
  refine Law.of_walk (plainFor_of_name (by decide +kernel)) (by decide +kernel) (by decide +kernel) (by decide) (fun _ _ h => by rw [h.1]; rfl) (fun _ U U' hal hh h => ⟨h.1, h.2.1.mv hal hh, h.2.2.1.al hal, h.2.2.2.1.al hal, h.2.2.2.2.1.mv hal hh, h.2.2.2.2.2.1.there hal hh, h.2.2.2.2.2.2⟩) (fun r U U' V V' h1 hal h2 h => Got.mv r U U' V V' h1 hal h2 h) ?_
  intro p e s m args below meth c s₁ X0 hexec hbytes hml hret hlk hnm hown hh0 W hP
  obtain ⟨rfl, hB, f1, f2, hA, s1, hz, l0, l1, l2, hp⟩ := hP
  have a31 := hA.1.2.2.2
  have c1 : Steps p.tables e below (s₁.setTop (entryFrame m #[.ref a, .ref b, .int (Int32.ofNat o), .int (Int32.ofNat len), .null] 6)) (s₁.setTop (mkF m 0 #[.val (.ref a), .val (.ref b), .val (.int (Int32.ofNat o)), .val (.int (Int32.ofNat len)), .val .null, .unset] [])) := entry rfl
  have c2 : Steps p.tables e below (s₁.setTop (entryFrame m #[.ref a, .ref b, .int (Int32.ofNat o), .int (Int32.ofNat len), .null] 6)) (s₁.setTop (mkF m 1 #[.val (.ref a), .val (.ref b), .val (.int (Int32.ofNat o)), .val (.int (Int32.ofNat len)), .val .null, .unset] [.ref a])) := c1.trans (by
    refine XS.aloadN X0.here hexec rfl (hb hbytes d0) rfl rfl ?_
    exact Steps.refl _)
  obtain ⟨T3, X3, q3, st3⟩ := X0.oinit hexec hown (wks W (objW "java/lang/String" 1)) (g := (mkF m 1 #[.val (.ref a), .val (.ref b), .val (.int (Int32.ofNat o)), .val (.int (Int32.ofNat len)), .val .null, .unset] [.ref a])) rfl (by rw [hml]; rfl) (rest := []) rfl (hb hbytes d1) (W := 0) (by show 2 * 0 + 0 ≤ _; decide) (Nat.le_of_ble_eq_true rfl) (Nat.le_of_ble_eq_true rfl)
  have hh3 := q3.trans hh0
  have c4 : Steps p.tables e below (s₁.setTop (entryFrame m #[.ref a, .ref b, .int (Int32.ofNat o), .int (Int32.ofNat len), .null] 6)) (T3.setTop (mkF m 27 #[.val (.ref a), .val (.ref b), .val (.int (Int32.ofNat o)), .val (.int (Int32.ofNat len)), .val .null, .unset] [])) := (c2.trans (st3 _ (Steps.refl _))).trans (by
    refine XS.iloadN X3.here hexec rfl (hb hbytes d4) rfl ?_
    refine XS.ifYes X3.here hexec rfl (pc0 := 5) rfl (hb hbytes d5) rfl (i0_ne_t (nz32 (by omega) l0)) (by decide) rfl ?_
    exact Steps.refl _)
  obtain ⟨T5, X5, q5, st5⟩ := X3.sget hexec hown (wk W (.fieldLink "java/lang/String" 38 "java/lang/String" "COMPACT_STRINGS" "Z")) s1 (fun _ _ h => by rw [hh3]; exact h) (g := (mkF m 27 #[.val (.ref a), .val (.ref b), .val (.int (Int32.ofNat o)), .val (.int (Int32.ofNat len)), .val .null, .unset] [])) rfl (hb hbytes d27)
  have hh5 := q5.trans hh3
  have c6 : Steps p.tables e below (s₁.setTop (entryFrame m #[.ref a, .ref b, .int (Int32.ofNat o), .int (Int32.ofNat len), .null] 6)) (T5.setTop (mkF m 30 #[.val (.ref a), .val (.ref b), .val (.int (Int32.ofNat o)), .val (.int (Int32.ofNat len)), .val .null, .unset] [.int z])) := c4.trans (st5 _ (Steps.refl _))
  have c7 : Steps p.tables e below (s₁.setTop (entryFrame m #[.ref a, .ref b, .int (Int32.ofNat o), .int (Int32.ofNat len), .null] 6)) (T5.setTop (mkF m 36 #[.val (.ref a), .val (.ref b), .val (.int (Int32.ofNat o)), .val (.int (Int32.ofNat len)), .val .null, .unset] [.int (Int32.ofNat len), .int (Int32.ofNat o), .ref b])) := c6.trans (by
    refine XS.ifNo X5.here hexec rfl (hb hbytes d30) rfl (i0_eq_f hz) ?_
    refine XS.aloadN X5.here hexec rfl (hb hbytes d33) rfl rfl ?_
    refine XS.iloadN X5.here hexec rfl (hb hbytes d34) rfl ?_
    refine XS.iloadN X5.here hexec rfl (hb hbytes d35) rfl ?_
    exact Steps.refl _)
  obtain ⟨v8, T8, X8, E8, g8⟩ := X5.callS hexec (Cmp3.law l b A o len) hown (wks W (staticW "java/lang/String" 177 Cmp3.yN)) (wk W Cmp3.tab) (W := 0) (Nat.le_of_ble_eq_true rfl) (Nat.le_of_ble_eq_true rfl) (Nat.le_refl _) (by show 0 + len ≤ len; omega) (g := (mkF m 36 #[.val (.ref a), .val (.ref b), .val (.int (Int32.ofNat o)), .val (.int (Int32.ofNat len)), .val .null, .unset] [.int (Int32.ofNat len), .int (Int32.ofNat o), .ref b])) rfl (by rw [hml]; rfl) c7 (argsL := [.ref b, .int (Int32.ofNat o), .int (Int32.ofNat len)]) (rest := []) rfl rfl (by show 2 * 0 + 0 ≤ _; decide) (hb hbytes d36) (⟨rfl, hA.mv X5.warmed.alike hh5, l1, l2, hp⟩)
  obtain ⟨e8, z8⟩ := E8
  obtain ⟨rfl, N, n1, n2, n3, n4, n5, n6⟩ := NewArr.mv _ T5 s _ _ hh5.symm (Vm.Alike.refl _) rfl e8
  rw [hh5] at z8
  have hB1 := hB.keep X8.warmed.alike (n6 _ _ hB.1)
  have hne : s.heap.size ≠ a := (Nat.ne_of_lt (Array.getElem?_eq_some_iff.mp hB.1).1).symm
  have c9 : Steps p.tables e below (s₁.setTop (entryFrame m #[.ref a, .ref b, .int (Int32.ofNat o), .int (Int32.ofNat len), .null] 6)) (T8.setTop (mkF m 39 #[.val (.ref a), .val (.ref b), .val (.int (Int32.ofNat o)), .val (.int (Int32.ofNat len)), .val .null, .unset] [.ref s.heap.size])) := g8
  have c10 : Steps p.tables e below (s₁.setTop (entryFrame m #[.ref a, .ref b, .int (Int32.ofNat o), .int (Int32.ofNat len), .null] 6)) (T8.setTop (mkF m 45 #[.val (.ref a), .val (.ref b), .val (.int (Int32.ofNat o)), .val (.int (Int32.ofNat len)), .val .null, .val (.ref s.heap.size)] [.int (Int32.ofNat N.slots.size), .ref s.heap.size, .ref a])) := by
    have hc : Steps p.tables e below (s₁.setTop (entryFrame m #[.ref a, .ref b, .int (Int32.ofNat o), .int (Int32.ofNat len), .null] 6)) (T8.setTop (mkF m 45 #[.val (.ref a), .val (.ref b), .val (.int (Int32.ofNat o)), .val (.int (Int32.ofNat len)), .val .null, .val (.ref s.heap.size)] [.int (Int32.ofNat len), .ref s.heap.size, .ref a])) := c9.trans (by
      refine XS.astore X8.here hexec rfl (hb hbytes d39) rfl rfl rfl ?_
      refine XS.aloadN X8.here hexec rfl (hb hbytes d41) rfl rfl ?_
      refine XS.aload X8.here hexec rfl (hb hbytes d42) rfl rfl ?_
      refine XS.iloadN X8.here hexec rfl (hb hbytes d44) rfl ?_
      exact Steps.refl _)
    rw [n4]; exact hc
  obtain ⟨v11, T11, X11, E11, g11⟩ := X8.callS hexec (CodL.law l s.heap.size N) hown (wks W (staticW "java/lang/String" 47 CodL.yN)) (wk W CodL.tab) (W := 1) (Nat.le_of_ble_eq_true rfl) (Nat.le_of_ble_eq_true rfl) (Nat.le_refl _) (by show 0 + len + 0 ≤ len; omega) (g := (mkF m 45 #[.val (.ref a), .val (.ref b), .val (.int (Int32.ofNat o)), .val (.int (Int32.ofNat len)), .val .null, .val (.ref s.heap.size)] [.int (Int32.ofNat N.slots.size), .ref s.heap.size, .ref a])) rfl (by rw [hml]; rfl) c10 (argsL := [.ref s.heap.size, .int (Int32.ofNat N.slots.size)]) (rest := [.ref a]) rfl rfl (by show 2 * 0 + (1 + 0) ≤ _; decide) (hb hbytes d45) (⟨rfl, n1⟩)
  obtain ⟨rfl, q11⟩ := E11
  have hB11 := hB1.mv (X8.warmed.alike.symm.trans X11.warmed.alike) q11
  have c12 : Steps p.tables e below (s₁.setTop (entryFrame m #[.ref a, .ref b, .int (Int32.ofNat o), .int (Int32.ofNat len), .null] 6)) (T11.setTop (mkF m 48 #[.val (.ref a), .val (.ref b), .val (.int (Int32.ofNat o)), .val (.int (Int32.ofNat len)), .val .null, .val (.ref s.heap.size)] [.int 0, .ref a])) := g11
  obtain ⟨T13, X13, p13, bl13, sl13, st13⟩ := X11.finit hexec hown (wk W (.fieldLink "java/lang/String" 15 "java/lang/String" "coder" "B")) (Or.inr ⟨_, (wk W (.laysFinal "java/lang/String" "java/lang/String" "coder" "B"))⟩) (Or.inl ⟨rfl, hnm⟩) f2 (Or.inl rfl) hB11 (t := .byte) (by decide +kernel) rfl (g := (mkF m 48 #[.val (.ref a), .val (.ref b), .val (.int (Int32.ofNat o)), .val (.int (Int32.ofNat len)), .val .null, .val (.ref s.heap.size)] [.int 0, .ref a])) rfl (rest := []) rfl (hb hbytes d48)
  have c14 : Steps p.tables e below (s₁.setTop (entryFrame m #[.ref a, .ref b, .int (Int32.ofNat o), .int (Int32.ofNat len), .null] 6)) (T13.setTop (mkF m 54 #[.val (.ref a), .val (.ref b), .val (.int (Int32.ofNat o)), .val (.int (Int32.ofNat len)), .val .null, .val (.ref s.heap.size)] [.ref s.heap.size, .ref a])) := (c12.trans (st13 _ (Steps.refl _))).trans (by
    refine XS.aloadN X13.here hexec rfl (hb hbytes d51) rfl rfl ?_
    refine XS.aload X13.here hexec rfl (hb hbytes d52) rfl rfl ?_
    exact Steps.refl _)
  obtain ⟨T15, X15, p15, bl15, sl15, st15⟩ := X13.finit hexec hown (wk W (.fieldLink "java/lang/String" 9 "java/lang/String" "value" "[B")) (Or.inr ⟨_, (wk W (.laysFinal "java/lang/String" "java/lang/String" "value" "[B"))⟩) (Or.inl ⟨rfl, hnm⟩) f1 (Or.inl rfl) bl13 (t := (.array .byte)) (by decide +kernel) rfl (g := (mkF m 54 #[.val (.ref a), .val (.ref b), .val (.int (Int32.ofNat o)), .val (.int (Int32.ofNat len)), .val .null, .val (.ref s.heap.size)] [.ref s.heap.size, .ref a])) rfl (rest := []) rfl (hb hbytes d54)
  have c16 : Steps p.tables e below (s₁.setTop (entryFrame m #[.ref a, .ref b, .int (Int32.ofNat o), .int (Int32.ofNat len), .null] 6)) (T15.setTop (mkF m 57 #[.val (.ref a), .val (.ref b), .val (.int (Int32.ofNat o)), .val (.int (Int32.ofNat len)), .val .null, .val (.ref s.heap.size)] [])) := c14.trans (st15 _ (Steps.refl _))
  have ap := apart (Or.inr ⟨_, (wk W (.laysFinal "java/lang/String" "java/lang/String" "value" "[B"))⟩) (Or.inr ⟨_, (wk W (.laysFinal "java/lang/String" "java/lang/String" "coder" "B"))⟩) f1 f2 (t₁ := .array .byte) (t₂ := .byte) (by decide +kernel) (by decide +kernel) (by decide)
  have al := X8.warmed.alike.symm.trans X15.warmed.alike
  have n7 : T11.heap[s.heap.size]? = some N := by rw [q11]; exact n1.1
  exact ⟨T15, none, _, _, _, X15, by simp, rfl, by omega, (fun _ => rfl), ⟨rfl, _, N, bl15, ((Same.refl D _).set _ (by simp)).set _ (by simp), sl15, (Cell.slots_setSlot_ne _ ap).trans sl13, n1.keep al (p15.other hne (p13.other hne n7)), n2, by rw [al.findClass]; exact n3, n4, n5, fun y c h1 h2 => p15.other h1 (p13.other h1 (by rw [q11]; exact n6 y c h2)), by rw [p15.2.2, p13.2.2, q11]; exact z8⟩, fun fs hl => c16.trans (X15.returnOut hexec hret (hb hbytes d57) hl)⟩
end New4
namespace New1
def yN : MethodName := ⟨"java/lang/String", "<init>", "([C)V"⟩
abbrev yB : ByteArray := jdk_42_method_3_code
theorem d0 : decode yB 0 = .ok (.aload_n 0, 1) := by decide +kernel
theorem d1 : decode yB 1 = .ok (.aload_n 1, 1) := by decide +kernel
theorem d2 : decode yB 2 = .ok (.iconst 0, 1) := by decide +kernel
theorem d3 : decode yB 3 = .ok (.aload_n 1, 1) := by decide +kernel
theorem d4 : decode yB 4 = .ok (.arraylength, 1) := by decide +kernel
theorem d5 : decode yB 5 = .ok (.aconst_null, 1) := by decide +kernel
theorem d6 : decode yB 6 = .ok (.invokespecial 27, 3) := by decide +kernel
theorem d9 : decode yB 9 = .ok (.return_, 1) := by decide +kernel
def site : List Cond := [New4.tab] ++ initW "java/lang/String" 27 New4.yN
def tab : Cond := tabOf yN yB 2 none site
def P (a : Addr) (D : Cell) (fV fC : Field) (b : Addr) (A : Cell) (z : Int32) (args : Array Value) (s : State) : Prop := args = #[.ref a, .ref b] ∧ Blank "java/lang/String" a D s ∧ Found "java/lang/String" "value" "[B" fV s ∧ Found "java/lang/String" "coder" "B" fC s ∧ Ch b A s ∧ StaticIs s "java/lang/String" "COMPACT_STRINGS" "Z" (.int z) ∧ ¬ z = 0 ∧ 0 < A.slots.size ∧ A.slots.size ≤ 536870912 ∧ ∀ i, i < A.slots.size → ¬ 255 < cv A i
def E (a : Addr) (D : Cell) (fV fC : Field) (A : Cell) (r : Option Value) (s u : State) : Prop := Got a D fV fC A 0 A.slots.size r s u
/-- new String(chars), not empty, no char above 255: a Latin-1 String of their low bytes -/
theorem law (l : Launch) (a : Addr) (D : Cell) (fV fC : Field) (b : Addr) (A : Cell) (z : Int32) : Law l yN 2 1 3 52 yB 2 none site (P a D fV fC b A z) (E a D fV fC A) [⟨a, fC.slot⟩, ⟨a, fV.slot⟩] 1 A.slots.size := by
  refine Law.of_walk (plainFor_of_name (by decide +kernel)) (by decide +kernel) (by decide +kernel) (by decide) (fun _ _ h => by rw [h.1]; rfl) (fun _ U U' hal hh h => ⟨h.1, h.2.1.mv hal hh, h.2.2.1.al hal, h.2.2.2.1.al hal, h.2.2.2.2.1.mv hal hh, h.2.2.2.2.2.1.there hal hh, h.2.2.2.2.2.2⟩) (fun r U U' V V' h1 hal h2 h => Got.mv r U U' V V' h1 hal h2 h) ?_
  intro p e s m args below meth c s₁ X0 hexec hbytes hml hret hlk hnm hown hh0 W hP
  obtain ⟨rfl, hB, f1, f2, hA, s1, hz, l0, l2, hp⟩ := hP
  have c1 : Steps p.tables e below (s₁.setTop (entryFrame m #[.ref a, .ref b] 2)) (s₁.setTop (mkF m 0 #[.val (.ref a), .val (.ref b)] [])) := entry rfl
  have c2 : Steps p.tables e below (s₁.setTop (entryFrame m #[.ref a, .ref b] 2)) (s₁.setTop (mkF m 6 #[.val (.ref a), .val (.ref b)] [.null, .int (Int32.ofNat A.slots.size), .int 0, .ref b, .ref a])) := c1.trans (by
    refine XS.aloadN X0.here hexec rfl (hb hbytes d0) rfl rfl ?_
    refine XS.aloadN X0.here hexec rfl (hb hbytes d1) rfl rfl ?_
    refine iconstV X0.here hexec rfl 0 (hb hbytes d2) (by decide) ?_
    refine XS.aloadN X0.here hexec rfl (hb hbytes d3) rfl rfl ?_
    refine X0.alen hexec (hA.1.mv X0.warmed.alike hh0) rfl rfl (hb hbytes d4) ?_
    refine XS.aconstNull X0.here hexec rfl (hb hbytes d5) ?_
    exact Steps.refl _)
  obtain ⟨v3, T3, X3, E3, g3⟩ := X0.callN hexec (New4.law l a D fV fC b A z 0 A.slots.size) rfl hown (wks W (initW "java/lang/String" 27 New4.yN)) (W New4.tab (by simp only [site, List.mem_cons, List.mem_append, true_or, or_true])) (W := 0) (Nat.le_of_ble_eq_true rfl) (Nat.le_of_ble_eq_true rfl) (Nat.le_refl _) (by show 0 + A.slots.size ≤ A.slots.size; omega) (g := (mkF m 6 #[.val (.ref a), .val (.ref b)] [.null, .int (Int32.ofNat A.slots.size), .int (Int32.ofNat 0), .ref b, .ref a])) rfl (by rw [hml]; rfl) c2 (argsL := [.ref b, .int (Int32.ofNat 0), .int (Int32.ofNat A.slots.size), .null]) (rest := []) rfl rfl (by show 2 * 0 + 0 ≤ _; decide) (hb hbytes d6) (⟨rfl, hB.mv X0.warmed.alike hh0, f1.al X0.warmed.alike, f2.al X0.warmed.alike, hA.mv X0.warmed.alike hh0, s1.there X0.warmed.alike hh0, hz, l0, by omega, l2, fun i hi => by rw [Nat.zero_add]; exact hp i hi⟩)
  have e0 := Got.mv _ s₁ s _ _ hh0.symm (Vm.Alike.refl _) rfl E3
  obtain rfl := e0.1
  have c4 : Steps p.tables e below (s₁.setTop (entryFrame m #[.ref a, .ref b] 2)) (T3.setTop (mkF m 9 #[.val (.ref a), .val (.ref b)] [])) := g3
  exact ⟨T3, none, _, _, _, X3, by simp, rfl, by omega, (fun _ => rfl), e0, fun fs hl => c4.trans (X3.returnOut hexec hret (hb hbytes d9) hl)⟩
theorem pays {l : Launch} {R : Room} {p : Program} {e : Env} {below : List Frame} {s : State} {sargs : Array Value} {len W : Nat} (a : Addr) (D : Cell) (fV fC : Field) (b : Addr) (A : Cell) (z : Int32) (htab : tab.before sargs s = true) (hfr : 4 ≤ R.frames) (hlo : W + 65 ≤ R.locals) :
    Back l R p e below s sargs yN len W (fun A₁ a₁ => A₁.cells + 1 ≤ R.cells ∧ A₁.slots + A.slots.size ≤ R.slots ∧ P a D fV fC b A z a₁ A₁.U) (fun A₁ _ v₁ B₁ => E a D fV fC A v₁ A₁.U B₁.U ∧ B₁.locs = A₁.locs ++ [⟨a, fC.slot⟩, ⟨a, fV.slot⟩] ∧ B₁.cells = A₁.cells + 1 ∧ B₁.slots = A₁.slots + A.slots.size) :=
  (law l a D fV fC b A z).pays htab hfr (by omega)
end New1
/-- the byte, read back as charAt reads it, is the char -/
theorem lo8_mask {x : Int32} (h0 : ¬ x < 0) (h1 : ¬ 255 < x) : lo8 x &&& 255 = x := by
  have t : ∀ k : Fin 256, lo8 (Int32.ofNat k.val) &&& 255 = Int32.ofNat k.val := by decide +kernel
  rw [Int32.lt_iff_toInt_lt] at h0 h1
  have e0 : (0 : Int32).toInt = 0 := rfl
  have e1 : (255 : Int32).toInt = 255 := rfl
  obtain ⟨k, hk⟩ : ∃ k : Nat, x.toInt = k := ⟨x.toInt.toNat, by omega⟩
  have hx : x = Int32.ofNat k := Int32.toInt_inj.mp (by rw [hk, Int32.toInt_ofNat_small (by omega)])
  rw [hx]
  exact t ⟨k, by omega⟩
end StrChars
namespace StrChars.Road
open Jvm Sem ClassFile Op Lib Jvm.Stand Jvm.Free Jvm.Free.XT
open Jvm.Lib.Cold (StaticIs)
abbrev ST : String := "java/lang/String"
/-- every table word that New1's law asks, flat -/
abbrev words : List Jvm.Cond := [.code New1.yN New1.yB 2 none, .initialized ST, .methodLink ST 27 New4.yN, .instanceMethod New4.yN,
  .code New4.yN New4.yB 6 none, .fieldLink ST 38 ST "COMPACT_STRINGS" "Z", .laysFinal ST ST "value" "[B", .fieldLink ST 9 ST "value" "[B", .laysFinal ST ST "coder" "B", .fieldLink ST 15 ST "coder" "B",
  .methodLink ST 1 Lib.objectInit, .instanceMethod Lib.objectInit, .code Lib.objectInit ⟨#[0xb1]⟩ 1 none, .methodLink ST 177 Cmp3.yN, .static Cmp3.yN, .methodLink ST 47 CodL.yN, .static CodL.yN,
  .code Cmp3.yN Cmp3.yB 6 (some (.array .byte)), .initialized U16, .arrayClass .byte, .methodLink U16 115 Cmp5.yN, .static Cmp5.yN, .code Cmp5.yN Cmp5.yB 7 (some .int), .code CodL.yN CodL.yB 2 (some .byte)]
theorem tab_of {a : Array Value} {s : State} (h : ∀ w ∈ words, w.before a s = true) : New1.tab.before a s = true := by
  have h5 : Cmp5.tab.before a s = true := unparts (wk h (.code Cmp5.yN Cmp5.yB 7 (some .int))) (wks h (.initialized Cmp5.yN.cls :: Cmp5.site))
  have hc : CodL.tab.before a s = true := unparts (wk h (.code CodL.yN CodL.yB 2 (some .byte))) (wks h (.initialized CodL.yN.cls :: CodL.site))
  have q5 : ∀ w ∈ Cmp5.tab :: words, w.before a s = true := fun w hw => (List.mem_cons.mp hw).elim (fun e => e ▸ h5) (h w)
  have h3 : Cmp3.tab.before a s = true := unparts (wk q5 (.code Cmp3.yN Cmp3.yB 6 (some (.array .byte)))) (wks q5 (.initialized Cmp3.yN.cls :: Cmp3.site))
  have q3 : ∀ w ∈ Cmp3.tab :: CodL.tab :: words, w.before a s = true := fun w hw => (List.mem_cons.mp hw).elim (fun e => e ▸ h3) fun hw => (List.mem_cons.mp hw).elim (fun e => e ▸ hc) (h w)
  have h4 : New4.tab.before a s = true := unparts (wk q3 (.code New4.yN New4.yB 6 none)) (wks q3 (.initialized New4.yN.cls :: New4.site))
  have q4 : ∀ w ∈ New4.tab :: words, w.before a s = true := fun w hw => (List.mem_cons.mp hw).elim (fun e => e ▸ h4) (h w)
  exact unparts (wk q4 (.code New1.yN New1.yB 2 none)) (wks q4 (.initialized New1.yN.cls :: New1.site))
/-- the words ride from the start Z to the walk's own state -/
theorem moved {Z s : State} {a0 args : Array Value} (hZ : Z.Warmed39 s.vm) (hw : ∀ d ∈ words, d.before a0 Z = true) : ∀ d ∈ words, d.before args s = true := fun d hd => by
  have q := hw d hd
  have t : ∀ d ∈ words, d = .arrayClass .byte ∨ (d.onTables && d.keepsFace) = true := by decide +kernel
  rcases t d hd with rfl | t
  · exact RoadKit.mvA hZ q
  · exact RoadKit.mv hZ q t
/-- WHAT COMES BACK, over the tables of the start Z: h the heap at the call, h' behind it -/
def Q (Z : State) (x : Addr) (A : Cell) (h : Heap) (v : Option Value) (h' : Heap) (L : List Loc) : Prop := v = none ∧ (∀ y ∈ L, y.base = x) ∧ RoadKit.Keep h h' [x] ∧ h'.size = h.size + 1 ∧ RoadKit.Exa Z h' x ST ∧ RoadKit.Fld Z h' x ST "value" "[B" (.ref h.size) ∧ RoadKit.Fld Z h' x ST "coder" "B" (.int 0) ∧
  (∃ V : Cell, RoadKit.Arr Z h' h.size V .byte ∧ V.vm = .none ∧ Z.vm.findClass "[B" = some V.cls ∧ V.slots.size = A.slots.size ∧ ∀ j, j < A.slots.size → V.slots[j]? = some (.int (lo8 (cv A j)))) ∧
  ∀ (O n d : String) (w : Value), RoadKit.Fld Z h x O n d w → RoadKit.slotOf Z O n d ≠ RoadKit.slotOf Z ST "value" "[B" → RoadKit.slotOf Z O n d ≠ RoadKit.slotOf Z ST "coder" "B" → RoadKit.Fld Z h' x O n d w
/-- **new String(chars) AT A CALL, IN THE ROAD'S FORM**: for specialBack behind newO: x the fresh String, b the char[] with the cell A -/
theorem back {p : Program} {l : Launch} {e : Env} {R : Room} {s : State} {args : Array Value} {below : List Frame} {len W : Nat} {Z : State} {a0 : Array Value} {h : Heap} (hZ : Z.Warmed39 s.vm) (hw : ∀ d ∈ words, d.before a0 Z = true) {kI : Nat} (wi : (Jvm.Cond.instantiable ST kI).before a0 Z = true)
    {x b : Addr} {A : Cell} {z : Int32} {v0 c0 : Value} (E : RoadKit.Exa Z h x ST) (V : RoadKit.Fld Z h x ST "value" "[B" v0) (C : RoadKit.Fld Z h x ST "coder" "B" c0) (K : RoadKit.Arr Z h b A .char) (hty : Typed .char A) (S : RoadKit.Sta Z h ST "COMPACT_STRINGS" "Z" (.int z)) (hz : ¬ z = 0)
    (l0 : 0 < A.slots.size) (l2 : A.slots.size ≤ 536870912) (hp : ∀ i, i < A.slots.size → ¬ 255 < cv A i) (hfr : 4 ≤ R.frames) (hlo : W + 65 ≤ R.locals) :
    Back l R p e below s args New1.yN len W (fun P a => a = #[.ref x, .ref b] ∧ P.U.heap = h ∧ P.cells + 1 ≤ R.cells ∧ P.slots + A.slots.size ≤ R.slots)
      (fun P _ v B => ∃ L, Q Z x A h v B.U.heap L ∧ B.locs = P.locs ++ L ∧ B.cells = P.cells + 1 ∧ B.slots = P.slots + A.slots.size) := by
  intro m meth c P g ig mk a X hg hsize hdg hW hn hp'
  obtain ⟨rfl, rfl, r1, r2⟩ := hp'
  have al : Z.vm.Alike P.U.vm := hZ.alike.trans X.warmed.alike
  obtain ⟨D, cfV, kV, iV, fV, hD, gV, stV, knV, obV, asV, slV⟩ := id V
  obtain ⟨D', cfC, kC, iC, fC, hD', gC, stC, -, -, asC, slC⟩ := id C
  cases hD.symm.trans hD'
  obtain ⟨D2, kD, e1, e2, e3, e4, e5⟩ := id E
  cases hD.symm.trans e1
  obtain ⟨c2, k2, i1, i2, i3, -⟩ := Cond.instantiable_spec wi
  cases e2.symm.trans i1
  cases e3.symm.trans i2
  obtain ⟨kU, u1, u2⟩ := al.2.2 _ _ e3
  have hB : Blank ST x D P.U := ⟨hD, ⟨knV, fun q hq => by rw [hq] at obV; cases obV⟩, by rw [al.findClass]; exact e2, kU, u1, by rw [u2]; exact i3, by rw [u2]; exact e5 i3⟩
  have F1 : Found ST "value" "[B" fV P.U := ⟨SBG.found_only al ⟨cfV, kV, iV, gV⟩, stV⟩
  have F2 : Found ST "coder" "B" fC P.U := ⟨SBG.found_only al ⟨cfC, kC, iC, gC⟩, stC⟩
  have hA : Ch b A P.U := ⟨⟨K.1, State.isArrayOf_alike al K.2.1, K.2.2, by omega⟩, hty⟩
  have hS : StaticIs P.U ST "COMPACT_STRINGS" "Z" (.int z) := by
    obtain ⟨cfS, iS, kS, fS, st, cS, t1, t2, t3, t4, t5, t6, t7⟩ := S
    exact StaticIs.there (s := { Z with heap := P.U.heap }) ⟨cfS, iS, kS, fS, st, cS, t1, t2, t3, t4, t5, (fun q => by rw [q] at t6; cases t6), t7⟩ al rfl
  obtain ⟨v, B, X', ⟨⟨hv, E', V', q1, q2, q3, q4, q5, q6, q7, q8, q9, q10, q11⟩, hl, hc, hs⟩, st⟩ := New1.pays x D fV fC b A z (tab_of (moved hZ hw)) hfr hlo m meth c P g ig mk _ X hg hsize hdg hW hn ⟨r1, r2, rfl, hB, F1, F2, hA, hS, hz, l0, l2, hp⟩
  have al' : Z.vm.Alike B.U.vm := hZ.alike.trans X'.warmed.alike
  have hsz : E'.slots.size = D.slots.size := by
    obtain ⟨-, -, -, kB, w1, w2, w3⟩ := q1
    obtain ⟨kB', y1, y2⟩ := al'.2.2 _ _ e3
    rw [q2.2.1] at w1
    cases w1.symm.trans y1
    rw [w3, e5 i3, y2]
  refine ⟨v, B, X', ⟨_, ⟨hv, ?_, ⟨by omega, fun y cy hy hn' => q10 y cy (by simpa using hn') hy, fun y cy hy => ?_⟩, q11, ⟨E', _, q1.1, by rw [q2.2.1]; exact e2, by rw [q2.2.1]; exact e3, by rw [q2.1]; exact obV, fun _ => by rw [hsz]; exact e5 i3⟩,
    ⟨E', cfV, kV, iV, fV, q1.1, gV, stV, by rw [q2.1]; exact knV, by rw [q2.1]; exact obV, by rw [q2.2.1]; exact asV, q3⟩, ⟨E', cfC, kC, iC, fC, q1.1, gC, stC, by rw [q2.1]; exact knV, by rw [q2.1]; exact obV, by rw [q2.2.1]; exact asC, q4⟩,
    ⟨V', ⟨q5.1, State.isArrayOf_alike al'.symm q5.2.1, q5.2.2.1⟩, q6, by rw [← al'.findClass]; exact q7, q8, fun j hj => by have := q9 j hj; rwa [Nat.zero_add] at this⟩, fun O n d w F n1 n2 => ?_⟩, hl, hc, hs⟩, st⟩
  · intro y hy
    simp only [List.mem_cons, List.not_mem_nil, or_false] at hy
    rcases hy with rfl | rfl <;> rfl
  · by_cases q : y = x
    · subst q
      cases hD.symm.trans hy
      exact ⟨E', q1.1, q2.2.1, q2.1, hsz⟩
    · exact ⟨cy, q10 y cy q hy, rfl, rfl, rfl⟩
  · obtain ⟨D3, cf, k, i, f, g1, g2, g3, g4, g5, g6, g7⟩ := F
    cases hD.symm.trans g1
    simp only [RoadKit.slotOf, g2, gV, gC, Option.map_some, Option.getD_some] at n1 n2
    exact ⟨E', cf, k, i, f, q1.1, g2, g3, by rw [q2.1]; exact g4, by rw [q2.1]; exact g5, by rw [q2.2.1]; exact g6, by rw [q2.2.2 f.slot (by simp [n1, n2])]; exact g7⟩
end StrChars.Road
namespace StrChars.Road
open Jvm Sem ClassFile Op Lib Jvm.Stand Jvm.Free Jvm.Free.XT
/-- WHAT COMES BACK, the byte[] as a list of values -/
def QA (Z : State) (x : Addr) (zn : Int32) (cs : List Int32) (h : Heap) (v : Option Value) (h' : Heap) (L : List Loc) : Prop := v = none ∧ (∀ y ∈ L, y.base = x) ∧ RoadKit.Keep h h' [x] ∧ h'.size = h.size + 1 ∧ RoadKit.Exa Z h' x ST ∧ RoadKit.Fld Z h' x ST "value" "[B" (.ref h.size) ∧ RoadKit.Fld Z h' x ST "coder" "B" (.int 0) ∧
  (∃ kb, Z.vm.findClass "[B" = some kb ∧ RoadKit.Arv Z h' h.size kb .byte zn (cs.map fun c => .int (lo8 c)) (.int 0)) ∧
  ∀ (O n d : String) (w : Value), RoadKit.Fld Z h x O n d w → RoadKit.slotOf Z O n d ≠ RoadKit.slotOf Z ST "value" "[B" → RoadKit.slotOf Z O n d ≠ RoadKit.slotOf Z ST "coder" "B" → RoadKit.Fld Z h' x O n d w
/-- **new String(chars) AT A CALL, THE ARRAYS AS LISTS**: the char[] at b holds cs, not empty, no char above 255 -/
theorem backArv {p : Program} {l : Launch} {e : Env} {R : Room} {s : State} {args : Array Value} {below : List Frame} {len W : Nat} {Z : State} {a0 : Array Value} {h : Heap} (hZ : Z.Warmed39 s.vm) (hw : ∀ d ∈ words, d.before a0 Z = true) {kI : Nat} (wi : (Jvm.Cond.instantiable ST kI).before a0 Z = true)
    {x b : Addr} {k : ClassId} {zn z : Int32} {cs : List Int32} {dv v0 c0 : Value} (E : RoadKit.Exa Z h x ST) (V : RoadKit.Fld Z h x ST "value" "[B" v0) (C : RoadKit.Fld Z h x ST "coder" "B" c0) (K : RoadKit.Arv Z h b k .char zn (cs.map Value.int) dv) (S : RoadKit.Sta Z h ST "COMPACT_STRINGS" "Z" (.int z)) (hz : ¬ z = 0)
    (hlen : zn.toNatClampNeg = cs.length) (h0 : 0 < cs.length) (hbig : cs.length ≤ 536870912) (hall : ∀ c ∈ cs, ¬ 255 < c) (hfr : 4 ≤ R.frames) (hlo : W + 65 ≤ R.locals) :
    Back l R p e below s args New1.yN len W (fun P a => a = #[.ref x, .ref b] ∧ P.U.heap = h ∧ P.cells + 1 ≤ R.cells ∧ P.slots + cs.length ≤ R.slots)
      (fun P _ v B => ∃ L, QA Z x zn cs h v B.U.heap L ∧ B.locs = P.locs ++ L ∧ B.cells = P.cells + 1 ∧ B.slots = P.slots + cs.length) := by
  obtain ⟨A, K1, K2, K3, K4, K5, K6⟩ := K
  have e : A.slots.size = cs.length := K3.trans hlen
  have hat : ∀ (i : Nat) (hi : i < cs.length), A.slots[i]? = some (.int cs[i]) := fun i hi => by rw [K5 i (by omega)]; simp [List.getD_eq_getElem?_getD, hi]
  have hcv : ∀ (i : Nat) (hi : i < cs.length), cv A i = cs[i] := fun i hi => by unfold cv; rw [hat i hi]
  have hty : Typed .char A := fun i v hv => by
    have hi : i < A.slots.size := (Array.getElem?_eq_some_iff.mp hv).1
    have q := K5 i hi
    rw [hv] at q
    rw [Option.some.inj q]
    exact K6 i hi
  refine Back.mono (back hZ hw wi E V C K1 hty S hz (by omega) (by omega) (fun i hi => by rw [hcv i (by omega)]; exact hall _ (List.getElem_mem _)) hfr hlo) (fun P a hp => ⟨hp.1, hp.2.1, hp.2.2.1, by rw [e]; exact hp.2.2.2⟩) (fun P a v B hp hq => ?_)
  obtain ⟨L, ⟨q1, q2, q3, q4, q5, q6, q7, ⟨V', v1, v2, v3, v4, v5⟩, q9⟩, hl, hc, hs⟩ := hq
  refine ⟨L, ⟨q1, q2, q3, q4, q5, q6, q7, ⟨V'.cls, v3, V', v1, rfl, by rw [v4, e, hlen], K4, fun i hi => ?_, fun i hi => ?_⟩, q9⟩, hl, hc, by rw [hs, e]⟩
  · have hi' : i < cs.length := by omega
    rw [v5 i (by omega), hcv i hi']; simp [List.getD_eq_getElem?_getD, hi']
  · have hi' : i < cs.length := by omega
    simp only [List.getD_eq_getElem?_getD, List.getElem?_map, List.getElem?_eq_getElem hi', Option.map_some, Option.getD_some]
    exact fits_lo8 _
end StrChars.Road
namespace StrChars.Road
open Jvm Sem ClassFile Op Lib Jvm.Stand Jvm.Free Jvm.Free.XT
/-- WHAT COMES BACK, in the writer's own shape -/
def QV (Z : State) (x : Addr) (N : Int32) (bs : List Int32) (h : Heap) (n0 : Nat) (v : Option Value) (h' : Heap) (L : List Loc) : Prop := v = none ∧ RoadKit.Fr n0 L ∧ RoadKit.Keep h h' [x] ∧ RoadKit.Exa Z h' x ST ∧ RoadKit.Fld Z h' x ST "coder" "B" (.int 0) ∧
  ∃ (t : Addr) (kb : ClassId), n0 ≤ t ∧ h.size ≤ t ∧ ¬ t = x ∧ RoadKit.Fld Z h' x ST "value" "[B" (.ref t) ∧ RoadKit.Arv Z h' t kb .byte N (bs.map Value.int) (.int 0)
/-- **new String(chars) AT A CALL, FOR THE WRITER**: a char[] of n known ints, each 0 to 255 -/
theorem backV {p : Program} {l : Launch} {e : Env} {R : Room} {s : State} {args : Array Value} {below : List Frame} {len W : Nat} {Z : State} {a0 : Array Value} {h : Heap} (hZ : Z.Warmed39 s.vm) (hw : ∀ d ∈ words, d.before a0 Z = true) {kI : Nat} (wi : (Jvm.Cond.instantiable ST kI).before a0 Z = true)
    {x b : Addr} {kC : ClassId} {cs bs : List Int32} {d v0 c0 : Value} {z N : Int32} {n n0 : Nat} (hx0 : n0 ≤ x) (hh0 : n0 ≤ h.size) (E : RoadKit.Exa Z h x ST) (V : RoadKit.Fld Z h x ST "value" "[B" v0) (C : RoadKit.Fld Z h x ST "coder" "B" c0) (K : RoadKit.Arv Z h b kC .char N (cs.map Value.int) d) (S : RoadKit.Sta Z h ST "COMPACT_STRINGS" "Z" (.int z)) (hz : ¬ z = 0)
    (hn : cs.length = n) (hN : N = Int32.ofNat n) (l0 : 0 < n) (l2 : n ≤ 4000) (hp : ∀ c ∈ cs, ¬ c < 0 ∧ ¬ (255 : Int32) < c) (hb : bs = cs.map (fun c => c.toInt8.toInt32)) (hfr : 4 ≤ R.frames) (hlo : W + 65 ≤ R.locals) :
    Back l R p e below s args (⟨"java/lang/String", "<init>", "([C)V"⟩ : MethodName) len W (fun P a => a = #[.ref x, .ref b] ∧ P.U.heap = h ∧ P.cells + 1 ≤ R.cells ∧ P.slots + n ≤ R.slots)
      (fun P _ v B => ∃ L, QV Z x N bs h n0 v B.U.heap L ∧ B.locs = P.locs ++ L ∧ B.cells = P.cells + 1 ∧ B.slots = P.slots + n) := by
  subst hn hN hb
  refine Back.mono (backArv hZ hw wi E V C K S hz (n32 (by omega)) l0 (by omega) (fun c hc => (hp c hc).2) hfr hlo) (fun P a hp => hp) (fun P a v B hp hq => ?_)
  obtain ⟨L, ⟨q1, q2, q3, q4, q5, q6, q7, ⟨kb, v1, v2⟩, q9⟩, hl, hc, hs⟩ := hq
  exact ⟨L, ⟨q1, fun y hy => by rw [q2 y hy]; exact hx0, q3, q5, q7, h.size, kb, hh0, Nat.le_refl _, Nat.ne_of_gt E.lt, q6, by rw [List.map_map]; exact v2⟩, hl, hc, hs⟩
end StrChars.Road
namespace StrChars
open Jvm Sem ClassFile Op Lib Jvm.Stand Jvm.Free.XT Jvm.Free.ALB Jvm.Free.JM Jvm.Free
open Jvm.Lib.Cold (StaticIs)
def hi8 (x : Int32) : Int32 := lo8 (x >>> ((8 : Int32) &&& 31))
/-- what StringUTF16.getChar makes of two bytes -/
def pairCh (u v : Int32) : Int32 := (((u &&& 255) <<< ((0 : Int32) &&& 31)) ||| ((v &&& 255) <<< ((8 : Int32) &&& 31))).toUInt32.toUInt16.toUInt32.toInt32
theorem lo8_and (x : Int32) : (lo8 x &&& 255).toBitVec.toNat = x.toBitVec.toNat % 256 := by
  have h : (lo8 x).toBitVec = (x.toBitVec.signExtend 8).signExtend 32 := by rw [lo8, Int8.toBitVec_toInt32, Int32.toBitVec_toInt8]
  rw [Int32.toBitVec_and, BitVec.toNat_and, h]
  have e : ((x.toBitVec.signExtend 8).signExtend 32).toNat % 256 = x.toBitVec.toNat % 256 := by
    rw [BitVec.toNat_signExtend]
    have hlt := x.toBitVec.isLt
    simp only [BitVec.toNat_setWidth, BitVec.toNat_signExtend]
    split <;> split <;> omega
  rw [← e]
  exact Nat.and_two_pow_sub_one_eq_mod _ 8
theorem pair_says {c : Int32} (h0 : ¬ c < 0) (h1 : ¬ 65535 < c) : pairCh (lo8 c) (hi8 c) = c := by
  rw [Int32.lt_iff_toInt_lt] at h0 h1
  have e0 : (0 : Int32).toInt = 0 := rfl
  have e1 : (65535 : Int32).toInt = 65535 := rfl
  have hc : c.toInt = c.toBitVec.toNat := by
    have := c.toBitVec.isLt
    have e : c.toInt = c.toBitVec.toInt := rfl
    rw [e] at h0 h1
    rw [e]
    rw [BitVec.toInt_eq_toNat_cond] at h0 h1 ⊢
    split at h0 <;> split <;> omega
  have hn : c.toBitVec.toNat < 65536 := by omega
  have a1 := lo8_and c
  have a2 : (hi8 c &&& 255).toBitVec.toNat = c.toBitVec.toNat / 256 := by
    rw [hi8, lo8_and]
    have e : ((8 : Int32) &&& 31) = 8 := by decide
    rw [e, Int32.toBitVec_shiftRight]
    have e2 : ((8 : Int32).toBitVec.smod 32) = 8#32 := by decide
    rw [e2, BitVec.sshiftRight_eq', BitVec.toNat_sshiftRight_of_msb_false (by rw [BitVec.msb_eq_false_iff_two_mul_lt]; omega)]
    show c.toBitVec.toNat >>> 8 % 256 = _
    rw [Nat.shiftRight_eq_div_pow]
    omega
  unfold pairCh
  apply Int32.toBitVec_inj.mp
  apply BitVec.eq_of_toNat_eq
  have f0 : ((0 : Int32) &&& 31) = 0 := by decide
  have f8 : ((8 : Int32) &&& 31) = 8 := by decide
  rw [f0, f8]
  have g : (((lo8 c &&& 255) <<< (0 : Int32)) ||| ((hi8 c &&& 255) <<< (8 : Int32))).toBitVec.toNat = c.toBitVec.toNat := by
    rw [Int32.toBitVec_or, Int32.toBitVec_shiftLeft, Int32.toBitVec_shiftLeft]
    have s0 : ((0 : Int32).toBitVec.smod 32) = 0#32 := by decide
    have s8 : ((8 : Int32).toBitVec.smod 32) = 8#32 := by decide
    rw [s0, s8, BitVec.toNat_or]
    simp only [BitVec.shiftLeft_eq', BitVec.toNat_shiftLeft, a1, a2]
    show (c.toBitVec.toNat % 256) <<< 0 % 2 ^ 32 ||| (c.toBitVec.toNat / 256) <<< 8 % 2 ^ 32 = _
    rw [Nat.shiftLeft_zero, Nat.mod_eq_of_lt (show c.toBitVec.toNat % 256 < 2 ^ 32 by omega), Nat.mod_eq_of_lt (show (c.toBitVec.toNat / 256) <<< 8 < 2 ^ 32 by rw [Nat.shiftLeft_eq]; omega), Nat.or_comm, ← Nat.shiftLeft_add_eq_or_of_lt (by omega), Nat.shiftLeft_eq]
    omega
  show BitVec.toNat (((((lo8 c &&& 255) <<< (0 : Int32)) ||| ((hi8 c &&& 255) <<< (8 : Int32))).toBitVec.setWidth 16).setWidth 32) = _
  rw [BitVec.toNat_setWidth, BitVec.toNat_setWidth, g]
  omega
end StrChars
namespace StrChars
open Jvm Sem ClassFile Op Lib Jvm.Stand Jvm.Free.XT Jvm.Free.ALB Jvm.Free.JM Jvm.Free
open Jvm.Lib.Cold (StaticIs)
/-- the array's cell V codes the n chars f 0 .. f (n - 1) by the coder cd, as the JDK does: coder 1 just where some char is above 255 -/
def Cod (cd : Int32) (n : Nat) (f : Nat → Int32) (V : Cell) : Prop := (cd = 0 ∧ V.slots.size = n ∧ ∀ j, j < n → V.slots[j]? = some (.int (lo8 (f j))) ∧ ¬ 255 < f j) ∨ (cd = 1 ∧ V.slots.size = 2 * n ∧ (∀ j, j < n → V.slots[2 * j]? = some (.int (lo8 (f j))) ∧ V.slots[2 * j + 1]? = some (.int (hi8 (f j)))) ∧ ∃ j, j < n ∧ 255 < f j)
/-- **x is a String of the n chars f 0 .. f (n - 1)**, Latin-1 or UTF-16; its array at t has the cell V -/
def Txt (x t : Addr) (V : Cell) (cd : Int32) (n : Nat) (f : Nat → Int32) (U : State) : Prop := Exact "java/lang/String" x U ∧ Has x "java/lang/String" "value" "[B" (.ref t) U ∧ Has x "java/lang/String" "coder" "B" (.int cd) U ∧ XT.Arr .byte t V U ∧ Cod cd n f V ∧ ∀ j, j < n → ¬ f j < 0 ∧ ¬ 65535 < f j
theorem Txt.mv {x t : Addr} {V : Cell} {cd : Int32} {n : Nat} {f : Nat → Int32} {U U' : State} (h : Txt x t V cd n f U) (hal : U.vm.Alike U'.vm) (hh : U'.heap = U.heap) : Txt x t V cd n f U' := ⟨h.1.mv hal hh, h.2.1.mv hal hh, h.2.2.1.mv hal hh, h.2.2.2.1.mv hal hh, h.2.2.2.2⟩
end StrChars
namespace StrChars.Road
open Jvm Sem ClassFile Op Lib Jvm.Stand Jvm.Free Jvm.Free.XT
open Jvm.Lib.Cold (StaticIs)
theorem consq {a : Array Value} {s : State} {c : Jvm.Cond} {L : List Jvm.Cond} (h0 : c.before a s = true) (h : ∀ w ∈ L, w.before a s = true) : ∀ w ∈ c :: L, w.before a s = true := fun w hw => (List.mem_cons.mp hw).elim (fun e => e ▸ h0) (h w)
/-- the bytes of the chars cs, low before high -/
def wideBytes : List Int32 → List Value
  | [] => []
  | c :: cs => .int (lo8 c) :: .int (hi8 c) :: wideBytes cs
theorem wide_lo (d : Value) : ∀ (cs : List Int32) (j : Nat), j < cs.length → (wideBytes cs).getD (2 * j) d = .int (lo8 (cs.getD j 0))
  | [], j, h => absurd h (Nat.not_lt_zero j)
  | c :: cs, 0, _ => rfl
  | c :: cs, j + 1, h => by
    have q := wide_lo d cs j (by simpa using h)
    rw [show 2 * (j + 1) = 2 * j + 1 + 1 from by omega]
    simpa [wideBytes] using q
theorem wide_hi (d : Value) : ∀ (cs : List Int32) (j : Nat), j < cs.length → (wideBytes cs).getD (2 * j + 1) d = .int (hi8 (cs.getD j 0))
  | [], j, h => absurd h (Nat.not_lt_zero j)
  | c :: cs, 0, _ => rfl
  | c :: cs, j + 1, h => by
    have q := wide_hi d cs j (by simpa using h)
    rw [show 2 * (j + 1) + 1 = 2 * j + 1 + 1 + 1 from by omega]
    simpa [wideBytes] using q
theorem low_at (d : Value) (cs : List Int32) (j : Nat) (h : j < cs.length) : (cs.map fun c => Value.int (lo8 c)).getD j d = .int (lo8 (cs.getD j 0)) := by
  simp [List.getD_eq_getElem?_getD, h]
/-- an array of N2 bytes vs codes the chars cs by the coder cd -/
def CodA (cs : List Int32) (cd N2 : Int32) (vs : List Value) : Prop := (cd = 0 ∧ N2 = Int32.ofNat cs.length ∧ vs = (cs.map fun c => Value.int (lo8 c)) ∧ ∀ c ∈ cs, ¬ 255 < c) ∨ (cd = 1 ∧ N2 = Int32.ofNat (2 * cs.length) ∧ vs = wideBytes cs ∧ ∃ c ∈ cs, 255 < c)
theorem CodA.cod {cs : List Int32} {cd N2 : Int32} {vs : List Value} {V : Cell} (h : CodA cs cd N2 vs) (hn : 2 * cs.length < 2 ^ 31) (hs : V.slots.size = N2.toNatClampNeg) (hv : RoadKit.Has V vs (.int 0)) : Cod cd cs.length (fun j => cs.getD j 0) V := by
  rcases h with ⟨rfl, rfl, rfl, h⟩ | ⟨rfl, rfl, rfl, c, hc, hw⟩
  · rw [n32 (by omega)] at hs
    exact Or.inl ⟨rfl, hs, fun j hj => ⟨by rw [hv j (by omega), low_at _ _ _ hj], by
      have e : cs.getD j 0 = cs[j] := by simp [List.getD_eq_getElem?_getD, hj]
      show ¬ 255 < cs.getD j 0
      rw [e]; exact h _ (List.getElem_mem _)⟩⟩
  · rw [n32 (by omega)] at hs
    obtain ⟨j, hj, rfl⟩ := List.getElem_of_mem hc
    exact Or.inr ⟨rfl, hs, fun j hj => ⟨by rw [hv _ (by omega), wide_lo _ _ _ hj], by rw [hv _ (by omega), wide_hi _ _ _ hj]⟩, j, hj, by
      have e : cs.getD j 0 = cs[j] := by simp [List.getD_eq_getElem?_getD, hj]
      show 255 < cs.getD j 0
      rw [e]; exact hw⟩
/-- an object of exactly java/lang/String, its two fields found: as the laws ask it -/
theorem strObj {Z U : State} {a0 : Array Value} {kI : Nat} (wi : (Jvm.Cond.instantiable ST kI).before a0 Z = true) (al : Z.vm.Alike U.vm) {x : Addr} {v0 c0 : Value} (E : RoadKit.Exa Z U.heap x ST) (V : RoadKit.Fld Z U.heap x ST "value" "[B" v0) (C : RoadKit.Fld Z U.heap x ST "coder" "B" c0) :
    ∃ (D : Cell) (fV fC : Field), Blank ST x D U ∧ Found ST "value" "[B" fV U ∧ Found ST "coder" "B" fC U ∧ D.slots[fV.slot]? = some v0 ∧ D.slots[fC.slot]? = some c0 ∧ RoadKit.slotOf Z ST "value" "[B" = fV.slot ∧ RoadKit.slotOf Z ST "coder" "B" = fC.slot := by
  obtain ⟨D, cfV, kV, iV, fV, hD, gV, stV, knV, obV, asV, slV⟩ := V
  obtain ⟨D', cfC, kC, iC, fC, hD', gC, stC, -, -, asC, slC⟩ := C
  cases hD.symm.trans hD'
  obtain ⟨D2, kD, e1, e2, e3, e4, e5⟩ := E
  cases hD.symm.trans e1
  obtain ⟨c2, k2, i1, i2, i3, -⟩ := Cond.instantiable_spec wi
  cases e2.symm.trans i1
  cases e3.symm.trans i2
  obtain ⟨kU, u1, u2⟩ := al.2.2 _ _ e3
  exact ⟨D, fV, fC, ⟨hD, ⟨knV, fun q hq => by rw [hq] at obV; cases obV⟩, by rw [al.findClass]; exact e2, kU, u1, by rw [u2]; exact i3, by rw [u2]; exact e5 i3⟩, ⟨SBG.found_only al ⟨cfV, kV, iV, gV⟩, stV⟩, ⟨SBG.found_only al ⟨cfC, kC, iC, gC⟩, stC⟩, slV, slC, by simp [RoadKit.slotOf, gV], by simp [RoadKit.slotOf, gC]⟩
theorem sta_is {Z U : State} (al : Z.vm.Alike U.vm) {C n d : String} {v : Value} (S : RoadKit.Sta Z U.heap C n d v) : StaticIs U C n d v := by
  obtain ⟨cfS, iS, kS, fS, st, cS, t1, t2, t3, t4, t5, t6, t7⟩ := S
  exact StaticIs.there (s := { Z with heap := U.heap }) ⟨cfS, iS, kS, fS, st, cS, t1, t2, t3, t4, t5, (fun q => by rw [q] at t6; cases t6), t7⟩ al rfl
end StrChars.Road
namespace StrChars
open Jvm Sem ClassFile Op Lib Jvm.Stand Jvm.Free.XT Jvm.Free.ALB Jvm.Free.JM Jvm.Free
open Jvm.Lib.Cold (StaticIs)
/-- what place i of a byte[]'s cell holds -/
def yv (A : Cell) (i : Nat) : Int32 := match A.slots[i]? with | some (.int x) => x | _ => 0
theorem yv_get {a : Addr} {A : Cell} {U : State} (h : XT.Arr .byte a A U) (ht : Typed .byte A) {i : Nat} (hi : i < A.slots.size) : A.slots[i]? = some (.int (yv A i)) := by
  have e := Array.getElem?_eq_getElem hi
  have f := ht i _ e
  unfold yv; rw [e]
  generalize A.slots[i] = v at f
  cases v <;> simp [fits] at f ⊢
/-- the two arrays are equal, place for place -/
def EqC (A B : Cell) : Prop := A.slots.size = B.slots.size ∧ ∀ i, i < A.slots.size → yv A i = yv B i
/-- a boolean that says whether p -/
def Says01 (q : Prop) (r : Option Value) (s u : State) : Prop := ∃ v : Int32, r = some (.int v) ∧ u.heap = s.heap ∧ ((v = 1 ∧ q) ∨ (v = 0 ∧ ¬ q))
theorem Says01.mv {q : Prop} : ∀ r (U U' V V' : State), U'.heap = U.heap → V.vm.Alike V'.vm → V'.heap = V.heap → Says01 q r U V → Says01 q r U' V' :=
  fun r U U' V V' h1 _ h2 ⟨v, a, b, c⟩ => ⟨v, a, by rw [h1, h2]; exact b, c⟩
namespace LEq
def yN : MethodName := ⟨"java/lang/StringLatin1", "equals", "([B[B)Z"⟩
abbrev yB : ByteArray := jdk_43_method_13_code
theorem d0 : decode yB 0 = .ok (.aload_n 0, 1) := by decide +kernel
theorem d1 : decode yB 1 = .ok (.arraylength, 1) := by decide +kernel
theorem d2 : decode yB 2 = .ok (.aload_n 1, 1) := by decide +kernel
theorem d3 : decode yB 3 = .ok (.arraylength, 1) := by decide +kernel
theorem d4 : decode yB 4 = .ok (.if_icmp (.ne) 30, 3) := by decide +kernel
theorem d7 : decode yB 7 = .ok (.iconst 0, 1) := by decide +kernel
theorem d8 : decode yB 8 = .ok (.istore_n 2, 1) := by decide +kernel
theorem d9 : decode yB 9 = .ok (.iload_n 2, 1) := by decide +kernel
theorem d10 : decode yB 10 = .ok (.aload_n 0, 1) := by decide +kernel
theorem d11 : decode yB 11 = .ok (.arraylength, 1) := by decide +kernel
theorem d12 : decode yB 12 = .ok (.if_icmp (.ge) 20, 3) := by decide +kernel
theorem d15 : decode yB 15 = .ok (.aload_n 0, 1) := by decide +kernel
theorem d16 : decode yB 16 = .ok (.iload_n 2, 1) := by decide +kernel
theorem d17 : decode yB 17 = .ok (.baload, 1) := by decide +kernel
theorem d18 : decode yB 18 = .ok (.aload_n 1, 1) := by decide +kernel
theorem d19 : decode yB 19 = .ok (.iload_n 2, 1) := by decide +kernel
theorem d20 : decode yB 20 = .ok (.baload, 1) := by decide +kernel
theorem d21 : decode yB 21 = .ok (.if_icmp (.eq) 5, 3) := by decide +kernel
theorem d24 : decode yB 24 = .ok (.iconst 0, 1) := by decide +kernel
theorem d25 : decode yB 25 = .ok (.ireturn, 1) := by decide +kernel
theorem d26 : decode yB 26 = .ok (.iinc 2 1, 3) := by decide +kernel
theorem d29 : decode yB 29 = .ok (.goto (-20), 3) := by decide +kernel
theorem d32 : decode yB 32 = .ok (.iconst 1, 1) := by decide +kernel
theorem d33 : decode yB 33 = .ok (.ireturn, 1) := by decide +kernel
theorem d34 : decode yB 34 = .ok (.iconst 0, 1) := by decide +kernel
theorem d35 : decode yB 35 = .ok (.ireturn, 1) := by decide +kernel
def site : List Cond := []
def tab : Cond := tabOf yN yB 3 (some .boolean) site
def P (a : Addr) (A : Cell) (b : Addr) (B : Cell) (args : Array Value) (s : State) : Prop := args = #[.ref a, .ref b] ∧ XT.Arr .byte a A s ∧ Typed .byte A ∧ XT.Arr .byte b B s ∧ Typed .byte B
/-- whether two byte[] are equal, place for place -/
theorem law (l : Launch) (a : Addr) (A : Cell) (b : Addr) (B : Cell) : Law l yN 2 2 0 0 yB 3 (some .boolean) site (P a A b B) (Says01 (EqC A B)) [] 0 0 := by
  refine Law.of_walk (plainFor_of_name (by decide +kernel)) (by decide +kernel) (by decide +kernel) (by decide) (fun _ _ h => by rw [h.1]; rfl) (fun _ U U' hal hh h => ⟨h.1, h.2.1.mv hal hh, h.2.2.1, h.2.2.2.1.mv hal hh, h.2.2.2.2⟩) (fun r U U' V V' h1 hal h2 h => Says01.mv r U U' V V' h1 hal h2 h) ?_
  intro p e s m args below meth c s₁ X0 hexec hbytes hml hret hlk hnm hown hh0 W hP
  obtain ⟨rfl, hA, tA, hB, tB⟩ := hP
  have a31 := hA.2.2.2
  have b31 := hB.2.2.2
  have hA0 := hA.mv X0.warmed.alike hh0
  have hB0 := hB.mv X0.warmed.alike hh0
  have c1 : Steps p.tables e below (s₁.setTop (entryFrame m #[.ref a, .ref b] 3)) (s₁.setTop (mkF m 0 #[.val (.ref a), .val (.ref b), .unset] [])) := entry rfl
  have c2 : Steps p.tables e below (s₁.setTop (entryFrame m #[.ref a, .ref b] 3)) (s₁.setTop (mkF m 4 #[.val (.ref a), .val (.ref b), .unset] [.int (Int32.ofNat B.slots.size), .int (Int32.ofNat A.slots.size)])) := c1.trans (by
    refine XS.aloadN X0.here hexec rfl (hb hbytes d0) rfl rfl ?_
    refine X0.alen hexec hA0 rfl rfl (hb hbytes d1) ?_
    refine XS.aloadN X0.here hexec rfl (hb hbytes d2) rfl rfl ?_
    refine X0.alen hexec hB0 rfl rfl (hb hbytes d3) ?_
    exact Steps.refl _)
  by_cases hs : A.slots.size = B.slots.size
  · have c3 : Steps p.tables e below (s₁.setTop (entryFrame m #[.ref a, .ref b] 3)) (s₁.setTop (mkF m 9 #[.val (.ref a), .val (.ref b), .val (.int 0)] [])) := c2.trans (by
      refine XS.icmpNo X0.here hexec rfl (hb hbytes d4) rfl (ii_ne_f (by rw [hs])) ?_
      refine iconstV X0.here hexec rfl 0 (hb hbytes d7) (by decide) ?_
      refine XS.istoreN X0.here hexec rfl (hb hbytes d8) rfl rfl ?_
      exact Steps.refl _)
    have loop : ∀ (r i : Nat), i + r = A.slots.size → (∀ j, j < i → yv A j = yv B j) → Steps p.tables e below (s₁.setTop (entryFrame m #[.ref a, .ref b] 3)) (s₁.setTop (mkF m 9 #[.val (.ref a), .val (.ref b), .val (.int (Int32.ofNat i))] [])) → ∃ (pc : Nat) (Ls : Array Slot) (v : Int32), (pc = 25 ∨ pc = 33) ∧ ((v = 1 ∧ EqC A B) ∨ (v = 0 ∧ ¬ EqC A B)) ∧ Steps p.tables e below (s₁.setTop (entryFrame m #[.ref a, .ref b] 3)) (s₁.setTop (mkF m pc Ls [.int v])) := by
      intro r
      induction r with
      | zero =>
        intro i hi he cl
        exact ⟨33, _, 1, Or.inr rfl, Or.inl ⟨rfl, hs, fun j hj => he j (by omega)⟩, cl.trans (by
          refine XS.iloadN X0.here hexec rfl (hb hbytes d9) rfl ?_
          refine XS.aloadN X0.here hexec rfl (hb hbytes d10) rfl rfl ?_
          refine X0.alen hexec hA0 rfl rfl (hb hbytes d11) ?_
          refine XS.icmpYes X0.here hexec rfl (pc0 := 12) rfl (hb hbytes d12) rfl (ii_ge_t (nlt32 (by omega) (by omega))) (by decide) rfl ?_
          refine iconstV X0.here hexec rfl 1 (hb hbytes d32) (by decide) ?_
          exact Steps.refl _)⟩
      | succ r ih =>
        intro i hi he cl
        have c4 : Steps p.tables e below (s₁.setTop (entryFrame m #[.ref a, .ref b] 3)) (s₁.setTop (mkF m 21 #[.val (.ref a), .val (.ref b), .val (.int (Int32.ofNat i))] [.int (yv B i), .int (yv A i)])) := cl.trans (by
          refine XS.iloadN X0.here hexec rfl (hb hbytes d9) rfl ?_
          refine XS.aloadN X0.here hexec rfl (hb hbytes d10) rfl rfl ?_
          refine X0.alen hexec hA0 rfl rfl (hb hbytes d11) ?_
          refine XS.icmpNo X0.here hexec rfl (hb hbytes d12) rfl (ii_ge_f (lt32 (by omega) (by omega))) ?_
          refine XS.aloadN X0.here hexec rfl (hb hbytes d15) rfl rfl ?_
          refine XS.iloadN X0.here hexec rfl (hb hbytes d16) rfl ?_
          refine X0.aget hexec hA0 rfl (yv_get hA tA (i := i) (by omega)) rfl rfl (hb hbytes d17) ?_
          refine XS.aloadN X0.here hexec rfl (hb hbytes d18) rfl rfl ?_
          refine XS.iloadN X0.here hexec rfl (hb hbytes d19) rfl ?_
          refine X0.aget hexec hB0 rfl (yv_get hB tB (i := i) (by omega)) rfl rfl (hb hbytes d20) ?_
          exact Steps.refl _)
        by_cases hv : yv A i = yv B i
        · have c5 : Steps p.tables e below (s₁.setTop (entryFrame m #[.ref a, .ref b] 3)) (s₁.setTop (mkF m 9 #[.val (.ref a), .val (.ref b), .val (.int (Int32.ofNat i + 1))] [])) := c4.trans (by
            refine XS.icmpYes X0.here hexec rfl (pc0 := 21) rfl (hb hbytes d21) rfl (ii_eq_t hv) (by decide) rfl ?_
            refine iincV X0.here hexec rfl 1 (hb hbytes d26) (by decide) rfl rfl ?_
            refine XS.goto X0.here hexec rfl (pc0 := 29) rfl (hb hbytes d29) (by decide) rfl ?_
            exact Steps.refl _)
          rw [succ32] at c5
          exact ih (i + 1) (by omega) (fun j hj => by
            by_cases e : j = i
            · rw [e]; exact hv
            · exact he j (by omega)) c5
        · exact ⟨25, _, 0, Or.inl rfl, Or.inr ⟨rfl, fun q => hv (q.2 i (by omega))⟩, c4.trans (by
            refine XS.icmpNo X0.here hexec rfl (hb hbytes d21) rfl (ii_eq_f hv) ?_
            refine iconstV X0.here hexec rfl 0 (hb hbytes d24) (by decide) ?_
            exact Steps.refl _)⟩
    obtain ⟨pc, Ls, v, hpc, hv, cz⟩ := loop A.slots.size 0 (by omega) (fun j hj => absurd hj (Nat.not_lt_zero j)) c3
    have nv : narrow .boolean (.int v) = .int v := by rcases hv with ⟨rfl, -⟩ | ⟨rfl, -⟩ <;> rfl
    rcases hpc with rfl | rfl
    · exact ⟨s₁, some (.int v), _, _, _, X0, rfl, rfl, rfl, (fun h => by cases h), ⟨v, rfl, hh0, hv⟩, fun fs hl => cz.trans (X0.ireturnOut hexec hret nv (Or.inr (Or.inl rfl)) (hb hbytes d25) hl)⟩
    · exact ⟨s₁, some (.int v), _, _, _, X0, rfl, rfl, rfl, (fun h => by cases h), ⟨v, rfl, hh0, hv⟩, fun fs hl => cz.trans (X0.ireturnOut hexec hret nv (Or.inr (Or.inl rfl)) (hb hbytes d33) hl)⟩
  · have c3 : Steps p.tables e below (s₁.setTop (entryFrame m #[.ref a, .ref b] 3)) (s₁.setTop (mkF m 35 #[.val (.ref a), .val (.ref b), .unset] [.int 0])) := c2.trans (by
      refine XS.icmpYes X0.here hexec rfl (pc0 := 4) rfl (hb hbytes d4) rfl (ii_ne_t (ne32 a31 b31 hs)) (by decide) rfl ?_
      refine iconstV X0.here hexec rfl 0 (hb hbytes d34) (by decide) ?_
      exact Steps.refl _)
    exact ⟨s₁, some (.int 0), _, _, _, X0, rfl, rfl, rfl, (fun h => by cases h), ⟨0, rfl, hh0, Or.inr ⟨rfl, fun q => hs q.1⟩⟩, fun fs hl => c3.trans (X0.ireturnOut hexec hret rfl (Or.inr (Or.inl rfl)) (hb hbytes d35) hl)⟩
end LEq
theorem Cod.ty {cd : Int32} {n : Nat} {f : Nat → Int32} {V : Cell} (h : Cod cd n f V) : Typed .byte V := fun i v hv => by
  have hi : i < V.slots.size := (Array.getElem?_eq_some_iff.mp hv).1
  rcases h with ⟨-, k1, k2⟩ | ⟨-, k1, k2, -⟩
  · rw [(k2 i (by omega)).1] at hv; cases hv; exact fits_lo8 _
  · rcases Nat.mod_two_eq_zero_or_one i with e | e
    · obtain ⟨j, rfl⟩ : ∃ j, i = 2 * j := ⟨i / 2, by omega⟩
      rw [(k2 j (by omega)).1] at hv; cases hv; exact fits_lo8 _
    · obtain ⟨j, rfl⟩ : ∃ j, i = 2 * j + 1 := ⟨i / 2, by omega⟩
      rw [(k2 j (by omega)).2] at hv; cases hv; exact fits_lo8 _
/-- the same text -/
def SameT (n : Nat) (f : Nat → Int32) (k : Nat) (g : Nat → Int32) : Prop := n = k ∧ ∀ j, j < n → f j = g j
theorem lo8_inj {x y : Int32} (h0 : ¬ x < 0) (h1 : ¬ 255 < x) (k0 : ¬ y < 0) (k1 : ¬ 255 < y) (h : lo8 x = lo8 y) : x = y := by
  rw [← lo8_mask h0 h1, ← lo8_mask k0 k1, h]
/-- arrays coded by one coder are equal just where the texts are -/
theorem Cod.eqv {cd : Int32} {n k : Nat} {f g : Nat → Int32} {V V' : Cell} (h : Cod cd n f V) (h' : Cod cd k g V') (hf : ∀ j, j < n → ¬ f j < 0 ∧ ¬ 65535 < f j) (hg : ∀ j, j < k → ¬ g j < 0 ∧ ¬ 65535 < g j) : EqC V V' ↔ SameT n f k g := by
  have yvv : ∀ {W : Cell} {i : Nat} {x : Int32}, W.slots[i]? = some (.int x) → yv W i = x := fun q => by unfold yv; rw [q]
  rcases h with ⟨rfl, k1, k2⟩ | ⟨rfl, k1, k2, -⟩
  · rcases h' with ⟨-, m1, m2⟩ | ⟨e, -⟩
    · constructor
      · rintro ⟨e1, e2⟩
        refine ⟨by omega, fun j hj => ?_⟩
        have q := e2 j (by omega)
        rw [yvv (k2 j hj).1, yvv (m2 j (by omega)).1] at q
        exact lo8_inj (hf j hj).1 (k2 j hj).2 (hg j (by omega)).1 (m2 j (by omega)).2 q
      · rintro ⟨rfl, e2⟩
        refine ⟨by omega, fun j hj => ?_⟩
        rw [yvv (k2 j (by omega)).1, yvv (m2 j (by omega)).1, e2 j (by omega)]
    · exact absurd e (by decide)
  · rcases h' with ⟨e, -⟩ | ⟨-, m1, m2, -⟩
    · exact absurd e (by decide)
    · constructor
      · rintro ⟨e1, e2⟩
        refine ⟨by omega, fun j hj => ?_⟩
        have q1 := e2 (2 * j) (by omega)
        have q2 := e2 (2 * j + 1) (by omega)
        rw [yvv (k2 j hj).1, yvv (m2 j (by omega)).1] at q1
        rw [yvv (k2 j hj).2, yvv (m2 j (by omega)).2] at q2
        rw [← pair_says (hf j hj).1 (hf j hj).2, ← pair_says (hg j (by omega)).1 (hg j (by omega)).2, q1, q2]
      · rintro ⟨rfl, e2⟩
        refine ⟨by omega, fun i hi => ?_⟩
        rcases Nat.mod_two_eq_zero_or_one i with e | e
        · obtain ⟨j, rfl⟩ : ∃ j, i = 2 * j := ⟨i / 2, by omega⟩
          rw [yvv (k2 j (by omega)).1, yvv (m2 j (by omega)).1, e2 j (by omega)]
        · obtain ⟨j, rfl⟩ : ∃ j, i = 2 * j + 1 := ⟨i / 2, by omega⟩
          rw [yvv (k2 j (by omega)).2, yvv (m2 j (by omega)).2, e2 j (by omega)]
/-- two codings differ: so do the texts -/
theorem Cod.dif {cd cd' : Int32} {n k : Nat} {f g : Nat → Int32} {V V' : Cell} (h : Cod cd n f V) (h' : Cod cd' k g V') (hne : ¬ cd = cd') : ¬ SameT n f k g := by
  rintro ⟨rfl, e⟩
  rcases h with ⟨rfl, -, k2⟩ | ⟨rfl, -, -, j, hj, hw⟩
  · rcases h' with ⟨rfl, -⟩ | ⟨-, -, -, j, hj, hw⟩
    · exact hne rfl
    · exact (k2 j hj).2 (by rw [e j hj]; exact hw)
  · rcases h' with ⟨-, -, m2⟩ | ⟨rfl, -⟩
    · exact (m2 j hj).2 (by rw [← e j hj]; exact hw)
    · exact hne rfl
/-- an object of exactly C is an instance of C -/
theorem cinst {p : Program} {l : Launch} {e : Env} {R : Room} {s : State} {m : MethodId} {args : Array Value} {below : List Frame} {meth : Method} {c : Code} {T : State} {locs : List Loc} {cells slots : Nat} (X : Stand p l e R s m args below meth c T locs cells slots) (hexec : p.tables.exec = Jvm.exec) {own C : String} {index : Nat} (hown : s.vm.findClass own = some m.cls) (hlink : (Cond.classLink own index C).before args s = true) {a : Addr} (hE : Exact C a T)
    {g : JFrame} (hg : g.method = m) {rest : List Value} (hstack : g.stack = .ref a :: rest) (hdg : decode c.code g.pc = .ok (.instanceof index, 3)) :
    ∃ T', Stand p l e R s m args below meth c T' locs cells slots ∧ T'.heap = T.heap ∧ ∀ target, Steps p.tables e below (T'.setTop { g with pc := g.pc + 3, stack := .int 1 :: rest }) target → Steps p.tables e below (T.setTop g) target := by
  obtain ⟨cB, h1, D, h2, h3, h4⟩ := hE
  have h1' : s.vm.findClass C = some cB := by rw [← X.warmed.alike.findClass]; exact h1
  obtain ⟨vm', X', st⟩ := X.instanceofYes hexec hown hlink h2 h4 h1' (by rw [h3]; exact Jvm.Free.SB.assignable_self _ _) hg hstack hdg
  exact ⟨_, X', rfl, st⟩
theorem cself {p : Program} {l : Launch} {e : Env} {R : Room} {s : State} {m : MethodId} {args : Array Value} {below : List Frame} {meth : Method} {c : Code} {T : State} {locs : List Loc} {cells slots : Nat} (X : Stand p l e R s m args below meth c T locs cells slots) (hexec : p.tables.exec = Jvm.exec) {own C : String} {index : Nat} (hown : s.vm.findClass own = some m.cls) (hlink : (Cond.classLink own index C).before args s = true) {a : Addr} (hE : Exact C a T)
    {g : JFrame} (hg : g.method = m) {rest : List Value} (hstack : g.stack = .ref a :: rest) (hdg : decode c.code g.pc = .ok (.checkcast index, 3)) :
    ∃ T', Stand p l e R s m args below meth c T' locs cells slots ∧ T'.heap = T.heap ∧ ∀ target, Steps p.tables e below (T'.setTop { g with pc := g.pc + 3, stack := .ref a :: rest }) target → Steps p.tables e below (T.setTop g) target := by
  obtain ⟨cB, h1, D, h2, h3, h4⟩ := hE
  have h1' : s.vm.findClass C = some cB := by rw [← X.warmed.alike.findClass]; exact h1
  obtain ⟨vm', X', st⟩ := X.checkcastYes hexec hown hlink h2 h4 h1' (by rw [h3]; exact Jvm.Free.SB.assignable_self _ _) hg hstack hdg
  exact ⟨_, X', rfl, fun t h => st t (by rw [← hstack] at h; exact h)⟩
namespace SEq
def yN : MethodName := ⟨"java/lang/String", "equals", "(Ljava/lang/Object;)Z"⟩
abbrev yB : ByteArray := jdk_42_method_66_code
theorem d0 : decode yB 0 = .ok (.aload_n 0, 1) := by decide +kernel
theorem d1 : decode yB 1 = .ok (.aload_n 1, 1) := by decide +kernel
theorem d2 : decode yB 2 = .ok (.if_acmp (.ne) 5, 3) := by decide +kernel
theorem d5 : decode yB 5 = .ok (.iconst 1, 1) := by decide +kernel
theorem d6 : decode yB 6 = .ok (.ireturn, 1) := by decide +kernel
theorem d7 : decode yB 7 = .ok (.aload_n 1, 1) := by decide +kernel
theorem d8 : decode yB 8 = .ok (.instanceof 10, 3) := by decide +kernel
theorem d11 : decode yB 11 = .ok (.ifCond (.eq) 43, 3) := by decide +kernel
theorem d14 : decode yB 14 = .ok (.aload_n 1, 1) := by decide +kernel
theorem d15 : decode yB 15 = .ok (.checkcast 10, 3) := by decide +kernel
theorem d18 : decode yB 18 = .ok (.astore_n 2, 1) := by decide +kernel
theorem d19 : decode yB 19 = .ok (.getstatic 38, 3) := by decide +kernel
theorem d22 : decode yB 22 = .ok (.ifCond (.eq) 14, 3) := by decide +kernel
theorem d25 : decode yB 25 = .ok (.aload_n 0, 1) := by decide +kernel
theorem d26 : decode yB 26 = .ok (.getfield 15, 3) := by decide +kernel
theorem d29 : decode yB 29 = .ok (.aload_n 2, 1) := by decide +kernel
theorem d30 : decode yB 30 = .ok (.getfield 15, 3) := by decide +kernel
theorem d33 : decode yB 33 = .ok (.if_icmp (.ne) 21, 3) := by decide +kernel
theorem d36 : decode yB 36 = .ok (.aload_n 0, 1) := by decide +kernel
theorem d37 : decode yB 37 = .ok (.getfield 9, 3) := by decide +kernel
theorem d40 : decode yB 40 = .ok (.aload_n 2, 1) := by decide +kernel
theorem d41 : decode yB 41 = .ok (.getfield 9, 3) := by decide +kernel
theorem d44 : decode yB 44 = .ok (.invokestatic 541, 3) := by decide +kernel
theorem d47 : decode yB 47 = .ok (.ifCond (.eq) 7, 3) := by decide +kernel
theorem d50 : decode yB 50 = .ok (.iconst 1, 1) := by decide +kernel
theorem d51 : decode yB 51 = .ok (.goto 4, 3) := by decide +kernel
theorem d54 : decode yB 54 = .ok (.iconst 0, 1) := by decide +kernel
theorem d55 : decode yB 55 = .ok (.ireturn, 1) := by decide +kernel
def site : List Cond := [.classLink "java/lang/String" 10 "java/lang/String", .fieldLink "java/lang/String" 38 "java/lang/String" "COMPACT_STRINGS" "Z", .fieldLink "java/lang/String" 15 "java/lang/String" "coder" "B", .fieldLink "java/lang/String" 9 "java/lang/String" "value" "[B", LEq.tab] ++ staticW "java/lang/String" 541 LEq.yN
def tab : Cond := tabOf yN yB 3 (some .boolean) site
def P (x t : Addr) (V : Cell) (cd : Int32) (n : Nat) (f : Nat → Int32) (y t' : Addr) (V' : Cell) (cd' : Int32) (k : Nat) (g : Nat → Int32) (z : Int32) (args : Array Value) (s : State) : Prop := args = #[.ref x, .ref y] ∧ Txt x t V cd n f s ∧ Txt y t' V' cd' k g s ∧ StaticIs s "java/lang/String" "COMPACT_STRINGS" "Z" (.int z) ∧ ¬ z = 0
/-- equals(Object) of two Strings: whether the texts are the same -/
theorem law (l : Launch) (x t : Addr) (V : Cell) (cd : Int32) (n : Nat) (f : Nat → Int32) (y t' : Addr) (V' : Cell) (cd' : Int32) (k : Nat) (g : Nat → Int32) (z : Int32) : Law l yN 2 1 1 14 yB 3 (some .boolean) site (P x t V cd n f y t' V' cd' k g z) (Says01 (SameT n f k g)) [] 0 0 := by
  refine Law.of_walk (plainFor_of_name (by decide +kernel)) (by decide +kernel) (by decide +kernel) (by decide) (fun _ _ h => by rw [h.1]; rfl) (fun _ U U' hal hh h => ⟨h.1, h.2.1.mv hal hh, h.2.2.1.mv hal hh, h.2.2.2.1.there hal hh, h.2.2.2.2⟩) (fun r U U' V V' h1 hal h2 h => Says01.mv r U U' V V' h1 hal h2 h) ?_
  intro p e s m args below meth c s₁ X0 hexec hbytes hml hret hlk hnm hown hh0 W hP
  obtain ⟨rfl, hx, hy, s1, hz⟩ := hP
  have c1 : Steps p.tables e below (s₁.setTop (entryFrame m #[.ref x, .ref y] 3)) (s₁.setTop (mkF m 2 #[.val (.ref x), .val (.ref y), .unset] [.ref y, .ref x])) := Steps.trans (entry rfl) (by
    show Steps p.tables e below (s₁.setTop (mkF m 0 #[.val (.ref x), .val (.ref y), .unset] [])) _
    refine XS.aloadN X0.here hexec rfl (hb hbytes d0) rfl rfl ?_
    refine XS.aloadN X0.here hexec rfl (hb hbytes d1) rfl rfl ?_
    exact Steps.refl _)
  by_cases hxy : x = y
  · have c2 : Steps p.tables e below (s₁.setTop (entryFrame m #[.ref x, .ref y] 3)) (s₁.setTop (mkF m 6 #[.val (.ref x), .val (.ref y), .unset] [.int 1])) := c1.trans (by
      refine acmpNo X0.here hexec rfl (hb hbytes d2) rfl rfl rfl (by simp [acmp, hxy]) ?_
      refine iconstV X0.here hexec rfl 1 (hb hbytes d5) (by decide) ?_
      exact Steps.refl _)
    subst hxy
    have ec : cd = cd' := by
      obtain ⟨D, fd, a1, a2, a3⟩ := hx.2.2.1
      obtain ⟨D', fd', b1, b2, b3⟩ := hy.2.2.1
      cases a1.symm.trans b1
      obtain ⟨q1, q2, q3, q4⟩ := a2.1
      obtain ⟨r1, r2, r3, r4⟩ := b2.1
      cases q4.symm.trans r4
      cases a3.symm.trans b3; rfl
    have et : t = t' := by
      obtain ⟨D, fd, a1, a2, a3⟩ := hx.2.1
      obtain ⟨D', fd', b1, b2, b3⟩ := hy.2.1
      cases a1.symm.trans b1
      obtain ⟨q1, q2, q3, q4⟩ := a2.1
      obtain ⟨r1, r2, r3, r4⟩ := b2.1
      cases q4.symm.trans r4
      cases a3.symm.trans b3; rfl
    subst ec et
    have ev : V = V' := by cases hx.2.2.2.1.1.symm.trans hy.2.2.2.1.1; rfl
    subst ev
    have hs : SameT n f k g := (Cod.eqv hx.2.2.2.2.1 hy.2.2.2.2.1 hx.2.2.2.2.2 hy.2.2.2.2.2).mp ⟨rfl, fun _ _ => rfl⟩
    exact ⟨s₁, some (.int 1), _, _, _, X0, rfl, rfl, rfl, (fun h => by cases h), ⟨1, rfl, hh0, Or.inl ⟨rfl, hs⟩⟩, fun fs hl => c2.trans (X0.ireturnOut hexec hret rfl (Or.inr (Or.inl rfl)) (hb hbytes d6) hl)⟩
  · have c2 : Steps p.tables e below (s₁.setTop (entryFrame m #[.ref x, .ref y] 3)) (s₁.setTop (mkF m 8 #[.val (.ref x), .val (.ref y), .unset] [.ref y])) := c1.trans (by
      refine acmpYes X0.here hexec rfl (pc0 := 2) rfl (hb hbytes d2) rfl rfl rfl (by simp [acmp, hxy]) (by decide) rfl ?_
      refine XS.aloadN X0.here hexec rfl (hb hbytes d7) rfl rfl ?_
      exact Steps.refl _)
    obtain ⟨T3, X3, q3, st3⟩ := cinst X0 hexec hown (wk W (.classLink "java/lang/String" 10 "java/lang/String")) (hy.mv X0.warmed.alike hh0).1 (g := (mkF m 8 #[.val (.ref x), .val (.ref y), .unset] [.ref y])) rfl (rest := []) rfl (hb hbytes d8)
    have hh3 := q3.trans hh0
    have c4 : Steps p.tables e below (s₁.setTop (entryFrame m #[.ref x, .ref y] 3)) (T3.setTop (mkF m 15 #[.val (.ref x), .val (.ref y), .unset] [.ref y])) := (c2.trans (st3 _ (Steps.refl _))).trans (by
      refine XS.ifNo X3.here hexec rfl (hb hbytes d11) rfl (i0_eq_f (by decide)) ?_
      refine XS.aloadN X3.here hexec rfl (hb hbytes d14) rfl rfl ?_
      exact Steps.refl _)
    obtain ⟨T5, X5, q5, st5⟩ := cself X3 hexec hown (wk W (.classLink "java/lang/String" 10 "java/lang/String")) (hy.mv X3.warmed.alike hh3).1 (g := (mkF m 15 #[.val (.ref x), .val (.ref y), .unset] [.ref y])) rfl (rest := []) rfl (hb hbytes d15)
    have hh5 := q5.trans hh3
    have c6 : Steps p.tables e below (s₁.setTop (entryFrame m #[.ref x, .ref y] 3)) (T5.setTop (mkF m 19 #[.val (.ref x), .val (.ref y), .val (.ref y)] [])) := (c4.trans (st5 _ (Steps.refl _))).trans (by
      refine XS.astoreN X5.here hexec rfl (hb hbytes d18) rfl rfl rfl ?_
      exact Steps.refl _)
    obtain ⟨T7, X7, q7, st7⟩ := X5.sget hexec hown (wk W (.fieldLink "java/lang/String" 38 "java/lang/String" "COMPACT_STRINGS" "Z")) s1 (fun _ _ h => by rw [hh5]; exact h) (g := (mkF m 19 #[.val (.ref x), .val (.ref y), .val (.ref y)] [])) rfl (hb hbytes d19)
    have hh7 := q7.trans hh5
    have c8 : Steps p.tables e below (s₁.setTop (entryFrame m #[.ref x, .ref y] 3)) (T7.setTop (mkF m 26 #[.val (.ref x), .val (.ref y), .val (.ref y)] [.ref x])) := (c6.trans (st7 _ (Steps.refl _))).trans (by
      refine XS.ifNo X7.here hexec rfl (hb hbytes d22) rfl (i0_eq_f hz) ?_
      refine XS.aloadN X7.here hexec rfl (hb hbytes d25) rfl rfl ?_
      exact Steps.refl _)
    obtain ⟨T9, X9, q9, st9⟩ := X7.hget hexec hown (wk W (.fieldLink "java/lang/String" 15 "java/lang/String" "coder" "B")) (hx.mv X7.warmed.alike hh7).2.2.1 (g := (mkF m 26 #[.val (.ref x), .val (.ref y), .val (.ref y)] [.ref x])) rfl (rest := []) rfl (hb hbytes d26)
    have hh9 := q9.trans hh7
    have c10 : Steps p.tables e below (s₁.setTop (entryFrame m #[.ref x, .ref y] 3)) (T9.setTop (mkF m 30 #[.val (.ref x), .val (.ref y), .val (.ref y)] [.ref y, .int cd])) := (c8.trans (st9 _ (Steps.refl _))).trans (by
      refine XS.aloadN X9.here hexec rfl (hb hbytes d29) rfl rfl ?_
      exact Steps.refl _)
    obtain ⟨T11, X11, q11, st11⟩ := X9.hget hexec hown (wk W (.fieldLink "java/lang/String" 15 "java/lang/String" "coder" "B")) (hy.mv X9.warmed.alike hh9).2.2.1 (g := (mkF m 30 #[.val (.ref x), .val (.ref y), .val (.ref y)] [.ref y, .int cd])) rfl (rest := [.int cd]) rfl (hb hbytes d30)
    have hh11 := q11.trans hh9
    have c12 : Steps p.tables e below (s₁.setTop (entryFrame m #[.ref x, .ref y] 3)) (T11.setTop (mkF m 33 #[.val (.ref x), .val (.ref y), .val (.ref y)] [.int cd', .int cd])) := c10.trans (st11 _ (Steps.refl _))
    by_cases hcd : cd = cd'
    · subst hcd
      have c13 : Steps p.tables e below (s₁.setTop (entryFrame m #[.ref x, .ref y] 3)) (T11.setTop (mkF m 37 #[.val (.ref x), .val (.ref y), .val (.ref y)] [.ref x])) := c12.trans (by
        refine XS.icmpNo X11.here hexec rfl (hb hbytes d33) rfl (ii_ne_f rfl) ?_
        refine XS.aloadN X11.here hexec rfl (hb hbytes d36) rfl rfl ?_
        exact Steps.refl _)
      obtain ⟨T14, X14, q14, st14⟩ := X11.hget hexec hown (wk W (.fieldLink "java/lang/String" 9 "java/lang/String" "value" "[B")) (hx.mv X11.warmed.alike hh11).2.1 (g := (mkF m 37 #[.val (.ref x), .val (.ref y), .val (.ref y)] [.ref x])) rfl (rest := []) rfl (hb hbytes d37)
      have hh14 := q14.trans hh11
      have c15 : Steps p.tables e below (s₁.setTop (entryFrame m #[.ref x, .ref y] 3)) (T14.setTop (mkF m 41 #[.val (.ref x), .val (.ref y), .val (.ref y)] [.ref y, .ref t])) := (c13.trans (st14 _ (Steps.refl _))).trans (by
        refine XS.aloadN X14.here hexec rfl (hb hbytes d40) rfl rfl ?_
        exact Steps.refl _)
      obtain ⟨T16, X16, q16, st16⟩ := X14.hget hexec hown (wk W (.fieldLink "java/lang/String" 9 "java/lang/String" "value" "[B")) (hy.mv X14.warmed.alike hh14).2.1 (g := (mkF m 41 #[.val (.ref x), .val (.ref y), .val (.ref y)] [.ref y, .ref t])) rfl (rest := [.ref t]) rfl (hb hbytes d41)
      have hh16 := q16.trans hh14
      have c17 : Steps p.tables e below (s₁.setTop (entryFrame m #[.ref x, .ref y] 3)) (T16.setTop (mkF m 44 #[.val (.ref x), .val (.ref y), .val (.ref y)] [.ref t', .ref t])) := c15.trans (st16 _ (Steps.refl _))
      obtain ⟨v18, T18, X18, E18, g18⟩ := X16.callS hexec (LEq.law l t V t' V') hown (wks W (staticW "java/lang/String" 541 LEq.yN)) (wk W LEq.tab) (W := 0) (Nat.le_of_ble_eq_true rfl) (Nat.le_of_ble_eq_true rfl) (Nat.le_refl _) (Nat.le_refl _) (g := (mkF m 44 #[.val (.ref x), .val (.ref y), .val (.ref y)] [.ref t', .ref t])) rfl (by rw [hml]; rfl) c17 (argsL := [.ref t, .ref t']) (rest := []) rfl rfl (by show 2 * 0 + 0 ≤ _; decide) (hb hbytes d44) (⟨rfl, hx.2.2.2.1.mv X16.warmed.alike hh16, hx.2.2.2.2.1.ty, hy.2.2.2.1.mv X16.warmed.alike hh16, hy.2.2.2.2.1.ty⟩)
      obtain ⟨v, rfl, q18, hv⟩ := E18
      have iff := Cod.eqv hx.2.2.2.2.1 hy.2.2.2.2.1 hx.2.2.2.2.2 hy.2.2.2.2.2
      rcases hv with ⟨rfl, he⟩ | ⟨rfl, he⟩
      · have c19 : Steps p.tables e below (s₁.setTop (entryFrame m #[.ref x, .ref y] 3)) (T18.setTop (mkF m 55 #[.val (.ref x), .val (.ref y), .val (.ref y)] [.int 1])) := Steps.trans g18 (by
          refine XS.ifNo X18.here hexec rfl (hb hbytes d47) rfl (i0_eq_f (by decide)) ?_
          refine iconstV X18.here hexec rfl 1 (hb hbytes d50) (by decide) ?_
          refine XS.goto X18.here hexec rfl (pc0 := 51) rfl (hb hbytes d51) (by decide) rfl ?_
          exact Steps.refl _)
        exact ⟨T18, some (.int 1), _, _, _, X18, rfl, rfl, rfl, (fun h => by cases h), ⟨1, rfl, q18.trans hh16, Or.inl ⟨rfl, iff.mp he⟩⟩, fun fs hl => c19.trans (X18.ireturnOut hexec hret rfl (Or.inr (Or.inl rfl)) (hb hbytes d55) hl)⟩
      · have c19 : Steps p.tables e below (s₁.setTop (entryFrame m #[.ref x, .ref y] 3)) (T18.setTop (mkF m 55 #[.val (.ref x), .val (.ref y), .val (.ref y)] [.int 0])) := Steps.trans g18 (by
          refine XS.ifYes X18.here hexec rfl (pc0 := 47) rfl (hb hbytes d47) rfl (i0_eq_t rfl) (by decide) rfl ?_
          refine iconstV X18.here hexec rfl 0 (hb hbytes d54) (by decide) ?_
          exact Steps.refl _)
        exact ⟨T18, some (.int 0), _, _, _, X18, rfl, rfl, rfl, (fun h => by cases h), ⟨0, rfl, q18.trans hh16, Or.inr ⟨rfl, fun q => he (iff.mpr q)⟩⟩, fun fs hl => c19.trans (X18.ireturnOut hexec hret rfl (Or.inr (Or.inl rfl)) (hb hbytes d55) hl)⟩
    · have c13 : Steps p.tables e below (s₁.setTop (entryFrame m #[.ref x, .ref y] 3)) (T11.setTop (mkF m 55 #[.val (.ref x), .val (.ref y), .val (.ref y)] [.int 0])) := c12.trans (by
        refine XS.icmpYes X11.here hexec rfl (pc0 := 33) rfl (hb hbytes d33) rfl (ii_ne_t hcd) (by decide) rfl ?_
        refine iconstV X11.here hexec rfl 0 (hb hbytes d54) (by decide) ?_
        exact Steps.refl _)
      exact ⟨T11, some (.int 0), _, _, _, X11, rfl, rfl, rfl, (fun h => by cases h), ⟨0, rfl, hh11, Or.inr ⟨rfl, Cod.dif hx.2.2.2.2.1 hy.2.2.2.2.1 hcd⟩⟩, fun fs hl => c13.trans (X11.ireturnOut hexec hret rfl (Or.inr (Or.inl rfl)) (hb hbytes d55) hl)⟩
theorem pays {l : Launch} {R : Room} {p : Program} {e : Env} {below : List Frame} {s : State} {sargs : Array Value} {len W : Nat} (x t : Addr) (V : Cell) (cd : Int32) (n : Nat) (f : Nat → Int32) (y t' : Addr) (V' : Cell) (cd' : Int32) (k : Nat) (g : Nat → Int32) (z : Int32) (htab : tab.before sargs s = true) (hfr : 2 ≤ R.frames) (hlo : W + 28 ≤ R.locals) :
    Back l R p e below s sargs yN len W (fun A₁ a₁ => A₁.cells + 0 ≤ R.cells ∧ A₁.slots + 0 ≤ R.slots ∧ P x t V cd n f y t' V' cd' k g z a₁ A₁.U) (fun A₁ _ v₁ B₁ => Says01 (SameT n f k g) v₁ A₁.U B₁.U ∧ B₁.locs = A₁.locs ++ [] ∧ B₁.cells = A₁.cells + 0 ∧ B₁.slots = A₁.slots + 0) :=
  (law l x t V cd n f y t' V' cd' k g z).pays htab hfr (by omega)
end SEq
end StrChars
namespace StrChars.Road
open Jvm Sem ClassFile Op Lib Jvm.Stand Jvm.Free Jvm.Free.XT
open Jvm.Lib.Cold (StaticIs)
/-- the words of String.equals(Object) -/
abbrev wordsEq : List Jvm.Cond := [.code SEq.yN SEq.yB 3 (some .boolean), .initialized ST, .classLink ST 10 ST, .fieldLink ST 38 ST "COMPACT_STRINGS" "Z", .fieldLink ST 15 ST "coder" "B", .fieldLink ST 9 ST "value" "[B", .methodLink ST 541 LEq.yN, .static LEq.yN, .code LEq.yN LEq.yB 3 (some .boolean), .initialized "java/lang/StringLatin1"]
theorem tabEq_of {a : Array Value} {s : State} (h : ∀ w ∈ wordsEq, w.before a s = true) : SEq.tab.before a s = true := by
  have hl : LEq.tab.before a s = true := unparts (wk h (.code LEq.yN LEq.yB 3 (some .boolean))) (wks h (.initialized LEq.yN.cls :: LEq.site))
  have q := consq hl h
  exact unparts (wk q (.code SEq.yN SEq.yB 3 (some .boolean))) (wks q (.initialized SEq.yN.cls :: SEq.site))
theorem movedEq {Z s : State} {a0 args : Array Value} (hZ : Z.Warmed39 s.vm) (hw : ∀ d ∈ wordsEq, d.before a0 Z = true) : ∀ d ∈ wordsEq, d.before args s = true := fun d hd => by
  have t : ∀ d ∈ wordsEq, (d.onTables && d.keepsFace) = true := by decide +kernel
  exact RoadKit.mv hZ (hw d hd) (t d hd)
/-- the road's facts of a String, as the laws ask it -/
theorem txt_of {Z U : State} {a0 : Array Value} {kI : Nat} (wi : (Jvm.Cond.instantiable ST kI).before a0 Z = true) (al : Z.vm.Alike U.vm) {x t : Addr} {kb : ClassId} {cs : List Int32} {cd N2 : Int32} {vs : List Value} (E : RoadKit.Exa Z U.heap x ST) (V : RoadKit.Fld Z U.heap x ST "value" "[B" (.ref t)) (C : RoadKit.Fld Z U.heap x ST "coder" "B" (.int cd)) (K : RoadKit.Arv Z U.heap t kb .byte N2 vs (.int 0)) (hc : CodA cs cd N2 vs) (hb : ∀ c ∈ cs, ¬ c < 0 ∧ ¬ (65535 : Int32) < c) (l2 : cs.length ≤ 4000) :
    ∃ A, Txt x t A cd cs.length (fun j => cs.getD j 0) U := by
  obtain ⟨A, K1, K2, K3, K4, K5, K6⟩ := K
  have hcod := hc.cod (by omega) K3 K5
  obtain ⟨D, fV, fC, hB, F1, F2, g1, g2, -, -⟩ := strObj wi al E V C
  exact ⟨A, ⟨_, hB.2.2.1, D, hB.1, rfl, by cases q : D.vm <;> first | rfl | exact absurd q (hB.2.1.2 _)⟩, Has.of hB F1 g1, Has.of hB F2 g2, ⟨K1.1, State.isArrayOf_alike al K1.2.1, K1.2.2, by rcases hcod with ⟨-, q, -⟩ | ⟨-, q, -⟩ <;> omega⟩, hcod, fun j hj => by
    have e : cs.getD j 0 = cs[j] := by simp [List.getD_eq_getElem?_getD, hj]
    show ¬ cs.getD j 0 < 0 ∧ ¬ 65535 < cs.getD j 0
    rw [e]; exact hb _ (List.getElem_mem _)⟩
theorem same_list (cs ds : List Int32) : SameT cs.length (fun j => cs.getD j 0) ds.length (fun j => ds.getD j 0) ↔ cs = ds := by
  constructor
  · rintro ⟨e, q⟩
    refine List.ext_getElem e fun j h1 h2 => ?_
    have := q j h1
    simpa [List.getD_eq_getElem?_getD, h1, h2] using this
  · rintro rfl
    exact ⟨rfl, fun _ _ => rfl⟩
/-- **equals(Object) OF TWO SUCH STRINGS**: 1 just where the chars are the same -/
theorem eqW {p : Program} {l : Launch} {e : Env} {R : Room} {s : State} {args : Array Value} {below : List Frame} {len W : Nat} {Z : State} {a0 : Array Value} {h : Heap} (hZ : Z.Warmed39 s.vm) (hw : ∀ d ∈ wordsEq, d.before a0 Z = true) {kI : Nat} (wi : (Jvm.Cond.instantiable ST kI).before a0 Z = true)
    {x t : Addr} {kb : ClassId} {cs : List Int32} {cd N2 : Int32} {vs : List Value} (E : RoadKit.Exa Z h x ST) (V : RoadKit.Fld Z h x ST "value" "[B" (.ref t)) (C : RoadKit.Fld Z h x ST "coder" "B" (.int cd)) (K : RoadKit.Arv Z h t kb .byte N2 vs (.int 0)) (hc : CodA cs cd N2 vs) (hb : ∀ c ∈ cs, ¬ c < 0 ∧ ¬ (65535 : Int32) < c) (l2 : cs.length ≤ 4000)
    {y t' : Addr} {kb' : ClassId} {ds : List Int32} {cd' N2' : Int32} {vs' : List Value} (E' : RoadKit.Exa Z h y ST) (V' : RoadKit.Fld Z h y ST "value" "[B" (.ref t')) (C' : RoadKit.Fld Z h y ST "coder" "B" (.int cd')) (K' : RoadKit.Arv Z h t' kb' .byte N2' vs' (.int 0)) (hc' : CodA ds cd' N2' vs') (hb' : ∀ c ∈ ds, ¬ c < 0 ∧ ¬ (65535 : Int32) < c) (l2' : ds.length ≤ 4000)
    {z : Int32} (S : RoadKit.Sta Z h ST "COMPACT_STRINGS" "Z" (.int z)) (hz : ¬ z = 0) (hfr : 2 ≤ R.frames) (hlo : W + 28 ≤ R.locals) :
    Back l R p e below s args (⟨"java/lang/String", "equals", "(Ljava/lang/Object;)Z"⟩ : MethodName) len W (fun P a => a = #[.ref x, .ref y] ∧ P.U.heap = h ∧ P.cells + 0 ≤ R.cells ∧ P.slots + 0 ≤ R.slots)
      (fun P _ v B => ∃ L, (((v = some (.int 1) ∧ cs = ds) ∨ (v = some (.int 0) ∧ ¬ cs = ds)) ∧ L = [] ∧ B.U.heap = h) ∧ B.locs = P.locs ++ L ∧ B.cells = P.cells + 0 ∧ B.slots = P.slots + 0) := by
  intro m meth c P g ig mk a X hg hsize hdg hW hn hp'
  obtain ⟨rfl, rfl, r1, r2⟩ := hp'
  have al : Z.vm.Alike P.U.vm := hZ.alike.trans X.warmed.alike
  obtain ⟨A, hx⟩ := txt_of wi al E V C K hc hb l2
  obtain ⟨A', hy⟩ := txt_of wi al E' V' C' K' hc' hb' l2'
  obtain ⟨v, B, X', ⟨⟨w, hv, hh, hq⟩, hl, hk, hs⟩, st⟩ := SEq.pays x t A cd cs.length (fun j => cs.getD j 0) y t' A' cd' ds.length (fun j => ds.getD j 0) z (tabEq_of (movedEq hZ hw)) hfr hlo m meth c P g ig mk _ X hg hsize hdg hW hn ⟨r1, r2, rfl, hx, hy, sta_is al S, hz⟩
  refine ⟨v, B, X', ⟨[], ⟨?_, rfl, hh⟩, hl, hk, hs⟩, st⟩
  rcases hq with ⟨rfl, q⟩ | ⟨rfl, q⟩
  · exact Or.inl ⟨hv, (same_list cs ds).mp q⟩
  · exact Or.inr ⟨hv, fun e => q ((same_list cs ds).mpr e)⟩
end StrChars.Road
namespace StrChars.Road
open Jvm Sem ClassFile Op Lib Jvm.Stand Jvm.Free Jvm.Free.XT
open Jvm.Lib.Cold (StaticIs)
/-- what backV says of its String, as the contracts of this text ask it: cs's low bytes, coder 0 -/
theorem codOf {cs : List Int32} {n : Nat} (hn : cs.length = n) (hb : ∀ c ∈ cs, ¬ 255 < c) : CodA cs 0 (Int32.ofNat n) ((cs.map lo8).map Value.int) := Or.inl ⟨rfl, by rw [hn], by simp [List.map_map, Function.comp_def], hb⟩
end StrChars.Road
end Jvm.Pilot.@@N@@

namespace Jvm.Pilot.@@N@@
open Jvm Jvm.ClassFile Sem Op Lib Jvm.Free Jvm.Stand Jvm.LawKit Jvm.RoadKit Bundle Jvm.Pilot.@@N@@.Jvm.D
theorem own_hide {p : Program} {l : Launch} {e : Env} {R : Room} {s : State} {m : MethodId} {args : Array Value} {below : List Frame} {meth : Method} {c : Code} {T : State} {locs : List Loc} {cells slots n0 : Nat} (X : Stand p l e R s m args below meth c T locs cells slots) (N : Fr n0 locs) : ∃ Ls, Stand p l e R s m args below meth c T Ls cells slots ∧ Fr n0 Ls := ⟨_, X, N⟩
theorem own_ew {Z : State} {a0 : Array Value} (hw : ∀ d ∈ tables_1, d.before a0 Z = true) : EW Z a0 consts_1 := (EW.cons (own := "com/example/tesserae/tesserae/dicom/TransferSyntaxForUidPinLaw") (index := 7) (text := "1.2.840.10008.1.2") (hw _ (List.mem_of_getElem? (i := 0) rfl)) (by decide) (EW.cons (own := "com/example/tesserae/tesserae/dicom/TransferSyntaxForUidPinLaw") (index := 9) (text := "1.2.840.10008.1.2.1") (hw _ (List.mem_of_getElem? (i := 68) rfl)) (by decide) (EW.cons (own := "java/lang/String") (index := 7) (text := "") (hw _ (List.mem_of_getElem? (i := 30) rfl)) (by decide) EW.nil)))
theorem own_wB {Z : State} {a0 : Array Value} (hw : ∀ d ∈ tables_1, d.before a0 Z = true) : ∀ d ∈ StrChars.Road.words, d.before a0 Z = true := fun d hd => hw d ((by decide +kernel : ∀ d ∈ StrChars.Road.words, d ∈ tables_1) d hd)
theorem own_wE {Z : State} {a0 : Array Value} (hw : ∀ d ∈ tables_1, d.before a0 Z = true) : ∀ d ∈ StrChars.Road.wordsEq, d.before a0 Z = true := fun d hd => hw d ((by decide +kernel : ∀ d ∈ StrChars.Road.wordsEq, d ∈ tables_1) d hd)
theorem own_up {tx : List Int32} (hp : ∀ c ∈ tx, ¬ c < 0 ∧ ¬ (255 : Int32) < c) : ∀ c ∈ tx, ¬ c < 0 ∧ ¬ (65535 : Int32) < c := fun c hc => ⟨(hp c hc).1, fun q => (hp c hc).2 (Int32.lt_trans (by decide : (255 : Int32) < 65535) q)⟩
theorem own_safe {Z : State} {EL : List (String × Nat)} {vm : Vm} {h : Heap} {x : Addr} (hal : Z.vm.Alike vm) (E : Exa Z h x "java/lang/String") (F : Fld Z h x "java/lang/String" "value" "[B" .null) : Safe Z EL vm h x := fun B => by
  obtain ⟨p, -, u, a, -, q, -, G, rfl | rfl⟩ := B
  · obtain ⟨cell, cf, k, i, f, f1, f2, -, -, -, -, f7⟩ := F
    cases (show h[q.sa]? = some q.sC from G.ha).symm.trans f1
    obtain ⟨cS, ⟨⟨-, -, -, ⟨c1, k1, i1, g1, -⟩, -, -, -, v1, -⟩, -⟩, -⟩ := G
    obtain ⟨k3, e3, -⟩ := State.fieldFound?_setVm (s := { Z with heap := h }) hal f2
    have e4 := (show (Wst Z vm h).fieldFound? _ _ _ = _ from e3).symm.trans g1
    simp only [Option.some.injEq, Prod.mk.injEq] at e4
    rw [← e4.2.2.2, f7] at v1
    cases v1
  · obtain ⟨cell, k, e1, e2, e3, -, -⟩ := E
    cases (show h[q.sd]? = some q.SA from G.hd).symm.trans e1
    obtain ⟨cS, -, -, f, -⟩ := G
    have f' : vm.findClass "[B" = some q.SA.cls := f
    rw [hal.findClass] at f'
    obtain ⟨k1, q1, q2⟩ := Vm.findClass_spec f'
    obtain ⟨k2, q3, q4⟩ := Vm.findClass_spec e2
    cases q1.symm.trans q3
    exact absurd (q2.symm.trans q4) (by decide)
theorem own_b8 (b : Int32) : ¬ (b &&& (255 : Int32)).toUInt32.toUInt16.toUInt32.toInt32 < 0 ∧ ¬ (255 : Int32) < (b &&& (255 : Int32)).toUInt32.toUInt16.toUInt32.toInt32 := by
  have t : ∀ k : Fin 256, ¬ (Int32.ofNat k.val).toUInt32.toUInt16.toUInt32.toInt32 < 0 ∧ ¬ (255 : Int32) < (Int32.ofNat k.val).toUInt32.toUInt16.toUInt32.toInt32 := by decide +kernel
  have h : (b &&& 255).toBitVec.toNat < 256 := by
    rw [Int32.toBitVec_and, BitVec.toNat_and]
    exact Nat.lt_succ_of_le Nat.and_le_right
  have e : (b &&& 255) = Int32.ofNat (b &&& 255).toBitVec.toNat := by
    apply Int32.toBitVec_inj.mp
    show _ = BitVec.ofNat 32 _
    rw [BitVec.ofNat_toNat]; simp
  rw [e]
  exact t ⟨_, h⟩
theorem own_nc {c : Int32} (h1 : ¬ c < 0) (h2 : ¬ (255 : Int32) < c) : nar .char c = c := by
  have t : ∀ k : Fin 256, nar .char (Int32.ofNat k.val) = Int32.ofNat k.val := by decide +kernel
  rw [Int32.lt_iff_toInt_lt] at h1 h2
  have c0 : (0 : Int32).toInt = 0 := rfl
  have c5 : (255 : Int32).toInt = 255 := rfl
  have e : c = Int32.ofNat c.toInt.toNat := by
    apply Int32.toInt_inj.mp
    rw [Int32.toInt_ofNat_of_lt (by omega)]
    omega
  rw [e]
  exact t ⟨c.toInt.toNat, by omega⟩
theorem own_nb2 {c : Int32} (h : ¬ c < 0 ∧ ¬ (255 : Int32) < c) : ¬ nar .char c < 0 ∧ ¬ (255 : Int32) < nar .char c := by
  rw [own_nc h.1 h.2]; exact h
theorem own_shr0 (x : Int32) : (x >>> ((0 : Int32) &&& 31)) = x := by
  apply Int32.toInt_inj.mp
  rw [Jvm.Kit.i32_shr x _ (k := 0) (by decide)]
  simp
theorem own_len {args : Array Value} {s : State} {t : Term} {a : Addr} {c : Cell} {ty : FieldType} {n : Int32} (et : t.eval args s none [] s = some (.ref a)) (A : Arr s s.heap a c ty) (h : (Term.length t).eval args s none [] s = some (.int n)) : c.slots.size < 2 ^ 31 ∧ c.slots.size.toInt32 = n := by
  have hA := A.fin (Vm.Alike.refl s.vm)
  have h31 := Jvm.Free.SBG.length_lt et hA h
  exact ⟨h31, by simpa using (len_f et hA h31).symm.trans h⟩
theorem own_eqr {Z : State} {args : Array Value} {X F : Term} {idx : List Nat} {b : Addr} (hF : F.eval args Z none idx Z = some (.ref b)) (h : (Cond.eq X F).value args Z none Z idx = some true) : X.eval args Z none idx Z = some (.ref b) := by
  obtain ⟨x, y', e1, e2, k1, k2⟩ := cmp_v (Or.inl h)
  cases hF.symm.trans e2
  rcases ref_cases k2.2 with rfl | ⟨a, rfl⟩
  · simp [Cond.value, e1, hF] at h
  · have q : a = b := by simpa [Cond.value, e1, hF] using h
    rw [e1, q]
theorem own_2 {z : Int32} (h1 : 0 ≤ z.toInt) (h2 : z.toInt < 2) : z = (0 : Int32) ∨ z = (1 : Int32) := by
  have h : z.toInt = 0 ∨ z.toInt = 1 := by omega
  rcases h with h | h
  · exact Or.inl (Int32.toInt_inj.mp h)
  · exact Or.inr (Int32.toInt_inj.mp h)
theorem own_8 {z : Int32} (h1 : 0 ≤ z.toInt) (h2 : z.toInt < 8) : z = (0 : Int32) ∨ z = (1 : Int32) ∨ z = (2 : Int32) ∨ z = (3 : Int32) ∨ z = (4 : Int32) ∨ z = (5 : Int32) ∨ z = (6 : Int32) ∨ z = (7 : Int32) := by
  have h : z.toInt = 0 ∨ z.toInt = 1 ∨ z.toInt = 2 ∨ z.toInt = 3 ∨ z.toInt = 4 ∨ z.toInt = 5 ∨ z.toInt = 6 ∨ z.toInt = 7 := by omega
  rcases h with h | h | h | h | h | h | h | h
  · exact Or.inl (Int32.toInt_inj.mp h)
  · exact Or.inr (Or.inl (Int32.toInt_inj.mp h))
  · exact Or.inr (Or.inr (Or.inl (Int32.toInt_inj.mp h)))
  · exact Or.inr (Or.inr (Or.inr (Or.inl (Int32.toInt_inj.mp h))))
  · exact Or.inr (Or.inr (Or.inr (Or.inr (Or.inl (Int32.toInt_inj.mp h)))))
  · exact Or.inr (Or.inr (Or.inr (Or.inr (Or.inr (Or.inl (Int32.toInt_inj.mp h))))))
  · exact Or.inr (Or.inr (Or.inr (Or.inr (Or.inr (Or.inr (Or.inl (Int32.toInt_inj.mp h)))))))
  · exact Or.inr (Or.inr (Or.inr (Or.inr (Or.inr (Or.inr (Or.inr (Int32.toInt_inj.mp h)))))))
theorem dt1_0 : decode jdk_42_method_152_code 0 = .ok (.getstatic 38, 3) := by decide +kernel
theorem dt1_3 : decode jdk_42_method_152_code 3 = .ok (.ifCond .eq 10, 3) := by decide +kernel
theorem dt1_6 : decode jdk_42_method_152_code 6 = .ok (.aload_n 0, 1) := by decide +kernel
theorem dt1_7 : decode jdk_42_method_152_code 7 = .ok (.getfield 15, 3) := by decide +kernel
theorem dt1_10 : decode jdk_42_method_152_code 10 = .ok (.goto 4, 3) := by decide +kernel
theorem dt1_14 : decode jdk_42_method_152_code 14 = .ok (.ireturn, 1) := by decide +kernel
theorem pn_0 : plainName "java/lang/String" = true := by first | (simp [plainName, overriddenIn]; done) | decide +kernel
theorem ef_t1 (mM : MethodId) (x0 : Addr) : entryFrame mM #[(.ref x0)] 1 = mkF mM 0 #[.val (.ref x0)] [] := by first | (simp [entryFrame, mkF, argsToLocals, Value.category]; done) | rfl
def Qt1 (Z : State) (cs : Int32) (a : Addr) (h0 : Heap) (n0 : Nat) (v : Option Value) (h : Heap) (L : List Loc) : Prop := v = some (.int (0 : Int32)) ∧ Fr n0 L ∧ h = h0
set_option maxRecDepth 65536 in
set_option maxHeartbeats 40000000 in
theorem rmt1 (l : Launch) (Z : State) (a0 : Array Value) (hw : ∀ d ∈ tables_1, d.before a0 Z = true) (ws : List Jvm.Cond) (cs : Int32) (a : Addr) (h0 : Heap) (n0 : Nat) (Z0 : n0 ≤ h0.size) (O : Old Z n0 h0) (S_cs : Sta Z Z.heap "java/lang/String" "COMPACT_STRINGS" "Z" (.int cs)) (hcs : ¬ cs = (0 : Int32)) (E_a : Exa Z h0 a "java/lang/String") (F_c : Fld Z h0 a "java/lang/String" "coder" "B" (.int (0 : Int32))) :
    MetFree l (⟨"java/lang/String", "coder", "()B"⟩ : MethodName) (head1 (Jvm.Cond.code (⟨"java/lang/String", "coder", "()B"⟩ : MethodName) jdk_42_method_152_code 1 (some .byte) :: ws) ({ frames := 0, cells := 0, slots := 0, locals := 0 } : Room)) (fun aA uU => aA = #[(.ref a)] ∧ Z.Warmed39 uU.vm ∧ uU.heap = h0) (fun _ _ _ _ _ => True) (fun _ uU oO uU' => ∃ vV lL, oO = .returned vV ∧ Qt1 Z cs a h0 n0 vV uU'.heap lL ∧ FrameEnd uU oO uU' lL ({ frames := 0, cells := 0, slots := 0, locals := 0 } : Room).cells ({ frames := 0, cells := 0, slots := 0, locals := 0 } : Room).slots) := by
  refine MetFree.of_bodySF (plainFor_of_name pn_0) hisR ?_
  intro pP eE sS mM args below meth cC s₁ Bd hml0 hP hK
  obtain ⟨rfl, hZ, hh⟩ := hP
  have hx := Bd.exec
  have hby := Bd.bytes
  have hml : cC.maxLocals = 1 := hml0
  have hown : sS.vm.findClass "java/lang/String" = some mM.cls := findClass_of_methodNamed Bd.named
  have hnm := (name_of_methodNamed Bd.named Bd.method).1
  have X0 : Stand pP l eE ({ frames := 0, cells := 0, slots := 0, locals := 0 } : Room) sS mM #[(.ref a)] below meth cC s₁ [] 0 0 := Stand.of_body Bd
  have e0 : s₁.heap = h0 := by rw [← hh, Bd.state]; rfl
  have N0 := Fr.nil n0
  have pre0 : ∀ tg, Steps pP.tables eE below (s₁.setTop (mkF mM 0 #[.val (.ref a)] [])) tg → Steps pP.tables eE below (s₁.setTop (entryFrame mM #[(.ref a)] 1)) tg := fun tg kg => castTop (ef_t1 mM a) kg
  obtain ⟨T1, X1, e1, st1⟩ := getS2 X0 hx hZ hown (host := "") (Or.inl (hw _ (List.mem_of_getElem? (i := 62) rfl))) Via.refl e0 (Sta.ext (O).2 S_cs) (g := (mkF mM 0 #[.val (.ref a)] [])) rfl (hb hby dt1_0)
  have pr2 : ∀ tg, Steps pP.tables eE below (T1.setTop (mkF mM 3 #[.val (.ref a)] [(.int cs)])) tg → Steps pP.tables eE below (s₁.setTop (entryFrame mM #[(.ref a)] 1)) tg := fun tg kg => pre0 _ (st1 _ kg)
  clear pre0 st1 X0 e0
  have pr3 : ∀ tg, Steps pP.tables eE below (T1.setTop (mkF mM 7 #[.val (.ref a)] [(.ref a)])) tg → Steps pP.tables eE below (s₁.setTop (entryFrame mM #[(.ref a)] 1)) tg := fun tg kg => pr2 _ (by
    show Steps pP.tables eE below (T1.setTop (mkF mM 3 #[.val (.ref a)] [(.int cs)])) _
    refine XS.ifNo X1.here hx rfl (hb hby dt1_3) rfl ((if0 _ _).trans (feq hcs).1) ?_
    refine XS.aloadN X1.here hx rfl (hb hby dt1_6) rfl rfl ?_
    exact kg)
  clear pr2
  obtain ⟨T4, X4, e4, st4⟩ := getF X1 hx hZ hown (host := "") (Or.inl (hw _ (List.mem_of_getElem? (i := 32) rfl))) Via.refl e1 F_c (g := (mkF mM 7 #[.val (.ref a)] [(.ref a)])) rfl rfl (hb hby dt1_7)
  have pr5 : ∀ tg, Steps pP.tables eE below (T4.setTop (mkF mM 10 #[.val (.ref a)] [(.int (0 : Int32))])) tg → Steps pP.tables eE below (s₁.setTop (entryFrame mM #[(.ref a)] 1)) tg := fun tg kg => pr3 _ (st4 _ kg)
  clear pr3 st4 X1 e1
  have pr6 : ∀ tg, Steps pP.tables eE below (T4.setTop (mkF mM 14 #[.val (.ref a)] [(.int (0 : Int32))])) tg → Steps pP.tables eE below (s₁.setTop (entryFrame mM #[(.ref a)] 1)) tg := fun tg kg => pr5 _ (by
    show Steps pP.tables eE below (T4.setTop (mkF mM 10 #[.val (.ref a)] [(.int (0 : Int32))])) _
    refine XS.goto X4.here hx rfl (pc0 := 10) (pc' := 14) rfl (hb hby dt1_10) (by decide) (by decide) ?_
    exact kg)
  clear pr5
  obtain ⟨fs, hr, hrun, hended, hW, hsame⟩ := X4.leave (v := some (.int (0 : Int32))) (fun h => by rw [Bd.returns] at h; cases h)
  refine ⟨_, _, pr6 _ (retOut X4 hx (t := .byte) Bd.returns rfl (Or.inl ⟨rfl, Or.inr (Or.inr (Or.inl rfl)), _, rfl⟩) (hb hby dt1_14) hr), hrun, hended, _, _, rfl, ?_, ⟨_, rfl⟩, hW, hsame.mono (by decide) (by decide)⟩
  show Qt1 Z cs a h0 n0 _ T4.heap _
  rw [e4]
  exact ⟨rfl, N0, rfl⟩
theorem pd_0 : parseMethodDescriptor "()B" = some ⟨[], some .byte⟩ := by decide +kernel
theorem dt2_0 : decode jdk_42_method_54_code 0 = .ok (.aload_n 0, 1) := by decide +kernel
theorem dt2_1 : decode jdk_42_method_54_code 1 = .ok (.getfield 9, 3) := by decide +kernel
theorem dt2_4 : decode jdk_42_method_54_code 4 = .ok (.arraylength, 1) := by decide +kernel
theorem dt2_5 : decode jdk_42_method_54_code 5 = .ok (.aload_n 0, 1) := by decide +kernel
theorem dt2_6 : decode jdk_42_method_54_code 6 = .ok (.invokevirtual 335, 3) := by decide +kernel
theorem dt2_9 : decode jdk_42_method_54_code 9 = .ok (.ishr, 1) := by decide +kernel
theorem dt2_10 : decode jdk_42_method_54_code 10 = .ok (.ireturn, 1) := by decide +kernel
theorem ef_t2 (mM : MethodId) (x0 : Addr) : entryFrame mM #[(.ref x0)] 1 = mkF mM 0 #[.val (.ref x0)] [] := by first | (simp [entryFrame, mkF, argsToLocals, Value.category]; done) | rfl
def Qt2 (Z : State) (cs : Int32) (a : Addr) (b : Addr) (kb : ClassId) (nv : Int32) (vs : List Value) (h0 : Heap) (n0 : Nat) (v : Option Value) (h : Heap) (L : List Loc) : Prop := v = some (.int nv) ∧ Fr n0 L ∧ h = h0
set_option maxRecDepth 65536 in
set_option maxHeartbeats 40000000 in
theorem rmt2 (l : Launch) (Z : State) (a0 : Array Value) (hw : ∀ d ∈ tables_1, d.before a0 Z = true) (ws : List Jvm.Cond) (cs : Int32) (a : Addr) (b : Addr) (kb : ClassId) (nv : Int32) (vs : List Value) (h0 : Heap) (n0 : Nat) (Z0 : n0 ≤ h0.size) (O : Old Z n0 h0) (S_cs : Sta Z Z.heap "java/lang/String" "COMPACT_STRINGS" "Z" (.int cs)) (hcs : ¬ cs = (0 : Int32)) (E_a : Exa Z h0 a "java/lang/String") (F_c : Fld Z h0 a "java/lang/String" "coder" "B" (.int (0 : Int32))) (F_v : Fld Z h0 a "java/lang/String" "value" "[B" (.ref b)) (V_b : Arv Z h0 b kb .byte nv vs (.int (0 : Int32))) :
    MetFree l (⟨"java/lang/String", "length", "()I"⟩ : MethodName) (head1 (Jvm.Cond.code (⟨"java/lang/String", "length", "()I"⟩ : MethodName) jdk_42_method_54_code 1 (some .int) :: ws) ({ frames := 1, cells := 0, slots := 0, locals := 13 } : Room)) (fun aA uU => aA = #[(.ref a)] ∧ Z.Warmed39 uU.vm ∧ uU.heap = h0) (fun _ _ _ _ _ => True) (fun _ uU oO uU' => ∃ vV lL, oO = .returned vV ∧ Qt2 Z cs a b kb nv vs h0 n0 vV uU'.heap lL ∧ FrameEnd uU oO uU' lL ({ frames := 1, cells := 0, slots := 0, locals := 13 } : Room).cells ({ frames := 1, cells := 0, slots := 0, locals := 13 } : Room).slots) := by
  refine MetFree.of_bodySF (plainFor_of_name pn_0) hisR ?_
  intro pP eE sS mM args below meth cC s₁ Bd hml0 hP hK
  obtain ⟨rfl, hZ, hh⟩ := hP
  have hx := Bd.exec
  have hby := Bd.bytes
  have hml : cC.maxLocals = 1 := hml0
  have hown : sS.vm.findClass "java/lang/String" = some mM.cls := findClass_of_methodNamed Bd.named
  have hnm := (name_of_methodNamed Bd.named Bd.method).1
  have X0 : Stand pP l eE ({ frames := 1, cells := 0, slots := 0, locals := 13 } : Room) sS mM #[(.ref a)] below meth cC s₁ [] 0 0 := Stand.of_body Bd
  have e0 : s₁.heap = h0 := by rw [← hh, Bd.state]; rfl
  have N0 := Fr.nil n0
  have pre0 : ∀ tg, Steps pP.tables eE below (s₁.setTop (mkF mM 0 #[.val (.ref a)] [])) tg → Steps pP.tables eE below (s₁.setTop (entryFrame mM #[(.ref a)] 1)) tg := fun tg kg => castTop (ef_t2 mM a) kg
  have pr1 : ∀ tg, Steps pP.tables eE below (s₁.setTop (mkF mM 1 #[.val (.ref a)] [(.ref a)])) tg → Steps pP.tables eE below (s₁.setTop (entryFrame mM #[(.ref a)] 1)) tg := fun tg kg => pre0 _ (by
    show Steps pP.tables eE below (s₁.setTop (mkF mM 0 #[.val (.ref a)] [])) _
    refine XS.aloadN X0.here hx rfl (hb hby dt2_0) rfl rfl ?_
    exact kg)
  clear pre0
  obtain ⟨T2, X2, e2, st2⟩ := getF X0 hx hZ hown (host := "") (Or.inl (hw _ (List.mem_of_getElem? (i := 31) rfl))) Via.refl e0 F_v (g := (mkF mM 1 #[.val (.ref a)] [(.ref a)])) rfl rfl (hb hby dt2_1)
  have pr3 : ∀ tg, Steps pP.tables eE below (T2.setTop (mkF mM 4 #[.val (.ref a)] [(.ref b)])) tg → Steps pP.tables eE below (s₁.setTop (entryFrame mM #[(.ref a)] 1)) tg := fun tg kg => pr1 _ (st2 _ kg)
  clear pr1 st2 X0 e0
  obtain ⟨cla4, Ara4, qa4, Sa4, Ma4, Ha4, Ga4⟩ := id V_b
  have pr5 : ∀ tg, Steps pP.tables eE below (T2.setTop (mkF mM 6 #[.val (.ref a)] [(.ref a), (.int nv)])) tg → Steps pP.tables eE below (s₁.setTop (entryFrame mM #[(.ref a)] 1)) tg := fun tg kg => pr3 _ (by
    show Steps pP.tables eE below (T2.setTop (mkF mM 4 #[.val (.ref a)] [(.ref b)])) _
    refine X2.arraylength hx (by rw [e2]; exact Ara4.1) (State.isArrayOf_alike hZ.alike Ara4.2.1) (g := (mkF mM 4 #[.val (.ref a)] [(.ref b)])) rfl rfl (hb hby dt2_4) _ ?_
    rw [len_of Sa4 Ma4]
    show Steps pP.tables eE below (T2.setTop (mkF mM 5 #[.val (.ref a)] [(.int nv)])) _
    refine XS.aloadN X2.here hx rfl (hb hby dt2_5) rfl rfl ?_
    exact kg)
  clear pr3
  obtain ⟨cq6, kq6, qa6, qb6, qc6⟩ := isOf hZ e2 E_a
  obtain ⟨_, _, ⟨T6, L6, kk6, nn6⟩, -, X6, ⟨Lc6, hQ6, l6, y6, z6⟩, st6⟩ := X2.virtualBack hx (y := (⟨"java/lang/String", "coder", "()B"⟩ : MethodName)) (z := (⟨"java/lang/String", "coder", "()B"⟩ : MethodName)) hown (mvT hZ (hw _ (List.mem_of_getElem? (i := 74) rfl))) (mvT hZ (hw _ (List.mem_of_getElem? (i := 75) rfl))) (notFace_of_selects (args := #[]) (mvT hZ (hw _ (List.mem_of_getElem? (i := 77) rfl)))) (mvT hZ (hw _ (List.mem_of_getElem? (i := 77) rfl))) (mvT hZ (hw _ (List.mem_of_getElem? (i := 76) rfl))) (by decide) (backOf (W := 1) (rmt1 l Z a0 hw [] cs a h0 n0 Z0 O S_cs hcs E_a F_c) hZ (hw _ (List.mem_of_getElem? (i := 78) rfl)) (hw _ (List.mem_of_getElem? (i := 1) rfl)) (by decide) (by decide)) qa6 qc6 (g := (mkF mM 6 #[.val (.ref a)] [(.ref a), (.int nv)])) rfl (by rw [hml]; rfl) (Steps.refl _) (argsL := []) (rest := [(.int nv)]) (lenOf pd_0 rfl) rfl (by show 2 * 0 + _ ≤ _; exact Nat.le_of_eq rfl) (hb hby dt2_6) (fun _ _ => ⟨rfl, e2, (by decide : 0 + 0 ≤ _), (by decide : 0 + 0 ≤ _)⟩)
  dsimp only [Pt.U, Pt.locs, Pt.cells, Pt.slots] at X6 l6 y6 z6 st6 hQ6
  subst l6 y6 z6
  obtain ⟨rfl, Nq6, e6⟩ := hQ6
  have N6 := Fr.app N0 Nq6
  have pr7 : ∀ tg, Steps pP.tables eE below (T6.setTop (mkF mM 9 #[.val (.ref a)] [(.int (0 : Int32)), (.int nv)])) tg → Steps pP.tables eE below (s₁.setTop (entryFrame mM #[(.ref a)] 1)) tg := fun tg kg => pr5 _ (st6.trans kg)
  clear pr5 st6 X2 e2
  have pr8 : ∀ tg, Steps pP.tables eE below (T6.setTop (mkF mM 10 #[.val (.ref a)] [(.int (nv >>> ((0 : Int32) &&& 31)))])) tg → Steps pP.tables eE below (s₁.setTop (entryFrame mM #[(.ref a)] 1)) tg := fun tg kg => pr7 _ (by
    show Steps pP.tables eE below (T6.setTop (mkF mM 9 #[.val (.ref a)] [(.int (0 : Int32)), (.int nv)])) _
    refine XS.ishr X6.here hx rfl (hb hby dt2_9) rfl ?_
    exact kg)
  clear pr7
  obtain ⟨fs, hr, hrun, hended, hW, hsame⟩ := X6.leave (v := some (.int (nv >>> ((0 : Int32) &&& 31)))) (fun h => by rw [Bd.returns] at h; cases h)
  refine ⟨_, _, pr8 _ (retOut X6 hx (t := .int) Bd.returns rfl (Or.inl ⟨rfl, Or.inl rfl, _, rfl⟩) (hb hby dt2_10) hr), hrun, hended, _, _, rfl, ?_, ⟨_, rfl⟩, hW, hsame.mono (by decide) (by decide)⟩
  show Qt2 Z cs a b kb nv vs h0 n0 _ T6.heap _
  rw [e6]
  exact ⟨by rw [own_shr0], N6, rfl⟩
theorem dt3_0 : decode jdk_42_method_149_code 0 = .ok (.aload_n 0, 1) := by decide +kernel
theorem dt3_1 : decode jdk_42_method_149_code 1 = .ok (.invokespecial 1, 3) := by decide +kernel
theorem dt3_4 : decode jdk_42_method_149_code 4 = .ok (.iload_n 3, 1) := by decide +kernel
theorem dt3_5 : decode jdk_42_method_149_code 5 = .ok (.ifCond .ne 22, 3) := by decide +kernel
theorem dt3_8 : decode jdk_42_method_149_code 8 = .ok (.aload_n 0, 1) := by decide +kernel
theorem dt3_9 : decode jdk_42_method_149_code 9 = .ok (.ldc 7, 2) := by decide +kernel
theorem dt3_11 : decode jdk_42_method_149_code 11 = .ok (.getfield 9, 3) := by decide +kernel
theorem dt3_14 : decode jdk_42_method_149_code 14 = .ok (.putfield 9, 3) := by decide +kernel
theorem dt3_17 : decode jdk_42_method_149_code 17 = .ok (.aload_n 0, 1) := by decide +kernel
theorem dt3_18 : decode jdk_42_method_149_code 18 = .ok (.ldc 7, 2) := by decide +kernel
theorem dt3_20 : decode jdk_42_method_149_code 20 = .ok (.getfield 15, 3) := by decide +kernel
theorem dt3_23 : decode jdk_42_method_149_code 23 = .ok (.putfield 15, 3) := by decide +kernel
theorem dt3_26 : decode jdk_42_method_149_code 26 = .ok (.return_, 1) := by decide +kernel
theorem ef_t3 (mM : MethodId) (x0 : Addr) (x1 : Addr) (x2 : Int32) (x3 : Int32) : entryFrame mM #[(.ref x0), (.ref x1), (.int x2), (.int x3), .null] 6 = mkF mM 0 #[.val (.ref x0), .val (.ref x1), .val (.int x2), .val (.int x3), .val .null, .unset] [] := by first | (simp [entryFrame, mkF, argsToLocals, Value.category]; done) | rfl
def Qt3 (Z : State) (a : Addr) (x : Addr) (h0 : Heap) (n0 : Nat) (v : Option Value) (h : Heap) (L : List Loc) : Prop := v = none ∧ Fr n0 L ∧ Keep h0 h [a] ∧ Exa Z h a "java/lang/String" ∧ Fld Z h a "java/lang/String" "coder" "B" (.int (0 : Int32)) ∧ ∃ (t : Addr) (kb : ClassId), Fld Z h a "java/lang/String" "value" "[B" (.ref t) ∧ Arv Z h t kb .byte (0 : Int32) [] (.int (0 : Int32))
set_option maxRecDepth 65536 in
set_option maxHeartbeats 40000000 in
theorem rmt3 (l : Launch) (Z : State) (a0 : Array Value) (hw : ∀ d ∈ tables_1, d.before a0 Z = true) (ws : List Jvm.Cond) (a : Addr) (x : Addr) (h0 : Heap) (n0 : Nat) (Z0 : n0 ≤ h0.size) (E_a : Exa Z h0 a "java/lang/String") (g_a : n0 ≤ a) (F_v : Fld Z h0 a "java/lang/String" "value" "[B" .null) (F_c : Fld Z h0 a "java/lang/String" "coder" "B" (.int (0 : Int32))) :
    MetFree l (⟨"java/lang/String", "<init>", "([CIILjava/lang/Void;)V"⟩ : MethodName) (head1 (Jvm.Cond.code (⟨"java/lang/String", "<init>", "([CIILjava/lang/Void;)V"⟩ : MethodName) jdk_42_method_149_code 6 none :: ws) ({ frames := 1, cells := 4, slots := 8, locals := 12 } : Room)) (fun aA uU => aA = #[(.ref a), (.ref x), (.int (0 : Int32)), (.int (0 : Int32)), .null] ∧ Z.Warmed39 uU.vm ∧ uU.heap = h0 ∧ CHv Z consts_1 uU.vm h0) (fun _ _ _ _ _ => True) (fun _ uU oO uU' => ∃ vV lL, oO = .returned vV ∧ Qt3 Z a x h0 n0 vV uU'.heap lL ∧ CHr Z consts_1 uU.vm uU.heap uU'.vm uU'.heap ∧ ReturnedEndW uU oO uU' lL ({ frames := 1, cells := 4, slots := 8, locals := 12 } : Room).cells ({ frames := 1, cells := 4, slots := 8, locals := 12 } : Room).slots) := by
  refine MetFree.of_bodySF (plainFor_of_name pn_0) hisR ?_
  intro pP eE sS mM args below meth cC s₁ Bd hml0 hP hK
  obtain ⟨rfl, hZ, hh, hCH0⟩ := hP
  have hS : sS.Since sS.vm 0 := (State.WarmedH.refl sS).since 0
  have wS : ∀ a ∈ Bundle.stringAtoms, a.before a0 Z = true := fun a ha => hw a ((by decide +kernel : ∀ a ∈ Bundle.stringAtoms, a ∈ tables_1) a ha)
  have hEW := own_ew hw
  have cr0 := CHr.refl hCH0
  have hx := Bd.exec
  have hby := Bd.bytes
  have hml : cC.maxLocals = 6 := hml0
  have hown : sS.vm.findClass "java/lang/String" = some mM.cls := findClass_of_methodNamed Bd.named
  have hnm := (name_of_methodNamed Bd.named Bd.method).1
  have X0 : Stand pP l eE ({ frames := 1, cells := 4, slots := 8, locals := 12 } : Room) sS mM #[(.ref a), (.ref x), (.int (0 : Int32)), (.int (0 : Int32)), .null] below meth cC s₁ [] 0 0 := Stand.of_body Bd
  have e0 : s₁.heap = h0 := by rw [← hh, Bd.state]; rfl
  have N0 := Fr.nil n0
  have pre0 : ∀ tg, Steps pP.tables eE below (s₁.setTop (mkF mM 0 #[.val (.ref a), .val (.ref x), .val (.int (0 : Int32)), .val (.int (0 : Int32)), .val .null, .unset] [])) tg → Steps pP.tables eE below (s₁.setTop (entryFrame mM #[(.ref a), (.ref x), (.int (0 : Int32)), (.int (0 : Int32)), .null] 6)) tg := fun tg kg => castTop (ef_t3 mM a x (0 : Int32) (0 : Int32)) kg
  have sf0_a : Safe Z consts_1 sS.vm h0 a := own_safe hZ.alike E_a F_v
  have pr1 : ∀ tg, Steps pP.tables eE below (s₁.setTop (mkF mM 1 #[.val (.ref a), .val (.ref x), .val (.int (0 : Int32)), .val (.int (0 : Int32)), .val .null, .unset] [(.ref a)])) tg → Steps pP.tables eE below (s₁.setTop (entryFrame mM #[(.ref a), (.ref x), (.int (0 : Int32)), (.int (0 : Int32)), .null] 6)) tg := fun tg kg => pre0 _ (by
    show Steps pP.tables eE below (s₁.setTop (mkF mM 0 #[.val (.ref a), .val (.ref x), .val (.int (0 : Int32)), .val (.int (0 : Int32)), .val .null, .unset] [])) _
    refine XS.aloadN X0.here hx rfl (hb hby dt3_0) rfl rfl ?_
    exact kg)
  clear pre0
  obtain ⟨T2, X2, e2, st2⟩ := initO X0 hx hZ hown (hw _ (List.mem_of_getElem? (i := 27) rfl)) (hw _ (List.mem_of_getElem? (i := 28) rfl)) (hw _ (List.mem_of_getElem? (i := 29) rfl)) e0 (g := (mkF mM 1 #[.val (.ref a), .val (.ref x), .val (.int (0 : Int32)), .val (.int (0 : Int32)), .val .null, .unset] [(.ref a)])) rfl (by rw [hml]; rfl) rfl (hb hby dt3_1) (by decide) (W := 0) (by show 2 * 0 + _ ≤ _; exact Nat.le_of_eq rfl) (by decide)
  have pr3 : ∀ tg, Steps pP.tables eE below (T2.setTop (mkF mM 4 #[.val (.ref a), .val (.ref x), .val (.int (0 : Int32)), .val (.int (0 : Int32)), .val .null, .unset] [])) tg → Steps pP.tables eE below (s₁.setTop (entryFrame mM #[(.ref a), (.ref x), (.int (0 : Int32)), (.int (0 : Int32)), .null] 6)) tg := fun tg kg => pr1 _ (st2 _ kg)
  clear pr1 st2 X0 e0
  have pr4 : ∀ tg, Steps pP.tables eE below (T2.setTop (mkF mM 9 #[.val (.ref a), .val (.ref x), .val (.int (0 : Int32)), .val (.int (0 : Int32)), .val .null, .unset] [(.ref a)])) tg → Steps pP.tables eE below (s₁.setTop (entryFrame mM #[(.ref a), (.ref x), (.int (0 : Int32)), (.int (0 : Int32)), .null] 6)) tg := fun tg kg => pr3 _ (by
    show Steps pP.tables eE below (T2.setTop (mkF mM 4 #[.val (.ref a), .val (.ref x), .val (.int (0 : Int32)), .val (.int (0 : Int32)), .val .null, .unset] [])) _
    refine XS.iloadN X2.here hx rfl (hb hby dt3_4) rfl ?_
    refine XS.ifNo X2.here hx rfl (hb hby dt3_5) rfl ((if0 _ _).trans (teq (by decide)).2) ?_
    refine XS.aloadN X2.here hx rfl (hb hby dt3_8) rfl rfl ?_
    exact kg)
  clear pr3
  obtain ⟨a5, T5, h5, kk5, b5, kc5, X5, e5, E5, hS, hk5, hZ, hown, Es5, Fc5, Fv5, V5, la5, lb5, A5, -, hn5, st5⟩ := ldcCH (s := sS) (vm0 := sS.vm) (EL := consts_1) X2 hx hZ hown (hw _ (List.mem_of_getElem? (i := 30) rfl)) wS e2 hS (Nat.zero_le _) hEW (List.mem_of_getElem? (i := 2) rfl) cr0.1 (vs := []) (z := (0 : Int32)) ⟨by decide, rfl⟩ (by decide) rfl (g := (mkF mM 9 #[.val (.ref a), .val (.ref x), .val (.int (0 : Int32)), .val (.int (0 : Int32)), .val .null, .unset] [(.ref a)])) rfl (hb hby dt3_9) (n := 0) (by decide) (by decide) (by decide) (by decide)
  have sf6_a := CHr.safe A5 (E_a).lt sf0_a
  have cr6 := CHr.trans cr0 A5
  have pr7 : ∀ tg, Steps pP.tables eE below (T5.setTop (mkF mM 11 #[.val (.ref a), .val (.ref x), .val (.int (0 : Int32)), .val (.int (0 : Int32)), .val .null, .unset] [(.ref a5), (.ref a)])) tg → Steps pP.tables eE below (s₁.setTop (entryFrame mM #[(.ref a), (.ref x), (.int (0 : Int32)), (.int (0 : Int32)), .null] 6)) tg := fun tg kg => pr4 _ (st5 _ kg)
  clear pr4 st5 X2 e2
  obtain ⟨T8, X8, e8, st8⟩ := getF X5 hx hZ hown (host := "") (Or.inl (hw _ (List.mem_of_getElem? (i := 31) rfl))) Via.refl e5 Fv5 (g := (mkF mM 11 #[.val (.ref a), .val (.ref x), .val (.int (0 : Int32)), .val (.int (0 : Int32)), .val .null, .unset] [(.ref a5), (.ref a)])) rfl rfl (hb hby dt3_11)
  have pr9 : ∀ tg, Steps pP.tables eE below (T8.setTop (mkF mM 14 #[.val (.ref a), .val (.ref x), .val (.int (0 : Int32)), .val (.int (0 : Int32)), .val .null, .unset] [(.ref b5), (.ref a)])) tg → Steps pP.tables eE below (s₁.setTop (entryFrame mM #[(.ref a), (.ref x), (.int (0 : Int32)), (.int (0 : Int32)), .null] 6)) tg := fun tg kg => pr7 _ (st8 _ kg)
  clear pr7 st8 X5 e5
  have c10 := (Fld.ext E5 F_v)
  have c11 := (Exa.ext E5 E_a)
  obtain ⟨T12, h12, X12, e12, W12, st12⟩ := putF X8 hx hZ hown (host := "") (Or.inl (hw _ (List.mem_of_getElem? (i := 31) rfl))) Via.refl e8 c10 c11 (Or.inr ⟨(hw _ (List.mem_of_getElem? (i := 4) rfl)), rfl, hnm⟩) (hw _ (List.mem_of_getElem? (i := 2) rfl)) (ty := (.array .byte)) (by decide) rfl rfl (g := (mkF mM 14 #[.val (.ref a), .val (.ref x), .val (.int (0 : Int32)), .val (.int (0 : Int32)), .val .null, .unset] [(.ref b5), (.ref a)])) rfl rfl (hb hby dt3_14)
  have Fw12 := Fld.same W12 c10
  have N12 := Fr.snoc X12 N0 g_a
  have sf13_a := Safe.wr W12 sf6_a cr6.1 sf6_a
  have cr13 := CHr.trans cr6 (CHr.wr W12 sf6_a cr6.1)
  have pr14 : ∀ tg, Steps pP.tables eE below (T12.setTop (mkF mM 17 #[.val (.ref a), .val (.ref x), .val (.int (0 : Int32)), .val (.int (0 : Int32)), .val .null, .unset] [])) tg → Steps pP.tables eE below (s₁.setTop (entryFrame mM #[(.ref a), (.ref x), (.int (0 : Int32)), (.int (0 : Int32)), .null] 6)) tg := fun tg kg => pr9 _ (st12 _ kg)
  clear pr9 st12 X8 e8
  have c15 := (Nat.le_trans hk5 (Keep.of_wr W12).1)
  have pr16 : ∀ tg, Steps pP.tables eE below (T12.setTop (mkF mM 18 #[.val (.ref a), .val (.ref x), .val (.int (0 : Int32)), .val (.int (0 : Int32)), .val .null, .unset] [(.ref a)])) tg → Steps pP.tables eE below (s₁.setTop (entryFrame mM #[(.ref a), (.ref x), (.int (0 : Int32)), (.int (0 : Int32)), .null] 6)) tg := fun tg kg => pr14 _ (by
    show Steps pP.tables eE below (T12.setTop (mkF mM 17 #[.val (.ref a), .val (.ref x), .val (.int (0 : Int32)), .val (.int (0 : Int32)), .val .null, .unset] [])) _
    refine XS.aloadN X12.here hx rfl (hb hby dt3_17) rfl rfl ?_
    exact kg)
  clear pr14
  obtain ⟨a17, T17, h17, kk17, b17, kc17, X17, e17, E17, hS, hk17, hZ, hown, Es17, Fc17, Fv17, V17, la17, lb17, A17, -, hn17, st17⟩ := ldcCH (s := sS) (vm0 := T5.vm) (EL := consts_1) X12 hx hZ hown (hw _ (List.mem_of_getElem? (i := 30) rfl)) wS e12 hS c15 hEW (List.mem_of_getElem? (i := 2) rfl) cr13.1 (vs := []) (z := (0 : Int32)) ⟨by decide, rfl⟩ (by decide) rfl (g := (mkF mM 18 #[.val (.ref a), .val (.ref x), .val (.int (0 : Int32)), .val (.int (0 : Int32)), .val .null, .unset] [(.ref a)])) rfl (hb hby dt3_18) (n := 0) (by decide) (by decide) (by decide) (by decide)
  have c19 := (Exa.wr W12 c11)
  have sf18_a := CHr.safe A17 (c19).lt sf13_a
  have cr18 := CHr.trans cr13 A17
  have pr20 : ∀ tg, Steps pP.tables eE below (T17.setTop (mkF mM 20 #[.val (.ref a), .val (.ref x), .val (.int (0 : Int32)), .val (.int (0 : Int32)), .val .null, .unset] [(.ref a17), (.ref a)])) tg → Steps pP.tables eE below (s₁.setTop (entryFrame mM #[(.ref a), (.ref x), (.int (0 : Int32)), (.int (0 : Int32)), .null] 6)) tg := fun tg kg => pr16 _ (st17 _ kg)
  clear pr16 st17 X12 e12
  obtain ⟨T21, X21, e21, st21⟩ := getF X17 hx hZ hown (host := "") (Or.inl (hw _ (List.mem_of_getElem? (i := 32) rfl))) Via.refl e17 Fc17 (g := (mkF mM 20 #[.val (.ref a), .val (.ref x), .val (.int (0 : Int32)), .val (.int (0 : Int32)), .val .null, .unset] [(.ref a17), (.ref a)])) rfl rfl (hb hby dt3_20)
  have pr22 : ∀ tg, Steps pP.tables eE below (T21.setTop (mkF mM 23 #[.val (.ref a), .val (.ref x), .val (.int (0 : Int32)), .val (.int (0 : Int32)), .val .null, .unset] [(.int (0 : Int32)), (.ref a)])) tg → Steps pP.tables eE below (s₁.setTop (entryFrame mM #[(.ref a), (.ref x), (.int (0 : Int32)), (.int (0 : Int32)), .null] 6)) tg := fun tg kg => pr20 _ (st21 _ kg)
  clear pr20 st21 X17 e17
  have c23 := (Fld.ext E17 (Fld.other W12 (Fld.ext E5 F_c) (Or.inr (slot_ne (C := "java/lang/String") (Or.inr (hw _ (List.mem_of_getElem? (i := 5) rfl))) (Or.inr (hw _ (List.mem_of_getElem? (i := 4) rfl))) (by decide) (t := .byte) (t' := (.array .byte)) (by decide) (by decide)))))
  have c24 := (Exa.ext E17 c19)
  obtain ⟨T25, h25, X25, e25, W25, st25⟩ := putFN X21 hx hZ hown (hw _ (List.mem_of_getElem? (i := 32) rfl)) Via.refl e21 c23 c24 (Or.inr ⟨(hw _ (List.mem_of_getElem? (i := 5) rfl)), rfl, hnm⟩) (hw _ (List.mem_of_getElem? (i := 2) rfl)) (ty := .byte) (v' := .int (0 : Int32)) (by decide) rfl (by decide) (g := (mkF mM 23 #[.val (.ref a), .val (.ref x), .val (.int (0 : Int32)), .val (.int (0 : Int32)), .val .null, .unset] [(.int (0 : Int32)), (.ref a)])) rfl rfl (hb hby dt3_23)
  have Fw25 := Fld.same W25 c23
  have N25 := Fr.snoc X25 N12 g_a
  have sf26_a := Safe.wr W25 sf18_a cr18.1 sf18_a
  have cr26 := CHr.trans cr18 (CHr.wr W25 sf18_a cr18.1)
  have pr27 : ∀ tg, Steps pP.tables eE below (T25.setTop (mkF mM 26 #[.val (.ref a), .val (.ref x), .val (.int (0 : Int32)), .val (.int (0 : Int32)), .val .null, .unset] [])) tg → Steps pP.tables eE below (s₁.setTop (entryFrame mM #[(.ref a), (.ref x), (.int (0 : Int32)), (.int (0 : Int32)), .null] 6)) tg := fun tg kg => pr22 _ (st25 _ kg)
  clear pr22 st25 X21 e21
  have c28 := (Keep.wr (Keep.ext (Keep.wr (Keep.ext (Keep.refl h0 [a]) E5) W12 (Or.inl (List.mem_of_getElem? (i := 0) rfl))) E17) W25 (Or.inl (List.mem_of_getElem? (i := 0) rfl)))
  have c29 := (Exa.wr W25 c24)
  have c30 := (Fld.other W25 (Fld.ext E17 Fw12) (Or.inr (slot_ne (C := "java/lang/String") (Or.inr (hw _ (List.mem_of_getElem? (i := 4) rfl))) (Or.inr (hw _ (List.mem_of_getElem? (i := 5) rfl))) (by decide) (t := (.array .byte)) (t' := .byte) (by decide) (by decide))))
  have c31 := (Arv.other (Arv.ext (Arv.other V5 W12 (Ne.symm (hn5 a sf6_a).2)) E17) W25 (Ne.symm (hn5 a sf6_a).2))
  have c32 := (Nat.le_trans hk17 (Keep.of_wr W25).1)
  obtain ⟨fs, hr, hrun, hended, hW⟩ := Jvm.Stand.leaveW (s := sS) (vm₁ := T17.vm) X25 hS (Nat.le_trans c32 (Nat.le_of_eq (congrArg Array.size e25.symm))) (v := none) (fun _ => rfl)
  have crE := CHr.trans cr26 (CHv.at (s := sS) (vm0 := T17.vm) X25 hZ hEW cr26.1)
  refine ⟨_, _, pr27 _ (X25.returnOut hx Bd.returns (hb hby dt3_26) hr), hrun, hended, _, _, rfl, ?_, ?_, hW.1, hW.2.1, hW.2.2.1, hW.2.2.2.mono (by decide) (by decide)⟩
  rotate_left
  · show CHr Z consts_1 sS.vm sS.heap T25.vm T25.heap
    rw [hh, e25]; exact crE
  show Qt3 Z a x h0 n0 _ T25.heap _
  rw [e25]
  exact ⟨rfl, N25, c28, c29, Fw25, b5, _, c30, c31⟩
theorem pd_1 : parseMethodDescriptor "([CIILjava/lang/Void;)V" = some ⟨[(.array .char), .int, .int, (.object "java/lang/Void")], none⟩ := by decide +kernel
theorem dt4_0 : decode jdk_42_method_3_code 0 = .ok (.aload_n 0, 1) := by decide +kernel
theorem dt4_1 : decode jdk_42_method_3_code 1 = .ok (.aload_n 1, 1) := by decide +kernel
theorem dt4_2 : decode jdk_42_method_3_code 2 = .ok (.iconst 0, 1) := by decide +kernel
theorem dt4_3 : decode jdk_42_method_3_code 3 = .ok (.aload_n 1, 1) := by decide +kernel
theorem dt4_4 : decode jdk_42_method_3_code 4 = .ok (.arraylength, 1) := by decide +kernel
theorem dt4_5 : decode jdk_42_method_3_code 5 = .ok (.aconst_null, 1) := by decide +kernel
theorem dt4_6 : decode jdk_42_method_3_code 6 = .ok (.invokespecial 27, 3) := by decide +kernel
theorem dt4_9 : decode jdk_42_method_3_code 9 = .ok (.return_, 1) := by decide +kernel
theorem ef_t4 (mM : MethodId) (x0 : Addr) (x1 : Addr) : entryFrame mM #[(.ref x0), (.ref x1)] 2 = mkF mM 0 #[.val (.ref x0), .val (.ref x1)] [] := by first | (simp [entryFrame, mkF, argsToLocals, Value.category]; done) | rfl
def Qt4 (Z : State) (a : Addr) (x : Addr) (kx : ClassId) (h0 : Heap) (n0 : Nat) (v : Option Value) (h : Heap) (L : List Loc) : Prop := v = none ∧ Fr n0 L ∧ Keep h0 h [a] ∧ Exa Z h a "java/lang/String" ∧ Fld Z h a "java/lang/String" "coder" "B" (.int (0 : Int32)) ∧ ∃ (t : Addr) (kb : ClassId), Fld Z h a "java/lang/String" "value" "[B" (.ref t) ∧ Arv Z h t kb .byte (0 : Int32) [] (.int (0 : Int32))
set_option maxRecDepth 65536 in
set_option maxHeartbeats 40000000 in
theorem rmt4 (l : Launch) (Z : State) (a0 : Array Value) (hw : ∀ d ∈ tables_1, d.before a0 Z = true) (ws : List Jvm.Cond) (a : Addr) (x : Addr) (kx : ClassId) (h0 : Heap) (n0 : Nat) (Z0 : n0 ≤ h0.size) (E_a : Exa Z h0 a "java/lang/String") (g_a : n0 ≤ a) (F_v : Fld Z h0 a "java/lang/String" "value" "[B" .null) (F_c : Fld Z h0 a "java/lang/String" "coder" "B" (.int (0 : Int32))) (V_x : Arv Z h0 x kx .char (0 : Int32) [] (.int (0 : Int32))) :
    MetFree l (⟨"java/lang/String", "<init>", "([C)V"⟩ : MethodName) (head1 (Jvm.Cond.code (⟨"java/lang/String", "<init>", "([C)V"⟩ : MethodName) jdk_42_method_3_code 2 none :: ws) ({ frames := 2, cells := 4, slots := 8, locals := 29 } : Room)) (fun aA uU => aA = #[(.ref a), (.ref x)] ∧ Z.Warmed39 uU.vm ∧ uU.heap = h0 ∧ CHv Z consts_1 uU.vm h0) (fun _ _ _ _ _ => True) (fun _ uU oO uU' => ∃ vV lL, oO = .returned vV ∧ Qt4 Z a x kx h0 n0 vV uU'.heap lL ∧ CHr Z consts_1 uU.vm uU.heap uU'.vm uU'.heap ∧ ReturnedEndW uU oO uU' lL ({ frames := 2, cells := 4, slots := 8, locals := 29 } : Room).cells ({ frames := 2, cells := 4, slots := 8, locals := 29 } : Room).slots) := by
  refine MetFree.of_bodySF (plainFor_of_name pn_0) hisR ?_
  intro pP eE sS mM args below meth cC s₁ Bd hml0 hP hK
  obtain ⟨rfl, hZ, hh, hCH0⟩ := hP
  have hS : sS.Since sS.vm 0 := (State.WarmedH.refl sS).since 0
  have wS : ∀ a ∈ Bundle.stringAtoms, a.before a0 Z = true := fun a ha => hw a ((by decide +kernel : ∀ a ∈ Bundle.stringAtoms, a ∈ tables_1) a ha)
  have hEW := own_ew hw
  have cr0 := CHr.refl hCH0
  have hx := Bd.exec
  have hby := Bd.bytes
  have hml : cC.maxLocals = 2 := hml0
  have hown : sS.vm.findClass "java/lang/String" = some mM.cls := findClass_of_methodNamed Bd.named
  have hnm := (name_of_methodNamed Bd.named Bd.method).1
  have X0 : Stand pP l eE ({ frames := 2, cells := 4, slots := 8, locals := 29 } : Room) sS mM #[(.ref a), (.ref x)] below meth cC s₁ [] 0 0 := Stand.of_body Bd
  have e0 : s₁.heap = h0 := by rw [← hh, Bd.state]; rfl
  have N0 := Fr.nil n0
  have pre0 : ∀ tg, Steps pP.tables eE below (s₁.setTop (mkF mM 0 #[.val (.ref a), .val (.ref x)] [])) tg → Steps pP.tables eE below (s₁.setTop (entryFrame mM #[(.ref a), (.ref x)] 2)) tg := fun tg kg => castTop (ef_t4 mM a x) kg
  have sf0_a : Safe Z consts_1 sS.vm h0 a := own_safe hZ.alike E_a F_v
  obtain ⟨cla1, Ara1, qa1, Sa1, Ma1, Ha1, Ga1⟩ := id V_x
  have pr2 : ∀ tg, Steps pP.tables eE below (s₁.setTop (mkF mM 6 #[.val (.ref a), .val (.ref x)] [.null, (.int (0 : Int32)), (.int (0 : Int32)), (.ref x), (.ref a)])) tg → Steps pP.tables eE below (s₁.setTop (entryFrame mM #[(.ref a), (.ref x)] 2)) tg := fun tg kg => pre0 _ (by
    show Steps pP.tables eE below (s₁.setTop (mkF mM 0 #[.val (.ref a), .val (.ref x)] [])) _
    refine XS.aloadN X0.here hx rfl (hb hby dt4_0) rfl rfl ?_
    refine XS.aloadN X0.here hx rfl (hb hby dt4_1) rfl rfl ?_
    refine XS.iconst X0.here hx rfl (hb hby dt4_2) ?_
    refine XS.aloadN X0.here hx rfl (hb hby dt4_3) rfl rfl ?_
    show Steps pP.tables eE below (s₁.setTop (mkF mM 4 #[.val (.ref a), .val (.ref x)] [(.ref x), (.int (0 : Int32)), (.ref x), (.ref a)])) _
    refine X0.arraylength hx (by rw [e0]; exact Ara1.1) (State.isArrayOf_alike hZ.alike Ara1.2.1) (g := (mkF mM 4 #[.val (.ref a), .val (.ref x)] [(.ref x), (.int (0 : Int32)), (.ref x), (.ref a)])) rfl rfl (hb hby dt4_4) _ ?_
    rw [len_of Sa1 Ma1]
    show Steps pP.tables eE below (s₁.setTop (mkF mM 5 #[.val (.ref a), .val (.ref x)] [(.int (0 : Int32)), (.int (0 : Int32)), (.ref x), (.ref a)])) _
    refine XS.aconstNull X0.here hx rfl (hb hby dt4_5) ?_
    exact kg)
  clear pre0
  obtain ⟨_, _, ⟨T3, L3, kk3, nn3⟩, -, X3, hSq3, -, ⟨Lc3, hQ3, l3, y3, z3, A3⟩, st3⟩ := Jvm.Stand.specialBackS (s := sS.setVm sS.vm) X0 hx (y := (⟨"java/lang/String", "<init>", "([CIILjava/lang/Void;)V"⟩ : MethodName)) rfl hown (mvT hZ (hw _ (List.mem_of_getElem? (i := 23) rfl))) (mvT hZ (hw _ (List.mem_of_getElem? (i := 24) rfl))) (mvT hZ (hw _ (List.mem_of_getElem? (i := 26) rfl))) (by decide) (backOfSH (s := sS) (vm0 := sS.vm) (EL := consts_1) (W := 0) (rmt3 l Z a0 hw [] a x h0 n0 Z0 E_a g_a F_v F_c) hZ (hw _ (List.mem_of_getElem? (i := 26) rfl)) (hw _ (List.mem_of_getElem? (i := 1) rfl)) (by decide) (by decide) hEW cr0.1) (g := (mkF mM 6 #[.val (.ref a), .val (.ref x)] [.null, (.int (0 : Int32)), (.int (0 : Int32)), (.ref x), (.ref a)])) rfl (by rw [hml]; rfl) (Steps.refl _) (a := a) (argsL := [(.ref x), (.int (0 : Int32)), (.int (0 : Int32)), .null]) (rest := []) (lenOf pd_1 rfl) rfl (by show 2 * 0 + _ ≤ _; exact Nat.le_of_eq rfl) (hb hby dt4_6) (fun _ _ => ⟨rfl, e0, (by decide : 0 + 4 ≤ _), (by decide : 0 + 8 ≤ _)⟩)
  dsimp only [Pt.U, Pt.locs, Pt.cells, Pt.slots] at X3 l3 y3 z3 st3 hQ3 hSq3 A3
  subst l3 y3 z3
  have hS : sS.Since T3.vm T3.heap.size := hS.trans hSq3 (Nat.le_trans (Nat.zero_le _) A3.2.1)
  have hown : (sS.setVm T3.vm).vm.findClass "java/lang/String" = some mM.cls := by rw [show (sS.setVm T3.vm).vm = T3.vm from rfl, hSq3.1.alike.findClass]; exact hown
  have hZ : Z.Warmed39 (sS.setVm T3.vm).vm := State.Warmed39.trans (t := sS.setVm sS.vm) hZ hSq3.1
  have sf4_a := CHr.safe A3 (E_a).lt sf0_a
  have cr4 := CHr.trans cr0 A3
  obtain ⟨rfl, Nq3, K3, E3, Fc3, te3, kt3, Fv3, V3⟩ := hQ3
  have N3 := Fr.app N0 Nq3
  have pr5 : ∀ tg, Steps pP.tables eE below (T3.setTop (mkF mM 9 #[.val (.ref a), .val (.ref x)] [])) tg → Steps pP.tables eE below (s₁.setTop (entryFrame mM #[(.ref a), (.ref x)] 2)) tg := fun tg kg => pr2 _ (st3.trans kg)
  clear pr2 st3 X0 e0
  have c6 := (Keep.trans (Keep.refl h0 [a]) K3 (allS (Or.inl (List.mem_of_getElem? (i := 0) rfl)) all0))
  obtain ⟨fs, hr, hrun, hended, hW⟩ := Jvm.Stand.leaveW (s := sS) (vm₁ := T3.vm) X3 hS (Nat.le_trans (Nat.le_refl _) (Nat.le_of_eq (congrArg Array.size (rfl : T3.heap = T3.heap).symm))) (v := none) (fun _ => rfl)
  have crE := CHr.trans cr4 (CHv.at (s := sS) (vm0 := T3.vm) X3 hZ hEW cr4.1)
  refine ⟨_, _, pr5 _ (X3.returnOut hx Bd.returns (hb hby dt4_9) hr), hrun, hended, _, _, rfl, ?_, ?_, hW.1, hW.2.1, hW.2.2.1, hW.2.2.2.mono (by decide) (by decide)⟩
  rotate_left
  · show CHr Z consts_1 sS.vm sS.heap T3.vm T3.heap
    rw [hh]; exact crE
  show Qt4 Z a x kx h0 n0 _ T3.heap _
  exact ⟨rfl, N3, c6, E3, Fc3, te3, _, Fv3, V3⟩
theorem ds1_0 : decode jdk_42_method_154_code 0 = .ok (.getstatic 38, 3) := by decide +kernel
theorem ds1_3 : decode jdk_42_method_154_code 3 = .ok (.ifCond .eq 14, 3) := by decide +kernel
theorem ds1_6 : decode jdk_42_method_154_code 6 = .ok (.aload_n 0, 1) := by decide +kernel
theorem ds1_7 : decode jdk_42_method_154_code 7 = .ok (.getfield 15, 3) := by decide +kernel
theorem ds1_10 : decode jdk_42_method_154_code 10 = .ok (.ifCond .ne 7, 3) := by decide +kernel
theorem ds1_13 : decode jdk_42_method_154_code 13 = .ok (.iconst 1, 1) := by decide +kernel
theorem ds1_14 : decode jdk_42_method_154_code 14 = .ok (.goto 4, 3) := by decide +kernel
theorem ds1_18 : decode jdk_42_method_154_code 18 = .ok (.ireturn, 1) := by decide +kernel
theorem ef_s1 (mM : MethodId) (x0 : Addr) : entryFrame mM #[(.ref x0)] 1 = mkF mM 0 #[.val (.ref x0)] [] := by first | (simp [entryFrame, mkF, argsToLocals, Value.category]; done) | rfl
def Qs1 (Z : State) (cs : Int32) (sf : Value) (a : Addr) (h0 : Heap) (n0 : Nat) (v : Option Value) (h : Heap) (L : List Loc) : Prop := v = some (.int (1 : Int32)) ∧ Fr n0 L ∧ h = h0
set_option maxRecDepth 65536 in
set_option maxHeartbeats 40000000 in
theorem rms1 (l : Launch) (Z : State) (a0 : Array Value) (hw : ∀ d ∈ tables_1, d.before a0 Z = true) (ws : List Jvm.Cond) (cs : Int32) (sf : Value) (a : Addr) (h0 : Heap) (n0 : Nat) (Z0 : n0 ≤ h0.size) (O : Old Z n0 h0) (S_cs : Sta Z Z.heap "java/lang/String" "COMPACT_STRINGS" "Z" (.int cs)) (hcs : ¬ cs = (0 : Int32)) (S_sf : Sta Z Z.heap "jdk/internal/util/Preconditions" "SIOOBE_FORMATTER" "Ljava/util/function/BiFunction;" sf) (rsf : sf.isRef = true) (E_a : Exa Z h0 a "java/lang/String") (F_c : Fld Z h0 a "java/lang/String" "coder" "B" (.int (0 : Int32))) :
    MetFree l (⟨"java/lang/String", "isLatin1", "()Z"⟩ : MethodName) (head1 (Jvm.Cond.code (⟨"java/lang/String", "isLatin1", "()Z"⟩ : MethodName) jdk_42_method_154_code 1 (some .boolean) :: ws) ({ frames := 0, cells := 0, slots := 0, locals := 0 } : Room)) (fun aA uU => aA = #[(.ref a)] ∧ Z.Warmed39 uU.vm ∧ uU.heap = h0) (fun _ _ _ _ _ => True) (fun _ uU oO uU' => ∃ vV lL, oO = .returned vV ∧ Qs1 Z cs sf a h0 n0 vV uU'.heap lL ∧ FrameEnd uU oO uU' lL ({ frames := 0, cells := 0, slots := 0, locals := 0 } : Room).cells ({ frames := 0, cells := 0, slots := 0, locals := 0 } : Room).slots) := by
  refine MetFree.of_bodySF (plainFor_of_name pn_0) hisR ?_
  intro pP eE sS mM args below meth cC s₁ Bd hml0 hP hK
  obtain ⟨rfl, hZ, hh⟩ := hP
  have hx := Bd.exec
  have hby := Bd.bytes
  have hml : cC.maxLocals = 1 := hml0
  have hown : sS.vm.findClass "java/lang/String" = some mM.cls := findClass_of_methodNamed Bd.named
  have hnm := (name_of_methodNamed Bd.named Bd.method).1
  have X0 : Stand pP l eE ({ frames := 0, cells := 0, slots := 0, locals := 0 } : Room) sS mM #[(.ref a)] below meth cC s₁ [] 0 0 := Stand.of_body Bd
  have e0 : s₁.heap = h0 := by rw [← hh, Bd.state]; rfl
  have N0 := Fr.nil n0
  have pre0 : ∀ tg, Steps pP.tables eE below (s₁.setTop (mkF mM 0 #[.val (.ref a)] [])) tg → Steps pP.tables eE below (s₁.setTop (entryFrame mM #[(.ref a)] 1)) tg := fun tg kg => castTop (ef_s1 mM a) kg
  obtain ⟨T1, X1, e1, st1⟩ := getS2 X0 hx hZ hown (host := "") (Or.inl (hw _ (List.mem_of_getElem? (i := 62) rfl))) Via.refl e0 (Sta.ext (O).2 S_cs) (g := (mkF mM 0 #[.val (.ref a)] [])) rfl (hb hby ds1_0)
  have pr2 : ∀ tg, Steps pP.tables eE below (T1.setTop (mkF mM 3 #[.val (.ref a)] [(.int cs)])) tg → Steps pP.tables eE below (s₁.setTop (entryFrame mM #[(.ref a)] 1)) tg := fun tg kg => pre0 _ (st1 _ kg)
  clear pre0 st1 X0 e0
  have pr3 : ∀ tg, Steps pP.tables eE below (T1.setTop (mkF mM 7 #[.val (.ref a)] [(.ref a)])) tg → Steps pP.tables eE below (s₁.setTop (entryFrame mM #[(.ref a)] 1)) tg := fun tg kg => pr2 _ (by
    show Steps pP.tables eE below (T1.setTop (mkF mM 3 #[.val (.ref a)] [(.int cs)])) _
    refine XS.ifNo X1.here hx rfl (hb hby ds1_3) rfl ((if0 _ _).trans (feq hcs).1) ?_
    refine XS.aloadN X1.here hx rfl (hb hby ds1_6) rfl rfl ?_
    exact kg)
  clear pr2
  obtain ⟨T4, X4, e4, st4⟩ := getF X1 hx hZ hown (host := "") (Or.inl (hw _ (List.mem_of_getElem? (i := 32) rfl))) Via.refl e1 F_c (g := (mkF mM 7 #[.val (.ref a)] [(.ref a)])) rfl rfl (hb hby ds1_7)
  have pr5 : ∀ tg, Steps pP.tables eE below (T4.setTop (mkF mM 10 #[.val (.ref a)] [(.int (0 : Int32))])) tg → Steps pP.tables eE below (s₁.setTop (entryFrame mM #[(.ref a)] 1)) tg := fun tg kg => pr3 _ (st4 _ kg)
  clear pr3 st4 X1 e1
  have pr6 : ∀ tg, Steps pP.tables eE below (T4.setTop (mkF mM 18 #[.val (.ref a)] [(.int (1 : Int32))])) tg → Steps pP.tables eE below (s₁.setTop (entryFrame mM #[(.ref a)] 1)) tg := fun tg kg => pr5 _ (by
    show Steps pP.tables eE below (T4.setTop (mkF mM 10 #[.val (.ref a)] [(.int (0 : Int32))])) _
    refine XS.ifNo X4.here hx rfl (hb hby ds1_10) rfl ((if0 _ _).trans (teq (by decide)).2) ?_
    refine XS.iconst X4.here hx rfl (hb hby ds1_13) ?_
    refine XS.goto X4.here hx rfl (pc0 := 14) (pc' := 18) rfl (hb hby ds1_14) (by decide) (by decide) ?_
    exact kg)
  clear pr5
  obtain ⟨fs, hr, hrun, hended, hW, hsame⟩ := X4.leave (v := some (.int (1 : Int32))) (fun h => by rw [Bd.returns] at h; cases h)
  refine ⟨_, _, pr6 _ (retOut X4 hx (t := .boolean) Bd.returns rfl (Or.inl ⟨rfl, Or.inr (Or.inl rfl), _, rfl⟩) (hb hby ds1_18) hr), hrun, hended, _, _, rfl, ?_, ⟨_, rfl⟩, hW, hsame.mono (by decide) (by decide)⟩
  show Qs1 Z cs sf a h0 n0 _ T4.heap _
  rw [e4]
  exact ⟨rfl, N0, rfl⟩
theorem ds2_0 : decode jdk_41_method_11_code 0 = .ok (.iload_n 0, 1) := by decide +kernel
theorem ds2_1 : decode jdk_41_method_11_code 1 = .ok (.ifCond .lt 8, 3) := by decide +kernel
theorem ds2_4 : decode jdk_41_method_11_code 4 = .ok (.iload_n 0, 1) := by decide +kernel
theorem ds2_5 : decode jdk_41_method_11_code 5 = .ok (.iload_n 1, 1) := by decide +kernel
theorem ds2_6 : decode jdk_41_method_11_code 6 = .ok (.if_icmp .lt 10, 3) := by decide +kernel
theorem ds2_16 : decode jdk_41_method_11_code 16 = .ok (.iload_n 0, 1) := by decide +kernel
theorem ds2_17 : decode jdk_41_method_11_code 17 = .ok (.ireturn, 1) := by decide +kernel
theorem pn_1 : plainName "jdk/internal/util/Preconditions" = true := by first | (simp [plainName, overriddenIn]; done) | decide +kernel
theorem ef_s2 (mM : MethodId) (x0 : Int32) (x1 : Int32) (x2 : Value) (hx2 : x2.isRef = true) : entryFrame mM #[(.int x0), (.int x1), x2] 3 = mkF mM 0 #[.val (.int x0), .val (.int x1), .val x2] [] := by rcases ref_cases hx2 with rfl | ⟨_, rfl⟩ <;> first | (simp [entryFrame, mkF, argsToLocals, Value.category]; done) | rfl
def Qs2 (Z : State) (iv : Int32) (nv : Int32) (sf : Value) (h0 : Heap) (n0 : Nat) (v : Option Value) (h : Heap) (L : List Loc) : Prop := v = some (.int iv) ∧ Fr n0 L ∧ h = h0
set_option maxRecDepth 65536 in
set_option maxHeartbeats 40000000 in
theorem rms2 (l : Launch) (Z : State) (a0 : Array Value) (hw : ∀ d ∈ tables_1, d.before a0 Z = true) (ws : List Jvm.Cond) (iv : Int32) (nv : Int32) (sf : Value) (h0 : Heap) (n0 : Nat) (Z0 : n0 ≤ h0.size) (rsf : sf.isRef = true) (h1 : ¬ iv < (0 : Int32)) (h2 : iv < nv) :
    MetFree l (⟨"jdk/internal/util/Preconditions", "checkIndex", "(IILjava/util/function/BiFunction;)I"⟩ : MethodName) (head1 (Jvm.Cond.code (⟨"jdk/internal/util/Preconditions", "checkIndex", "(IILjava/util/function/BiFunction;)I"⟩ : MethodName) jdk_41_method_11_code 3 (some .int) :: ws) ({ frames := 0, cells := 0, slots := 0, locals := 0 } : Room)) (fun aA uU => aA = #[(.int iv), (.int nv), sf] ∧ Z.Warmed39 uU.vm ∧ uU.heap = h0) (fun _ _ _ _ _ => True) (fun _ uU oO uU' => ∃ vV lL, oO = .returned vV ∧ Qs2 Z iv nv sf h0 n0 vV uU'.heap lL ∧ FrameEnd uU oO uU' lL ({ frames := 0, cells := 0, slots := 0, locals := 0 } : Room).cells ({ frames := 0, cells := 0, slots := 0, locals := 0 } : Room).slots) := by
  refine MetFree.of_bodySF (plainFor_of_name pn_1) hisR ?_
  intro pP eE sS mM args below meth cC s₁ Bd hml0 hP hK
  obtain ⟨rfl, hZ, hh⟩ := hP
  have hx := Bd.exec
  have hby := Bd.bytes
  have hml : cC.maxLocals = 3 := hml0
  have hown : sS.vm.findClass "jdk/internal/util/Preconditions" = some mM.cls := findClass_of_methodNamed Bd.named
  have hnm := (name_of_methodNamed Bd.named Bd.method).1
  have X0 : Stand pP l eE ({ frames := 0, cells := 0, slots := 0, locals := 0 } : Room) sS mM #[(.int iv), (.int nv), sf] below meth cC s₁ [] 0 0 := Stand.of_body Bd
  have e0 : s₁.heap = h0 := by rw [← hh, Bd.state]; rfl
  have N0 := Fr.nil n0
  have pre0 : ∀ tg, Steps pP.tables eE below (s₁.setTop (mkF mM 0 #[.val (.int iv), .val (.int nv), .val sf] [])) tg → Steps pP.tables eE below (s₁.setTop (entryFrame mM #[(.int iv), (.int nv), sf] 3)) tg := fun tg kg => castTop (ef_s2 mM iv nv sf rsf) kg
  have pr1 : ∀ tg, Steps pP.tables eE below (s₁.setTop (mkF mM 17 #[.val (.int iv), .val (.int nv), .val sf] [(.int iv)])) tg → Steps pP.tables eE below (s₁.setTop (entryFrame mM #[(.int iv), (.int nv), sf] 3)) tg := fun tg kg => pre0 _ (by
    show Steps pP.tables eE below (s₁.setTop (mkF mM 0 #[.val (.int iv), .val (.int nv), .val sf] [])) _
    refine XS.iloadN X0.here hx rfl (hb hby ds2_0) rfl ?_
    refine XS.ifNo X0.here hx rfl (hb hby ds2_1) rfl ((if0 _ _).trans (flt h1).1) ?_
    refine XS.iloadN X0.here hx rfl (hb hby ds2_4) rfl ?_
    refine XS.iloadN X0.here hx rfl (hb hby ds2_5) rfl ?_
    refine XS.icmpYes X0.here hx rfl (pc0 := 6) (pc' := 16) rfl (hb hby ds2_6) rfl (tlt h2).1 (by decide) (by decide) ?_
    refine XS.iloadN X0.here hx rfl (hb hby ds2_16) rfl ?_
    exact kg)
  clear pre0
  obtain ⟨fs, hr, hrun, hended, hW, hsame⟩ := X0.leave (v := some (.int iv)) (fun h => by rw [Bd.returns] at h; cases h)
  refine ⟨_, _, pr1 _ (retOut X0 hx (t := .int) Bd.returns rfl (Or.inl ⟨rfl, Or.inl rfl, _, rfl⟩) (hb hby ds2_17) hr), hrun, hended, _, _, rfl, ?_, ⟨_, rfl⟩, hW, hsame.mono (by decide) (by decide)⟩
  show Qs2 Z iv nv sf h0 n0 _ s₁.heap _
  rw [e0]
  exact ⟨rfl, N0, rfl⟩
theorem pd_2 : parseMethodDescriptor "(IILjava/util/function/BiFunction;)I" = some ⟨[.int, .int, (.object "java/util/function/BiFunction")], some .int⟩ := by decide +kernel
theorem ds3_0 : decode jdk_42_method_155_code 0 = .ok (.iload_n 0, 1) := by decide +kernel
theorem ds3_1 : decode jdk_42_method_155_code 1 = .ok (.iload_n 1, 1) := by decide +kernel
theorem ds3_2 : decode jdk_42_method_155_code 2 = .ok (.getstatic 1053, 3) := by decide +kernel
theorem ds3_5 : decode jdk_42_method_155_code 5 = .ok (.invokestatic 1059, 3) := by decide +kernel
theorem ds3_8 : decode jdk_42_method_155_code 8 = .ok (.pop, 1) := by decide +kernel
theorem ds3_9 : decode jdk_42_method_155_code 9 = .ok (.return_, 1) := by decide +kernel
theorem ef_s3 (mM : MethodId) (x0 : Int32) (x1 : Int32) : entryFrame mM #[(.int x0), (.int x1)] 2 = mkF mM 0 #[.val (.int x0), .val (.int x1)] [] := by first | (simp [entryFrame, mkF, argsToLocals, Value.category]; done) | rfl
def Qs3 (Z : State) (cs : Int32) (sf : Value) (iv : Int32) (nv : Int32) (h0 : Heap) (n0 : Nat) (v : Option Value) (h : Heap) (L : List Loc) : Prop := v = none ∧ Fr n0 L ∧ h = h0
set_option maxRecDepth 65536 in
set_option maxHeartbeats 40000000 in
theorem rms3 (l : Launch) (Z : State) (a0 : Array Value) (hw : ∀ d ∈ tables_1, d.before a0 Z = true) (ws : List Jvm.Cond) (cs : Int32) (sf : Value) (iv : Int32) (nv : Int32) (h0 : Heap) (n0 : Nat) (Z0 : n0 ≤ h0.size) (O : Old Z n0 h0) (S_cs : Sta Z Z.heap "java/lang/String" "COMPACT_STRINGS" "Z" (.int cs)) (hcs : ¬ cs = (0 : Int32)) (S_sf : Sta Z Z.heap "jdk/internal/util/Preconditions" "SIOOBE_FORMATTER" "Ljava/util/function/BiFunction;" sf) (rsf : sf.isRef = true) (h1 : ¬ iv < (0 : Int32)) (h2 : iv < nv) :
    MetFree l (⟨"java/lang/String", "checkIndex", "(II)V"⟩ : MethodName) (head1 (Jvm.Cond.code (⟨"java/lang/String", "checkIndex", "(II)V"⟩ : MethodName) jdk_42_method_155_code 2 none :: ws) ({ frames := 1, cells := 0, slots := 0, locals := 14 } : Room)) (fun aA uU => aA = #[(.int iv), (.int nv)] ∧ Z.Warmed39 uU.vm ∧ uU.heap = h0) (fun _ _ _ _ _ => True) (fun _ uU oO uU' => ∃ vV lL, oO = .returned vV ∧ Qs3 Z cs sf iv nv h0 n0 vV uU'.heap lL ∧ FrameEnd uU oO uU' lL ({ frames := 1, cells := 0, slots := 0, locals := 14 } : Room).cells ({ frames := 1, cells := 0, slots := 0, locals := 14 } : Room).slots) := by
  refine MetFree.of_bodySF (plainFor_of_name pn_0) hisR ?_
  intro pP eE sS mM args below meth cC s₁ Bd hml0 hP hK
  obtain ⟨rfl, hZ, hh⟩ := hP
  have hx := Bd.exec
  have hby := Bd.bytes
  have hml : cC.maxLocals = 2 := hml0
  have hown : sS.vm.findClass "java/lang/String" = some mM.cls := findClass_of_methodNamed Bd.named
  have hnm := (name_of_methodNamed Bd.named Bd.method).1
  have X0 : Stand pP l eE ({ frames := 1, cells := 0, slots := 0, locals := 14 } : Room) sS mM #[(.int iv), (.int nv)] below meth cC s₁ [] 0 0 := Stand.of_body Bd
  have e0 : s₁.heap = h0 := by rw [← hh, Bd.state]; rfl
  have N0 := Fr.nil n0
  have pre0 : ∀ tg, Steps pP.tables eE below (s₁.setTop (mkF mM 0 #[.val (.int iv), .val (.int nv)] [])) tg → Steps pP.tables eE below (s₁.setTop (entryFrame mM #[(.int iv), (.int nv)] 2)) tg := fun tg kg => castTop (ef_s3 mM iv nv) kg
  have pr1 : ∀ tg, Steps pP.tables eE below (s₁.setTop (mkF mM 2 #[.val (.int iv), .val (.int nv)] [(.int nv), (.int iv)])) tg → Steps pP.tables eE below (s₁.setTop (entryFrame mM #[(.int iv), (.int nv)] 2)) tg := fun tg kg => pre0 _ (by
    show Steps pP.tables eE below (s₁.setTop (mkF mM 0 #[.val (.int iv), .val (.int nv)] [])) _
    refine XS.iloadN X0.here hx rfl (hb hby ds3_0) rfl ?_
    refine XS.iloadN X0.here hx rfl (hb hby ds3_1) rfl ?_
    exact kg)
  clear pre0
  obtain ⟨T2, X2, e2, st2⟩ := getS2 X0 hx hZ hown (host := "") (Or.inl (hw _ (List.mem_of_getElem? (i := 95) rfl))) Via.refl e0 (Sta.ext (O).2 S_sf) (g := (mkF mM 2 #[.val (.int iv), .val (.int nv)] [(.int nv), (.int iv)])) rfl (hb hby ds3_2)
  have pr3 : ∀ tg, Steps pP.tables eE below (T2.setTop (mkF mM 5 #[.val (.int iv), .val (.int nv)] [sf, (.int nv), (.int iv)])) tg → Steps pP.tables eE below (s₁.setTop (entryFrame mM #[(.int iv), (.int nv)] 2)) tg := fun tg kg => pr1 _ (st2 _ kg)
  clear pr1 st2 X0 e0
  obtain ⟨_, _, ⟨T4, L4, kk4, nn4⟩, -, X4, ⟨Lc4, hQ4, l4, y4, z4⟩, st4⟩ := Jvm.LawKit.callS X2 hx (y := (⟨"jdk/internal/util/Preconditions", "checkIndex", "(IILjava/util/function/BiFunction;)I"⟩ : MethodName)) hown (mvT hZ (hw _ (List.mem_of_getElem? (i := 97) rfl))) (mvT hZ (hw _ (List.mem_of_getElem? (i := 98) rfl))) (mvT hZ (hw _ (List.mem_of_getElem? (i := 96) rfl))) (mvT hZ (hw _ (List.mem_of_getElem? (i := 99) rfl))) (by decide) (backOf (W := 0) (rms2 l Z a0 hw [] iv nv sf h0 n0 Z0 rsf h1 h2) hZ (hw _ (List.mem_of_getElem? (i := 99) rfl)) (hw _ (List.mem_of_getElem? (i := 96) rfl)) (by decide) (by decide)) (g := (mkF mM 5 #[.val (.int iv), .val (.int nv)] [sf, (.int nv), (.int iv)])) rfl (by rw [hml]; rfl) (argsL := [(.int iv), (.int nv), sf]) (rest := []) (lenOf pd_2 rfl) rfl (by show 2 * 0 + _ ≤ _; exact Nat.le_of_eq rfl) (hb hby ds3_5) (fun _ _ => ⟨rfl, e2, (by decide : 0 + 0 ≤ _), (by decide : 0 + 0 ≤ _)⟩)
  dsimp only [Pt.U, Pt.locs, Pt.cells, Pt.slots] at X4 l4 y4 z4 st4 hQ4
  subst l4 y4 z4
  obtain ⟨rfl, Nq4, e4⟩ := hQ4
  have N4 := Fr.app N0 Nq4
  have pr5 : ∀ tg, Steps pP.tables eE below (T4.setTop (mkF mM 8 #[.val (.int iv), .val (.int nv)] [(.int iv)])) tg → Steps pP.tables eE below (s₁.setTop (entryFrame mM #[(.int iv), (.int nv)] 2)) tg := fun tg kg => pr3 _ (st4 _ kg)
  clear pr3 st4 X2 e2
  have pr6 : ∀ tg, Steps pP.tables eE below (T4.setTop (mkF mM 9 #[.val (.int iv), .val (.int nv)] [])) tg → Steps pP.tables eE below (s₁.setTop (entryFrame mM #[(.int iv), (.int nv)] 2)) tg := fun tg kg => pr5 _ (by
    show Steps pP.tables eE below (T4.setTop (mkF mM 8 #[.val (.int iv), .val (.int nv)] [(.int iv)])) _
    refine XS.pop X4.here hx rfl (hb hby ds3_8) rfl rfl ?_
    exact kg)
  clear pr5
  obtain ⟨fs, hr, hrun, hended, hW, hsame⟩ := X4.leave (v := none) (fun _ => rfl)
  refine ⟨_, _, pr6 _ (X4.returnOut hx Bd.returns (hb hby ds3_9) hr), hrun, hended, _, _, rfl, ?_, ⟨_, rfl⟩, hW, hsame.mono (by decide) (by decide)⟩
  show Qs3 Z cs sf iv nv h0 n0 _ T4.heap _
  rw [e4]
  exact ⟨rfl, N4, rfl⟩
theorem pd_3 : parseMethodDescriptor "(II)V" = some ⟨[.int, .int], none⟩ := by decide +kernel
theorem ds4_0 : decode jdk_43_method_2_code 0 = .ok (.iload_n 1, 1) := by decide +kernel
theorem ds4_1 : decode jdk_43_method_2_code 1 = .ok (.aload_n 0, 1) := by decide +kernel
theorem ds4_2 : decode jdk_43_method_2_code 2 = .ok (.arraylength, 1) := by decide +kernel
theorem ds4_3 : decode jdk_43_method_2_code 3 = .ok (.invokestatic 9, 3) := by decide +kernel
theorem ds4_6 : decode jdk_43_method_2_code 6 = .ok (.aload_n 0, 1) := by decide +kernel
theorem ds4_7 : decode jdk_43_method_2_code 7 = .ok (.iload_n 1, 1) := by decide +kernel
theorem ds4_8 : decode jdk_43_method_2_code 8 = .ok (.baload, 1) := by decide +kernel
theorem ds4_9 : decode jdk_43_method_2_code 9 = .ok (.sipush 255, 3) := by decide +kernel
theorem ds4_12 : decode jdk_43_method_2_code 12 = .ok (.iand, 1) := by decide +kernel
theorem ds4_13 : decode jdk_43_method_2_code 13 = .ok (.i2c, 1) := by decide +kernel
theorem ds4_14 : decode jdk_43_method_2_code 14 = .ok (.ireturn, 1) := by decide +kernel
theorem pn_2 : plainName "java/lang/StringLatin1" = true := by first | (simp [plainName, overriddenIn]; done) | decide +kernel
theorem ef_s4 (mM : MethodId) (x0 : Addr) (x1 : Int32) : entryFrame mM #[(.ref x0), (.int x1)] 2 = mkF mM 0 #[.val (.ref x0), .val (.int x1)] [] := by first | (simp [entryFrame, mkF, argsToLocals, Value.category]; done) | rfl
def Qs4 (Z : State) (cs : Int32) (sf : Value) (b : Addr) (cl : Cell) (nv : Int32) (iv : Int32) (uv : Int32) (h0 : Heap) (n0 : Nat) (v : Option Value) (h : Heap) (L : List Loc) : Prop := v = some (.int (uv &&& (255 : Int32)).toUInt32.toUInt16.toUInt32.toInt32) ∧ Fr n0 L ∧ h = h0
set_option maxRecDepth 65536 in
set_option maxHeartbeats 40000000 in
theorem rms4 (l : Launch) (Z : State) (a0 : Array Value) (hw : ∀ d ∈ tables_1, d.before a0 Z = true) (ws : List Jvm.Cond) (cs : Int32) (sf : Value) (b : Addr) (cl : Cell) (nv : Int32) (iv : Int32) (uv : Int32) (h0 : Heap) (n0 : Nat) (Z0 : n0 ≤ h0.size) (O : Old Z n0 h0) (S_cs : Sta Z Z.heap "java/lang/String" "COMPACT_STRINGS" "Z" (.int cs)) (hcs : ¬ cs = (0 : Int32)) (S_sf : Sta Z Z.heap "jdk/internal/util/Preconditions" "SIOOBE_FORMATTER" "Ljava/util/function/BiFunction;" sf) (rsf : sf.isRef = true) (Ar : Arr Z h0 b cl .byte) (Sz : cl.slots.size = nv.toNatClampNeg) (Mz : ¬ nv < 0) (h1 : ¬ iv < (0 : Int32)) (h2 : iv < nv) (hat : cl.slots[iv.toNatClampNeg]? = some (.int uv)) :
    MetFree l (⟨"java/lang/StringLatin1", "charAt", "([BI)C"⟩ : MethodName) (head1 (Jvm.Cond.code (⟨"java/lang/StringLatin1", "charAt", "([BI)C"⟩ : MethodName) jdk_43_method_2_code 2 (some .char) :: ws) ({ frames := 2, cells := 0, slots := 0, locals := 27 } : Room)) (fun aA uU => aA = #[(.ref b), (.int iv)] ∧ Z.Warmed39 uU.vm ∧ uU.heap = h0) (fun _ _ _ _ _ => True) (fun _ uU oO uU' => ∃ vV lL, oO = .returned vV ∧ Qs4 Z cs sf b cl nv iv uv h0 n0 vV uU'.heap lL ∧ FrameEnd uU oO uU' lL ({ frames := 2, cells := 0, slots := 0, locals := 27 } : Room).cells ({ frames := 2, cells := 0, slots := 0, locals := 27 } : Room).slots) := by
  refine MetFree.of_bodySF (plainFor_of_name pn_2) hisR ?_
  intro pP eE sS mM args below meth cC s₁ Bd hml0 hP hK
  obtain ⟨rfl, hZ, hh⟩ := hP
  have hx := Bd.exec
  have hby := Bd.bytes
  have hml : cC.maxLocals = 2 := hml0
  have hown : sS.vm.findClass "java/lang/StringLatin1" = some mM.cls := findClass_of_methodNamed Bd.named
  have hnm := (name_of_methodNamed Bd.named Bd.method).1
  have X0 : Stand pP l eE ({ frames := 2, cells := 0, slots := 0, locals := 27 } : Room) sS mM #[(.ref b), (.int iv)] below meth cC s₁ [] 0 0 := Stand.of_body Bd
  have e0 : s₁.heap = h0 := by rw [← hh, Bd.state]; rfl
  have N0 := Fr.nil n0
  have pre0 : ∀ tg, Steps pP.tables eE below (s₁.setTop (mkF mM 0 #[.val (.ref b), .val (.int iv)] [])) tg → Steps pP.tables eE below (s₁.setTop (entryFrame mM #[(.ref b), (.int iv)] 2)) tg := fun tg kg => castTop (ef_s4 mM b iv) kg
  have pr1 : ∀ tg, Steps pP.tables eE below (s₁.setTop (mkF mM 3 #[.val (.ref b), .val (.int iv)] [(.int nv), (.int iv)])) tg → Steps pP.tables eE below (s₁.setTop (entryFrame mM #[(.ref b), (.int iv)] 2)) tg := fun tg kg => pre0 _ (by
    show Steps pP.tables eE below (s₁.setTop (mkF mM 0 #[.val (.ref b), .val (.int iv)] [])) _
    refine XS.iloadN X0.here hx rfl (hb hby ds4_0) rfl ?_
    refine XS.aloadN X0.here hx rfl (hb hby ds4_1) rfl rfl ?_
    show Steps pP.tables eE below (s₁.setTop (mkF mM 2 #[.val (.ref b), .val (.int iv)] [(.ref b), (.int iv)])) _
    refine X0.arraylength hx (by rw [e0]; exact Ar.1) (State.isArrayOf_alike hZ.alike Ar.2.1) (g := (mkF mM 2 #[.val (.ref b), .val (.int iv)] [(.ref b), (.int iv)])) rfl rfl (hb hby ds4_2) _ ?_
    rw [len_of Sz Mz]
    exact kg)
  clear pre0
  obtain ⟨_, _, ⟨T2, L2, kk2, nn2⟩, -, X2, ⟨Lc2, hQ2, l2, y2, z2⟩, st2⟩ := Jvm.LawKit.callS X0 hx (y := (⟨"java/lang/String", "checkIndex", "(II)V"⟩ : MethodName)) hown (mvT hZ (hw _ (List.mem_of_getElem? (i := 92) rfl))) (mvT hZ (hw _ (List.mem_of_getElem? (i := 93) rfl))) (mvT hZ (hw _ (List.mem_of_getElem? (i := 1) rfl))) (mvT hZ (hw _ (List.mem_of_getElem? (i := 94) rfl))) (by decide) (backOf (W := 0) (rms3 l Z a0 hw [] cs sf iv nv h0 n0 Z0 O S_cs hcs S_sf rsf h1 h2) hZ (hw _ (List.mem_of_getElem? (i := 94) rfl)) (hw _ (List.mem_of_getElem? (i := 1) rfl)) (by decide) (by decide)) (g := (mkF mM 3 #[.val (.ref b), .val (.int iv)] [(.int nv), (.int iv)])) rfl (by rw [hml]; rfl) (argsL := [(.int iv), (.int nv)]) (rest := []) (lenOf pd_3 rfl) rfl (by show 2 * 0 + _ ≤ _; exact Nat.le_of_eq rfl) (hb hby ds4_3) (fun _ _ => ⟨rfl, e0, (by decide : 0 + 0 ≤ _), (by decide : 0 + 0 ≤ _)⟩)
  dsimp only [Pt.U, Pt.locs, Pt.cells, Pt.slots] at X2 l2 y2 z2 st2 hQ2
  subst l2 y2 z2
  obtain ⟨rfl, Nq2, e2⟩ := hQ2
  have N2 := Fr.app N0 Nq2
  have pr3 : ∀ tg, Steps pP.tables eE below (T2.setTop (mkF mM 6 #[.val (.ref b), .val (.int iv)] [])) tg → Steps pP.tables eE below (s₁.setTop (entryFrame mM #[(.ref b), (.int iv)] 2)) tg := fun tg kg => pr1 _ (st2 _ kg)
  clear pr1 st2 X0 e0
  have pr4 : ∀ tg, Steps pP.tables eE below (T2.setTop (mkF mM 14 #[.val (.ref b), .val (.int iv)] [(.int (uv &&& (255 : Int32)).toUInt32.toUInt16.toUInt32.toInt32)])) tg → Steps pP.tables eE below (s₁.setTop (entryFrame mM #[(.ref b), (.int iv)] 2)) tg := fun tg kg => pr3 _ (by
    show Steps pP.tables eE below (T2.setTop (mkF mM 6 #[.val (.ref b), .val (.int iv)] [])) _
    refine XS.aloadN X2.here hx rfl (hb hby ds4_6) rfl rfl ?_
    refine XS.iloadN X2.here hx rfl (hb hby ds4_7) rfl ?_
    show Steps pP.tables eE below (T2.setTop (mkF mM 8 #[.val (.ref b), .val (.int iv)] [(.int iv), (.ref b)])) _
    refine X2.baloadBytes hx (j := iv) (v := (.int uv)) (by rw [e2]; exact Ar.1) (State.isArrayOf_alike hZ.alike Ar.2.1) Ar.2.2 (inb_of Sz ⟨h1, h2⟩) hat (g := (mkF mM 8 #[.val (.ref b), .val (.int iv)] [(.int iv), (.ref b)])) rfl rfl (hb hby ds4_8) _ ?_
    show Steps pP.tables eE below (T2.setTop (mkF mM 9 #[.val (.ref b), .val (.int iv)] [(.int uv)])) _
    refine XS.sipush X2.here hx rfl (hb hby ds4_9) ?_
    refine XS.iand X2.here hx rfl (hb hby ds4_12) rfl ?_
    refine XS.i2c X2.here hx rfl (hb hby ds4_13) rfl ?_
    exact kg)
  clear pr3
  obtain ⟨fs, hr, hrun, hended, hW, hsame⟩ := X2.leave (v := some (.int (uv &&& (255 : Int32)).toUInt32.toUInt16.toUInt32.toInt32)) (fun h => by rw [Bd.returns] at h; cases h)
  refine ⟨_, _, pr4 _ (retOut X2 hx (t := .char) Bd.returns (Jvm.Free.XT.narrow_c _) (Or.inl ⟨rfl, Or.inr (Or.inr (Or.inr (Or.inl rfl))), _, rfl⟩) (hb hby ds4_14) hr), hrun, hended, _, _, rfl, ?_, ⟨_, rfl⟩, hW, hsame.mono (by decide) (by decide)⟩
  show Qs4 Z cs sf b cl nv iv uv h0 n0 _ T2.heap _
  rw [e2]
  exact ⟨rfl, N2, rfl⟩
theorem pd_4 : parseMethodDescriptor "()Z" = some ⟨[], some .boolean⟩ := by decide +kernel
theorem pd_5 : parseMethodDescriptor "([BI)C" = some ⟨[(.array .byte), .int], some .char⟩ := by decide +kernel
theorem ds5_0 : decode jdk_42_method_56_code 0 = .ok (.aload_n 0, 1) := by decide +kernel
theorem ds5_1 : decode jdk_42_method_56_code 1 = .ok (.invokevirtual 492, 3) := by decide +kernel
theorem ds5_4 : decode jdk_42_method_56_code 4 = .ok (.ifCond .eq 12, 3) := by decide +kernel
theorem ds5_7 : decode jdk_42_method_56_code 7 = .ok (.aload_n 0, 1) := by decide +kernel
theorem ds5_8 : decode jdk_42_method_56_code 8 = .ok (.getfield 9, 3) := by decide +kernel
theorem ds5_11 : decode jdk_42_method_56_code 11 = .ok (.iload_n 1, 1) := by decide +kernel
theorem ds5_12 : decode jdk_42_method_56_code 12 = .ok (.invokestatic 495, 3) := by decide +kernel
theorem ds5_15 : decode jdk_42_method_56_code 15 = .ok (.ireturn, 1) := by decide +kernel
theorem ef_s5 (mM : MethodId) (x0 : Addr) (x1 : Int32) : entryFrame mM #[(.ref x0), (.int x1)] 2 = mkF mM 0 #[.val (.ref x0), .val (.int x1)] [] := by first | (simp [entryFrame, mkF, argsToLocals, Value.category]; done) | rfl
def Qs5 (Z : State) (cs : Int32) (sf : Value) (a : Addr) (b : Addr) (cl : Cell) (nv : Int32) (iv : Int32) (uv : Int32) (h0 : Heap) (n0 : Nat) (v : Option Value) (h : Heap) (L : List Loc) : Prop := v = some (.int (uv &&& (255 : Int32)).toUInt32.toUInt16.toUInt32.toInt32) ∧ Fr n0 L ∧ h = h0
set_option maxRecDepth 65536 in
set_option maxHeartbeats 40000000 in
theorem rms5 (l : Launch) (Z : State) (a0 : Array Value) (hw : ∀ d ∈ tables_1, d.before a0 Z = true) (ws : List Jvm.Cond) (cs : Int32) (sf : Value) (a : Addr) (b : Addr) (cl : Cell) (nv : Int32) (iv : Int32) (uv : Int32) (h0 : Heap) (n0 : Nat) (Z0 : n0 ≤ h0.size) (O : Old Z n0 h0) (S_cs : Sta Z Z.heap "java/lang/String" "COMPACT_STRINGS" "Z" (.int cs)) (hcs : ¬ cs = (0 : Int32)) (S_sf : Sta Z Z.heap "jdk/internal/util/Preconditions" "SIOOBE_FORMATTER" "Ljava/util/function/BiFunction;" sf) (rsf : sf.isRef = true) (E_a : Exa Z h0 a "java/lang/String") (F_c : Fld Z h0 a "java/lang/String" "coder" "B" (.int (0 : Int32))) (F_v : Fld Z h0 a "java/lang/String" "value" "[B" (.ref b)) (Ar : Arr Z h0 b cl .byte) (Sz : cl.slots.size = nv.toNatClampNeg) (Mz : ¬ nv < 0) (h1 : ¬ iv < (0 : Int32)) (h2 : iv < nv) (hat : cl.slots[iv.toNatClampNeg]? = some (.int uv)) :
    MetFree l (⟨"java/lang/String", "charAt", "(I)C"⟩ : MethodName) (head1 (Jvm.Cond.code (⟨"java/lang/String", "charAt", "(I)C"⟩ : MethodName) jdk_42_method_56_code 2 (some .char) :: ws) ({ frames := 3, cells := 0, slots := 0, locals := 40 } : Room)) (fun aA uU => aA = #[(.ref a), (.int iv)] ∧ Z.Warmed39 uU.vm ∧ uU.heap = h0) (fun _ _ _ _ _ => True) (fun _ uU oO uU' => ∃ vV lL, oO = .returned vV ∧ Qs5 Z cs sf a b cl nv iv uv h0 n0 vV uU'.heap lL ∧ FrameEnd uU oO uU' lL ({ frames := 3, cells := 0, slots := 0, locals := 40 } : Room).cells ({ frames := 3, cells := 0, slots := 0, locals := 40 } : Room).slots) := by
  refine MetFree.of_bodySF (plainFor_of_name pn_0) hisR ?_
  intro pP eE sS mM args below meth cC s₁ Bd hml0 hP hK
  obtain ⟨rfl, hZ, hh⟩ := hP
  have hx := Bd.exec
  have hby := Bd.bytes
  have hml : cC.maxLocals = 2 := hml0
  have hown : sS.vm.findClass "java/lang/String" = some mM.cls := findClass_of_methodNamed Bd.named
  have hnm := (name_of_methodNamed Bd.named Bd.method).1
  have X0 : Stand pP l eE ({ frames := 3, cells := 0, slots := 0, locals := 40 } : Room) sS mM #[(.ref a), (.int iv)] below meth cC s₁ [] 0 0 := Stand.of_body Bd
  have e0 : s₁.heap = h0 := by rw [← hh, Bd.state]; rfl
  have N0 := Fr.nil n0
  have pre0 : ∀ tg, Steps pP.tables eE below (s₁.setTop (mkF mM 0 #[.val (.ref a), .val (.int iv)] [])) tg → Steps pP.tables eE below (s₁.setTop (entryFrame mM #[(.ref a), (.int iv)] 2)) tg := fun tg kg => castTop (ef_s5 mM a iv) kg
  have pr1 : ∀ tg, Steps pP.tables eE below (s₁.setTop (mkF mM 1 #[.val (.ref a), .val (.int iv)] [(.ref a)])) tg → Steps pP.tables eE below (s₁.setTop (entryFrame mM #[(.ref a), (.int iv)] 2)) tg := fun tg kg => pre0 _ (by
    show Steps pP.tables eE below (s₁.setTop (mkF mM 0 #[.val (.ref a), .val (.int iv)] [])) _
    refine XS.aloadN X0.here hx rfl (hb hby ds5_0) rfl rfl ?_
    exact kg)
  clear pre0
  obtain ⟨cq2, kq2, qa2, qb2, qc2⟩ := isOf hZ e0 E_a
  obtain ⟨_, _, ⟨T2, L2, kk2, nn2⟩, -, X2, ⟨Lc2, hQ2, l2, y2, z2⟩, st2⟩ := X0.virtualBack hx (y := (⟨"java/lang/String", "isLatin1", "()Z"⟩ : MethodName)) (z := (⟨"java/lang/String", "isLatin1", "()Z"⟩ : MethodName)) hown (mvT hZ (hw _ (List.mem_of_getElem? (i := 84) rfl))) (mvT hZ (hw _ (List.mem_of_getElem? (i := 85) rfl))) (notFace_of_selects (args := #[]) (mvT hZ (hw _ (List.mem_of_getElem? (i := 87) rfl)))) (mvT hZ (hw _ (List.mem_of_getElem? (i := 87) rfl))) (mvT hZ (hw _ (List.mem_of_getElem? (i := 86) rfl))) (by decide) (backOf (W := 0) (rms1 l Z a0 hw [] cs sf a h0 n0 Z0 O S_cs hcs S_sf rsf E_a F_c) hZ (hw _ (List.mem_of_getElem? (i := 88) rfl)) (hw _ (List.mem_of_getElem? (i := 1) rfl)) (by decide) (by decide)) qa2 qc2 (g := (mkF mM 1 #[.val (.ref a), .val (.int iv)] [(.ref a)])) rfl (by rw [hml]; rfl) (Steps.refl _) (argsL := []) (rest := []) (lenOf pd_4 rfl) rfl (by show 2 * 0 + _ ≤ _; exact Nat.le_of_eq rfl) (hb hby ds5_1) (fun _ _ => ⟨rfl, e0, (by decide : 0 + 0 ≤ _), (by decide : 0 + 0 ≤ _)⟩)
  dsimp only [Pt.U, Pt.locs, Pt.cells, Pt.slots] at X2 l2 y2 z2 st2 hQ2
  subst l2 y2 z2
  obtain ⟨rfl, Nq2, e2⟩ := hQ2
  have N2 := Fr.app N0 Nq2
  have pr3 : ∀ tg, Steps pP.tables eE below (T2.setTop (mkF mM 4 #[.val (.ref a), .val (.int iv)] [(.int (1 : Int32))])) tg → Steps pP.tables eE below (s₁.setTop (entryFrame mM #[(.ref a), (.int iv)] 2)) tg := fun tg kg => pr1 _ (st2.trans kg)
  clear pr1 st2 X0 e0
  have pr4 : ∀ tg, Steps pP.tables eE below (T2.setTop (mkF mM 8 #[.val (.ref a), .val (.int iv)] [(.ref a)])) tg → Steps pP.tables eE below (s₁.setTop (entryFrame mM #[(.ref a), (.int iv)] 2)) tg := fun tg kg => pr3 _ (by
    show Steps pP.tables eE below (T2.setTop (mkF mM 4 #[.val (.ref a), .val (.int iv)] [(.int (1 : Int32))])) _
    refine XS.ifNo X2.here hx rfl (hb hby ds5_4) rfl ((if0 _ _).trans (feq (by decide)).1) ?_
    refine XS.aloadN X2.here hx rfl (hb hby ds5_7) rfl rfl ?_
    exact kg)
  clear pr3
  obtain ⟨T5, X5, e5, st5⟩ := getF X2 hx hZ hown (host := "") (Or.inl (hw _ (List.mem_of_getElem? (i := 31) rfl))) Via.refl e2 F_v (g := (mkF mM 8 #[.val (.ref a), .val (.int iv)] [(.ref a)])) rfl rfl (hb hby ds5_8)
  have pr6 : ∀ tg, Steps pP.tables eE below (T5.setTop (mkF mM 11 #[.val (.ref a), .val (.int iv)] [(.ref b)])) tg → Steps pP.tables eE below (s₁.setTop (entryFrame mM #[(.ref a), (.int iv)] 2)) tg := fun tg kg => pr4 _ (st5 _ kg)
  clear pr4 st5 X2 e2
  have pr7 : ∀ tg, Steps pP.tables eE below (T5.setTop (mkF mM 12 #[.val (.ref a), .val (.int iv)] [(.int iv), (.ref b)])) tg → Steps pP.tables eE below (s₁.setTop (entryFrame mM #[(.ref a), (.int iv)] 2)) tg := fun tg kg => pr6 _ (by
    show Steps pP.tables eE below (T5.setTop (mkF mM 11 #[.val (.ref a), .val (.int iv)] [(.ref b)])) _
    refine XS.iloadN X5.here hx rfl (hb hby ds5_11) rfl ?_
    exact kg)
  clear pr6
  obtain ⟨Ls8, X8, N8⟩ := own_hide X5 N2
  clear X5 N2
  obtain ⟨_, _, ⟨T9, L9, kk9, nn9⟩, -, X9, ⟨Lc9, hQ9, l9, y9, z9⟩, st9⟩ := Jvm.LawKit.callS X8 hx (y := (⟨"java/lang/StringLatin1", "charAt", "([BI)C"⟩ : MethodName)) hown (mvT hZ (hw _ (List.mem_of_getElem? (i := 89) rfl))) (mvT hZ (hw _ (List.mem_of_getElem? (i := 90) rfl))) (mvT hZ (hw _ (List.mem_of_getElem? (i := 65) rfl))) (mvT hZ (hw _ (List.mem_of_getElem? (i := 91) rfl))) (by decide) (backOf (W := 0) (rms4 l Z a0 hw [] cs sf b cl nv iv uv h0 n0 Z0 O S_cs hcs S_sf rsf Ar Sz Mz h1 h2 hat) hZ (hw _ (List.mem_of_getElem? (i := 91) rfl)) (hw _ (List.mem_of_getElem? (i := 65) rfl)) (by decide) (by decide)) (g := (mkF mM 12 #[.val (.ref a), .val (.int iv)] [(.int iv), (.ref b)])) rfl (by rw [hml]; rfl) (argsL := [(.ref b), (.int iv)]) (rest := []) (lenOf pd_5 rfl) rfl (by show 2 * 0 + _ ≤ _; exact Nat.le_of_eq rfl) (hb hby ds5_12) (fun _ _ => ⟨rfl, e5, (by decide : 0 + 0 ≤ _), (by decide : 0 + 0 ≤ _)⟩)
  dsimp only [Pt.U, Pt.locs, Pt.cells, Pt.slots] at X9 l9 y9 z9 st9 hQ9
  subst l9 y9 z9
  obtain ⟨rfl, Nq9, e9⟩ := hQ9
  have N9 := Fr.app N8 Nq9
  have pr10 : ∀ tg, Steps pP.tables eE below (T9.setTop (mkF mM 15 #[.val (.ref a), .val (.int iv)] [(.int (uv &&& (255 : Int32)).toUInt32.toUInt16.toUInt32.toInt32)])) tg → Steps pP.tables eE below (s₁.setTop (entryFrame mM #[(.ref a), (.int iv)] 2)) tg := fun tg kg => pr7 _ (st9 _ kg)
  clear pr7 st9 X8 e5
  obtain ⟨fs, hr, hrun, hended, hW, hsame⟩ := X9.leave (v := some (.int (uv &&& (255 : Int32)).toUInt32.toUInt16.toUInt32.toInt32)) (fun h => by rw [Bd.returns] at h; cases h)
  refine ⟨_, _, pr10 _ (retOut X9 hx (t := .char) Bd.returns (Jvm.Free.XT.narrow_c _) (Or.inl ⟨rfl, Or.inr (Or.inr (Or.inr (Or.inl rfl))), _, rfl⟩) (hb hby ds5_15) hr), hrun, hended, _, _, rfl, ?_, ⟨_, rfl⟩, hW, hsame.mono (by decide) (by decide)⟩
  show Qs5 Z cs sf a b cl nv iv uv h0 n0 _ T9.heap _
  rw [e9]
  exact ⟨rfl, N9, rfl⟩
theorem own_cod_t0 : StrChars.Road.CodA ([(49 : Int32), (46 : Int32), (50 : Int32), (46 : Int32), (56 : Int32), (52 : Int32), (48 : Int32), (46 : Int32), (49 : Int32), (48 : Int32), (48 : Int32), (48 : Int32), (56 : Int32), (46 : Int32), (49 : Int32), (46 : Int32), (50 : Int32)] : List Int32) 0 (17 : Int32) [(.int (49 : Int32)), (.int (46 : Int32)), (.int (50 : Int32)), (.int (46 : Int32)), (.int (56 : Int32)), (.int (52 : Int32)), (.int (48 : Int32)), (.int (46 : Int32)), (.int (49 : Int32)), (.int (48 : Int32)), (.int (48 : Int32)), (.int (48 : Int32)), (.int (56 : Int32)), (.int (46 : Int32)), (.int (49 : Int32)), (.int (46 : Int32)), (.int (50 : Int32))] := Or.inl ⟨rfl, rfl, rfl, by decide⟩
theorem own_bd_t0 : ∀ c ∈ ([(49 : Int32), (46 : Int32), (50 : Int32), (46 : Int32), (56 : Int32), (52 : Int32), (48 : Int32), (46 : Int32), (49 : Int32), (48 : Int32), (48 : Int32), (48 : Int32), (56 : Int32), (46 : Int32), (49 : Int32), (46 : Int32), (50 : Int32)] : List Int32), ¬ c < 0 ∧ ¬ (65535 : Int32) < c := by decide
theorem own_cod_t1 : StrChars.Road.CodA ([(49 : Int32), (46 : Int32), (50 : Int32), (46 : Int32), (56 : Int32), (52 : Int32), (48 : Int32), (46 : Int32), (49 : Int32), (48 : Int32), (48 : Int32), (48 : Int32), (56 : Int32), (46 : Int32), (49 : Int32), (46 : Int32), (50 : Int32), (46 : Int32), (49 : Int32)] : List Int32) 0 (19 : Int32) [(.int (49 : Int32)), (.int (46 : Int32)), (.int (50 : Int32)), (.int (46 : Int32)), (.int (56 : Int32)), (.int (52 : Int32)), (.int (48 : Int32)), (.int (46 : Int32)), (.int (49 : Int32)), (.int (48 : Int32)), (.int (48 : Int32)), (.int (48 : Int32)), (.int (56 : Int32)), (.int (46 : Int32)), (.int (49 : Int32)), (.int (46 : Int32)), (.int (50 : Int32)), (.int (46 : Int32)), (.int (49 : Int32))] := Or.inl ⟨rfl, rfl, rfl, by decide⟩
theorem own_bd_t1 : ∀ c ∈ ([(49 : Int32), (46 : Int32), (50 : Int32), (46 : Int32), (56 : Int32), (52 : Int32), (48 : Int32), (46 : Int32), (49 : Int32), (48 : Int32), (48 : Int32), (48 : Int32), (56 : Int32), (46 : Int32), (49 : Int32), (46 : Int32), (50 : Int32), (46 : Int32), (49 : Int32)] : List Int32), ¬ c < 0 ∧ ¬ (65535 : Int32) < c := by decide
theorem d10_0 : decode method_3_code 0 = .ok (.iload_n 0, 1) := by decide +kernel
theorem d10_1 : decode method_3_code 1 = .ok (.ifCond .ne 7, 3) := by decide +kernel
theorem d10_4 : decode method_3_code 4 = .ok (.iconst 0, 1) := by decide +kernel
theorem d10_5 : decode method_3_code 5 = .ok (.newarray .char, 2) := by decide +kernel
theorem d10_7 : decode method_3_code 7 = .ok (.areturn, 1) := by decide +kernel
theorem pn_3 : plainName "com/example/tesserae/tesserae/dicom/TransferSyntaxForUidPinLaw" = true := by first | (simp [plainName, overriddenIn]; done) | decide +kernel
theorem ef_10 (mM : MethodId) (x0 : Int32) : entryFrame mM #[(.int x0)] 1 = mkF mM 0 #[.val (.int x0)] [] := by first | (simp [entryFrame, mkF, argsToLocals, Value.category]; done) | rfl
def Q10 (Z : State)  (h0 : Heap) (n0 : Nat) (v : Option Value) (h : Heap) (L : List Loc) : Prop := ∃ b : Addr, v = some (.ref b) ∧ h0.size ≤ b ∧ Fr n0 L ∧ Keep h0 h [] ∧ ∃ kb : ClassId, Arv Z h b kb .char (0 : Int32) [] (.int (0 : Int32))
set_option maxRecDepth 65536 in
set_option maxHeartbeats 40000000 in
theorem rm10 (l : Launch) (Z : State) (a0 : Array Value) (hw : ∀ d ∈ tables_1, d.before a0 Z = true) (ws : List Jvm.Cond)  (h0 : Heap) (n0 : Nat) (Z0 : n0 ≤ h0.size) :
    MetFree l (⟨"com/example/tesserae/tesserae/dicom/TransferSyntaxForUidPinLaw", "make", "(I)[C"⟩ : MethodName) (head1 (Jvm.Cond.code (⟨"com/example/tesserae/tesserae/dicom/TransferSyntaxForUidPinLaw", "make", "(I)[C"⟩ : MethodName) method_3_code 1 (some (.array .char)) :: ws) ({ frames := 0, cells := 1, slots := 0, locals := 0 } : Room)) (fun aA uU => aA = #[(.int (0 : Int32))] ∧ Z.Warmed39 uU.vm ∧ uU.heap = h0) (fun _ _ _ _ _ => True) (fun _ uU oO uU' => ∃ vV lL, oO = .returned vV ∧ Q10 Z  h0 n0 vV uU'.heap lL ∧ FrameEnd uU oO uU' lL ({ frames := 0, cells := 1, slots := 0, locals := 0 } : Room).cells ({ frames := 0, cells := 1, slots := 0, locals := 0 } : Room).slots) := by
  refine MetFree.of_bodySF (plainFor_of_name pn_3) hisR ?_
  intro pP eE sS mM args below meth cC s₁ Bd hml0 hP hK
  obtain ⟨rfl, hZ, hh⟩ := hP
  have hx := Bd.exec
  have hby := Bd.bytes
  have hml : cC.maxLocals = 1 := hml0
  have hown : sS.vm.findClass "com/example/tesserae/tesserae/dicom/TransferSyntaxForUidPinLaw" = some mM.cls := findClass_of_methodNamed Bd.named
  have hnm := (name_of_methodNamed Bd.named Bd.method).1
  have X0 : Stand pP l eE ({ frames := 0, cells := 1, slots := 0, locals := 0 } : Room) sS mM #[(.int (0 : Int32))] below meth cC s₁ [] 0 0 := Stand.of_body Bd
  have e0 : s₁.heap = h0 := by rw [← hh, Bd.state]; rfl
  have N0 := Fr.nil n0
  have pre0 : ∀ tg, Steps pP.tables eE below (s₁.setTop (mkF mM 0 #[.val (.int (0 : Int32))] [])) tg → Steps pP.tables eE below (s₁.setTop (entryFrame mM #[(.int (0 : Int32))] 1)) tg := fun tg kg => castTop (ef_10 mM (0 : Int32)) kg
  have pr1 : ∀ tg, Steps pP.tables eE below (s₁.setTop (mkF mM 5 #[.val (.int (0 : Int32))] [(.int (0 : Int32))])) tg → Steps pP.tables eE below (s₁.setTop (entryFrame mM #[(.int (0 : Int32))] 1)) tg := fun tg kg => pre0 _ (by
    show Steps pP.tables eE below (s₁.setTop (mkF mM 0 #[.val (.int (0 : Int32))] [])) _
    refine XS.iloadN X0.here hx rfl (hb hby d10_0) rfl ?_
    refine XS.ifNo X0.here hx rfl (hb hby d10_1) rfl ((if0 _ _).trans (teq (by decide)).2) ?_
    refine XS.iconst X0.here hx rfl (hb hby d10_4) ?_
    exact kg)
  clear pre0
  obtain ⟨T2, h2, k2, X2, e2, E2, A2, Ex2, st2⟩ := newPE X0 hx hZ (hw _ (List.mem_of_getElem? (i := 12) rfl)) e0 (g := (mkF mM 5 #[.val (.int (0 : Int32))] [(.int (0 : Int32))])) rfl (hb hby d10_5) rfl (by decide) (cap := 0) (by decide) (by decide) (by decide) (by decide) (ad := "[C") rfl
  obtain ⟨b2, g2⟩ : ∃ z, z = (h0).size := ⟨_, rfl⟩
  rw [← g2] at A2 Ex2 st2
  have gn3 : n0 ≤ b2 := Nat.le_trans Z0 (Nat.le_of_eq g2.symm)
  have gs4 : h0.size ≤ b2 := Nat.le_trans (Keep.refl h0 []).1 (Nat.le_of_eq g2.symm)
  have V2 : Arv Z h2 b2 k2 .char (0 : Int32) [] (.int (0 : Int32)) := Arv.new A2 (by decide)
  have pr5 : ∀ tg, Steps pP.tables eE below (T2.setTop (mkF mM 7 #[.val (.int (0 : Int32))] [(.ref b2)])) tg → Steps pP.tables eE below (s₁.setTop (entryFrame mM #[(.int (0 : Int32))] 1)) tg := fun tg kg => pr1 _ (st2 _ kg)
  clear pr1 st2 X0 e0
  have c6 := (Keep.ext (Keep.refl h0 []) E2)
  obtain ⟨fs, hr, hrun, hended, hW, hsame⟩ := X2.leave (v := some (.ref b2)) (fun h => by rw [Bd.returns] at h; cases h)
  refine ⟨_, _, pr5 _ (retOut X2 hx (t := (.array .char)) Bd.returns rfl (Or.inr (Or.inr (Or.inr (Or.inr ⟨rfl, rfl, rfl⟩)))) (hb hby d10_7) hr), hrun, hended, _, _, rfl, ?_, ⟨_, rfl⟩, hW, hsame.mono (by decide) (by decide)⟩
  show Q10 Z  h0 n0 _ T2.heap _
  rw [e2]
  exact ⟨b2, rfl, gs4, N0, c6, _, V2⟩
theorem d11_0 : decode method_3_code 0 = .ok (.iload_n 0, 1) := by decide +kernel
theorem d11_1 : decode method_3_code 1 = .ok (.ifCond .ne 7, 3) := by decide +kernel
theorem d11_8 : decode method_3_code 8 = .ok (.iload_n 0, 1) := by decide +kernel
theorem d11_9 : decode method_3_code 9 = .ok (.iconst 1, 1) := by decide +kernel
theorem d11_10 : decode method_3_code 10 = .ok (.if_icmp .ne 7, 3) := by decide +kernel
theorem d11_13 : decode method_3_code 13 = .ok (.iconst 1, 1) := by decide +kernel
theorem d11_14 : decode method_3_code 14 = .ok (.newarray .char, 2) := by decide +kernel
theorem d11_16 : decode method_3_code 16 = .ok (.areturn, 1) := by decide +kernel
theorem ef_11 (mM : MethodId) (x0 : Int32) : entryFrame mM #[(.int x0)] 1 = mkF mM 0 #[.val (.int x0)] [] := by first | (simp [entryFrame, mkF, argsToLocals, Value.category]; done) | rfl
def Q11 (Z : State)  (h0 : Heap) (n0 : Nat) (v : Option Value) (h : Heap) (L : List Loc) : Prop := ∃ b : Addr, v = some (.ref b) ∧ h0.size ≤ b ∧ Fr n0 L ∧ Keep h0 h [] ∧ ∃ kb : ClassId, Arv Z h b kb .char (1 : Int32) [(.int (0 : Int32))] (.int (0 : Int32))
set_option maxRecDepth 65536 in
set_option maxHeartbeats 40000000 in
theorem rm11 (l : Launch) (Z : State) (a0 : Array Value) (hw : ∀ d ∈ tables_1, d.before a0 Z = true) (ws : List Jvm.Cond)  (h0 : Heap) (n0 : Nat) (Z0 : n0 ≤ h0.size) :
    MetFree l (⟨"com/example/tesserae/tesserae/dicom/TransferSyntaxForUidPinLaw", "make", "(I)[C"⟩ : MethodName) (head1 (Jvm.Cond.code (⟨"com/example/tesserae/tesserae/dicom/TransferSyntaxForUidPinLaw", "make", "(I)[C"⟩ : MethodName) method_3_code 1 (some (.array .char)) :: ws) ({ frames := 0, cells := 1, slots := 1, locals := 0 } : Room)) (fun aA uU => aA = #[(.int (1 : Int32))] ∧ Z.Warmed39 uU.vm ∧ uU.heap = h0) (fun _ _ _ _ _ => True) (fun _ uU oO uU' => ∃ vV lL, oO = .returned vV ∧ Q11 Z  h0 n0 vV uU'.heap lL ∧ FrameEnd uU oO uU' lL ({ frames := 0, cells := 1, slots := 1, locals := 0 } : Room).cells ({ frames := 0, cells := 1, slots := 1, locals := 0 } : Room).slots) := by
  refine MetFree.of_bodySF (plainFor_of_name pn_3) hisR ?_
  intro pP eE sS mM args below meth cC s₁ Bd hml0 hP hK
  obtain ⟨rfl, hZ, hh⟩ := hP
  have hx := Bd.exec
  have hby := Bd.bytes
  have hml : cC.maxLocals = 1 := hml0
  have hown : sS.vm.findClass "com/example/tesserae/tesserae/dicom/TransferSyntaxForUidPinLaw" = some mM.cls := findClass_of_methodNamed Bd.named
  have hnm := (name_of_methodNamed Bd.named Bd.method).1
  have X0 : Stand pP l eE ({ frames := 0, cells := 1, slots := 1, locals := 0 } : Room) sS mM #[(.int (1 : Int32))] below meth cC s₁ [] 0 0 := Stand.of_body Bd
  have e0 : s₁.heap = h0 := by rw [← hh, Bd.state]; rfl
  have N0 := Fr.nil n0
  have pre0 : ∀ tg, Steps pP.tables eE below (s₁.setTop (mkF mM 0 #[.val (.int (1 : Int32))] [])) tg → Steps pP.tables eE below (s₁.setTop (entryFrame mM #[(.int (1 : Int32))] 1)) tg := fun tg kg => castTop (ef_11 mM (1 : Int32)) kg
  have pr1 : ∀ tg, Steps pP.tables eE below (s₁.setTop (mkF mM 14 #[.val (.int (1 : Int32))] [(.int (1 : Int32))])) tg → Steps pP.tables eE below (s₁.setTop (entryFrame mM #[(.int (1 : Int32))] 1)) tg := fun tg kg => pre0 _ (by
    show Steps pP.tables eE below (s₁.setTop (mkF mM 0 #[.val (.int (1 : Int32))] [])) _
    refine XS.iloadN X0.here hx rfl (hb hby d11_0) rfl ?_
    refine XS.ifYes X0.here hx rfl (pc0 := 1) (pc' := 8) rfl (hb hby d11_1) rfl ((if0 _ _).trans (feq (by decide)).2) (by decide) (by decide) ?_
    refine XS.iloadN X0.here hx rfl (hb hby d11_8) rfl ?_
    refine XS.iconst X0.here hx rfl (hb hby d11_9) ?_
    refine XS.icmpNo X0.here hx rfl (hb hby d11_10) rfl (teq (by decide)).2 ?_
    refine XS.iconst X0.here hx rfl (hb hby d11_13) ?_
    exact kg)
  clear pre0
  obtain ⟨T2, h2, k2, X2, e2, E2, A2, Ex2, st2⟩ := newPE X0 hx hZ (hw _ (List.mem_of_getElem? (i := 12) rfl)) e0 (g := (mkF mM 14 #[.val (.int (1 : Int32))] [(.int (1 : Int32))])) rfl (hb hby d11_14) rfl (by decide) (cap := 1) (by decide) (by decide) (by decide) (by decide) (ad := "[C") rfl
  obtain ⟨b2, g2⟩ : ∃ z, z = (h0).size := ⟨_, rfl⟩
  rw [← g2] at A2 Ex2 st2
  have gn3 : n0 ≤ b2 := Nat.le_trans Z0 (Nat.le_of_eq g2.symm)
  have gs4 : h0.size ≤ b2 := Nat.le_trans (Keep.refl h0 []).1 (Nat.le_of_eq g2.symm)
  have V2 : Arv Z h2 b2 k2 .char (1 : Int32) [(.int (0 : Int32))] (.int (0 : Int32)) := (Arv.new A2 (by decide)).pad (pad_rep [] (.int (0 : Int32)) 1)
  have pr5 : ∀ tg, Steps pP.tables eE below (T2.setTop (mkF mM 16 #[.val (.int (1 : Int32))] [(.ref b2)])) tg → Steps pP.tables eE below (s₁.setTop (entryFrame mM #[(.int (1 : Int32))] 1)) tg := fun tg kg => pr1 _ (st2 _ kg)
  clear pr1 st2 X0 e0
  have c6 := (Keep.ext (Keep.refl h0 []) E2)
  obtain ⟨fs, hr, hrun, hended, hW, hsame⟩ := X2.leave (v := some (.ref b2)) (fun h => by rw [Bd.returns] at h; cases h)
  refine ⟨_, _, pr5 _ (retOut X2 hx (t := (.array .char)) Bd.returns rfl (Or.inr (Or.inr (Or.inr (Or.inr ⟨rfl, rfl, rfl⟩)))) (hb hby d11_16) hr), hrun, hended, _, _, rfl, ?_, ⟨_, rfl⟩, hW, hsame.mono (by decide) (by decide)⟩
  show Q11 Z  h0 n0 _ T2.heap _
  rw [e2]
  exact ⟨b2, rfl, gs4, N0, c6, _, V2⟩
theorem d116_0 : decode method_3_code 0 = .ok (.iload_n 0, 1) := by decide +kernel
theorem d116_1 : decode method_3_code 1 = .ok (.ifCond .ne 7, 3) := by decide +kernel
theorem d116_8 : decode method_3_code 8 = .ok (.iload_n 0, 1) := by decide +kernel
theorem d116_9 : decode method_3_code 9 = .ok (.iconst 1, 1) := by decide +kernel
theorem d116_10 : decode method_3_code 10 = .ok (.if_icmp .ne 7, 3) := by decide +kernel
theorem d116_17 : decode method_3_code 17 = .ok (.iload_n 0, 1) := by decide +kernel
theorem d116_18 : decode method_3_code 18 = .ok (.bipush 16, 2) := by decide +kernel
theorem d116_20 : decode method_3_code 20 = .ok (.if_icmp .ne 8, 3) := by decide +kernel
theorem d116_23 : decode method_3_code 23 = .ok (.bipush 16, 2) := by decide +kernel
theorem d116_25 : decode method_3_code 25 = .ok (.newarray .char, 2) := by decide +kernel
theorem d116_27 : decode method_3_code 27 = .ok (.areturn, 1) := by decide +kernel
theorem ef_116 (mM : MethodId) (x0 : Int32) : entryFrame mM #[(.int x0)] 1 = mkF mM 0 #[.val (.int x0)] [] := by first | (simp [entryFrame, mkF, argsToLocals, Value.category]; done) | rfl
def Q116 (Z : State)  (h0 : Heap) (n0 : Nat) (v : Option Value) (h : Heap) (L : List Loc) : Prop := ∃ b : Addr, v = some (.ref b) ∧ h0.size ≤ b ∧ Fr n0 L ∧ Keep h0 h [] ∧ ∃ kb : ClassId, Arv Z h b kb .char (16 : Int32) [(.int (0 : Int32)), (.int (0 : Int32)), (.int (0 : Int32)), (.int (0 : Int32)), (.int (0 : Int32)), (.int (0 : Int32)), (.int (0 : Int32)), (.int (0 : Int32)), (.int (0 : Int32)), (.int (0 : Int32)), (.int (0 : Int32)), (.int (0 : Int32)), (.int (0 : Int32)), (.int (0 : Int32)), (.int (0 : Int32)), (.int (0 : Int32))] (.int (0 : Int32))
set_option maxRecDepth 65536 in
set_option maxHeartbeats 40000000 in
theorem rm116 (l : Launch) (Z : State) (a0 : Array Value) (hw : ∀ d ∈ tables_1, d.before a0 Z = true) (ws : List Jvm.Cond)  (h0 : Heap) (n0 : Nat) (Z0 : n0 ≤ h0.size) :
    MetFree l (⟨"com/example/tesserae/tesserae/dicom/TransferSyntaxForUidPinLaw", "make", "(I)[C"⟩ : MethodName) (head1 (Jvm.Cond.code (⟨"com/example/tesserae/tesserae/dicom/TransferSyntaxForUidPinLaw", "make", "(I)[C"⟩ : MethodName) method_3_code 1 (some (.array .char)) :: ws) ({ frames := 0, cells := 1, slots := 16, locals := 0 } : Room)) (fun aA uU => aA = #[(.int (16 : Int32))] ∧ Z.Warmed39 uU.vm ∧ uU.heap = h0) (fun _ _ _ _ _ => True) (fun _ uU oO uU' => ∃ vV lL, oO = .returned vV ∧ Q116 Z  h0 n0 vV uU'.heap lL ∧ FrameEnd uU oO uU' lL ({ frames := 0, cells := 1, slots := 16, locals := 0 } : Room).cells ({ frames := 0, cells := 1, slots := 16, locals := 0 } : Room).slots) := by
  refine MetFree.of_bodySF (plainFor_of_name pn_3) hisR ?_
  intro pP eE sS mM args below meth cC s₁ Bd hml0 hP hK
  obtain ⟨rfl, hZ, hh⟩ := hP
  have hx := Bd.exec
  have hby := Bd.bytes
  have hml : cC.maxLocals = 1 := hml0
  have hown : sS.vm.findClass "com/example/tesserae/tesserae/dicom/TransferSyntaxForUidPinLaw" = some mM.cls := findClass_of_methodNamed Bd.named
  have hnm := (name_of_methodNamed Bd.named Bd.method).1
  have X0 : Stand pP l eE ({ frames := 0, cells := 1, slots := 16, locals := 0 } : Room) sS mM #[(.int (16 : Int32))] below meth cC s₁ [] 0 0 := Stand.of_body Bd
  have e0 : s₁.heap = h0 := by rw [← hh, Bd.state]; rfl
  have N0 := Fr.nil n0
  have pre0 : ∀ tg, Steps pP.tables eE below (s₁.setTop (mkF mM 0 #[.val (.int (16 : Int32))] [])) tg → Steps pP.tables eE below (s₁.setTop (entryFrame mM #[(.int (16 : Int32))] 1)) tg := fun tg kg => castTop (ef_116 mM (16 : Int32)) kg
  have pr1 : ∀ tg, Steps pP.tables eE below (s₁.setTop (mkF mM 25 #[.val (.int (16 : Int32))] [(.int (16 : Int32))])) tg → Steps pP.tables eE below (s₁.setTop (entryFrame mM #[(.int (16 : Int32))] 1)) tg := fun tg kg => pre0 _ (by
    show Steps pP.tables eE below (s₁.setTop (mkF mM 0 #[.val (.int (16 : Int32))] [])) _
    refine XS.iloadN X0.here hx rfl (hb hby d116_0) rfl ?_
    refine XS.ifYes X0.here hx rfl (pc0 := 1) (pc' := 8) rfl (hb hby d116_1) rfl ((if0 _ _).trans (feq (by decide)).2) (by decide) (by decide) ?_
    refine XS.iloadN X0.here hx rfl (hb hby d116_8) rfl ?_
    refine XS.iconst X0.here hx rfl (hb hby d116_9) ?_
    refine XS.icmpYes X0.here hx rfl (pc0 := 10) (pc' := 17) rfl (hb hby d116_10) rfl (feq (by decide)).2 (by decide) (by decide) ?_
    refine XS.iloadN X0.here hx rfl (hb hby d116_17) rfl ?_
    show Steps pP.tables eE below (s₁.setTop (mkF mM 18 #[.val (.int (16 : Int32))] [(.int (16 : Int32))])) _
    refine XS.bipush X0.here hx rfl (hb hby d116_18) ?_
    refine XS.icmpNo X0.here hx rfl (hb hby d116_20) rfl (teq (by decide)).2 ?_
    refine XS.bipush X0.here hx rfl (hb hby d116_23) ?_
    exact kg)
  clear pre0
  obtain ⟨T2, h2, k2, X2, e2, E2, A2, Ex2, st2⟩ := newPE X0 hx hZ (hw _ (List.mem_of_getElem? (i := 12) rfl)) e0 (g := (mkF mM 25 #[.val (.int (16 : Int32))] [(.int (16 : Int32))])) rfl (hb hby d116_25) rfl (by decide) (cap := 16) (by decide) (by decide) (by decide) (by decide) (ad := "[C") rfl
  obtain ⟨b2, g2⟩ : ∃ z, z = (h0).size := ⟨_, rfl⟩
  rw [← g2] at A2 Ex2 st2
  have gn3 : n0 ≤ b2 := Nat.le_trans Z0 (Nat.le_of_eq g2.symm)
  have gs4 : h0.size ≤ b2 := Nat.le_trans (Keep.refl h0 []).1 (Nat.le_of_eq g2.symm)
  have V2 : Arv Z h2 b2 k2 .char (16 : Int32) [(.int (0 : Int32)), (.int (0 : Int32)), (.int (0 : Int32)), (.int (0 : Int32)), (.int (0 : Int32)), (.int (0 : Int32)), (.int (0 : Int32)), (.int (0 : Int32)), (.int (0 : Int32)), (.int (0 : Int32)), (.int (0 : Int32)), (.int (0 : Int32)), (.int (0 : Int32)), (.int (0 : Int32)), (.int (0 : Int32)), (.int (0 : Int32))] (.int (0 : Int32)) := (Arv.new A2 (by decide)).pad (pad_rep [] (.int (0 : Int32)) 16)
  have pr5 : ∀ tg, Steps pP.tables eE below (T2.setTop (mkF mM 27 #[.val (.int (16 : Int32))] [(.ref b2)])) tg → Steps pP.tables eE below (s₁.setTop (entryFrame mM #[(.int (16 : Int32))] 1)) tg := fun tg kg => pr1 _ (st2 _ kg)
  clear pr1 st2 X0 e0
  have c6 := (Keep.ext (Keep.refl h0 []) E2)
  obtain ⟨fs, hr, hrun, hended, hW, hsame⟩ := X2.leave (v := some (.ref b2)) (fun h => by rw [Bd.returns] at h; cases h)
  refine ⟨_, _, pr5 _ (retOut X2 hx (t := (.array .char)) Bd.returns rfl (Or.inr (Or.inr (Or.inr (Or.inr ⟨rfl, rfl, rfl⟩)))) (hb hby d116_27) hr), hrun, hended, _, _, rfl, ?_, ⟨_, rfl⟩, hW, hsame.mono (by decide) (by decide)⟩
  show Q116 Z  h0 n0 _ T2.heap _
  rw [e2]
  exact ⟨b2, rfl, gs4, N0, c6, _, V2⟩
theorem d117_0 : decode method_3_code 0 = .ok (.iload_n 0, 1) := by decide +kernel
theorem d117_1 : decode method_3_code 1 = .ok (.ifCond .ne 7, 3) := by decide +kernel
theorem d117_8 : decode method_3_code 8 = .ok (.iload_n 0, 1) := by decide +kernel
theorem d117_9 : decode method_3_code 9 = .ok (.iconst 1, 1) := by decide +kernel
theorem d117_10 : decode method_3_code 10 = .ok (.if_icmp .ne 7, 3) := by decide +kernel
theorem d117_17 : decode method_3_code 17 = .ok (.iload_n 0, 1) := by decide +kernel
theorem d117_18 : decode method_3_code 18 = .ok (.bipush 16, 2) := by decide +kernel
theorem d117_20 : decode method_3_code 20 = .ok (.if_icmp .ne 8, 3) := by decide +kernel
theorem d117_28 : decode method_3_code 28 = .ok (.iload_n 0, 1) := by decide +kernel
theorem d117_29 : decode method_3_code 29 = .ok (.bipush 17, 2) := by decide +kernel
theorem d117_31 : decode method_3_code 31 = .ok (.if_icmp .ne 8, 3) := by decide +kernel
theorem d117_34 : decode method_3_code 34 = .ok (.bipush 17, 2) := by decide +kernel
theorem d117_36 : decode method_3_code 36 = .ok (.newarray .char, 2) := by decide +kernel
theorem d117_38 : decode method_3_code 38 = .ok (.areturn, 1) := by decide +kernel
theorem ef_117 (mM : MethodId) (x0 : Int32) : entryFrame mM #[(.int x0)] 1 = mkF mM 0 #[.val (.int x0)] [] := by first | (simp [entryFrame, mkF, argsToLocals, Value.category]; done) | rfl
def Q117 (Z : State)  (h0 : Heap) (n0 : Nat) (v : Option Value) (h : Heap) (L : List Loc) : Prop := ∃ b : Addr, v = some (.ref b) ∧ h0.size ≤ b ∧ Fr n0 L ∧ Keep h0 h [] ∧ ∃ kb : ClassId, Arv Z h b kb .char (17 : Int32) [(.int (0 : Int32)), (.int (0 : Int32)), (.int (0 : Int32)), (.int (0 : Int32)), (.int (0 : Int32)), (.int (0 : Int32)), (.int (0 : Int32)), (.int (0 : Int32)), (.int (0 : Int32)), (.int (0 : Int32)), (.int (0 : Int32)), (.int (0 : Int32)), (.int (0 : Int32)), (.int (0 : Int32)), (.int (0 : Int32)), (.int (0 : Int32)), (.int (0 : Int32))] (.int (0 : Int32))
set_option maxRecDepth 65536 in
set_option maxHeartbeats 40000000 in
theorem rm117 (l : Launch) (Z : State) (a0 : Array Value) (hw : ∀ d ∈ tables_1, d.before a0 Z = true) (ws : List Jvm.Cond)  (h0 : Heap) (n0 : Nat) (Z0 : n0 ≤ h0.size) :
    MetFree l (⟨"com/example/tesserae/tesserae/dicom/TransferSyntaxForUidPinLaw", "make", "(I)[C"⟩ : MethodName) (head1 (Jvm.Cond.code (⟨"com/example/tesserae/tesserae/dicom/TransferSyntaxForUidPinLaw", "make", "(I)[C"⟩ : MethodName) method_3_code 1 (some (.array .char)) :: ws) ({ frames := 0, cells := 1, slots := 17, locals := 0 } : Room)) (fun aA uU => aA = #[(.int (17 : Int32))] ∧ Z.Warmed39 uU.vm ∧ uU.heap = h0) (fun _ _ _ _ _ => True) (fun _ uU oO uU' => ∃ vV lL, oO = .returned vV ∧ Q117 Z  h0 n0 vV uU'.heap lL ∧ FrameEnd uU oO uU' lL ({ frames := 0, cells := 1, slots := 17, locals := 0 } : Room).cells ({ frames := 0, cells := 1, slots := 17, locals := 0 } : Room).slots) := by
  refine MetFree.of_bodySF (plainFor_of_name pn_3) hisR ?_
  intro pP eE sS mM args below meth cC s₁ Bd hml0 hP hK
  obtain ⟨rfl, hZ, hh⟩ := hP
  have hx := Bd.exec
  have hby := Bd.bytes
  have hml : cC.maxLocals = 1 := hml0
  have hown : sS.vm.findClass "com/example/tesserae/tesserae/dicom/TransferSyntaxForUidPinLaw" = some mM.cls := findClass_of_methodNamed Bd.named
  have hnm := (name_of_methodNamed Bd.named Bd.method).1
  have X0 : Stand pP l eE ({ frames := 0, cells := 1, slots := 17, locals := 0 } : Room) sS mM #[(.int (17 : Int32))] below meth cC s₁ [] 0 0 := Stand.of_body Bd
  have e0 : s₁.heap = h0 := by rw [← hh, Bd.state]; rfl
  have N0 := Fr.nil n0
  have pre0 : ∀ tg, Steps pP.tables eE below (s₁.setTop (mkF mM 0 #[.val (.int (17 : Int32))] [])) tg → Steps pP.tables eE below (s₁.setTop (entryFrame mM #[(.int (17 : Int32))] 1)) tg := fun tg kg => castTop (ef_117 mM (17 : Int32)) kg
  have pr1 : ∀ tg, Steps pP.tables eE below (s₁.setTop (mkF mM 36 #[.val (.int (17 : Int32))] [(.int (17 : Int32))])) tg → Steps pP.tables eE below (s₁.setTop (entryFrame mM #[(.int (17 : Int32))] 1)) tg := fun tg kg => pre0 _ (by
    show Steps pP.tables eE below (s₁.setTop (mkF mM 0 #[.val (.int (17 : Int32))] [])) _
    refine XS.iloadN X0.here hx rfl (hb hby d117_0) rfl ?_
    refine XS.ifYes X0.here hx rfl (pc0 := 1) (pc' := 8) rfl (hb hby d117_1) rfl ((if0 _ _).trans (feq (by decide)).2) (by decide) (by decide) ?_
    refine XS.iloadN X0.here hx rfl (hb hby d117_8) rfl ?_
    refine XS.iconst X0.here hx rfl (hb hby d117_9) ?_
    refine XS.icmpYes X0.here hx rfl (pc0 := 10) (pc' := 17) rfl (hb hby d117_10) rfl (feq (by decide)).2 (by decide) (by decide) ?_
    refine XS.iloadN X0.here hx rfl (hb hby d117_17) rfl ?_
    show Steps pP.tables eE below (s₁.setTop (mkF mM 18 #[.val (.int (17 : Int32))] [(.int (17 : Int32))])) _
    refine XS.bipush X0.here hx rfl (hb hby d117_18) ?_
    refine XS.icmpYes X0.here hx rfl (pc0 := 20) (pc' := 28) rfl (hb hby d117_20) rfl (feq (by decide)).2 (by decide) (by decide) ?_
    refine XS.iloadN X0.here hx rfl (hb hby d117_28) rfl ?_
    refine XS.bipush X0.here hx rfl (hb hby d117_29) ?_
    refine XS.icmpNo X0.here hx rfl (hb hby d117_31) rfl (teq (by decide)).2 ?_
    refine XS.bipush X0.here hx rfl (hb hby d117_34) ?_
    exact kg)
  clear pre0
  obtain ⟨T2, h2, k2, X2, e2, E2, A2, Ex2, st2⟩ := newPE X0 hx hZ (hw _ (List.mem_of_getElem? (i := 12) rfl)) e0 (g := (mkF mM 36 #[.val (.int (17 : Int32))] [(.int (17 : Int32))])) rfl (hb hby d117_36) rfl (by decide) (cap := 17) (by decide) (by decide) (by decide) (by decide) (ad := "[C") rfl
  obtain ⟨b2, g2⟩ : ∃ z, z = (h0).size := ⟨_, rfl⟩
  rw [← g2] at A2 Ex2 st2
  have gn3 : n0 ≤ b2 := Nat.le_trans Z0 (Nat.le_of_eq g2.symm)
  have gs4 : h0.size ≤ b2 := Nat.le_trans (Keep.refl h0 []).1 (Nat.le_of_eq g2.symm)
  have V2 : Arv Z h2 b2 k2 .char (17 : Int32) [(.int (0 : Int32)), (.int (0 : Int32)), (.int (0 : Int32)), (.int (0 : Int32)), (.int (0 : Int32)), (.int (0 : Int32)), (.int (0 : Int32)), (.int (0 : Int32)), (.int (0 : Int32)), (.int (0 : Int32)), (.int (0 : Int32)), (.int (0 : Int32)), (.int (0 : Int32)), (.int (0 : Int32)), (.int (0 : Int32)), (.int (0 : Int32)), (.int (0 : Int32))] (.int (0 : Int32)) := (Arv.new A2 (by decide)).pad (pad_rep [] (.int (0 : Int32)) 17)
  have pr5 : ∀ tg, Steps pP.tables eE below (T2.setTop (mkF mM 38 #[.val (.int (17 : Int32))] [(.ref b2)])) tg → Steps pP.tables eE below (s₁.setTop (entryFrame mM #[(.int (17 : Int32))] 1)) tg := fun tg kg => pr1 _ (st2 _ kg)
  clear pr1 st2 X0 e0
  have c6 := (Keep.ext (Keep.refl h0 []) E2)
  obtain ⟨fs, hr, hrun, hended, hW, hsame⟩ := X2.leave (v := some (.ref b2)) (fun h => by rw [Bd.returns] at h; cases h)
  refine ⟨_, _, pr5 _ (retOut X2 hx (t := (.array .char)) Bd.returns rfl (Or.inr (Or.inr (Or.inr (Or.inr ⟨rfl, rfl, rfl⟩)))) (hb hby d117_38) hr), hrun, hended, _, _, rfl, ?_, ⟨_, rfl⟩, hW, hsame.mono (by decide) (by decide)⟩
  show Q117 Z  h0 n0 _ T2.heap _
  rw [e2]
  exact ⟨b2, rfl, gs4, N0, c6, _, V2⟩
theorem d118_0 : decode method_3_code 0 = .ok (.iload_n 0, 1) := by decide +kernel
theorem d118_1 : decode method_3_code 1 = .ok (.ifCond .ne 7, 3) := by decide +kernel
theorem d118_8 : decode method_3_code 8 = .ok (.iload_n 0, 1) := by decide +kernel
theorem d118_9 : decode method_3_code 9 = .ok (.iconst 1, 1) := by decide +kernel
theorem d118_10 : decode method_3_code 10 = .ok (.if_icmp .ne 7, 3) := by decide +kernel
theorem d118_17 : decode method_3_code 17 = .ok (.iload_n 0, 1) := by decide +kernel
theorem d118_18 : decode method_3_code 18 = .ok (.bipush 16, 2) := by decide +kernel
theorem d118_20 : decode method_3_code 20 = .ok (.if_icmp .ne 8, 3) := by decide +kernel
theorem d118_28 : decode method_3_code 28 = .ok (.iload_n 0, 1) := by decide +kernel
theorem d118_29 : decode method_3_code 29 = .ok (.bipush 17, 2) := by decide +kernel
theorem d118_31 : decode method_3_code 31 = .ok (.if_icmp .ne 8, 3) := by decide +kernel
theorem d118_39 : decode method_3_code 39 = .ok (.iload_n 0, 1) := by decide +kernel
theorem d118_40 : decode method_3_code 40 = .ok (.bipush 18, 2) := by decide +kernel
theorem d118_42 : decode method_3_code 42 = .ok (.if_icmp .ne 8, 3) := by decide +kernel
theorem d118_45 : decode method_3_code 45 = .ok (.bipush 18, 2) := by decide +kernel
theorem d118_47 : decode method_3_code 47 = .ok (.newarray .char, 2) := by decide +kernel
theorem d118_49 : decode method_3_code 49 = .ok (.areturn, 1) := by decide +kernel
theorem ef_118 (mM : MethodId) (x0 : Int32) : entryFrame mM #[(.int x0)] 1 = mkF mM 0 #[.val (.int x0)] [] := by first | (simp [entryFrame, mkF, argsToLocals, Value.category]; done) | rfl
def Q118 (Z : State)  (h0 : Heap) (n0 : Nat) (v : Option Value) (h : Heap) (L : List Loc) : Prop := ∃ b : Addr, v = some (.ref b) ∧ h0.size ≤ b ∧ Fr n0 L ∧ Keep h0 h [] ∧ ∃ kb : ClassId, Arv Z h b kb .char (18 : Int32) [(.int (0 : Int32)), (.int (0 : Int32)), (.int (0 : Int32)), (.int (0 : Int32)), (.int (0 : Int32)), (.int (0 : Int32)), (.int (0 : Int32)), (.int (0 : Int32)), (.int (0 : Int32)), (.int (0 : Int32)), (.int (0 : Int32)), (.int (0 : Int32)), (.int (0 : Int32)), (.int (0 : Int32)), (.int (0 : Int32)), (.int (0 : Int32)), (.int (0 : Int32)), (.int (0 : Int32))] (.int (0 : Int32))
set_option maxRecDepth 65536 in
set_option maxHeartbeats 40000000 in
theorem rm118 (l : Launch) (Z : State) (a0 : Array Value) (hw : ∀ d ∈ tables_1, d.before a0 Z = true) (ws : List Jvm.Cond)  (h0 : Heap) (n0 : Nat) (Z0 : n0 ≤ h0.size) :
    MetFree l (⟨"com/example/tesserae/tesserae/dicom/TransferSyntaxForUidPinLaw", "make", "(I)[C"⟩ : MethodName) (head1 (Jvm.Cond.code (⟨"com/example/tesserae/tesserae/dicom/TransferSyntaxForUidPinLaw", "make", "(I)[C"⟩ : MethodName) method_3_code 1 (some (.array .char)) :: ws) ({ frames := 0, cells := 1, slots := 18, locals := 0 } : Room)) (fun aA uU => aA = #[(.int (18 : Int32))] ∧ Z.Warmed39 uU.vm ∧ uU.heap = h0) (fun _ _ _ _ _ => True) (fun _ uU oO uU' => ∃ vV lL, oO = .returned vV ∧ Q118 Z  h0 n0 vV uU'.heap lL ∧ FrameEnd uU oO uU' lL ({ frames := 0, cells := 1, slots := 18, locals := 0 } : Room).cells ({ frames := 0, cells := 1, slots := 18, locals := 0 } : Room).slots) := by
  refine MetFree.of_bodySF (plainFor_of_name pn_3) hisR ?_
  intro pP eE sS mM args below meth cC s₁ Bd hml0 hP hK
  obtain ⟨rfl, hZ, hh⟩ := hP
  have hx := Bd.exec
  have hby := Bd.bytes
  have hml : cC.maxLocals = 1 := hml0
  have hown : sS.vm.findClass "com/example/tesserae/tesserae/dicom/TransferSyntaxForUidPinLaw" = some mM.cls := findClass_of_methodNamed Bd.named
  have hnm := (name_of_methodNamed Bd.named Bd.method).1
  have X0 : Stand pP l eE ({ frames := 0, cells := 1, slots := 18, locals := 0 } : Room) sS mM #[(.int (18 : Int32))] below meth cC s₁ [] 0 0 := Stand.of_body Bd
  have e0 : s₁.heap = h0 := by rw [← hh, Bd.state]; rfl
  have N0 := Fr.nil n0
  have pre0 : ∀ tg, Steps pP.tables eE below (s₁.setTop (mkF mM 0 #[.val (.int (18 : Int32))] [])) tg → Steps pP.tables eE below (s₁.setTop (entryFrame mM #[(.int (18 : Int32))] 1)) tg := fun tg kg => castTop (ef_118 mM (18 : Int32)) kg
  have pr1 : ∀ tg, Steps pP.tables eE below (s₁.setTop (mkF mM 47 #[.val (.int (18 : Int32))] [(.int (18 : Int32))])) tg → Steps pP.tables eE below (s₁.setTop (entryFrame mM #[(.int (18 : Int32))] 1)) tg := fun tg kg => pre0 _ (by
    show Steps pP.tables eE below (s₁.setTop (mkF mM 0 #[.val (.int (18 : Int32))] [])) _
    refine XS.iloadN X0.here hx rfl (hb hby d118_0) rfl ?_
    refine XS.ifYes X0.here hx rfl (pc0 := 1) (pc' := 8) rfl (hb hby d118_1) rfl ((if0 _ _).trans (feq (by decide)).2) (by decide) (by decide) ?_
    refine XS.iloadN X0.here hx rfl (hb hby d118_8) rfl ?_
    refine XS.iconst X0.here hx rfl (hb hby d118_9) ?_
    refine XS.icmpYes X0.here hx rfl (pc0 := 10) (pc' := 17) rfl (hb hby d118_10) rfl (feq (by decide)).2 (by decide) (by decide) ?_
    refine XS.iloadN X0.here hx rfl (hb hby d118_17) rfl ?_
    show Steps pP.tables eE below (s₁.setTop (mkF mM 18 #[.val (.int (18 : Int32))] [(.int (18 : Int32))])) _
    refine XS.bipush X0.here hx rfl (hb hby d118_18) ?_
    refine XS.icmpYes X0.here hx rfl (pc0 := 20) (pc' := 28) rfl (hb hby d118_20) rfl (feq (by decide)).2 (by decide) (by decide) ?_
    refine XS.iloadN X0.here hx rfl (hb hby d118_28) rfl ?_
    refine XS.bipush X0.here hx rfl (hb hby d118_29) ?_
    refine XS.icmpYes X0.here hx rfl (pc0 := 31) (pc' := 39) rfl (hb hby d118_31) rfl (feq (by decide)).2 (by decide) (by decide) ?_
    refine XS.iloadN X0.here hx rfl (hb hby d118_39) rfl ?_
    show Steps pP.tables eE below (s₁.setTop (mkF mM 40 #[.val (.int (18 : Int32))] [(.int (18 : Int32))])) _
    refine XS.bipush X0.here hx rfl (hb hby d118_40) ?_
    refine XS.icmpNo X0.here hx rfl (hb hby d118_42) rfl (teq (by decide)).2 ?_
    refine XS.bipush X0.here hx rfl (hb hby d118_45) ?_
    exact kg)
  clear pre0
  obtain ⟨T2, h2, k2, X2, e2, E2, A2, Ex2, st2⟩ := newPE X0 hx hZ (hw _ (List.mem_of_getElem? (i := 12) rfl)) e0 (g := (mkF mM 47 #[.val (.int (18 : Int32))] [(.int (18 : Int32))])) rfl (hb hby d118_47) rfl (by decide) (cap := 18) (by decide) (by decide) (by decide) (by decide) (ad := "[C") rfl
  obtain ⟨b2, g2⟩ : ∃ z, z = (h0).size := ⟨_, rfl⟩
  rw [← g2] at A2 Ex2 st2
  have gn3 : n0 ≤ b2 := Nat.le_trans Z0 (Nat.le_of_eq g2.symm)
  have gs4 : h0.size ≤ b2 := Nat.le_trans (Keep.refl h0 []).1 (Nat.le_of_eq g2.symm)
  have V2 : Arv Z h2 b2 k2 .char (18 : Int32) [(.int (0 : Int32)), (.int (0 : Int32)), (.int (0 : Int32)), (.int (0 : Int32)), (.int (0 : Int32)), (.int (0 : Int32)), (.int (0 : Int32)), (.int (0 : Int32)), (.int (0 : Int32)), (.int (0 : Int32)), (.int (0 : Int32)), (.int (0 : Int32)), (.int (0 : Int32)), (.int (0 : Int32)), (.int (0 : Int32)), (.int (0 : Int32)), (.int (0 : Int32)), (.int (0 : Int32))] (.int (0 : Int32)) := (Arv.new A2 (by decide)).pad (pad_rep [] (.int (0 : Int32)) 18)
  have pr5 : ∀ tg, Steps pP.tables eE below (T2.setTop (mkF mM 49 #[.val (.int (18 : Int32))] [(.ref b2)])) tg → Steps pP.tables eE below (s₁.setTop (entryFrame mM #[(.int (18 : Int32))] 1)) tg := fun tg kg => pr1 _ (st2 _ kg)
  clear pr1 st2 X0 e0
  have c6 := (Keep.ext (Keep.refl h0 []) E2)
  obtain ⟨fs, hr, hrun, hended, hW, hsame⟩ := X2.leave (v := some (.ref b2)) (fun h => by rw [Bd.returns] at h; cases h)
  refine ⟨_, _, pr5 _ (retOut X2 hx (t := (.array .char)) Bd.returns rfl (Or.inr (Or.inr (Or.inr (Or.inr ⟨rfl, rfl, rfl⟩)))) (hb hby d118_49) hr), hrun, hended, _, _, rfl, ?_, ⟨_, rfl⟩, hW, hsame.mono (by decide) (by decide)⟩
  show Q118 Z  h0 n0 _ T2.heap _
  rw [e2]
  exact ⟨b2, rfl, gs4, N0, c6, _, V2⟩
theorem d119_0 : decode method_3_code 0 = .ok (.iload_n 0, 1) := by decide +kernel
theorem d119_1 : decode method_3_code 1 = .ok (.ifCond .ne 7, 3) := by decide +kernel
theorem d119_8 : decode method_3_code 8 = .ok (.iload_n 0, 1) := by decide +kernel
theorem d119_9 : decode method_3_code 9 = .ok (.iconst 1, 1) := by decide +kernel
theorem d119_10 : decode method_3_code 10 = .ok (.if_icmp .ne 7, 3) := by decide +kernel
theorem d119_17 : decode method_3_code 17 = .ok (.iload_n 0, 1) := by decide +kernel
theorem d119_18 : decode method_3_code 18 = .ok (.bipush 16, 2) := by decide +kernel
theorem d119_20 : decode method_3_code 20 = .ok (.if_icmp .ne 8, 3) := by decide +kernel
theorem d119_28 : decode method_3_code 28 = .ok (.iload_n 0, 1) := by decide +kernel
theorem d119_29 : decode method_3_code 29 = .ok (.bipush 17, 2) := by decide +kernel
theorem d119_31 : decode method_3_code 31 = .ok (.if_icmp .ne 8, 3) := by decide +kernel
theorem d119_39 : decode method_3_code 39 = .ok (.iload_n 0, 1) := by decide +kernel
theorem d119_40 : decode method_3_code 40 = .ok (.bipush 18, 2) := by decide +kernel
theorem d119_42 : decode method_3_code 42 = .ok (.if_icmp .ne 8, 3) := by decide +kernel
theorem d119_50 : decode method_3_code 50 = .ok (.iload_n 0, 1) := by decide +kernel
theorem d119_51 : decode method_3_code 51 = .ok (.bipush 19, 2) := by decide +kernel
theorem d119_53 : decode method_3_code 53 = .ok (.if_icmp .ne 8, 3) := by decide +kernel
theorem d119_56 : decode method_3_code 56 = .ok (.bipush 19, 2) := by decide +kernel
theorem d119_58 : decode method_3_code 58 = .ok (.newarray .char, 2) := by decide +kernel
theorem d119_60 : decode method_3_code 60 = .ok (.areturn, 1) := by decide +kernel
theorem ef_119 (mM : MethodId) (x0 : Int32) : entryFrame mM #[(.int x0)] 1 = mkF mM 0 #[.val (.int x0)] [] := by first | (simp [entryFrame, mkF, argsToLocals, Value.category]; done) | rfl
def Q119 (Z : State)  (h0 : Heap) (n0 : Nat) (v : Option Value) (h : Heap) (L : List Loc) : Prop := ∃ b : Addr, v = some (.ref b) ∧ h0.size ≤ b ∧ Fr n0 L ∧ Keep h0 h [] ∧ ∃ kb : ClassId, Arv Z h b kb .char (19 : Int32) [(.int (0 : Int32)), (.int (0 : Int32)), (.int (0 : Int32)), (.int (0 : Int32)), (.int (0 : Int32)), (.int (0 : Int32)), (.int (0 : Int32)), (.int (0 : Int32)), (.int (0 : Int32)), (.int (0 : Int32)), (.int (0 : Int32)), (.int (0 : Int32)), (.int (0 : Int32)), (.int (0 : Int32)), (.int (0 : Int32)), (.int (0 : Int32)), (.int (0 : Int32)), (.int (0 : Int32)), (.int (0 : Int32))] (.int (0 : Int32))
set_option maxRecDepth 65536 in
set_option maxHeartbeats 40000000 in
theorem rm119 (l : Launch) (Z : State) (a0 : Array Value) (hw : ∀ d ∈ tables_1, d.before a0 Z = true) (ws : List Jvm.Cond)  (h0 : Heap) (n0 : Nat) (Z0 : n0 ≤ h0.size) :
    MetFree l (⟨"com/example/tesserae/tesserae/dicom/TransferSyntaxForUidPinLaw", "make", "(I)[C"⟩ : MethodName) (head1 (Jvm.Cond.code (⟨"com/example/tesserae/tesserae/dicom/TransferSyntaxForUidPinLaw", "make", "(I)[C"⟩ : MethodName) method_3_code 1 (some (.array .char)) :: ws) ({ frames := 0, cells := 1, slots := 19, locals := 0 } : Room)) (fun aA uU => aA = #[(.int (19 : Int32))] ∧ Z.Warmed39 uU.vm ∧ uU.heap = h0) (fun _ _ _ _ _ => True) (fun _ uU oO uU' => ∃ vV lL, oO = .returned vV ∧ Q119 Z  h0 n0 vV uU'.heap lL ∧ FrameEnd uU oO uU' lL ({ frames := 0, cells := 1, slots := 19, locals := 0 } : Room).cells ({ frames := 0, cells := 1, slots := 19, locals := 0 } : Room).slots) := by
  refine MetFree.of_bodySF (plainFor_of_name pn_3) hisR ?_
  intro pP eE sS mM args below meth cC s₁ Bd hml0 hP hK
  obtain ⟨rfl, hZ, hh⟩ := hP
  have hx := Bd.exec
  have hby := Bd.bytes
  have hml : cC.maxLocals = 1 := hml0
  have hown : sS.vm.findClass "com/example/tesserae/tesserae/dicom/TransferSyntaxForUidPinLaw" = some mM.cls := findClass_of_methodNamed Bd.named
  have hnm := (name_of_methodNamed Bd.named Bd.method).1
  have X0 : Stand pP l eE ({ frames := 0, cells := 1, slots := 19, locals := 0 } : Room) sS mM #[(.int (19 : Int32))] below meth cC s₁ [] 0 0 := Stand.of_body Bd
  have e0 : s₁.heap = h0 := by rw [← hh, Bd.state]; rfl
  have N0 := Fr.nil n0
  have pre0 : ∀ tg, Steps pP.tables eE below (s₁.setTop (mkF mM 0 #[.val (.int (19 : Int32))] [])) tg → Steps pP.tables eE below (s₁.setTop (entryFrame mM #[(.int (19 : Int32))] 1)) tg := fun tg kg => castTop (ef_119 mM (19 : Int32)) kg
  have pr1 : ∀ tg, Steps pP.tables eE below (s₁.setTop (mkF mM 58 #[.val (.int (19 : Int32))] [(.int (19 : Int32))])) tg → Steps pP.tables eE below (s₁.setTop (entryFrame mM #[(.int (19 : Int32))] 1)) tg := fun tg kg => pre0 _ (by
    show Steps pP.tables eE below (s₁.setTop (mkF mM 0 #[.val (.int (19 : Int32))] [])) _
    refine XS.iloadN X0.here hx rfl (hb hby d119_0) rfl ?_
    refine XS.ifYes X0.here hx rfl (pc0 := 1) (pc' := 8) rfl (hb hby d119_1) rfl ((if0 _ _).trans (feq (by decide)).2) (by decide) (by decide) ?_
    refine XS.iloadN X0.here hx rfl (hb hby d119_8) rfl ?_
    refine XS.iconst X0.here hx rfl (hb hby d119_9) ?_
    refine XS.icmpYes X0.here hx rfl (pc0 := 10) (pc' := 17) rfl (hb hby d119_10) rfl (feq (by decide)).2 (by decide) (by decide) ?_
    refine XS.iloadN X0.here hx rfl (hb hby d119_17) rfl ?_
    show Steps pP.tables eE below (s₁.setTop (mkF mM 18 #[.val (.int (19 : Int32))] [(.int (19 : Int32))])) _
    refine XS.bipush X0.here hx rfl (hb hby d119_18) ?_
    refine XS.icmpYes X0.here hx rfl (pc0 := 20) (pc' := 28) rfl (hb hby d119_20) rfl (feq (by decide)).2 (by decide) (by decide) ?_
    refine XS.iloadN X0.here hx rfl (hb hby d119_28) rfl ?_
    refine XS.bipush X0.here hx rfl (hb hby d119_29) ?_
    refine XS.icmpYes X0.here hx rfl (pc0 := 31) (pc' := 39) rfl (hb hby d119_31) rfl (feq (by decide)).2 (by decide) (by decide) ?_
    refine XS.iloadN X0.here hx rfl (hb hby d119_39) rfl ?_
    show Steps pP.tables eE below (s₁.setTop (mkF mM 40 #[.val (.int (19 : Int32))] [(.int (19 : Int32))])) _
    refine XS.bipush X0.here hx rfl (hb hby d119_40) ?_
    refine XS.icmpYes X0.here hx rfl (pc0 := 42) (pc' := 50) rfl (hb hby d119_42) rfl (feq (by decide)).2 (by decide) (by decide) ?_
    refine XS.iloadN X0.here hx rfl (hb hby d119_50) rfl ?_
    refine XS.bipush X0.here hx rfl (hb hby d119_51) ?_
    refine XS.icmpNo X0.here hx rfl (hb hby d119_53) rfl (teq (by decide)).2 ?_
    refine XS.bipush X0.here hx rfl (hb hby d119_56) ?_
    exact kg)
  clear pre0
  obtain ⟨T2, h2, k2, X2, e2, E2, A2, Ex2, st2⟩ := newPE X0 hx hZ (hw _ (List.mem_of_getElem? (i := 12) rfl)) e0 (g := (mkF mM 58 #[.val (.int (19 : Int32))] [(.int (19 : Int32))])) rfl (hb hby d119_58) rfl (by decide) (cap := 19) (by decide) (by decide) (by decide) (by decide) (ad := "[C") rfl
  obtain ⟨b2, g2⟩ : ∃ z, z = (h0).size := ⟨_, rfl⟩
  rw [← g2] at A2 Ex2 st2
  have gn3 : n0 ≤ b2 := Nat.le_trans Z0 (Nat.le_of_eq g2.symm)
  have gs4 : h0.size ≤ b2 := Nat.le_trans (Keep.refl h0 []).1 (Nat.le_of_eq g2.symm)
  have V2 : Arv Z h2 b2 k2 .char (19 : Int32) [(.int (0 : Int32)), (.int (0 : Int32)), (.int (0 : Int32)), (.int (0 : Int32)), (.int (0 : Int32)), (.int (0 : Int32)), (.int (0 : Int32)), (.int (0 : Int32)), (.int (0 : Int32)), (.int (0 : Int32)), (.int (0 : Int32)), (.int (0 : Int32)), (.int (0 : Int32)), (.int (0 : Int32)), (.int (0 : Int32)), (.int (0 : Int32)), (.int (0 : Int32)), (.int (0 : Int32)), (.int (0 : Int32))] (.int (0 : Int32)) := (Arv.new A2 (by decide)).pad (pad_rep [] (.int (0 : Int32)) 19)
  have pr5 : ∀ tg, Steps pP.tables eE below (T2.setTop (mkF mM 60 #[.val (.int (19 : Int32))] [(.ref b2)])) tg → Steps pP.tables eE below (s₁.setTop (entryFrame mM #[(.int (19 : Int32))] 1)) tg := fun tg kg => pr1 _ (st2 _ kg)
  clear pr1 st2 X0 e0
  have c6 := (Keep.ext (Keep.refl h0 []) E2)
  obtain ⟨fs, hr, hrun, hended, hW, hsame⟩ := X2.leave (v := some (.ref b2)) (fun h => by rw [Bd.returns] at h; cases h)
  refine ⟨_, _, pr5 _ (retOut X2 hx (t := (.array .char)) Bd.returns rfl (Or.inr (Or.inr (Or.inr (Or.inr ⟨rfl, rfl, rfl⟩)))) (hb hby d119_60) hr), hrun, hended, _, _, rfl, ?_, ⟨_, rfl⟩, hW, hsame.mono (by decide) (by decide)⟩
  show Q119 Z  h0 n0 _ T2.heap _
  rw [e2]
  exact ⟨b2, rfl, gs4, N0, c6, _, V2⟩
theorem d120_0 : decode method_3_code 0 = .ok (.iload_n 0, 1) := by decide +kernel
theorem d120_1 : decode method_3_code 1 = .ok (.ifCond .ne 7, 3) := by decide +kernel
theorem d120_8 : decode method_3_code 8 = .ok (.iload_n 0, 1) := by decide +kernel
theorem d120_9 : decode method_3_code 9 = .ok (.iconst 1, 1) := by decide +kernel
theorem d120_10 : decode method_3_code 10 = .ok (.if_icmp .ne 7, 3) := by decide +kernel
theorem d120_17 : decode method_3_code 17 = .ok (.iload_n 0, 1) := by decide +kernel
theorem d120_18 : decode method_3_code 18 = .ok (.bipush 16, 2) := by decide +kernel
theorem d120_20 : decode method_3_code 20 = .ok (.if_icmp .ne 8, 3) := by decide +kernel
theorem d120_28 : decode method_3_code 28 = .ok (.iload_n 0, 1) := by decide +kernel
theorem d120_29 : decode method_3_code 29 = .ok (.bipush 17, 2) := by decide +kernel
theorem d120_31 : decode method_3_code 31 = .ok (.if_icmp .ne 8, 3) := by decide +kernel
theorem d120_39 : decode method_3_code 39 = .ok (.iload_n 0, 1) := by decide +kernel
theorem d120_40 : decode method_3_code 40 = .ok (.bipush 18, 2) := by decide +kernel
theorem d120_42 : decode method_3_code 42 = .ok (.if_icmp .ne 8, 3) := by decide +kernel
theorem d120_50 : decode method_3_code 50 = .ok (.iload_n 0, 1) := by decide +kernel
theorem d120_51 : decode method_3_code 51 = .ok (.bipush 19, 2) := by decide +kernel
theorem d120_53 : decode method_3_code 53 = .ok (.if_icmp .ne 8, 3) := by decide +kernel
theorem d120_61 : decode method_3_code 61 = .ok (.bipush 20, 2) := by decide +kernel
theorem d120_63 : decode method_3_code 63 = .ok (.newarray .char, 2) := by decide +kernel
theorem d120_65 : decode method_3_code 65 = .ok (.areturn, 1) := by decide +kernel
theorem ef_120 (mM : MethodId) (x0 : Int32) : entryFrame mM #[(.int x0)] 1 = mkF mM 0 #[.val (.int x0)] [] := by first | (simp [entryFrame, mkF, argsToLocals, Value.category]; done) | rfl
def Q120 (Z : State)  (h0 : Heap) (n0 : Nat) (v : Option Value) (h : Heap) (L : List Loc) : Prop := ∃ b : Addr, v = some (.ref b) ∧ h0.size ≤ b ∧ Fr n0 L ∧ Keep h0 h [] ∧ ∃ kb : ClassId, Arv Z h b kb .char (20 : Int32) [(.int (0 : Int32)), (.int (0 : Int32)), (.int (0 : Int32)), (.int (0 : Int32)), (.int (0 : Int32)), (.int (0 : Int32)), (.int (0 : Int32)), (.int (0 : Int32)), (.int (0 : Int32)), (.int (0 : Int32)), (.int (0 : Int32)), (.int (0 : Int32)), (.int (0 : Int32)), (.int (0 : Int32)), (.int (0 : Int32)), (.int (0 : Int32)), (.int (0 : Int32)), (.int (0 : Int32)), (.int (0 : Int32)), (.int (0 : Int32))] (.int (0 : Int32))
set_option maxRecDepth 65536 in
set_option maxHeartbeats 40000000 in
theorem rm120 (l : Launch) (Z : State) (a0 : Array Value) (hw : ∀ d ∈ tables_1, d.before a0 Z = true) (ws : List Jvm.Cond)  (h0 : Heap) (n0 : Nat) (Z0 : n0 ≤ h0.size) :
    MetFree l (⟨"com/example/tesserae/tesserae/dicom/TransferSyntaxForUidPinLaw", "make", "(I)[C"⟩ : MethodName) (head1 (Jvm.Cond.code (⟨"com/example/tesserae/tesserae/dicom/TransferSyntaxForUidPinLaw", "make", "(I)[C"⟩ : MethodName) method_3_code 1 (some (.array .char)) :: ws) ({ frames := 0, cells := 1, slots := 20, locals := 0 } : Room)) (fun aA uU => aA = #[(.int (20 : Int32))] ∧ Z.Warmed39 uU.vm ∧ uU.heap = h0) (fun _ _ _ _ _ => True) (fun _ uU oO uU' => ∃ vV lL, oO = .returned vV ∧ Q120 Z  h0 n0 vV uU'.heap lL ∧ FrameEnd uU oO uU' lL ({ frames := 0, cells := 1, slots := 20, locals := 0 } : Room).cells ({ frames := 0, cells := 1, slots := 20, locals := 0 } : Room).slots) := by
  refine MetFree.of_bodySF (plainFor_of_name pn_3) hisR ?_
  intro pP eE sS mM args below meth cC s₁ Bd hml0 hP hK
  obtain ⟨rfl, hZ, hh⟩ := hP
  have hx := Bd.exec
  have hby := Bd.bytes
  have hml : cC.maxLocals = 1 := hml0
  have hown : sS.vm.findClass "com/example/tesserae/tesserae/dicom/TransferSyntaxForUidPinLaw" = some mM.cls := findClass_of_methodNamed Bd.named
  have hnm := (name_of_methodNamed Bd.named Bd.method).1
  have X0 : Stand pP l eE ({ frames := 0, cells := 1, slots := 20, locals := 0 } : Room) sS mM #[(.int (20 : Int32))] below meth cC s₁ [] 0 0 := Stand.of_body Bd
  have e0 : s₁.heap = h0 := by rw [← hh, Bd.state]; rfl
  have N0 := Fr.nil n0
  have pre0 : ∀ tg, Steps pP.tables eE below (s₁.setTop (mkF mM 0 #[.val (.int (20 : Int32))] [])) tg → Steps pP.tables eE below (s₁.setTop (entryFrame mM #[(.int (20 : Int32))] 1)) tg := fun tg kg => castTop (ef_120 mM (20 : Int32)) kg
  have pr1 : ∀ tg, Steps pP.tables eE below (s₁.setTop (mkF mM 63 #[.val (.int (20 : Int32))] [(.int (20 : Int32))])) tg → Steps pP.tables eE below (s₁.setTop (entryFrame mM #[(.int (20 : Int32))] 1)) tg := fun tg kg => pre0 _ (by
    show Steps pP.tables eE below (s₁.setTop (mkF mM 0 #[.val (.int (20 : Int32))] [])) _
    refine XS.iloadN X0.here hx rfl (hb hby d120_0) rfl ?_
    refine XS.ifYes X0.here hx rfl (pc0 := 1) (pc' := 8) rfl (hb hby d120_1) rfl ((if0 _ _).trans (feq (by decide)).2) (by decide) (by decide) ?_
    refine XS.iloadN X0.here hx rfl (hb hby d120_8) rfl ?_
    refine XS.iconst X0.here hx rfl (hb hby d120_9) ?_
    refine XS.icmpYes X0.here hx rfl (pc0 := 10) (pc' := 17) rfl (hb hby d120_10) rfl (feq (by decide)).2 (by decide) (by decide) ?_
    refine XS.iloadN X0.here hx rfl (hb hby d120_17) rfl ?_
    show Steps pP.tables eE below (s₁.setTop (mkF mM 18 #[.val (.int (20 : Int32))] [(.int (20 : Int32))])) _
    refine XS.bipush X0.here hx rfl (hb hby d120_18) ?_
    refine XS.icmpYes X0.here hx rfl (pc0 := 20) (pc' := 28) rfl (hb hby d120_20) rfl (feq (by decide)).2 (by decide) (by decide) ?_
    refine XS.iloadN X0.here hx rfl (hb hby d120_28) rfl ?_
    refine XS.bipush X0.here hx rfl (hb hby d120_29) ?_
    refine XS.icmpYes X0.here hx rfl (pc0 := 31) (pc' := 39) rfl (hb hby d120_31) rfl (feq (by decide)).2 (by decide) (by decide) ?_
    refine XS.iloadN X0.here hx rfl (hb hby d120_39) rfl ?_
    show Steps pP.tables eE below (s₁.setTop (mkF mM 40 #[.val (.int (20 : Int32))] [(.int (20 : Int32))])) _
    refine XS.bipush X0.here hx rfl (hb hby d120_40) ?_
    refine XS.icmpYes X0.here hx rfl (pc0 := 42) (pc' := 50) rfl (hb hby d120_42) rfl (feq (by decide)).2 (by decide) (by decide) ?_
    refine XS.iloadN X0.here hx rfl (hb hby d120_50) rfl ?_
    refine XS.bipush X0.here hx rfl (hb hby d120_51) ?_
    refine XS.icmpYes X0.here hx rfl (pc0 := 53) (pc' := 61) rfl (hb hby d120_53) rfl (feq (by decide)).2 (by decide) (by decide) ?_
    refine XS.bipush X0.here hx rfl (hb hby d120_61) ?_
    exact kg)
  clear pre0
  obtain ⟨T2, h2, k2, X2, e2, E2, A2, Ex2, st2⟩ := newPE X0 hx hZ (hw _ (List.mem_of_getElem? (i := 12) rfl)) e0 (g := (mkF mM 63 #[.val (.int (20 : Int32))] [(.int (20 : Int32))])) rfl (hb hby d120_63) rfl (by decide) (cap := 20) (by decide) (by decide) (by decide) (by decide) (ad := "[C") rfl
  obtain ⟨b2, g2⟩ : ∃ z, z = (h0).size := ⟨_, rfl⟩
  rw [← g2] at A2 Ex2 st2
  have gn3 : n0 ≤ b2 := Nat.le_trans Z0 (Nat.le_of_eq g2.symm)
  have gs4 : h0.size ≤ b2 := Nat.le_trans (Keep.refl h0 []).1 (Nat.le_of_eq g2.symm)
  have V2 : Arv Z h2 b2 k2 .char (20 : Int32) [(.int (0 : Int32)), (.int (0 : Int32)), (.int (0 : Int32)), (.int (0 : Int32)), (.int (0 : Int32)), (.int (0 : Int32)), (.int (0 : Int32)), (.int (0 : Int32)), (.int (0 : Int32)), (.int (0 : Int32)), (.int (0 : Int32)), (.int (0 : Int32)), (.int (0 : Int32)), (.int (0 : Int32)), (.int (0 : Int32)), (.int (0 : Int32)), (.int (0 : Int32)), (.int (0 : Int32)), (.int (0 : Int32)), (.int (0 : Int32))] (.int (0 : Int32)) := (Arv.new A2 (by decide)).pad (pad_rep [] (.int (0 : Int32)) 20)
  have pr5 : ∀ tg, Steps pP.tables eE below (T2.setTop (mkF mM 65 #[.val (.int (20 : Int32))] [(.ref b2)])) tg → Steps pP.tables eE below (s₁.setTop (entryFrame mM #[(.int (20 : Int32))] 1)) tg := fun tg kg => pr1 _ (st2 _ kg)
  clear pr1 st2 X0 e0
  have c6 := (Keep.ext (Keep.refl h0 []) E2)
  obtain ⟨fs, hr, hrun, hended, hW, hsame⟩ := X2.leave (v := some (.ref b2)) (fun h => by rw [Bd.returns] at h; cases h)
  refine ⟨_, _, pr5 _ (retOut X2 hx (t := (.array .char)) Bd.returns rfl (Or.inr (Or.inr (Or.inr (Or.inr ⟨rfl, rfl, rfl⟩)))) (hb hby d120_65) hr), hrun, hended, _, _, rfl, ?_, ⟨_, rfl⟩, hW, hsame.mono (by decide) (by decide)⟩
  show Q120 Z  h0 n0 _ T2.heap _
  rw [e2]
  exact ⟨b2, rfl, gs4, N0, c6, _, V2⟩
theorem own_nat {i N : Int32} {k : Nat} (hN : N = Int32.ofNat k) (hk : k ≤ 20) (h1 : ¬ i < 0) (h2 : i < N) : i.toNatClampNeg < k := by
  subst hN
  rw [Int32.lt_iff_toInt_lt] at h1 h2
  rw [Int32.toInt_ofNat_of_lt (by omega)] at h2
  show i.toInt.toNat < k
  have c0 : (0 : Int32).toInt = 0 := rfl
  omega
theorem own_setb {tx : List Int32} {i : Nat} {w : Int32} (hp : ∀ c ∈ tx, ¬ c < 0 ∧ ¬ (255 : Int32) < c) (hw : ¬ w < 0 ∧ ¬ (255 : Int32) < w) : ∀ c ∈ tx.set i w, ¬ c < 0 ∧ ¬ (255 : Int32) < c := fun c hc => by
  rcases List.mem_or_eq_of_mem_set hc with h | h
  · exact hp c h
  · rw [h]; exact hw
theorem pd_6 : parseMethodDescriptor "()I" = some ⟨[], some .int⟩ := by decide +kernel
theorem pd_7 : parseMethodDescriptor "(I)C" = some ⟨[.int], some .char⟩ := by decide +kernel
theorem d2_0 : decode method_5_code 0 = .ok (.iload_n 1, 1) := by decide +kernel
theorem d2_1 : decode method_5_code 1 = .ok (.aload_n 0, 1) := by decide +kernel
theorem d2_2 : decode method_5_code 2 = .ok (.arraylength, 1) := by decide +kernel
theorem d2_3 : decode method_5_code 3 = .ok (.if_icmp .ge 55, 3) := by decide +kernel
theorem d2_6 : decode method_5_code 6 = .ok (.iload_n 1, 1) := by decide +kernel
theorem d2_7 : decode method_5_code 7 = .ok (.iload_n 3, 1) := by decide +kernel
theorem d2_8 : decode method_5_code 8 = .ok (.if_icmp .ne 11, 3) := by decide +kernel
theorem d2_11 : decode method_5_code 11 = .ok (.aload_n 0, 1) := by decide +kernel
theorem d2_12 : decode method_5_code 12 = .ok (.iload_n 1, 1) := by decide +kernel
theorem d2_13 : decode method_5_code 13 = .ok (.iload 4, 2) := by decide +kernel
theorem d2_15 : decode method_5_code 15 = .ok (.castore, 1) := by decide +kernel
theorem d2_16 : decode method_5_code 16 = .ok (.goto 42, 3) := by decide +kernel
theorem d2_19 : decode method_5_code 19 = .ok (.iload_n 1, 1) := by decide +kernel
theorem d2_20 : decode method_5_code 20 = .ok (.aload_n 2, 1) := by decide +kernel
theorem d2_21 : decode method_5_code 21 = .ok (.invokevirtual 47, 3) := by decide +kernel
theorem d2_24 : decode method_5_code 24 = .ok (.if_icmp .ge 14, 3) := by decide +kernel
theorem d2_27 : decode method_5_code 27 = .ok (.aload_n 0, 1) := by decide +kernel
theorem d2_28 : decode method_5_code 28 = .ok (.iload_n 1, 1) := by decide +kernel
theorem d2_29 : decode method_5_code 29 = .ok (.aload_n 2, 1) := by decide +kernel
theorem d2_30 : decode method_5_code 30 = .ok (.iload_n 1, 1) := by decide +kernel
theorem d2_31 : decode method_5_code 31 = .ok (.invokevirtual 51, 3) := by decide +kernel
theorem d2_34 : decode method_5_code 34 = .ok (.castore, 1) := by decide +kernel
theorem d2_35 : decode method_5_code 35 = .ok (.goto 23, 3) := by decide +kernel
theorem d2_38 : decode method_5_code 38 = .ok (.iload_n 1, 1) := by decide +kernel
theorem d2_39 : decode method_5_code 39 = .ok (.iconst 1, 1) := by decide +kernel
theorem d2_40 : decode method_5_code 40 = .ok (.iand, 1) := by decide +kernel
theorem d2_41 : decode method_5_code 41 = .ok (.iconst 1, 1) := by decide +kernel
theorem d2_42 : decode method_5_code 42 = .ok (.if_icmp .ne 11, 3) := by decide +kernel
theorem d2_45 : decode method_5_code 45 = .ok (.aload_n 0, 1) := by decide +kernel
theorem d2_46 : decode method_5_code 46 = .ok (.iload_n 1, 1) := by decide +kernel
theorem d2_47 : decode method_5_code 47 = .ok (.iload 5, 2) := by decide +kernel
theorem d2_49 : decode method_5_code 49 = .ok (.castore, 1) := by decide +kernel
theorem d2_50 : decode method_5_code 50 = .ok (.goto 8, 3) := by decide +kernel
theorem d2_53 : decode method_5_code 53 = .ok (.aload_n 0, 1) := by decide +kernel
theorem d2_54 : decode method_5_code 54 = .ok (.iload_n 1, 1) := by decide +kernel
theorem d2_55 : decode method_5_code 55 = .ok (.iload 6, 2) := by decide +kernel
theorem d2_57 : decode method_5_code 57 = .ok (.castore, 1) := by decide +kernel
theorem d2_58 : decode method_5_code 58 = .ok (.return_, 1) := by decide +kernel
theorem ef_2 (mM : MethodId) (x0 : Addr) (x1 : Int32) (x2 : Addr) (x3 : Int32) (x4 : Int32) (x5 : Int32) (x6 : Int32) : entryFrame mM #[(.ref x0), (.int x1), (.ref x2), (.int x3), (.int x4), (.int x5), (.int x6)] 7 = mkF mM 0 #[.val (.ref x0), .val (.int x1), .val (.ref x2), .val (.int x3), .val (.int x4), .val (.int x5), .val (.int x6)] [] := by first | (simp [entryFrame, mkF, argsToLocals, Value.category]; done) | rfl
def Q2 (Z : State) (cs : Int32) (sf : Value) (a : Addr) (b : Addr) (kb : ClassId) (nv : Int32) (vs : List Value) (y : Addr) (ky : ClassId) (N : Int32) (tx : List Int32) (iv : Int32) (pv : Int32) (cv : Int32) (ov : Int32) (ev : Int32) (h0 : Heap) (n0 : Nat) (v : Option Value) (h : Heap) (L : List Loc) : Prop := v = none ∧ Fr n0 L ∧ Keep h0 h [y] ∧ ∃ tx' : List Int32, tx'.length = tx.length ∧ (∀ c ∈ tx', ¬ c < 0 ∧ ¬ (255 : Int32) < c) ∧ Arv Z h y ky .char N (tx'.map Value.int) (.int (0 : Int32))
set_option maxRecDepth 65536 in
set_option maxHeartbeats 40000000 in
theorem rm2 (l : Launch) (Z : State) (a0 : Array Value) (hw : ∀ d ∈ tables_1, d.before a0 Z = true) (ws : List Jvm.Cond) (cs : Int32) (sf : Value) (a : Addr) (b : Addr) (kb : ClassId) (nv : Int32) (vs : List Value) (y : Addr) (ky : ClassId) (N : Int32) (tx : List Int32) (iv : Int32) (pv : Int32) (cv : Int32) (ov : Int32) (ev : Int32) (h0 : Heap) (n0 : Nat) (Z0 : n0 ≤ h0.size) (O : Old Z n0 h0) (S_cs : Sta Z Z.heap "java/lang/String" "COMPACT_STRINGS" "Z" (.int cs)) (hcs : ¬ cs = (0 : Int32)) (S_sf : Sta Z Z.heap "jdk/internal/util/Preconditions" "SIOOBE_FORMATTER" "Ljava/util/function/BiFunction;" sf) (rsf : sf.isRef = true) (E_a : Exa Z h0 a "java/lang/String") (F_c : Fld Z h0 a "java/lang/String" "coder" "B" (.int (0 : Int32))) (F_v : Fld Z h0 a "java/lang/String" "value" "[B" (.ref b)) (V_b : Arv Z h0 b kb .byte nv vs (.int (0 : Int32))) (hvs : ∀ j : Nat, ∃ u : Int32, vs.getD j (.int (0 : Int32)) = .int u) (V_y : Arv Z h0 y ky .char N (tx.map Value.int) (.int (0 : Int32))) (hN : N = Int32.ofNat tx.length) (hln : tx.length ≤ 20) (hp : ∀ c ∈ tx, ¬ c < 0 ∧ ¬ (255 : Int32) < c) (g_y : n0 ≤ y) (nya : a ≠ y) (nyb : b ≠ y) (hiv : ¬ iv < (0 : Int32)) (hcv : ¬ cv < 0 ∧ ¬ (255 : Int32) < cv) (hov : ¬ ov < 0 ∧ ¬ (255 : Int32) < ov) (hev : ¬ ev < 0 ∧ ¬ (255 : Int32) < ev) :
    MetFree l (⟨"com/example/tesserae/tesserae/dicom/TransferSyntaxForUidPinLaw", "set", "([CILjava/lang/String;ICCC)V"⟩ : MethodName) (head1 (Jvm.Cond.code (⟨"com/example/tesserae/tesserae/dicom/TransferSyntaxForUidPinLaw", "set", "([CILjava/lang/String;ICCC)V"⟩ : MethodName) method_5_code 7 none :: ws) ({ frames := 4, cells := 0, slots := 0, locals := 55 } : Room)) (fun aA uU => aA = #[(.ref y), (.int iv), (.ref a), (.int pv), (.int cv), (.int ov), (.int ev)] ∧ Z.Warmed39 uU.vm ∧ uU.heap = h0) (fun _ _ _ _ _ => True) (fun _ uU oO uU' => ∃ vV lL, oO = .returned vV ∧ Q2 Z cs sf a b kb nv vs y ky N tx iv pv cv ov ev h0 n0 vV uU'.heap lL ∧ FrameEnd uU oO uU' lL ({ frames := 4, cells := 0, slots := 0, locals := 55 } : Room).cells ({ frames := 4, cells := 0, slots := 0, locals := 55 } : Room).slots) := by
  refine MetFree.of_bodySF (plainFor_of_name pn_3) hisR ?_
  intro pP eE sS mM args below meth cC s₁ Bd hml0 hP hK
  obtain ⟨rfl, hZ, hh⟩ := hP
  have hx := Bd.exec
  have hby := Bd.bytes
  have hml : cC.maxLocals = 7 := hml0
  have hown : sS.vm.findClass "com/example/tesserae/tesserae/dicom/TransferSyntaxForUidPinLaw" = some mM.cls := findClass_of_methodNamed Bd.named
  have hnm := (name_of_methodNamed Bd.named Bd.method).1
  have X0 : Stand pP l eE ({ frames := 4, cells := 0, slots := 0, locals := 55 } : Room) sS mM #[(.ref y), (.int iv), (.ref a), (.int pv), (.int cv), (.int ov), (.int ev)] below meth cC s₁ [] 0 0 := Stand.of_body Bd
  have e0 : s₁.heap = h0 := by rw [← hh, Bd.state]; rfl
  have N0 := Fr.nil n0
  have pre0 : ∀ tg, Steps pP.tables eE below (s₁.setTop (mkF mM 0 #[.val (.ref y), .val (.int iv), .val (.ref a), .val (.int pv), .val (.int cv), .val (.int ov), .val (.int ev)] [])) tg → Steps pP.tables eE below (s₁.setTop (entryFrame mM #[(.ref y), (.int iv), (.ref a), (.int pv), (.int cv), (.int ov), (.int ev)] 7)) tg := fun tg kg => castTop (ef_2 mM y iv a pv cv ov ev) kg
  obtain ⟨cla1, Ara1, qa1, Sa1, Ma1, Ha1, Ga1⟩ := id V_y
  have pr3 : ∀ tg, Steps pP.tables eE below (s₁.setTop (mkF mM 3 #[.val (.ref y), .val (.int iv), .val (.ref a), .val (.int pv), .val (.int cv), .val (.int ov), .val (.int ev)] [(.int N), (.int iv)])) tg → Steps pP.tables eE below (s₁.setTop (entryFrame mM #[(.ref y), (.int iv), (.ref a), (.int pv), (.int cv), (.int ov), (.int ev)] 7)) tg := fun tg kg => pre0 _ (by
    show Steps pP.tables eE below (s₁.setTop (mkF mM 0 #[.val (.ref y), .val (.int iv), .val (.ref a), .val (.int pv), .val (.int cv), .val (.int ov), .val (.int ev)] [])) _
    refine XS.iloadN X0.here hx rfl (hb hby d2_0) rfl ?_
    refine XS.aloadN X0.here hx rfl (hb hby d2_1) rfl rfl ?_
    show Steps pP.tables eE below (s₁.setTop (mkF mM 2 #[.val (.ref y), .val (.int iv), .val (.ref a), .val (.int pv), .val (.int cv), .val (.int ov), .val (.int ev)] [(.ref y), (.int iv)])) _
    refine X0.arraylength hx (by rw [e0]; exact Ara1.1) (State.isArrayOf_alike hZ.alike Ara1.2.1) (g := (mkF mM 2 #[.val (.ref y), .val (.int iv), .val (.ref a), .val (.int pv), .val (.int cv), .val (.int ov), .val (.int ev)] [(.ref y), (.int iv)])) rfl rfl (hb hby d2_2) _ ?_
    rw [len_of Sa1 Ma1]
    exact kg)
  clear pre0
  by_cases hc3_2 : iv < N
  ·
    have pr5 : ∀ tg, Steps pP.tables eE below (s₁.setTop (mkF mM 8 #[.val (.ref y), .val (.int iv), .val (.ref a), .val (.int pv), .val (.int cv), .val (.int ov), .val (.int ev)] [(.int pv), (.int iv)])) tg → Steps pP.tables eE below (s₁.setTop (entryFrame mM #[(.ref y), (.int iv), (.ref a), (.int pv), (.int cv), (.int ov), (.int ev)] 7)) tg := fun tg kg => pr3 _ (by
      show Steps pP.tables eE below (s₁.setTop (mkF mM 3 #[.val (.ref y), .val (.int iv), .val (.ref a), .val (.int pv), .val (.int cv), .val (.int ov), .val (.int ev)] [(.int N), (.int iv)])) _
      refine XS.icmpNo X0.here hx rfl (hb hby d2_3) rfl (tlt hc3_2).2.1 ?_
      refine XS.iloadN X0.here hx rfl (hb hby d2_6) rfl ?_
      refine XS.iloadN X0.here hx rfl (hb hby d2_7) rfl ?_
      exact kg)
    clear pr3
    by_cases hc8_4 : iv = pv
    ·
      have pr6 : ∀ tg, Steps pP.tables eE below (s₁.setTop (mkF mM 15 #[.val (.ref y), .val (.int iv), .val (.ref a), .val (.int pv), .val (.int cv), .val (.int ov), .val (.int ev)] [(.int cv), (.int iv), (.ref y)])) tg → Steps pP.tables eE below (s₁.setTop (entryFrame mM #[(.ref y), (.int iv), (.ref a), (.int pv), (.int cv), (.int ov), (.int ev)] 7)) tg := fun tg kg => pr5 _ (by
        show Steps pP.tables eE below (s₁.setTop (mkF mM 8 #[.val (.ref y), .val (.int iv), .val (.ref a), .val (.int pv), .val (.int cv), .val (.int ov), .val (.int ev)] [(.int pv), (.int iv)])) _
        refine XS.icmpNo X0.here hx rfl (hb hby d2_8) rfl (teq hc8_4).2 ?_
        refine XS.aloadN X0.here hx rfl (hb hby d2_11) rfl rfl ?_
        refine XS.iloadN X0.here hx rfl (hb hby d2_12) rfl ?_
        refine XS.iload X0.here hx rfl (hb hby d2_13) rfl ?_
        exact kg)
      clear pr5
      have hin7 : ¬ (iv < 0 ∨ cla1.slots.size ≤ (iv).toNatClampNeg) := inb_of Sa1 ⟨hiv, hc3_2⟩
      obtain ⟨T7, h7, X7, e7, W7, st7⟩ := stC X0 hx hZ e0 Ara1 (j := iv) hin7 (g := (mkF mM 15 #[.val (.ref y), .val (.int iv), .val (.ref a), .val (.int pv), .val (.int cv), .val (.int ov), .val (.int ev)] [(.int cv), (.int iv), (.ref y)])) rfl rfl (hb hby d2_15)
      have Vw7 := Arv.set Ara1 qa1 Sa1 Ma1 Ha1 Ga1 (fits_nar_char _) W7 _ rfl (by rw [List.length_map]; exact own_nat hN hln hiv hc3_2)
      have V7 : Arv Z h7 y ky .char N ((tx.set (iv).toNatClampNeg (nar .char cv)).map Value.int) (.int (0 : Int32)) := by rw [List.map_set]; exact Vw7
      have N7 := Fr.snoc X7 N0 g_y
      have pr8 : ∀ tg, Steps pP.tables eE below (T7.setTop (mkF mM 16 #[.val (.ref y), .val (.int iv), .val (.ref a), .val (.int pv), .val (.int cv), .val (.int ov), .val (.int ev)] [])) tg → Steps pP.tables eE below (s₁.setTop (entryFrame mM #[(.ref y), (.int iv), (.ref a), (.int pv), (.int cv), (.int ov), (.int ev)] 7)) tg := fun tg kg => pr6 _ (st7 _ kg)
      clear pr6 st7 X0 e0
      have pr9 : ∀ tg, Steps pP.tables eE below (T7.setTop (mkF mM 58 #[.val (.ref y), .val (.int iv), .val (.ref a), .val (.int pv), .val (.int cv), .val (.int ov), .val (.int ev)] [])) tg → Steps pP.tables eE below (s₁.setTop (entryFrame mM #[(.ref y), (.int iv), (.ref a), (.int pv), (.int cv), (.int ov), (.int ev)] 7)) tg := fun tg kg => pr8 _ (by
        show Steps pP.tables eE below (T7.setTop (mkF mM 16 #[.val (.ref y), .val (.int iv), .val (.ref a), .val (.int pv), .val (.int cv), .val (.int ov), .val (.int ev)] [])) _
        refine XS.goto X7.here hx rfl (pc0 := 16) (pc' := 58) rfl (hb hby d2_16) (by decide) (by decide) ?_
        exact kg)
      clear pr8
      have c10 := (Keep.wr (Keep.refl h0 [y]) W7 (Or.inl (List.mem_of_getElem? (i := 0) rfl)))
      obtain ⟨fs, hr, hrun, hended, hW, hsame⟩ := X7.leave (v := none) (fun _ => rfl)
      refine ⟨_, _, pr9 _ (X7.returnOut hx Bd.returns (hb hby d2_58) hr), hrun, hended, _, _, rfl, ?_, ⟨_, rfl⟩, hW, hsame.mono (by decide) (by decide)⟩
      show Q2 Z cs sf a b kb nv vs y ky N tx iv pv cv ov ev h0 n0 _ T7.heap _
      rw [e7]
      exact ⟨rfl, N7, c10, (tx.set (iv).toNatClampNeg (nar .char cv)), List.length_set, (own_setb hp (own_nb2 hcv)), V7⟩
    ·
      have pr11 : ∀ tg, Steps pP.tables eE below (s₁.setTop (mkF mM 21 #[.val (.ref y), .val (.int iv), .val (.ref a), .val (.int pv), .val (.int cv), .val (.int ov), .val (.int ev)] [(.ref a), (.int iv)])) tg → Steps pP.tables eE below (s₁.setTop (entryFrame mM #[(.ref y), (.int iv), (.ref a), (.int pv), (.int cv), (.int ov), (.int ev)] 7)) tg := fun tg kg => pr5 _ (by
        show Steps pP.tables eE below (s₁.setTop (mkF mM 8 #[.val (.ref y), .val (.int iv), .val (.ref a), .val (.int pv), .val (.int cv), .val (.int ov), .val (.int ev)] [(.int pv), (.int iv)])) _
        refine XS.icmpYes X0.here hx rfl (pc0 := 8) (pc' := 19) rfl (hb hby d2_8) rfl (feq hc8_4).2 (by decide) (by decide) ?_
        refine XS.iloadN X0.here hx rfl (hb hby d2_19) rfl ?_
        refine XS.aloadN X0.here hx rfl (hb hby d2_20) rfl rfl ?_
        exact kg)
      clear pr5
      obtain ⟨cq12, kq12, qa12, qb12, qc12⟩ := isOf hZ e0 E_a
      obtain ⟨_, _, ⟨T12, L12, kk12, nn12⟩, -, X12, ⟨Lc12, hQ12, l12, y12, z12⟩, st12⟩ := X0.virtualBack hx (y := (⟨"java/lang/String", "length", "()I"⟩ : MethodName)) (z := (⟨"java/lang/String", "length", "()I"⟩ : MethodName)) hown (mvT hZ (hw _ (List.mem_of_getElem? (i := 69) rfl))) (mvT hZ (hw _ (List.mem_of_getElem? (i := 70) rfl))) (notFace_of_selects (args := #[]) (mvT hZ (hw _ (List.mem_of_getElem? (i := 72) rfl)))) (mvT hZ (hw _ (List.mem_of_getElem? (i := 72) rfl))) (mvT hZ (hw _ (List.mem_of_getElem? (i := 71) rfl))) (by decide) (backOf (W := 1) (rmt2 l Z a0 hw [] cs a b kb nv vs h0 n0 Z0 O S_cs hcs E_a F_c F_v V_b) hZ (hw _ (List.mem_of_getElem? (i := 73) rfl)) (hw _ (List.mem_of_getElem? (i := 1) rfl)) (by decide) (by decide)) qa12 qc12 (g := (mkF mM 21 #[.val (.ref y), .val (.int iv), .val (.ref a), .val (.int pv), .val (.int cv), .val (.int ov), .val (.int ev)] [(.ref a), (.int iv)])) rfl (by rw [hml]; rfl) (Steps.refl _) (argsL := []) (rest := [(.int iv)]) (lenOf pd_6 rfl) rfl (by show 2 * 0 + _ ≤ _; exact Nat.le_of_eq rfl) (hb hby d2_21) (fun _ _ => ⟨rfl, e0, (by decide : 0 + 0 ≤ _), (by decide : 0 + 0 ≤ _)⟩)
      dsimp only [Pt.U, Pt.locs, Pt.cells, Pt.slots] at X12 l12 y12 z12 st12 hQ12
      subst l12 y12 z12
      obtain ⟨rfl, Nq12, e12⟩ := hQ12
      have N12 := Fr.app N0 Nq12
      have pr13 : ∀ tg, Steps pP.tables eE below (T12.setTop (mkF mM 24 #[.val (.ref y), .val (.int iv), .val (.ref a), .val (.int pv), .val (.int cv), .val (.int ov), .val (.int ev)] [(.int nv), (.int iv)])) tg → Steps pP.tables eE below (s₁.setTop (entryFrame mM #[(.ref y), (.int iv), (.ref a), (.int pv), (.int cv), (.int ov), (.int ev)] 7)) tg := fun tg kg => pr11 _ (st12.trans kg)
      clear pr11 st12 X0 e0
      by_cases hc24_14 : iv < nv
      ·
        have pr15 : ∀ tg, Steps pP.tables eE below (T12.setTop (mkF mM 31 #[.val (.ref y), .val (.int iv), .val (.ref a), .val (.int pv), .val (.int cv), .val (.int ov), .val (.int ev)] [(.int iv), (.ref a), (.int iv), (.ref y)])) tg → Steps pP.tables eE below (s₁.setTop (entryFrame mM #[(.ref y), (.int iv), (.ref a), (.int pv), (.int cv), (.int ov), (.int ev)] 7)) tg := fun tg kg => pr13 _ (by
          show Steps pP.tables eE below (T12.setTop (mkF mM 24 #[.val (.ref y), .val (.int iv), .val (.ref a), .val (.int pv), .val (.int cv), .val (.int ov), .val (.int ev)] [(.int nv), (.int iv)])) _
          refine XS.icmpNo X12.here hx rfl (hb hby d2_24) rfl (tlt hc24_14).2.1 ?_
          refine XS.aloadN X12.here hx rfl (hb hby d2_27) rfl rfl ?_
          refine XS.iloadN X12.here hx rfl (hb hby d2_28) rfl ?_
          refine XS.aloadN X12.here hx rfl (hb hby d2_29) rfl rfl ?_
          refine XS.iloadN X12.here hx rfl (hb hby d2_30) rfl ?_
          exact kg)
        clear pr13
        obtain ⟨cla16, Ara16, qa16, Sa16, Ma16, Ha16, Ga16⟩ := id V_b
        obtain ⟨uv, huv⟩ := hvs (iv).toNatClampNeg
        obtain ⟨Ls17, X17, N17⟩ := own_hide X12 N12
        clear X12 N12
        obtain ⟨cq18, kq18, qa18, qb18, qc18⟩ := isOf hZ e12 E_a
        obtain ⟨_, _, ⟨T18, L18, kk18, nn18⟩, -, X18, ⟨Lc18, hQ18, l18, y18, z18⟩, st18⟩ := X17.virtualBack hx (y := (⟨"java/lang/String", "charAt", "(I)C"⟩ : MethodName)) (z := (⟨"java/lang/String", "charAt", "(I)C"⟩ : MethodName)) hown (mvT hZ (hw _ (List.mem_of_getElem? (i := 79) rfl))) (mvT hZ (hw _ (List.mem_of_getElem? (i := 80) rfl))) (notFace_of_selects (args := #[]) (mvT hZ (hw _ (List.mem_of_getElem? (i := 82) rfl)))) (mvT hZ (hw _ (List.mem_of_getElem? (i := 82) rfl))) (mvT hZ (hw _ (List.mem_of_getElem? (i := 81) rfl))) (by decide) (backOf (W := 2) (rms5 l Z a0 hw [] cs sf a b cla16 nv iv uv h0 n0 Z0 O S_cs hcs S_sf rsf E_a F_c F_v Ara16 Sa16 Ma16 hiv hc24_14 (Has.at Ha16 (inb_of Sa16 ⟨hiv, hc24_14⟩) huv)) hZ (hw _ (List.mem_of_getElem? (i := 83) rfl)) (hw _ (List.mem_of_getElem? (i := 1) rfl)) (by decide) (by decide)) qa18 qc18 (g := (mkF mM 31 #[.val (.ref y), .val (.int iv), .val (.ref a), .val (.int pv), .val (.int cv), .val (.int ov), .val (.int ev)] [(.int iv), (.ref a), (.int iv), (.ref y)])) rfl (by rw [hml]; rfl) (Steps.refl _) (argsL := [(.int iv)]) (rest := [(.int iv), (.ref y)]) (lenOf pd_7 rfl) rfl (by show 2 * 0 + _ ≤ _; exact Nat.le_of_eq rfl) (hb hby d2_31) (fun _ _ => ⟨rfl, e12, (by decide : 0 + 0 ≤ _), (by decide : 0 + 0 ≤ _)⟩)
        dsimp only [Pt.U, Pt.locs, Pt.cells, Pt.slots] at X18 l18 y18 z18 st18 hQ18
        subst l18 y18 z18
        obtain ⟨rfl, Nq18, e18⟩ := hQ18
        have N18 := Fr.app N17 Nq18
        have pr19 : ∀ tg, Steps pP.tables eE below (T18.setTop (mkF mM 34 #[.val (.ref y), .val (.int iv), .val (.ref a), .val (.int pv), .val (.int cv), .val (.int ov), .val (.int ev)] [(.int (uv &&& (255 : Int32)).toUInt32.toUInt16.toUInt32.toInt32), (.int iv), (.ref y)])) tg → Steps pP.tables eE below (s₁.setTop (entryFrame mM #[(.ref y), (.int iv), (.ref a), (.int pv), (.int cv), (.int ov), (.int ev)] 7)) tg := fun tg kg => pr15 _ (st18.trans kg)
        clear pr15 st18 X17 e12
        have hin20 : ¬ (iv < 0 ∨ cla1.slots.size ≤ (iv).toNatClampNeg) := inb_of Sa1 ⟨hiv, hc3_2⟩
        obtain ⟨T20, h20, X20, e20, W20, st20⟩ := stC X18 hx hZ e18 Ara1 (j := iv) hin20 (g := (mkF mM 34 #[.val (.ref y), .val (.int iv), .val (.ref a), .val (.int pv), .val (.int cv), .val (.int ov), .val (.int ev)] [(.int (uv &&& (255 : Int32)).toUInt32.toUInt16.toUInt32.toInt32), (.int iv), (.ref y)])) rfl rfl (hb hby d2_34)
        have Vw20 := Arv.set Ara1 qa1 Sa1 Ma1 Ha1 Ga1 (fits_nar_char _) W20 _ rfl (by rw [List.length_map]; exact own_nat hN hln hiv hc3_2)
        have V20 : Arv Z h20 y ky .char N ((tx.set (iv).toNatClampNeg (nar .char (uv &&& (255 : Int32)).toUInt32.toUInt16.toUInt32.toInt32)).map Value.int) (.int (0 : Int32)) := by rw [List.map_set]; exact Vw20
        have N20 := Fr.snoc X20 N18 g_y
        have pr21 : ∀ tg, Steps pP.tables eE below (T20.setTop (mkF mM 35 #[.val (.ref y), .val (.int iv), .val (.ref a), .val (.int pv), .val (.int cv), .val (.int ov), .val (.int ev)] [])) tg → Steps pP.tables eE below (s₁.setTop (entryFrame mM #[(.ref y), (.int iv), (.ref a), (.int pv), (.int cv), (.int ov), (.int ev)] 7)) tg := fun tg kg => pr19 _ (st20 _ kg)
        clear pr19 st20 X18 e18
        have pr22 : ∀ tg, Steps pP.tables eE below (T20.setTop (mkF mM 58 #[.val (.ref y), .val (.int iv), .val (.ref a), .val (.int pv), .val (.int cv), .val (.int ov), .val (.int ev)] [])) tg → Steps pP.tables eE below (s₁.setTop (entryFrame mM #[(.ref y), (.int iv), (.ref a), (.int pv), (.int cv), (.int ov), (.int ev)] 7)) tg := fun tg kg => pr21 _ (by
          show Steps pP.tables eE below (T20.setTop (mkF mM 35 #[.val (.ref y), .val (.int iv), .val (.ref a), .val (.int pv), .val (.int cv), .val (.int ov), .val (.int ev)] [])) _
          refine XS.goto X20.here hx rfl (pc0 := 35) (pc' := 58) rfl (hb hby d2_35) (by decide) (by decide) ?_
          exact kg)
        clear pr21
        have c23 := (Keep.wr (Keep.refl h0 [y]) W20 (Or.inl (List.mem_of_getElem? (i := 0) rfl)))
        obtain ⟨fs, hr, hrun, hended, hW, hsame⟩ := X20.leave (v := none) (fun _ => rfl)
        refine ⟨_, _, pr22 _ (X20.returnOut hx Bd.returns (hb hby d2_58) hr), hrun, hended, _, _, rfl, ?_, ⟨_, rfl⟩, hW, hsame.mono (by decide) (by decide)⟩
        show Q2 Z cs sf a b kb nv vs y ky N tx iv pv cv ov ev h0 n0 _ T20.heap _
        rw [e20]
        exact ⟨rfl, N20, c23, (tx.set (iv).toNatClampNeg (nar .char (uv &&& (255 : Int32)).toUInt32.toUInt16.toUInt32.toInt32)), List.length_set, (own_setb hp (own_nb2 (own_b8 _))), V20⟩
      ·
        have pr25 : ∀ tg, Steps pP.tables eE below (T12.setTop (mkF mM 42 #[.val (.ref y), .val (.int iv), .val (.ref a), .val (.int pv), .val (.int cv), .val (.int ov), .val (.int ev)] [(.int (1 : Int32)), (.int (iv &&& (1 : Int32)))])) tg → Steps pP.tables eE below (s₁.setTop (entryFrame mM #[(.ref y), (.int iv), (.ref a), (.int pv), (.int cv), (.int ov), (.int ev)] 7)) tg := fun tg kg => pr13 _ (by
          show Steps pP.tables eE below (T12.setTop (mkF mM 24 #[.val (.ref y), .val (.int iv), .val (.ref a), .val (.int pv), .val (.int cv), .val (.int ov), .val (.int ev)] [(.int nv), (.int iv)])) _
          refine XS.icmpYes X12.here hx rfl (pc0 := 24) (pc' := 38) rfl (hb hby d2_24) rfl (flt hc24_14).2.1 (by decide) (by decide) ?_
          refine XS.iloadN X12.here hx rfl (hb hby d2_38) rfl ?_
          refine XS.iconst X12.here hx rfl (hb hby d2_39) ?_
          refine XS.iand X12.here hx rfl (hb hby d2_40) rfl ?_
          refine XS.iconst X12.here hx rfl (hb hby d2_41) ?_
          exact kg)
        clear pr13
        by_cases hc42_24 : (iv &&& (1 : Int32)) = (1 : Int32)
        ·
          have pr26 : ∀ tg, Steps pP.tables eE below (T12.setTop (mkF mM 49 #[.val (.ref y), .val (.int iv), .val (.ref a), .val (.int pv), .val (.int cv), .val (.int ov), .val (.int ev)] [(.int ov), (.int iv), (.ref y)])) tg → Steps pP.tables eE below (s₁.setTop (entryFrame mM #[(.ref y), (.int iv), (.ref a), (.int pv), (.int cv), (.int ov), (.int ev)] 7)) tg := fun tg kg => pr25 _ (by
            show Steps pP.tables eE below (T12.setTop (mkF mM 42 #[.val (.ref y), .val (.int iv), .val (.ref a), .val (.int pv), .val (.int cv), .val (.int ov), .val (.int ev)] [(.int (1 : Int32)), (.int (iv &&& (1 : Int32)))])) _
            refine XS.icmpNo X12.here hx rfl (hb hby d2_42) rfl (teq hc42_24).2 ?_
            refine XS.aloadN X12.here hx rfl (hb hby d2_45) rfl rfl ?_
            refine XS.iloadN X12.here hx rfl (hb hby d2_46) rfl ?_
            refine XS.iload X12.here hx rfl (hb hby d2_47) rfl ?_
            exact kg)
          clear pr25
          have hin27 : ¬ (iv < 0 ∨ cla1.slots.size ≤ (iv).toNatClampNeg) := inb_of Sa1 ⟨hiv, hc3_2⟩
          obtain ⟨T27, h27, X27, e27, W27, st27⟩ := stC X12 hx hZ e12 Ara1 (j := iv) hin27 (g := (mkF mM 49 #[.val (.ref y), .val (.int iv), .val (.ref a), .val (.int pv), .val (.int cv), .val (.int ov), .val (.int ev)] [(.int ov), (.int iv), (.ref y)])) rfl rfl (hb hby d2_49)
          have Vw27 := Arv.set Ara1 qa1 Sa1 Ma1 Ha1 Ga1 (fits_nar_char _) W27 _ rfl (by rw [List.length_map]; exact own_nat hN hln hiv hc3_2)
          have V27 : Arv Z h27 y ky .char N ((tx.set (iv).toNatClampNeg (nar .char ov)).map Value.int) (.int (0 : Int32)) := by rw [List.map_set]; exact Vw27
          have N27 := Fr.snoc X27 N12 g_y
          have pr28 : ∀ tg, Steps pP.tables eE below (T27.setTop (mkF mM 50 #[.val (.ref y), .val (.int iv), .val (.ref a), .val (.int pv), .val (.int cv), .val (.int ov), .val (.int ev)] [])) tg → Steps pP.tables eE below (s₁.setTop (entryFrame mM #[(.ref y), (.int iv), (.ref a), (.int pv), (.int cv), (.int ov), (.int ev)] 7)) tg := fun tg kg => pr26 _ (st27 _ kg)
          clear pr26 st27 X12 e12
          have pr29 : ∀ tg, Steps pP.tables eE below (T27.setTop (mkF mM 58 #[.val (.ref y), .val (.int iv), .val (.ref a), .val (.int pv), .val (.int cv), .val (.int ov), .val (.int ev)] [])) tg → Steps pP.tables eE below (s₁.setTop (entryFrame mM #[(.ref y), (.int iv), (.ref a), (.int pv), (.int cv), (.int ov), (.int ev)] 7)) tg := fun tg kg => pr28 _ (by
            show Steps pP.tables eE below (T27.setTop (mkF mM 50 #[.val (.ref y), .val (.int iv), .val (.ref a), .val (.int pv), .val (.int cv), .val (.int ov), .val (.int ev)] [])) _
            refine XS.goto X27.here hx rfl (pc0 := 50) (pc' := 58) rfl (hb hby d2_50) (by decide) (by decide) ?_
            exact kg)
          clear pr28
          have c30 := (Keep.wr (Keep.refl h0 [y]) W27 (Or.inl (List.mem_of_getElem? (i := 0) rfl)))
          obtain ⟨fs, hr, hrun, hended, hW, hsame⟩ := X27.leave (v := none) (fun _ => rfl)
          refine ⟨_, _, pr29 _ (X27.returnOut hx Bd.returns (hb hby d2_58) hr), hrun, hended, _, _, rfl, ?_, ⟨_, rfl⟩, hW, hsame.mono (by decide) (by decide)⟩
          show Q2 Z cs sf a b kb nv vs y ky N tx iv pv cv ov ev h0 n0 _ T27.heap _
          rw [e27]
          exact ⟨rfl, N27, c30, (tx.set (iv).toNatClampNeg (nar .char ov)), List.length_set, (own_setb hp (own_nb2 hov)), V27⟩
        ·
          have pr31 : ∀ tg, Steps pP.tables eE below (T12.setTop (mkF mM 57 #[.val (.ref y), .val (.int iv), .val (.ref a), .val (.int pv), .val (.int cv), .val (.int ov), .val (.int ev)] [(.int ev), (.int iv), (.ref y)])) tg → Steps pP.tables eE below (s₁.setTop (entryFrame mM #[(.ref y), (.int iv), (.ref a), (.int pv), (.int cv), (.int ov), (.int ev)] 7)) tg := fun tg kg => pr25 _ (by
            show Steps pP.tables eE below (T12.setTop (mkF mM 42 #[.val (.ref y), .val (.int iv), .val (.ref a), .val (.int pv), .val (.int cv), .val (.int ov), .val (.int ev)] [(.int (1 : Int32)), (.int (iv &&& (1 : Int32)))])) _
            refine XS.icmpYes X12.here hx rfl (pc0 := 42) (pc' := 53) rfl (hb hby d2_42) rfl (feq hc42_24).2 (by decide) (by decide) ?_
            refine XS.aloadN X12.here hx rfl (hb hby d2_53) rfl rfl ?_
            refine XS.iloadN X12.here hx rfl (hb hby d2_54) rfl ?_
            refine XS.iload X12.here hx rfl (hb hby d2_55) rfl ?_
            exact kg)
          clear pr25
          have hin32 : ¬ (iv < 0 ∨ cla1.slots.size ≤ (iv).toNatClampNeg) := inb_of Sa1 ⟨hiv, hc3_2⟩
          obtain ⟨T32, h32, X32, e32, W32, st32⟩ := stC X12 hx hZ e12 Ara1 (j := iv) hin32 (g := (mkF mM 57 #[.val (.ref y), .val (.int iv), .val (.ref a), .val (.int pv), .val (.int cv), .val (.int ov), .val (.int ev)] [(.int ev), (.int iv), (.ref y)])) rfl rfl (hb hby d2_57)
          have Vw32 := Arv.set Ara1 qa1 Sa1 Ma1 Ha1 Ga1 (fits_nar_char _) W32 _ rfl (by rw [List.length_map]; exact own_nat hN hln hiv hc3_2)
          have V32 : Arv Z h32 y ky .char N ((tx.set (iv).toNatClampNeg (nar .char ev)).map Value.int) (.int (0 : Int32)) := by rw [List.map_set]; exact Vw32
          have N32 := Fr.snoc X32 N12 g_y
          have pr33 : ∀ tg, Steps pP.tables eE below (T32.setTop (mkF mM 58 #[.val (.ref y), .val (.int iv), .val (.ref a), .val (.int pv), .val (.int cv), .val (.int ov), .val (.int ev)] [])) tg → Steps pP.tables eE below (s₁.setTop (entryFrame mM #[(.ref y), (.int iv), (.ref a), (.int pv), (.int cv), (.int ov), (.int ev)] 7)) tg := fun tg kg => pr31 _ (st32 _ kg)
          clear pr31 st32 X12 e12
          have c34 := (Keep.wr (Keep.refl h0 [y]) W32 (Or.inl (List.mem_of_getElem? (i := 0) rfl)))
          obtain ⟨fs, hr, hrun, hended, hW, hsame⟩ := X32.leave (v := none) (fun _ => rfl)
          refine ⟨_, _, pr33 _ (X32.returnOut hx Bd.returns (hb hby d2_58) hr), hrun, hended, _, _, rfl, ?_, ⟨_, rfl⟩, hW, hsame.mono (by decide) (by decide)⟩
          show Q2 Z cs sf a b kb nv vs y ky N tx iv pv cv ov ev h0 n0 _ T32.heap _
          rw [e32]
          exact ⟨rfl, N32, c34, (tx.set (iv).toNatClampNeg (nar .char ev)), List.length_set, (own_setb hp (own_nb2 hev)), V32⟩
  ·
    have pr35 : ∀ tg, Steps pP.tables eE below (s₁.setTop (mkF mM 58 #[.val (.ref y), .val (.int iv), .val (.ref a), .val (.int pv), .val (.int cv), .val (.int ov), .val (.int ev)] [])) tg → Steps pP.tables eE below (s₁.setTop (entryFrame mM #[(.ref y), (.int iv), (.ref a), (.int pv), (.int cv), (.int ov), (.int ev)] 7)) tg := fun tg kg => pr3 _ (by
      show Steps pP.tables eE below (s₁.setTop (mkF mM 3 #[.val (.ref y), .val (.int iv), .val (.ref a), .val (.int pv), .val (.int cv), .val (.int ov), .val (.int ev)] [(.int N), (.int iv)])) _
      refine XS.icmpYes X0.here hx rfl (pc0 := 3) (pc' := 58) rfl (hb hby d2_3) rfl (flt hc3_2).2.1 (by decide) (by decide) ?_
      exact kg)
    clear pr3
    obtain ⟨fs, hr, hrun, hended, hW, hsame⟩ := X0.leave (v := none) (fun _ => rfl)
    refine ⟨_, _, pr35 _ (X0.returnOut hx Bd.returns (hb hby d2_58) hr), hrun, hended, _, _, rfl, ?_, ⟨_, rfl⟩, hW, hsame.mono (by decide) (by decide)⟩
    show Q2 Z cs sf a b kb nv vs y ky N tx iv pv cv ov ev h0 n0 _ s₁.heap _
    rw [e0]
    exact ⟨rfl, N0, (Keep.refl h0 [y]), tx, rfl, hp, V_y⟩
theorem pd_8 : parseMethodDescriptor "([CILjava/lang/String;ICCC)V" = some ⟨[(.array .char), .int, (.object "java/lang/String"), .int, .char, .char, .char], none⟩ := by decide +kernel
theorem d3_0 : decode method_4_code 0 = .ok (.aload_n 0, 1) := by decide +kernel
theorem d3_1 : decode method_4_code 1 = .ok (.iconst 0, 1) := by decide +kernel
theorem d3_2 : decode method_4_code 2 = .ok (.aload_n 1, 1) := by decide +kernel
theorem d3_3 : decode method_4_code 3 = .ok (.iload_n 2, 1) := by decide +kernel
theorem d3_4 : decode method_4_code 4 = .ok (.iload_n 3, 1) := by decide +kernel
theorem d3_5 : decode method_4_code 5 = .ok (.iload 4, 2) := by decide +kernel
theorem d3_7 : decode method_4_code 7 = .ok (.iload 5, 2) := by decide +kernel
theorem d3_9 : decode method_4_code 9 = .ok (.invokestatic 43, 3) := by decide +kernel
theorem d3_12 : decode method_4_code 12 = .ok (.aload_n 0, 1) := by decide +kernel
theorem d3_13 : decode method_4_code 13 = .ok (.iconst 1, 1) := by decide +kernel
theorem d3_14 : decode method_4_code 14 = .ok (.aload_n 1, 1) := by decide +kernel
theorem d3_15 : decode method_4_code 15 = .ok (.iload_n 2, 1) := by decide +kernel
theorem d3_16 : decode method_4_code 16 = .ok (.iload_n 3, 1) := by decide +kernel
theorem d3_17 : decode method_4_code 17 = .ok (.iload 4, 2) := by decide +kernel
theorem d3_19 : decode method_4_code 19 = .ok (.iload 5, 2) := by decide +kernel
theorem d3_21 : decode method_4_code 21 = .ok (.invokestatic 43, 3) := by decide +kernel
theorem d3_24 : decode method_4_code 24 = .ok (.aload_n 0, 1) := by decide +kernel
theorem d3_25 : decode method_4_code 25 = .ok (.iconst 2, 1) := by decide +kernel
theorem d3_26 : decode method_4_code 26 = .ok (.aload_n 1, 1) := by decide +kernel
theorem d3_27 : decode method_4_code 27 = .ok (.iload_n 2, 1) := by decide +kernel
theorem d3_28 : decode method_4_code 28 = .ok (.iload_n 3, 1) := by decide +kernel
theorem d3_29 : decode method_4_code 29 = .ok (.iload 4, 2) := by decide +kernel
theorem d3_31 : decode method_4_code 31 = .ok (.iload 5, 2) := by decide +kernel
theorem d3_33 : decode method_4_code 33 = .ok (.invokestatic 43, 3) := by decide +kernel
theorem d3_36 : decode method_4_code 36 = .ok (.aload_n 0, 1) := by decide +kernel
theorem d3_37 : decode method_4_code 37 = .ok (.iconst 3, 1) := by decide +kernel
theorem d3_38 : decode method_4_code 38 = .ok (.aload_n 1, 1) := by decide +kernel
theorem d3_39 : decode method_4_code 39 = .ok (.iload_n 2, 1) := by decide +kernel
theorem d3_40 : decode method_4_code 40 = .ok (.iload_n 3, 1) := by decide +kernel
theorem d3_41 : decode method_4_code 41 = .ok (.iload 4, 2) := by decide +kernel
theorem d3_43 : decode method_4_code 43 = .ok (.iload 5, 2) := by decide +kernel
theorem d3_45 : decode method_4_code 45 = .ok (.invokestatic 43, 3) := by decide +kernel
theorem d3_48 : decode method_4_code 48 = .ok (.aload_n 0, 1) := by decide +kernel
theorem d3_49 : decode method_4_code 49 = .ok (.iconst 4, 1) := by decide +kernel
theorem d3_50 : decode method_4_code 50 = .ok (.aload_n 1, 1) := by decide +kernel
theorem d3_51 : decode method_4_code 51 = .ok (.iload_n 2, 1) := by decide +kernel
theorem d3_52 : decode method_4_code 52 = .ok (.iload_n 3, 1) := by decide +kernel
theorem d3_53 : decode method_4_code 53 = .ok (.iload 4, 2) := by decide +kernel
theorem d3_55 : decode method_4_code 55 = .ok (.iload 5, 2) := by decide +kernel
theorem d3_57 : decode method_4_code 57 = .ok (.invokestatic 43, 3) := by decide +kernel
theorem d3_60 : decode method_4_code 60 = .ok (.aload_n 0, 1) := by decide +kernel
theorem d3_61 : decode method_4_code 61 = .ok (.iconst 5, 1) := by decide +kernel
theorem d3_62 : decode method_4_code 62 = .ok (.aload_n 1, 1) := by decide +kernel
theorem d3_63 : decode method_4_code 63 = .ok (.iload_n 2, 1) := by decide +kernel
theorem d3_64 : decode method_4_code 64 = .ok (.iload_n 3, 1) := by decide +kernel
theorem d3_65 : decode method_4_code 65 = .ok (.iload 4, 2) := by decide +kernel
theorem d3_67 : decode method_4_code 67 = .ok (.iload 5, 2) := by decide +kernel
theorem d3_69 : decode method_4_code 69 = .ok (.invokestatic 43, 3) := by decide +kernel
theorem d3_72 : decode method_4_code 72 = .ok (.aload_n 0, 1) := by decide +kernel
theorem d3_73 : decode method_4_code 73 = .ok (.bipush 6, 2) := by decide +kernel
theorem d3_75 : decode method_4_code 75 = .ok (.aload_n 1, 1) := by decide +kernel
theorem d3_76 : decode method_4_code 76 = .ok (.iload_n 2, 1) := by decide +kernel
theorem d3_77 : decode method_4_code 77 = .ok (.iload_n 3, 1) := by decide +kernel
theorem d3_78 : decode method_4_code 78 = .ok (.iload 4, 2) := by decide +kernel
theorem d3_80 : decode method_4_code 80 = .ok (.iload 5, 2) := by decide +kernel
theorem d3_82 : decode method_4_code 82 = .ok (.invokestatic 43, 3) := by decide +kernel
theorem d3_85 : decode method_4_code 85 = .ok (.aload_n 0, 1) := by decide +kernel
theorem d3_86 : decode method_4_code 86 = .ok (.bipush 7, 2) := by decide +kernel
theorem d3_88 : decode method_4_code 88 = .ok (.aload_n 1, 1) := by decide +kernel
theorem d3_89 : decode method_4_code 89 = .ok (.iload_n 2, 1) := by decide +kernel
theorem d3_90 : decode method_4_code 90 = .ok (.iload_n 3, 1) := by decide +kernel
theorem d3_91 : decode method_4_code 91 = .ok (.iload 4, 2) := by decide +kernel
theorem d3_93 : decode method_4_code 93 = .ok (.iload 5, 2) := by decide +kernel
theorem d3_95 : decode method_4_code 95 = .ok (.invokestatic 43, 3) := by decide +kernel
theorem d3_98 : decode method_4_code 98 = .ok (.aload_n 0, 1) := by decide +kernel
theorem d3_99 : decode method_4_code 99 = .ok (.bipush 8, 2) := by decide +kernel
theorem d3_101 : decode method_4_code 101 = .ok (.aload_n 1, 1) := by decide +kernel
theorem d3_102 : decode method_4_code 102 = .ok (.iload_n 2, 1) := by decide +kernel
theorem d3_103 : decode method_4_code 103 = .ok (.iload_n 3, 1) := by decide +kernel
theorem d3_104 : decode method_4_code 104 = .ok (.iload 4, 2) := by decide +kernel
theorem d3_106 : decode method_4_code 106 = .ok (.iload 5, 2) := by decide +kernel
theorem d3_108 : decode method_4_code 108 = .ok (.invokestatic 43, 3) := by decide +kernel
theorem d3_111 : decode method_4_code 111 = .ok (.aload_n 0, 1) := by decide +kernel
theorem d3_112 : decode method_4_code 112 = .ok (.bipush 9, 2) := by decide +kernel
theorem d3_114 : decode method_4_code 114 = .ok (.aload_n 1, 1) := by decide +kernel
theorem d3_115 : decode method_4_code 115 = .ok (.iload_n 2, 1) := by decide +kernel
theorem d3_116 : decode method_4_code 116 = .ok (.iload_n 3, 1) := by decide +kernel
theorem d3_117 : decode method_4_code 117 = .ok (.iload 4, 2) := by decide +kernel
theorem d3_119 : decode method_4_code 119 = .ok (.iload 5, 2) := by decide +kernel
theorem d3_121 : decode method_4_code 121 = .ok (.invokestatic 43, 3) := by decide +kernel
theorem d3_124 : decode method_4_code 124 = .ok (.aload_n 0, 1) := by decide +kernel
theorem d3_125 : decode method_4_code 125 = .ok (.bipush 10, 2) := by decide +kernel
theorem d3_127 : decode method_4_code 127 = .ok (.aload_n 1, 1) := by decide +kernel
theorem d3_128 : decode method_4_code 128 = .ok (.iload_n 2, 1) := by decide +kernel
theorem d3_129 : decode method_4_code 129 = .ok (.iload_n 3, 1) := by decide +kernel
theorem d3_130 : decode method_4_code 130 = .ok (.iload 4, 2) := by decide +kernel
theorem d3_132 : decode method_4_code 132 = .ok (.iload 5, 2) := by decide +kernel
theorem d3_134 : decode method_4_code 134 = .ok (.invokestatic 43, 3) := by decide +kernel
theorem d3_137 : decode method_4_code 137 = .ok (.aload_n 0, 1) := by decide +kernel
theorem d3_138 : decode method_4_code 138 = .ok (.bipush 11, 2) := by decide +kernel
theorem d3_140 : decode method_4_code 140 = .ok (.aload_n 1, 1) := by decide +kernel
theorem d3_141 : decode method_4_code 141 = .ok (.iload_n 2, 1) := by decide +kernel
theorem d3_142 : decode method_4_code 142 = .ok (.iload_n 3, 1) := by decide +kernel
theorem d3_143 : decode method_4_code 143 = .ok (.iload 4, 2) := by decide +kernel
theorem d3_145 : decode method_4_code 145 = .ok (.iload 5, 2) := by decide +kernel
theorem d3_147 : decode method_4_code 147 = .ok (.invokestatic 43, 3) := by decide +kernel
theorem d3_150 : decode method_4_code 150 = .ok (.aload_n 0, 1) := by decide +kernel
theorem d3_151 : decode method_4_code 151 = .ok (.bipush 12, 2) := by decide +kernel
theorem d3_153 : decode method_4_code 153 = .ok (.aload_n 1, 1) := by decide +kernel
theorem d3_154 : decode method_4_code 154 = .ok (.iload_n 2, 1) := by decide +kernel
theorem d3_155 : decode method_4_code 155 = .ok (.iload_n 3, 1) := by decide +kernel
theorem d3_156 : decode method_4_code 156 = .ok (.iload 4, 2) := by decide +kernel
theorem d3_158 : decode method_4_code 158 = .ok (.iload 5, 2) := by decide +kernel
theorem d3_160 : decode method_4_code 160 = .ok (.invokestatic 43, 3) := by decide +kernel
theorem d3_163 : decode method_4_code 163 = .ok (.aload_n 0, 1) := by decide +kernel
theorem d3_164 : decode method_4_code 164 = .ok (.bipush 13, 2) := by decide +kernel
theorem d3_166 : decode method_4_code 166 = .ok (.aload_n 1, 1) := by decide +kernel
theorem d3_167 : decode method_4_code 167 = .ok (.iload_n 2, 1) := by decide +kernel
theorem d3_168 : decode method_4_code 168 = .ok (.iload_n 3, 1) := by decide +kernel
theorem d3_169 : decode method_4_code 169 = .ok (.iload 4, 2) := by decide +kernel
theorem d3_171 : decode method_4_code 171 = .ok (.iload 5, 2) := by decide +kernel
theorem d3_173 : decode method_4_code 173 = .ok (.invokestatic 43, 3) := by decide +kernel
theorem d3_176 : decode method_4_code 176 = .ok (.aload_n 0, 1) := by decide +kernel
theorem d3_177 : decode method_4_code 177 = .ok (.bipush 14, 2) := by decide +kernel
theorem d3_179 : decode method_4_code 179 = .ok (.aload_n 1, 1) := by decide +kernel
theorem d3_180 : decode method_4_code 180 = .ok (.iload_n 2, 1) := by decide +kernel
theorem d3_181 : decode method_4_code 181 = .ok (.iload_n 3, 1) := by decide +kernel
theorem d3_182 : decode method_4_code 182 = .ok (.iload 4, 2) := by decide +kernel
theorem d3_184 : decode method_4_code 184 = .ok (.iload 5, 2) := by decide +kernel
theorem d3_186 : decode method_4_code 186 = .ok (.invokestatic 43, 3) := by decide +kernel
theorem d3_189 : decode method_4_code 189 = .ok (.aload_n 0, 1) := by decide +kernel
theorem d3_190 : decode method_4_code 190 = .ok (.bipush 15, 2) := by decide +kernel
theorem d3_192 : decode method_4_code 192 = .ok (.aload_n 1, 1) := by decide +kernel
theorem d3_193 : decode method_4_code 193 = .ok (.iload_n 2, 1) := by decide +kernel
theorem d3_194 : decode method_4_code 194 = .ok (.iload_n 3, 1) := by decide +kernel
theorem d3_195 : decode method_4_code 195 = .ok (.iload 4, 2) := by decide +kernel
theorem d3_197 : decode method_4_code 197 = .ok (.iload 5, 2) := by decide +kernel
theorem d3_199 : decode method_4_code 199 = .ok (.invokestatic 43, 3) := by decide +kernel
theorem d3_202 : decode method_4_code 202 = .ok (.aload_n 0, 1) := by decide +kernel
theorem d3_203 : decode method_4_code 203 = .ok (.bipush 16, 2) := by decide +kernel
theorem d3_205 : decode method_4_code 205 = .ok (.aload_n 1, 1) := by decide +kernel
theorem d3_206 : decode method_4_code 206 = .ok (.iload_n 2, 1) := by decide +kernel
theorem d3_207 : decode method_4_code 207 = .ok (.iload_n 3, 1) := by decide +kernel
theorem d3_208 : decode method_4_code 208 = .ok (.iload 4, 2) := by decide +kernel
theorem d3_210 : decode method_4_code 210 = .ok (.iload 5, 2) := by decide +kernel
theorem d3_212 : decode method_4_code 212 = .ok (.invokestatic 43, 3) := by decide +kernel
theorem d3_215 : decode method_4_code 215 = .ok (.aload_n 0, 1) := by decide +kernel
theorem d3_216 : decode method_4_code 216 = .ok (.bipush 17, 2) := by decide +kernel
theorem d3_218 : decode method_4_code 218 = .ok (.aload_n 1, 1) := by decide +kernel
theorem d3_219 : decode method_4_code 219 = .ok (.iload_n 2, 1) := by decide +kernel
theorem d3_220 : decode method_4_code 220 = .ok (.iload_n 3, 1) := by decide +kernel
theorem d3_221 : decode method_4_code 221 = .ok (.iload 4, 2) := by decide +kernel
theorem d3_223 : decode method_4_code 223 = .ok (.iload 5, 2) := by decide +kernel
theorem d3_225 : decode method_4_code 225 = .ok (.invokestatic 43, 3) := by decide +kernel
theorem d3_228 : decode method_4_code 228 = .ok (.aload_n 0, 1) := by decide +kernel
theorem d3_229 : decode method_4_code 229 = .ok (.bipush 18, 2) := by decide +kernel
theorem d3_231 : decode method_4_code 231 = .ok (.aload_n 1, 1) := by decide +kernel
theorem d3_232 : decode method_4_code 232 = .ok (.iload_n 2, 1) := by decide +kernel
theorem d3_233 : decode method_4_code 233 = .ok (.iload_n 3, 1) := by decide +kernel
theorem d3_234 : decode method_4_code 234 = .ok (.iload 4, 2) := by decide +kernel
theorem d3_236 : decode method_4_code 236 = .ok (.iload 5, 2) := by decide +kernel
theorem d3_238 : decode method_4_code 238 = .ok (.invokestatic 43, 3) := by decide +kernel
theorem d3_241 : decode method_4_code 241 = .ok (.aload_n 0, 1) := by decide +kernel
theorem d3_242 : decode method_4_code 242 = .ok (.bipush 19, 2) := by decide +kernel
theorem d3_244 : decode method_4_code 244 = .ok (.aload_n 1, 1) := by decide +kernel
theorem d3_245 : decode method_4_code 245 = .ok (.iload_n 2, 1) := by decide +kernel
theorem d3_246 : decode method_4_code 246 = .ok (.iload_n 3, 1) := by decide +kernel
theorem d3_247 : decode method_4_code 247 = .ok (.iload 4, 2) := by decide +kernel
theorem d3_249 : decode method_4_code 249 = .ok (.iload 5, 2) := by decide +kernel
theorem d3_251 : decode method_4_code 251 = .ok (.invokestatic 43, 3) := by decide +kernel
theorem d3_254 : decode method_4_code 254 = .ok (.return_, 1) := by decide +kernel
theorem ef_3 (mM : MethodId) (x0 : Addr) (x1 : Addr) (x2 : Int32) (x3 : Int32) (x4 : Int32) (x5 : Int32) : entryFrame mM #[(.ref x0), (.ref x1), (.int x2), (.int x3), (.int x4), (.int x5)] 6 = mkF mM 0 #[.val (.ref x0), .val (.ref x1), .val (.int x2), .val (.int x3), .val (.int x4), .val (.int x5)] [] := by first | (simp [entryFrame, mkF, argsToLocals, Value.category]; done) | rfl
def Q3 (Z : State) (cs : Int32) (sf : Value) (a : Addr) (b : Addr) (kb : ClassId) (nv : Int32) (vs : List Value) (y : Addr) (ky : ClassId) (N : Int32) (tx : List Int32) (pv : Int32) (cv : Int32) (ov : Int32) (ev : Int32) (h0 : Heap) (n0 : Nat) (v : Option Value) (h : Heap) (L : List Loc) : Prop := v = none ∧ Fr n0 L ∧ Keep h0 h [y] ∧ ∃ tx' : List Int32, tx'.length = tx.length ∧ (∀ c ∈ tx', ¬ c < 0 ∧ ¬ (255 : Int32) < c) ∧ Arv Z h y ky .char N (tx'.map Value.int) (.int (0 : Int32))
set_option maxRecDepth 65536 in
set_option maxHeartbeats 40000000 in
theorem rm3 (l : Launch) (Z : State) (a0 : Array Value) (hw : ∀ d ∈ tables_1, d.before a0 Z = true) (ws : List Jvm.Cond) (cs : Int32) (sf : Value) (a : Addr) (b : Addr) (kb : ClassId) (nv : Int32) (vs : List Value) (y : Addr) (ky : ClassId) (N : Int32) (tx : List Int32) (pv : Int32) (cv : Int32) (ov : Int32) (ev : Int32) (h0 : Heap) (n0 : Nat) (Z0 : n0 ≤ h0.size) (O : Old Z n0 h0) (S_cs : Sta Z Z.heap "java/lang/String" "COMPACT_STRINGS" "Z" (.int cs)) (hcs : ¬ cs = (0 : Int32)) (S_sf : Sta Z Z.heap "jdk/internal/util/Preconditions" "SIOOBE_FORMATTER" "Ljava/util/function/BiFunction;" sf) (rsf : sf.isRef = true) (E_a : Exa Z h0 a "java/lang/String") (F_c : Fld Z h0 a "java/lang/String" "coder" "B" (.int (0 : Int32))) (F_v : Fld Z h0 a "java/lang/String" "value" "[B" (.ref b)) (V_b : Arv Z h0 b kb .byte nv vs (.int (0 : Int32))) (hvs : ∀ j : Nat, ∃ u : Int32, vs.getD j (.int (0 : Int32)) = .int u) (V_y : Arv Z h0 y ky .char N (tx.map Value.int) (.int (0 : Int32))) (hN : N = Int32.ofNat tx.length) (hln : tx.length ≤ 20) (hp : ∀ c ∈ tx, ¬ c < 0 ∧ ¬ (255 : Int32) < c) (g_y : n0 ≤ y) (nya : a ≠ y) (nyb : b ≠ y) (hcv : ¬ cv < 0 ∧ ¬ (255 : Int32) < cv) (hov : ¬ ov < 0 ∧ ¬ (255 : Int32) < ov) (hev : ¬ ev < 0 ∧ ¬ (255 : Int32) < ev) :
    MetFree l (⟨"com/example/tesserae/tesserae/dicom/TransferSyntaxForUidPinLaw", "fill", "([CLjava/lang/String;ICCC)V"⟩ : MethodName) (head1 (Jvm.Cond.code (⟨"com/example/tesserae/tesserae/dicom/TransferSyntaxForUidPinLaw", "fill", "([CLjava/lang/String;ICCC)V"⟩ : MethodName) method_4_code 6 none :: ws) ({ frames := 5, cells := 0, slots := 0, locals := 73 } : Room)) (fun aA uU => aA = #[(.ref y), (.ref a), (.int pv), (.int cv), (.int ov), (.int ev)] ∧ Z.Warmed39 uU.vm ∧ uU.heap = h0) (fun _ _ _ _ _ => True) (fun _ uU oO uU' => ∃ vV lL, oO = .returned vV ∧ Q3 Z cs sf a b kb nv vs y ky N tx pv cv ov ev h0 n0 vV uU'.heap lL ∧ FrameEnd uU oO uU' lL ({ frames := 5, cells := 0, slots := 0, locals := 73 } : Room).cells ({ frames := 5, cells := 0, slots := 0, locals := 73 } : Room).slots) := by
  refine MetFree.of_bodySF (plainFor_of_name pn_3) hisR ?_
  intro pP eE sS mM args below meth cC s₁ Bd hml0 hP hK
  obtain ⟨rfl, hZ, hh⟩ := hP
  have hx := Bd.exec
  have hby := Bd.bytes
  have hml : cC.maxLocals = 6 := hml0
  have hown : sS.vm.findClass "com/example/tesserae/tesserae/dicom/TransferSyntaxForUidPinLaw" = some mM.cls := findClass_of_methodNamed Bd.named
  have hnm := (name_of_methodNamed Bd.named Bd.method).1
  have X0 : Stand pP l eE ({ frames := 5, cells := 0, slots := 0, locals := 73 } : Room) sS mM #[(.ref y), (.ref a), (.int pv), (.int cv), (.int ov), (.int ev)] below meth cC s₁ [] 0 0 := Stand.of_body Bd
  have e0 : s₁.heap = h0 := by rw [← hh, Bd.state]; rfl
  have N0 := Fr.nil n0
  have pre0 : ∀ tg, Steps pP.tables eE below (s₁.setTop (mkF mM 0 #[.val (.ref y), .val (.ref a), .val (.int pv), .val (.int cv), .val (.int ov), .val (.int ev)] [])) tg → Steps pP.tables eE below (s₁.setTop (entryFrame mM #[(.ref y), (.ref a), (.int pv), (.int cv), (.int ov), (.int ev)] 6)) tg := fun tg kg => castTop (ef_3 mM y a pv cv ov ev) kg
  have pr1 : ∀ tg, Steps pP.tables eE below (s₁.setTop (mkF mM 9 #[.val (.ref y), .val (.ref a), .val (.int pv), .val (.int cv), .val (.int ov), .val (.int ev)] [(.int ev), (.int ov), (.int cv), (.int pv), (.ref a), (.int (0 : Int32)), (.ref y)])) tg → Steps pP.tables eE below (s₁.setTop (entryFrame mM #[(.ref y), (.ref a), (.int pv), (.int cv), (.int ov), (.int ev)] 6)) tg := fun tg kg => pre0 _ (by
    show Steps pP.tables eE below (s₁.setTop (mkF mM 0 #[.val (.ref y), .val (.ref a), .val (.int pv), .val (.int cv), .val (.int ov), .val (.int ev)] [])) _
    refine XS.aloadN X0.here hx rfl (hb hby d3_0) rfl rfl ?_
    refine XS.iconst X0.here hx rfl (hb hby d3_1) ?_
    refine XS.aloadN X0.here hx rfl (hb hby d3_2) rfl rfl ?_
    refine XS.iloadN X0.here hx rfl (hb hby d3_3) rfl ?_
    refine XS.iloadN X0.here hx rfl (hb hby d3_4) rfl ?_
    refine XS.iload X0.here hx rfl (hb hby d3_5) rfl ?_
    show Steps pP.tables eE below (s₁.setTop (mkF mM 7 #[.val (.ref y), .val (.ref a), .val (.int pv), .val (.int cv), .val (.int ov), .val (.int ev)] [(.int ov), (.int cv), (.int pv), (.ref a), (.int (0 : Int32)), (.ref y)])) _
    refine XS.iload X0.here hx rfl (hb hby d3_7) rfl ?_
    exact kg)
  clear pre0
  obtain ⟨_, _, ⟨T2, L2, kk2, nn2⟩, -, X2, ⟨Lc2, hQ2, l2, y2, z2⟩, st2⟩ := Jvm.LawKit.callS X0 hx (y := (⟨"com/example/tesserae/tesserae/dicom/TransferSyntaxForUidPinLaw", "set", "([CILjava/lang/String;ICCC)V"⟩ : MethodName)) hown (mvT hZ (hw _ (List.mem_of_getElem? (i := 16) rfl))) (mvT hZ (hw _ (List.mem_of_getElem? (i := 17) rfl))) (mvT hZ (hw _ (List.mem_of_getElem? (i := 10) rfl))) (mvT hZ (hw _ (List.mem_of_getElem? (i := 18) rfl))) (by decide) (backOf (W := 0) (rm2 l Z a0 hw [] cs sf a b kb nv vs y ky N tx (0 : Int32) pv cv ov ev h0 n0 Z0 O S_cs hcs S_sf rsf E_a F_c F_v V_b hvs V_y hN hln hp g_y nya nyb (by decide) hcv hov hev) hZ (hw _ (List.mem_of_getElem? (i := 18) rfl)) (hw _ (List.mem_of_getElem? (i := 10) rfl)) (by decide) (by decide)) (g := (mkF mM 9 #[.val (.ref y), .val (.ref a), .val (.int pv), .val (.int cv), .val (.int ov), .val (.int ev)] [(.int ev), (.int ov), (.int cv), (.int pv), (.ref a), (.int (0 : Int32)), (.ref y)])) rfl (by rw [hml]; rfl) (argsL := [(.ref y), (.int (0 : Int32)), (.ref a), (.int pv), (.int cv), (.int ov), (.int ev)]) (rest := []) (lenOf pd_8 rfl) rfl (by show 2 * 0 + _ ≤ _; exact Nat.le_of_eq rfl) (hb hby d3_9) (fun _ _ => ⟨rfl, e0, (by decide : 0 + 0 ≤ _), (by decide : 0 + 0 ≤ _)⟩)
  dsimp only [Pt.U, Pt.locs, Pt.cells, Pt.slots] at X2 l2 y2 z2 st2 hQ2
  subst l2 y2 z2
  obtain ⟨rfl, Nq2, K2, tx2, hl2, hp2, V2⟩ := hQ2
  have N2 := Fr.app N0 Nq2
  have pr3 : ∀ tg, Steps pP.tables eE below (T2.setTop (mkF mM 12 #[.val (.ref y), .val (.ref a), .val (.int pv), .val (.int cv), .val (.int ov), .val (.int ev)] [])) tg → Steps pP.tables eE below (s₁.setTop (entryFrame mM #[(.ref y), (.ref a), (.int pv), (.int cv), (.int ov), (.int ev)] 6)) tg := fun tg kg => pr1 _ (st2 _ kg)
  clear pr1 st2 X0 e0
  have hN2 : N = Int32.ofNat tx2.length := by rw [hl2]; exact hN
  have hm2 : tx2.length ≤ 20 := by rw [hl2]; exact hln
  have hz2 : tx2.length = tx.length := hl2
  have c4 := (Exa.keep E_a K2)
  have c5 := (Fld.keep F_c K2 (ninS nya nin0))
  have c6 := (Fld.keep F_v K2 (ninS nya nin0))
  have c7 := (Arv.keep V_b K2 (ninS nyb nin0))
  have c8 := (Old.keep O K2 (allS g_y all0))
  have pr9 : ∀ tg, Steps pP.tables eE below (T2.setTop (mkF mM 21 #[.val (.ref y), .val (.ref a), .val (.int pv), .val (.int cv), .val (.int ov), .val (.int ev)] [(.int ev), (.int ov), (.int cv), (.int pv), (.ref a), (.int (1 : Int32)), (.ref y)])) tg → Steps pP.tables eE below (s₁.setTop (entryFrame mM #[(.ref y), (.ref a), (.int pv), (.int cv), (.int ov), (.int ev)] 6)) tg := fun tg kg => pr3 _ (by
    show Steps pP.tables eE below (T2.setTop (mkF mM 12 #[.val (.ref y), .val (.ref a), .val (.int pv), .val (.int cv), .val (.int ov), .val (.int ev)] [])) _
    refine XS.aloadN X2.here hx rfl (hb hby d3_12) rfl rfl ?_
    refine XS.iconst X2.here hx rfl (hb hby d3_13) ?_
    refine XS.aloadN X2.here hx rfl (hb hby d3_14) rfl rfl ?_
    refine XS.iloadN X2.here hx rfl (hb hby d3_15) rfl ?_
    refine XS.iloadN X2.here hx rfl (hb hby d3_16) rfl ?_
    refine XS.iload X2.here hx rfl (hb hby d3_17) rfl ?_
    show Steps pP.tables eE below (T2.setTop (mkF mM 19 #[.val (.ref y), .val (.ref a), .val (.int pv), .val (.int cv), .val (.int ov), .val (.int ev)] [(.int ov), (.int cv), (.int pv), (.ref a), (.int (1 : Int32)), (.ref y)])) _
    refine XS.iload X2.here hx rfl (hb hby d3_19) rfl ?_
    exact kg)
  clear pr3
  have c10 := (Nat.le_trans Z0 K2.1)
  obtain ⟨Ls11, X11, N11⟩ := own_hide X2 N2
  clear X2 N2
  obtain ⟨_, _, ⟨T12, L12, kk12, nn12⟩, -, X12, ⟨Lc12, hQ12, l12, y12, z12⟩, st12⟩ := Jvm.LawKit.callS X11 hx (y := (⟨"com/example/tesserae/tesserae/dicom/TransferSyntaxForUidPinLaw", "set", "([CILjava/lang/String;ICCC)V"⟩ : MethodName)) hown (mvT hZ (hw _ (List.mem_of_getElem? (i := 16) rfl))) (mvT hZ (hw _ (List.mem_of_getElem? (i := 17) rfl))) (mvT hZ (hw _ (List.mem_of_getElem? (i := 10) rfl))) (mvT hZ (hw _ (List.mem_of_getElem? (i := 18) rfl))) (by decide) (backOf (W := 0) (rm2 l Z a0 hw [] cs sf a b kb nv vs y ky N tx2 (1 : Int32) pv cv ov ev T2.heap n0 c10 c8 S_cs hcs S_sf rsf c4 c5 c6 c7 hvs V2 hN2 hm2 hp2 g_y nya nyb (by decide) hcv hov hev) hZ (hw _ (List.mem_of_getElem? (i := 18) rfl)) (hw _ (List.mem_of_getElem? (i := 10) rfl)) (by decide) (by decide)) (g := (mkF mM 21 #[.val (.ref y), .val (.ref a), .val (.int pv), .val (.int cv), .val (.int ov), .val (.int ev)] [(.int ev), (.int ov), (.int cv), (.int pv), (.ref a), (.int (1 : Int32)), (.ref y)])) rfl (by rw [hml]; rfl) (argsL := [(.ref y), (.int (1 : Int32)), (.ref a), (.int pv), (.int cv), (.int ov), (.int ev)]) (rest := []) (lenOf pd_8 rfl) rfl (by show 2 * 0 + _ ≤ _; exact Nat.le_of_eq rfl) (hb hby d3_21) (fun _ _ => ⟨rfl, rfl, (by decide : 0 + 0 ≤ _), (by decide : 0 + 0 ≤ _)⟩)
  dsimp only [Pt.U, Pt.locs, Pt.cells, Pt.slots] at X12 l12 y12 z12 st12 hQ12
  subst l12 y12 z12
  obtain ⟨rfl, Nq12, K12, tx12, hl12, hp12, V12⟩ := hQ12
  have N12 := Fr.app N11 Nq12
  have pr13 : ∀ tg, Steps pP.tables eE below (T12.setTop (mkF mM 24 #[.val (.ref y), .val (.ref a), .val (.int pv), .val (.int cv), .val (.int ov), .val (.int ev)] [])) tg → Steps pP.tables eE below (s₁.setTop (entryFrame mM #[(.ref y), (.ref a), (.int pv), (.int cv), (.int ov), (.int ev)] 6)) tg := fun tg kg => pr9 _ (st12 _ kg)
  clear pr9 st12 X11
  have hN12 : N = Int32.ofNat tx12.length := by rw [hl12]; exact hN2
  have hm12 : tx12.length ≤ 20 := by rw [hl12]; exact hm2
  have hz12 : tx12.length = tx.length := hl12.trans hz2
  have c14 := (Exa.keep c4 K12)
  have c15 := (Fld.keep c5 K12 (ninS nya nin0))
  have c16 := (Fld.keep c6 K12 (ninS nya nin0))
  have c17 := (Arv.keep c7 K12 (ninS nyb nin0))
  have c18 := (Old.keep c8 K12 (allS g_y all0))
  have pr19 : ∀ tg, Steps pP.tables eE below (T12.setTop (mkF mM 33 #[.val (.ref y), .val (.ref a), .val (.int pv), .val (.int cv), .val (.int ov), .val (.int ev)] [(.int ev), (.int ov), (.int cv), (.int pv), (.ref a), (.int (2 : Int32)), (.ref y)])) tg → Steps pP.tables eE below (s₁.setTop (entryFrame mM #[(.ref y), (.ref a), (.int pv), (.int cv), (.int ov), (.int ev)] 6)) tg := fun tg kg => pr13 _ (by
    show Steps pP.tables eE below (T12.setTop (mkF mM 24 #[.val (.ref y), .val (.ref a), .val (.int pv), .val (.int cv), .val (.int ov), .val (.int ev)] [])) _
    refine XS.aloadN X12.here hx rfl (hb hby d3_24) rfl rfl ?_
    refine XS.iconst X12.here hx rfl (hb hby d3_25) ?_
    refine XS.aloadN X12.here hx rfl (hb hby d3_26) rfl rfl ?_
    refine XS.iloadN X12.here hx rfl (hb hby d3_27) rfl ?_
    refine XS.iloadN X12.here hx rfl (hb hby d3_28) rfl ?_
    refine XS.iload X12.here hx rfl (hb hby d3_29) rfl ?_
    show Steps pP.tables eE below (T12.setTop (mkF mM 31 #[.val (.ref y), .val (.ref a), .val (.int pv), .val (.int cv), .val (.int ov), .val (.int ev)] [(.int ov), (.int cv), (.int pv), (.ref a), (.int (2 : Int32)), (.ref y)])) _
    refine XS.iload X12.here hx rfl (hb hby d3_31) rfl ?_
    exact kg)
  clear pr13
  have c20 := (Nat.le_trans c10 K12.1)
  obtain ⟨Ls21, X21, N21⟩ := own_hide X12 N12
  clear X12 N12
  obtain ⟨_, _, ⟨T22, L22, kk22, nn22⟩, -, X22, ⟨Lc22, hQ22, l22, y22, z22⟩, st22⟩ := Jvm.LawKit.callS X21 hx (y := (⟨"com/example/tesserae/tesserae/dicom/TransferSyntaxForUidPinLaw", "set", "([CILjava/lang/String;ICCC)V"⟩ : MethodName)) hown (mvT hZ (hw _ (List.mem_of_getElem? (i := 16) rfl))) (mvT hZ (hw _ (List.mem_of_getElem? (i := 17) rfl))) (mvT hZ (hw _ (List.mem_of_getElem? (i := 10) rfl))) (mvT hZ (hw _ (List.mem_of_getElem? (i := 18) rfl))) (by decide) (backOf (W := 0) (rm2 l Z a0 hw [] cs sf a b kb nv vs y ky N tx12 (2 : Int32) pv cv ov ev T12.heap n0 c20 c18 S_cs hcs S_sf rsf c14 c15 c16 c17 hvs V12 hN12 hm12 hp12 g_y nya nyb (by decide) hcv hov hev) hZ (hw _ (List.mem_of_getElem? (i := 18) rfl)) (hw _ (List.mem_of_getElem? (i := 10) rfl)) (by decide) (by decide)) (g := (mkF mM 33 #[.val (.ref y), .val (.ref a), .val (.int pv), .val (.int cv), .val (.int ov), .val (.int ev)] [(.int ev), (.int ov), (.int cv), (.int pv), (.ref a), (.int (2 : Int32)), (.ref y)])) rfl (by rw [hml]; rfl) (argsL := [(.ref y), (.int (2 : Int32)), (.ref a), (.int pv), (.int cv), (.int ov), (.int ev)]) (rest := []) (lenOf pd_8 rfl) rfl (by show 2 * 0 + _ ≤ _; exact Nat.le_of_eq rfl) (hb hby d3_33) (fun _ _ => ⟨rfl, rfl, (by decide : 0 + 0 ≤ _), (by decide : 0 + 0 ≤ _)⟩)
  dsimp only [Pt.U, Pt.locs, Pt.cells, Pt.slots] at X22 l22 y22 z22 st22 hQ22
  subst l22 y22 z22
  obtain ⟨rfl, Nq22, K22, tx22, hl22, hp22, V22⟩ := hQ22
  have N22 := Fr.app N21 Nq22
  have pr23 : ∀ tg, Steps pP.tables eE below (T22.setTop (mkF mM 36 #[.val (.ref y), .val (.ref a), .val (.int pv), .val (.int cv), .val (.int ov), .val (.int ev)] [])) tg → Steps pP.tables eE below (s₁.setTop (entryFrame mM #[(.ref y), (.ref a), (.int pv), (.int cv), (.int ov), (.int ev)] 6)) tg := fun tg kg => pr19 _ (st22 _ kg)
  clear pr19 st22 X21
  have hN22 : N = Int32.ofNat tx22.length := by rw [hl22]; exact hN12
  have hm22 : tx22.length ≤ 20 := by rw [hl22]; exact hm12
  have hz22 : tx22.length = tx.length := hl22.trans hz12
  have c24 := (Exa.keep c14 K22)
  have c25 := (Fld.keep c15 K22 (ninS nya nin0))
  have c26 := (Fld.keep c16 K22 (ninS nya nin0))
  have c27 := (Arv.keep c17 K22 (ninS nyb nin0))
  have c28 := (Old.keep c18 K22 (allS g_y all0))
  have pr29 : ∀ tg, Steps pP.tables eE below (T22.setTop (mkF mM 45 #[.val (.ref y), .val (.ref a), .val (.int pv), .val (.int cv), .val (.int ov), .val (.int ev)] [(.int ev), (.int ov), (.int cv), (.int pv), (.ref a), (.int (3 : Int32)), (.ref y)])) tg → Steps pP.tables eE below (s₁.setTop (entryFrame mM #[(.ref y), (.ref a), (.int pv), (.int cv), (.int ov), (.int ev)] 6)) tg := fun tg kg => pr23 _ (by
    show Steps pP.tables eE below (T22.setTop (mkF mM 36 #[.val (.ref y), .val (.ref a), .val (.int pv), .val (.int cv), .val (.int ov), .val (.int ev)] [])) _
    refine XS.aloadN X22.here hx rfl (hb hby d3_36) rfl rfl ?_
    refine XS.iconst X22.here hx rfl (hb hby d3_37) ?_
    refine XS.aloadN X22.here hx rfl (hb hby d3_38) rfl rfl ?_
    refine XS.iloadN X22.here hx rfl (hb hby d3_39) rfl ?_
    refine XS.iloadN X22.here hx rfl (hb hby d3_40) rfl ?_
    refine XS.iload X22.here hx rfl (hb hby d3_41) rfl ?_
    show Steps pP.tables eE below (T22.setTop (mkF mM 43 #[.val (.ref y), .val (.ref a), .val (.int pv), .val (.int cv), .val (.int ov), .val (.int ev)] [(.int ov), (.int cv), (.int pv), (.ref a), (.int (3 : Int32)), (.ref y)])) _
    refine XS.iload X22.here hx rfl (hb hby d3_43) rfl ?_
    exact kg)
  clear pr23
  have c30 := (Nat.le_trans c20 K22.1)
  obtain ⟨Ls31, X31, N31⟩ := own_hide X22 N22
  clear X22 N22
  obtain ⟨_, _, ⟨T32, L32, kk32, nn32⟩, -, X32, ⟨Lc32, hQ32, l32, y32, z32⟩, st32⟩ := Jvm.LawKit.callS X31 hx (y := (⟨"com/example/tesserae/tesserae/dicom/TransferSyntaxForUidPinLaw", "set", "([CILjava/lang/String;ICCC)V"⟩ : MethodName)) hown (mvT hZ (hw _ (List.mem_of_getElem? (i := 16) rfl))) (mvT hZ (hw _ (List.mem_of_getElem? (i := 17) rfl))) (mvT hZ (hw _ (List.mem_of_getElem? (i := 10) rfl))) (mvT hZ (hw _ (List.mem_of_getElem? (i := 18) rfl))) (by decide) (backOf (W := 0) (rm2 l Z a0 hw [] cs sf a b kb nv vs y ky N tx22 (3 : Int32) pv cv ov ev T22.heap n0 c30 c28 S_cs hcs S_sf rsf c24 c25 c26 c27 hvs V22 hN22 hm22 hp22 g_y nya nyb (by decide) hcv hov hev) hZ (hw _ (List.mem_of_getElem? (i := 18) rfl)) (hw _ (List.mem_of_getElem? (i := 10) rfl)) (by decide) (by decide)) (g := (mkF mM 45 #[.val (.ref y), .val (.ref a), .val (.int pv), .val (.int cv), .val (.int ov), .val (.int ev)] [(.int ev), (.int ov), (.int cv), (.int pv), (.ref a), (.int (3 : Int32)), (.ref y)])) rfl (by rw [hml]; rfl) (argsL := [(.ref y), (.int (3 : Int32)), (.ref a), (.int pv), (.int cv), (.int ov), (.int ev)]) (rest := []) (lenOf pd_8 rfl) rfl (by show 2 * 0 + _ ≤ _; exact Nat.le_of_eq rfl) (hb hby d3_45) (fun _ _ => ⟨rfl, rfl, (by decide : 0 + 0 ≤ _), (by decide : 0 + 0 ≤ _)⟩)
  dsimp only [Pt.U, Pt.locs, Pt.cells, Pt.slots] at X32 l32 y32 z32 st32 hQ32
  subst l32 y32 z32
  obtain ⟨rfl, Nq32, K32, tx32, hl32, hp32, V32⟩ := hQ32
  have N32 := Fr.app N31 Nq32
  have pr33 : ∀ tg, Steps pP.tables eE below (T32.setTop (mkF mM 48 #[.val (.ref y), .val (.ref a), .val (.int pv), .val (.int cv), .val (.int ov), .val (.int ev)] [])) tg → Steps pP.tables eE below (s₁.setTop (entryFrame mM #[(.ref y), (.ref a), (.int pv), (.int cv), (.int ov), (.int ev)] 6)) tg := fun tg kg => pr29 _ (st32 _ kg)
  clear pr29 st32 X31
  have hN32 : N = Int32.ofNat tx32.length := by rw [hl32]; exact hN22
  have hm32 : tx32.length ≤ 20 := by rw [hl32]; exact hm22
  have hz32 : tx32.length = tx.length := hl32.trans hz22
  have c34 := (Exa.keep c24 K32)
  have c35 := (Fld.keep c25 K32 (ninS nya nin0))
  have c36 := (Fld.keep c26 K32 (ninS nya nin0))
  have c37 := (Arv.keep c27 K32 (ninS nyb nin0))
  have c38 := (Old.keep c28 K32 (allS g_y all0))
  have pr39 : ∀ tg, Steps pP.tables eE below (T32.setTop (mkF mM 57 #[.val (.ref y), .val (.ref a), .val (.int pv), .val (.int cv), .val (.int ov), .val (.int ev)] [(.int ev), (.int ov), (.int cv), (.int pv), (.ref a), (.int (4 : Int32)), (.ref y)])) tg → Steps pP.tables eE below (s₁.setTop (entryFrame mM #[(.ref y), (.ref a), (.int pv), (.int cv), (.int ov), (.int ev)] 6)) tg := fun tg kg => pr33 _ (by
    show Steps pP.tables eE below (T32.setTop (mkF mM 48 #[.val (.ref y), .val (.ref a), .val (.int pv), .val (.int cv), .val (.int ov), .val (.int ev)] [])) _
    refine XS.aloadN X32.here hx rfl (hb hby d3_48) rfl rfl ?_
    refine XS.iconst X32.here hx rfl (hb hby d3_49) ?_
    refine XS.aloadN X32.here hx rfl (hb hby d3_50) rfl rfl ?_
    refine XS.iloadN X32.here hx rfl (hb hby d3_51) rfl ?_
    refine XS.iloadN X32.here hx rfl (hb hby d3_52) rfl ?_
    refine XS.iload X32.here hx rfl (hb hby d3_53) rfl ?_
    show Steps pP.tables eE below (T32.setTop (mkF mM 55 #[.val (.ref y), .val (.ref a), .val (.int pv), .val (.int cv), .val (.int ov), .val (.int ev)] [(.int ov), (.int cv), (.int pv), (.ref a), (.int (4 : Int32)), (.ref y)])) _
    refine XS.iload X32.here hx rfl (hb hby d3_55) rfl ?_
    exact kg)
  clear pr33
  have c40 := (Nat.le_trans c30 K32.1)
  obtain ⟨Ls41, X41, N41⟩ := own_hide X32 N32
  clear X32 N32
  obtain ⟨_, _, ⟨T42, L42, kk42, nn42⟩, -, X42, ⟨Lc42, hQ42, l42, y42, z42⟩, st42⟩ := Jvm.LawKit.callS X41 hx (y := (⟨"com/example/tesserae/tesserae/dicom/TransferSyntaxForUidPinLaw", "set", "([CILjava/lang/String;ICCC)V"⟩ : MethodName)) hown (mvT hZ (hw _ (List.mem_of_getElem? (i := 16) rfl))) (mvT hZ (hw _ (List.mem_of_getElem? (i := 17) rfl))) (mvT hZ (hw _ (List.mem_of_getElem? (i := 10) rfl))) (mvT hZ (hw _ (List.mem_of_getElem? (i := 18) rfl))) (by decide) (backOf (W := 0) (rm2 l Z a0 hw [] cs sf a b kb nv vs y ky N tx32 (4 : Int32) pv cv ov ev T32.heap n0 c40 c38 S_cs hcs S_sf rsf c34 c35 c36 c37 hvs V32 hN32 hm32 hp32 g_y nya nyb (by decide) hcv hov hev) hZ (hw _ (List.mem_of_getElem? (i := 18) rfl)) (hw _ (List.mem_of_getElem? (i := 10) rfl)) (by decide) (by decide)) (g := (mkF mM 57 #[.val (.ref y), .val (.ref a), .val (.int pv), .val (.int cv), .val (.int ov), .val (.int ev)] [(.int ev), (.int ov), (.int cv), (.int pv), (.ref a), (.int (4 : Int32)), (.ref y)])) rfl (by rw [hml]; rfl) (argsL := [(.ref y), (.int (4 : Int32)), (.ref a), (.int pv), (.int cv), (.int ov), (.int ev)]) (rest := []) (lenOf pd_8 rfl) rfl (by show 2 * 0 + _ ≤ _; exact Nat.le_of_eq rfl) (hb hby d3_57) (fun _ _ => ⟨rfl, rfl, (by decide : 0 + 0 ≤ _), (by decide : 0 + 0 ≤ _)⟩)
  dsimp only [Pt.U, Pt.locs, Pt.cells, Pt.slots] at X42 l42 y42 z42 st42 hQ42
  subst l42 y42 z42
  obtain ⟨rfl, Nq42, K42, tx42, hl42, hp42, V42⟩ := hQ42
  have N42 := Fr.app N41 Nq42
  have pr43 : ∀ tg, Steps pP.tables eE below (T42.setTop (mkF mM 60 #[.val (.ref y), .val (.ref a), .val (.int pv), .val (.int cv), .val (.int ov), .val (.int ev)] [])) tg → Steps pP.tables eE below (s₁.setTop (entryFrame mM #[(.ref y), (.ref a), (.int pv), (.int cv), (.int ov), (.int ev)] 6)) tg := fun tg kg => pr39 _ (st42 _ kg)
  clear pr39 st42 X41
  have hN42 : N = Int32.ofNat tx42.length := by rw [hl42]; exact hN32
  have hm42 : tx42.length ≤ 20 := by rw [hl42]; exact hm32
  have hz42 : tx42.length = tx.length := hl42.trans hz32
  have c44 := (Exa.keep c34 K42)
  have c45 := (Fld.keep c35 K42 (ninS nya nin0))
  have c46 := (Fld.keep c36 K42 (ninS nya nin0))
  have c47 := (Arv.keep c37 K42 (ninS nyb nin0))
  have c48 := (Old.keep c38 K42 (allS g_y all0))
  have pr49 : ∀ tg, Steps pP.tables eE below (T42.setTop (mkF mM 69 #[.val (.ref y), .val (.ref a), .val (.int pv), .val (.int cv), .val (.int ov), .val (.int ev)] [(.int ev), (.int ov), (.int cv), (.int pv), (.ref a), (.int (5 : Int32)), (.ref y)])) tg → Steps pP.tables eE below (s₁.setTop (entryFrame mM #[(.ref y), (.ref a), (.int pv), (.int cv), (.int ov), (.int ev)] 6)) tg := fun tg kg => pr43 _ (by
    show Steps pP.tables eE below (T42.setTop (mkF mM 60 #[.val (.ref y), .val (.ref a), .val (.int pv), .val (.int cv), .val (.int ov), .val (.int ev)] [])) _
    refine XS.aloadN X42.here hx rfl (hb hby d3_60) rfl rfl ?_
    refine XS.iconst X42.here hx rfl (hb hby d3_61) ?_
    refine XS.aloadN X42.here hx rfl (hb hby d3_62) rfl rfl ?_
    refine XS.iloadN X42.here hx rfl (hb hby d3_63) rfl ?_
    refine XS.iloadN X42.here hx rfl (hb hby d3_64) rfl ?_
    refine XS.iload X42.here hx rfl (hb hby d3_65) rfl ?_
    show Steps pP.tables eE below (T42.setTop (mkF mM 67 #[.val (.ref y), .val (.ref a), .val (.int pv), .val (.int cv), .val (.int ov), .val (.int ev)] [(.int ov), (.int cv), (.int pv), (.ref a), (.int (5 : Int32)), (.ref y)])) _
    refine XS.iload X42.here hx rfl (hb hby d3_67) rfl ?_
    exact kg)
  clear pr43
  have c50 := (Nat.le_trans c40 K42.1)
  obtain ⟨Ls51, X51, N51⟩ := own_hide X42 N42
  clear X42 N42
  obtain ⟨_, _, ⟨T52, L52, kk52, nn52⟩, -, X52, ⟨Lc52, hQ52, l52, y52, z52⟩, st52⟩ := Jvm.LawKit.callS X51 hx (y := (⟨"com/example/tesserae/tesserae/dicom/TransferSyntaxForUidPinLaw", "set", "([CILjava/lang/String;ICCC)V"⟩ : MethodName)) hown (mvT hZ (hw _ (List.mem_of_getElem? (i := 16) rfl))) (mvT hZ (hw _ (List.mem_of_getElem? (i := 17) rfl))) (mvT hZ (hw _ (List.mem_of_getElem? (i := 10) rfl))) (mvT hZ (hw _ (List.mem_of_getElem? (i := 18) rfl))) (by decide) (backOf (W := 0) (rm2 l Z a0 hw [] cs sf a b kb nv vs y ky N tx42 (5 : Int32) pv cv ov ev T42.heap n0 c50 c48 S_cs hcs S_sf rsf c44 c45 c46 c47 hvs V42 hN42 hm42 hp42 g_y nya nyb (by decide) hcv hov hev) hZ (hw _ (List.mem_of_getElem? (i := 18) rfl)) (hw _ (List.mem_of_getElem? (i := 10) rfl)) (by decide) (by decide)) (g := (mkF mM 69 #[.val (.ref y), .val (.ref a), .val (.int pv), .val (.int cv), .val (.int ov), .val (.int ev)] [(.int ev), (.int ov), (.int cv), (.int pv), (.ref a), (.int (5 : Int32)), (.ref y)])) rfl (by rw [hml]; rfl) (argsL := [(.ref y), (.int (5 : Int32)), (.ref a), (.int pv), (.int cv), (.int ov), (.int ev)]) (rest := []) (lenOf pd_8 rfl) rfl (by show 2 * 0 + _ ≤ _; exact Nat.le_of_eq rfl) (hb hby d3_69) (fun _ _ => ⟨rfl, rfl, (by decide : 0 + 0 ≤ _), (by decide : 0 + 0 ≤ _)⟩)
  dsimp only [Pt.U, Pt.locs, Pt.cells, Pt.slots] at X52 l52 y52 z52 st52 hQ52
  subst l52 y52 z52
  obtain ⟨rfl, Nq52, K52, tx52, hl52, hp52, V52⟩ := hQ52
  have N52 := Fr.app N51 Nq52
  have pr53 : ∀ tg, Steps pP.tables eE below (T52.setTop (mkF mM 72 #[.val (.ref y), .val (.ref a), .val (.int pv), .val (.int cv), .val (.int ov), .val (.int ev)] [])) tg → Steps pP.tables eE below (s₁.setTop (entryFrame mM #[(.ref y), (.ref a), (.int pv), (.int cv), (.int ov), (.int ev)] 6)) tg := fun tg kg => pr49 _ (st52 _ kg)
  clear pr49 st52 X51
  have hN52 : N = Int32.ofNat tx52.length := by rw [hl52]; exact hN42
  have hm52 : tx52.length ≤ 20 := by rw [hl52]; exact hm42
  have hz52 : tx52.length = tx.length := hl52.trans hz42
  have c54 := (Exa.keep c44 K52)
  have c55 := (Fld.keep c45 K52 (ninS nya nin0))
  have c56 := (Fld.keep c46 K52 (ninS nya nin0))
  have c57 := (Arv.keep c47 K52 (ninS nyb nin0))
  have c58 := (Old.keep c48 K52 (allS g_y all0))
  have pr59 : ∀ tg, Steps pP.tables eE below (T52.setTop (mkF mM 82 #[.val (.ref y), .val (.ref a), .val (.int pv), .val (.int cv), .val (.int ov), .val (.int ev)] [(.int ev), (.int ov), (.int cv), (.int pv), (.ref a), (.int (6 : Int32)), (.ref y)])) tg → Steps pP.tables eE below (s₁.setTop (entryFrame mM #[(.ref y), (.ref a), (.int pv), (.int cv), (.int ov), (.int ev)] 6)) tg := fun tg kg => pr53 _ (by
    show Steps pP.tables eE below (T52.setTop (mkF mM 72 #[.val (.ref y), .val (.ref a), .val (.int pv), .val (.int cv), .val (.int ov), .val (.int ev)] [])) _
    refine XS.aloadN X52.here hx rfl (hb hby d3_72) rfl rfl ?_
    refine XS.bipush X52.here hx rfl (hb hby d3_73) ?_
    refine XS.aloadN X52.here hx rfl (hb hby d3_75) rfl rfl ?_
    refine XS.iloadN X52.here hx rfl (hb hby d3_76) rfl ?_
    refine XS.iloadN X52.here hx rfl (hb hby d3_77) rfl ?_
    refine XS.iload X52.here hx rfl (hb hby d3_78) rfl ?_
    show Steps pP.tables eE below (T52.setTop (mkF mM 80 #[.val (.ref y), .val (.ref a), .val (.int pv), .val (.int cv), .val (.int ov), .val (.int ev)] [(.int ov), (.int cv), (.int pv), (.ref a), (.int (6 : Int32)), (.ref y)])) _
    refine XS.iload X52.here hx rfl (hb hby d3_80) rfl ?_
    exact kg)
  clear pr53
  have c60 := (Nat.le_trans c50 K52.1)
  obtain ⟨Ls61, X61, N61⟩ := own_hide X52 N52
  clear X52 N52
  obtain ⟨_, _, ⟨T62, L62, kk62, nn62⟩, -, X62, ⟨Lc62, hQ62, l62, y62, z62⟩, st62⟩ := Jvm.LawKit.callS X61 hx (y := (⟨"com/example/tesserae/tesserae/dicom/TransferSyntaxForUidPinLaw", "set", "([CILjava/lang/String;ICCC)V"⟩ : MethodName)) hown (mvT hZ (hw _ (List.mem_of_getElem? (i := 16) rfl))) (mvT hZ (hw _ (List.mem_of_getElem? (i := 17) rfl))) (mvT hZ (hw _ (List.mem_of_getElem? (i := 10) rfl))) (mvT hZ (hw _ (List.mem_of_getElem? (i := 18) rfl))) (by decide) (backOf (W := 0) (rm2 l Z a0 hw [] cs sf a b kb nv vs y ky N tx52 (6 : Int32) pv cv ov ev T52.heap n0 c60 c58 S_cs hcs S_sf rsf c54 c55 c56 c57 hvs V52 hN52 hm52 hp52 g_y nya nyb (by decide) hcv hov hev) hZ (hw _ (List.mem_of_getElem? (i := 18) rfl)) (hw _ (List.mem_of_getElem? (i := 10) rfl)) (by decide) (by decide)) (g := (mkF mM 82 #[.val (.ref y), .val (.ref a), .val (.int pv), .val (.int cv), .val (.int ov), .val (.int ev)] [(.int ev), (.int ov), (.int cv), (.int pv), (.ref a), (.int (6 : Int32)), (.ref y)])) rfl (by rw [hml]; rfl) (argsL := [(.ref y), (.int (6 : Int32)), (.ref a), (.int pv), (.int cv), (.int ov), (.int ev)]) (rest := []) (lenOf pd_8 rfl) rfl (by show 2 * 0 + _ ≤ _; exact Nat.le_of_eq rfl) (hb hby d3_82) (fun _ _ => ⟨rfl, rfl, (by decide : 0 + 0 ≤ _), (by decide : 0 + 0 ≤ _)⟩)
  dsimp only [Pt.U, Pt.locs, Pt.cells, Pt.slots] at X62 l62 y62 z62 st62 hQ62
  subst l62 y62 z62
  obtain ⟨rfl, Nq62, K62, tx62, hl62, hp62, V62⟩ := hQ62
  have N62 := Fr.app N61 Nq62
  have pr63 : ∀ tg, Steps pP.tables eE below (T62.setTop (mkF mM 85 #[.val (.ref y), .val (.ref a), .val (.int pv), .val (.int cv), .val (.int ov), .val (.int ev)] [])) tg → Steps pP.tables eE below (s₁.setTop (entryFrame mM #[(.ref y), (.ref a), (.int pv), (.int cv), (.int ov), (.int ev)] 6)) tg := fun tg kg => pr59 _ (st62 _ kg)
  clear pr59 st62 X61
  have hN62 : N = Int32.ofNat tx62.length := by rw [hl62]; exact hN52
  have hm62 : tx62.length ≤ 20 := by rw [hl62]; exact hm52
  have hz62 : tx62.length = tx.length := hl62.trans hz52
  have c64 := (Exa.keep c54 K62)
  have c65 := (Fld.keep c55 K62 (ninS nya nin0))
  have c66 := (Fld.keep c56 K62 (ninS nya nin0))
  have c67 := (Arv.keep c57 K62 (ninS nyb nin0))
  have c68 := (Old.keep c58 K62 (allS g_y all0))
  have pr69 : ∀ tg, Steps pP.tables eE below (T62.setTop (mkF mM 95 #[.val (.ref y), .val (.ref a), .val (.int pv), .val (.int cv), .val (.int ov), .val (.int ev)] [(.int ev), (.int ov), (.int cv), (.int pv), (.ref a), (.int (7 : Int32)), (.ref y)])) tg → Steps pP.tables eE below (s₁.setTop (entryFrame mM #[(.ref y), (.ref a), (.int pv), (.int cv), (.int ov), (.int ev)] 6)) tg := fun tg kg => pr63 _ (by
    show Steps pP.tables eE below (T62.setTop (mkF mM 85 #[.val (.ref y), .val (.ref a), .val (.int pv), .val (.int cv), .val (.int ov), .val (.int ev)] [])) _
    refine XS.aloadN X62.here hx rfl (hb hby d3_85) rfl rfl ?_
    refine XS.bipush X62.here hx rfl (hb hby d3_86) ?_
    refine XS.aloadN X62.here hx rfl (hb hby d3_88) rfl rfl ?_
    refine XS.iloadN X62.here hx rfl (hb hby d3_89) rfl ?_
    refine XS.iloadN X62.here hx rfl (hb hby d3_90) rfl ?_
    refine XS.iload X62.here hx rfl (hb hby d3_91) rfl ?_
    show Steps pP.tables eE below (T62.setTop (mkF mM 93 #[.val (.ref y), .val (.ref a), .val (.int pv), .val (.int cv), .val (.int ov), .val (.int ev)] [(.int ov), (.int cv), (.int pv), (.ref a), (.int (7 : Int32)), (.ref y)])) _
    refine XS.iload X62.here hx rfl (hb hby d3_93) rfl ?_
    exact kg)
  clear pr63
  have c70 := (Nat.le_trans c60 K62.1)
  obtain ⟨Ls71, X71, N71⟩ := own_hide X62 N62
  clear X62 N62
  obtain ⟨_, _, ⟨T72, L72, kk72, nn72⟩, -, X72, ⟨Lc72, hQ72, l72, y72, z72⟩, st72⟩ := Jvm.LawKit.callS X71 hx (y := (⟨"com/example/tesserae/tesserae/dicom/TransferSyntaxForUidPinLaw", "set", "([CILjava/lang/String;ICCC)V"⟩ : MethodName)) hown (mvT hZ (hw _ (List.mem_of_getElem? (i := 16) rfl))) (mvT hZ (hw _ (List.mem_of_getElem? (i := 17) rfl))) (mvT hZ (hw _ (List.mem_of_getElem? (i := 10) rfl))) (mvT hZ (hw _ (List.mem_of_getElem? (i := 18) rfl))) (by decide) (backOf (W := 0) (rm2 l Z a0 hw [] cs sf a b kb nv vs y ky N tx62 (7 : Int32) pv cv ov ev T62.heap n0 c70 c68 S_cs hcs S_sf rsf c64 c65 c66 c67 hvs V62 hN62 hm62 hp62 g_y nya nyb (by decide) hcv hov hev) hZ (hw _ (List.mem_of_getElem? (i := 18) rfl)) (hw _ (List.mem_of_getElem? (i := 10) rfl)) (by decide) (by decide)) (g := (mkF mM 95 #[.val (.ref y), .val (.ref a), .val (.int pv), .val (.int cv), .val (.int ov), .val (.int ev)] [(.int ev), (.int ov), (.int cv), (.int pv), (.ref a), (.int (7 : Int32)), (.ref y)])) rfl (by rw [hml]; rfl) (argsL := [(.ref y), (.int (7 : Int32)), (.ref a), (.int pv), (.int cv), (.int ov), (.int ev)]) (rest := []) (lenOf pd_8 rfl) rfl (by show 2 * 0 + _ ≤ _; exact Nat.le_of_eq rfl) (hb hby d3_95) (fun _ _ => ⟨rfl, rfl, (by decide : 0 + 0 ≤ _), (by decide : 0 + 0 ≤ _)⟩)
  dsimp only [Pt.U, Pt.locs, Pt.cells, Pt.slots] at X72 l72 y72 z72 st72 hQ72
  subst l72 y72 z72
  obtain ⟨rfl, Nq72, K72, tx72, hl72, hp72, V72⟩ := hQ72
  have N72 := Fr.app N71 Nq72
  have pr73 : ∀ tg, Steps pP.tables eE below (T72.setTop (mkF mM 98 #[.val (.ref y), .val (.ref a), .val (.int pv), .val (.int cv), .val (.int ov), .val (.int ev)] [])) tg → Steps pP.tables eE below (s₁.setTop (entryFrame mM #[(.ref y), (.ref a), (.int pv), (.int cv), (.int ov), (.int ev)] 6)) tg := fun tg kg => pr69 _ (st72 _ kg)
  clear pr69 st72 X71
  have hN72 : N = Int32.ofNat tx72.length := by rw [hl72]; exact hN62
  have hm72 : tx72.length ≤ 20 := by rw [hl72]; exact hm62
  have hz72 : tx72.length = tx.length := hl72.trans hz62
  have c74 := (Exa.keep c64 K72)
  have c75 := (Fld.keep c65 K72 (ninS nya nin0))
  have c76 := (Fld.keep c66 K72 (ninS nya nin0))
  have c77 := (Arv.keep c67 K72 (ninS nyb nin0))
  have c78 := (Old.keep c68 K72 (allS g_y all0))
  have pr79 : ∀ tg, Steps pP.tables eE below (T72.setTop (mkF mM 108 #[.val (.ref y), .val (.ref a), .val (.int pv), .val (.int cv), .val (.int ov), .val (.int ev)] [(.int ev), (.int ov), (.int cv), (.int pv), (.ref a), (.int (8 : Int32)), (.ref y)])) tg → Steps pP.tables eE below (s₁.setTop (entryFrame mM #[(.ref y), (.ref a), (.int pv), (.int cv), (.int ov), (.int ev)] 6)) tg := fun tg kg => pr73 _ (by
    show Steps pP.tables eE below (T72.setTop (mkF mM 98 #[.val (.ref y), .val (.ref a), .val (.int pv), .val (.int cv), .val (.int ov), .val (.int ev)] [])) _
    refine XS.aloadN X72.here hx rfl (hb hby d3_98) rfl rfl ?_
    refine XS.bipush X72.here hx rfl (hb hby d3_99) ?_
    refine XS.aloadN X72.here hx rfl (hb hby d3_101) rfl rfl ?_
    refine XS.iloadN X72.here hx rfl (hb hby d3_102) rfl ?_
    refine XS.iloadN X72.here hx rfl (hb hby d3_103) rfl ?_
    refine XS.iload X72.here hx rfl (hb hby d3_104) rfl ?_
    show Steps pP.tables eE below (T72.setTop (mkF mM 106 #[.val (.ref y), .val (.ref a), .val (.int pv), .val (.int cv), .val (.int ov), .val (.int ev)] [(.int ov), (.int cv), (.int pv), (.ref a), (.int (8 : Int32)), (.ref y)])) _
    refine XS.iload X72.here hx rfl (hb hby d3_106) rfl ?_
    exact kg)
  clear pr73
  have c80 := (Nat.le_trans c70 K72.1)
  obtain ⟨Ls81, X81, N81⟩ := own_hide X72 N72
  clear X72 N72
  obtain ⟨_, _, ⟨T82, L82, kk82, nn82⟩, -, X82, ⟨Lc82, hQ82, l82, y82, z82⟩, st82⟩ := Jvm.LawKit.callS X81 hx (y := (⟨"com/example/tesserae/tesserae/dicom/TransferSyntaxForUidPinLaw", "set", "([CILjava/lang/String;ICCC)V"⟩ : MethodName)) hown (mvT hZ (hw _ (List.mem_of_getElem? (i := 16) rfl))) (mvT hZ (hw _ (List.mem_of_getElem? (i := 17) rfl))) (mvT hZ (hw _ (List.mem_of_getElem? (i := 10) rfl))) (mvT hZ (hw _ (List.mem_of_getElem? (i := 18) rfl))) (by decide) (backOf (W := 0) (rm2 l Z a0 hw [] cs sf a b kb nv vs y ky N tx72 (8 : Int32) pv cv ov ev T72.heap n0 c80 c78 S_cs hcs S_sf rsf c74 c75 c76 c77 hvs V72 hN72 hm72 hp72 g_y nya nyb (by decide) hcv hov hev) hZ (hw _ (List.mem_of_getElem? (i := 18) rfl)) (hw _ (List.mem_of_getElem? (i := 10) rfl)) (by decide) (by decide)) (g := (mkF mM 108 #[.val (.ref y), .val (.ref a), .val (.int pv), .val (.int cv), .val (.int ov), .val (.int ev)] [(.int ev), (.int ov), (.int cv), (.int pv), (.ref a), (.int (8 : Int32)), (.ref y)])) rfl (by rw [hml]; rfl) (argsL := [(.ref y), (.int (8 : Int32)), (.ref a), (.int pv), (.int cv), (.int ov), (.int ev)]) (rest := []) (lenOf pd_8 rfl) rfl (by show 2 * 0 + _ ≤ _; exact Nat.le_of_eq rfl) (hb hby d3_108) (fun _ _ => ⟨rfl, rfl, (by decide : 0 + 0 ≤ _), (by decide : 0 + 0 ≤ _)⟩)
  dsimp only [Pt.U, Pt.locs, Pt.cells, Pt.slots] at X82 l82 y82 z82 st82 hQ82
  subst l82 y82 z82
  obtain ⟨rfl, Nq82, K82, tx82, hl82, hp82, V82⟩ := hQ82
  have N82 := Fr.app N81 Nq82
  have pr83 : ∀ tg, Steps pP.tables eE below (T82.setTop (mkF mM 111 #[.val (.ref y), .val (.ref a), .val (.int pv), .val (.int cv), .val (.int ov), .val (.int ev)] [])) tg → Steps pP.tables eE below (s₁.setTop (entryFrame mM #[(.ref y), (.ref a), (.int pv), (.int cv), (.int ov), (.int ev)] 6)) tg := fun tg kg => pr79 _ (st82 _ kg)
  clear pr79 st82 X81
  have hN82 : N = Int32.ofNat tx82.length := by rw [hl82]; exact hN72
  have hm82 : tx82.length ≤ 20 := by rw [hl82]; exact hm72
  have hz82 : tx82.length = tx.length := hl82.trans hz72
  have c84 := (Exa.keep c74 K82)
  have c85 := (Fld.keep c75 K82 (ninS nya nin0))
  have c86 := (Fld.keep c76 K82 (ninS nya nin0))
  have c87 := (Arv.keep c77 K82 (ninS nyb nin0))
  have c88 := (Old.keep c78 K82 (allS g_y all0))
  have pr89 : ∀ tg, Steps pP.tables eE below (T82.setTop (mkF mM 121 #[.val (.ref y), .val (.ref a), .val (.int pv), .val (.int cv), .val (.int ov), .val (.int ev)] [(.int ev), (.int ov), (.int cv), (.int pv), (.ref a), (.int (9 : Int32)), (.ref y)])) tg → Steps pP.tables eE below (s₁.setTop (entryFrame mM #[(.ref y), (.ref a), (.int pv), (.int cv), (.int ov), (.int ev)] 6)) tg := fun tg kg => pr83 _ (by
    show Steps pP.tables eE below (T82.setTop (mkF mM 111 #[.val (.ref y), .val (.ref a), .val (.int pv), .val (.int cv), .val (.int ov), .val (.int ev)] [])) _
    refine XS.aloadN X82.here hx rfl (hb hby d3_111) rfl rfl ?_
    refine XS.bipush X82.here hx rfl (hb hby d3_112) ?_
    refine XS.aloadN X82.here hx rfl (hb hby d3_114) rfl rfl ?_
    refine XS.iloadN X82.here hx rfl (hb hby d3_115) rfl ?_
    refine XS.iloadN X82.here hx rfl (hb hby d3_116) rfl ?_
    refine XS.iload X82.here hx rfl (hb hby d3_117) rfl ?_
    show Steps pP.tables eE below (T82.setTop (mkF mM 119 #[.val (.ref y), .val (.ref a), .val (.int pv), .val (.int cv), .val (.int ov), .val (.int ev)] [(.int ov), (.int cv), (.int pv), (.ref a), (.int (9 : Int32)), (.ref y)])) _
    refine XS.iload X82.here hx rfl (hb hby d3_119) rfl ?_
    exact kg)
  clear pr83
  have c90 := (Nat.le_trans c80 K82.1)
  obtain ⟨Ls91, X91, N91⟩ := own_hide X82 N82
  clear X82 N82
  obtain ⟨_, _, ⟨T92, L92, kk92, nn92⟩, -, X92, ⟨Lc92, hQ92, l92, y92, z92⟩, st92⟩ := Jvm.LawKit.callS X91 hx (y := (⟨"com/example/tesserae/tesserae/dicom/TransferSyntaxForUidPinLaw", "set", "([CILjava/lang/String;ICCC)V"⟩ : MethodName)) hown (mvT hZ (hw _ (List.mem_of_getElem? (i := 16) rfl))) (mvT hZ (hw _ (List.mem_of_getElem? (i := 17) rfl))) (mvT hZ (hw _ (List.mem_of_getElem? (i := 10) rfl))) (mvT hZ (hw _ (List.mem_of_getElem? (i := 18) rfl))) (by decide) (backOf (W := 0) (rm2 l Z a0 hw [] cs sf a b kb nv vs y ky N tx82 (9 : Int32) pv cv ov ev T82.heap n0 c90 c88 S_cs hcs S_sf rsf c84 c85 c86 c87 hvs V82 hN82 hm82 hp82 g_y nya nyb (by decide) hcv hov hev) hZ (hw _ (List.mem_of_getElem? (i := 18) rfl)) (hw _ (List.mem_of_getElem? (i := 10) rfl)) (by decide) (by decide)) (g := (mkF mM 121 #[.val (.ref y), .val (.ref a), .val (.int pv), .val (.int cv), .val (.int ov), .val (.int ev)] [(.int ev), (.int ov), (.int cv), (.int pv), (.ref a), (.int (9 : Int32)), (.ref y)])) rfl (by rw [hml]; rfl) (argsL := [(.ref y), (.int (9 : Int32)), (.ref a), (.int pv), (.int cv), (.int ov), (.int ev)]) (rest := []) (lenOf pd_8 rfl) rfl (by show 2 * 0 + _ ≤ _; exact Nat.le_of_eq rfl) (hb hby d3_121) (fun _ _ => ⟨rfl, rfl, (by decide : 0 + 0 ≤ _), (by decide : 0 + 0 ≤ _)⟩)
  dsimp only [Pt.U, Pt.locs, Pt.cells, Pt.slots] at X92 l92 y92 z92 st92 hQ92
  subst l92 y92 z92
  obtain ⟨rfl, Nq92, K92, tx92, hl92, hp92, V92⟩ := hQ92
  have N92 := Fr.app N91 Nq92
  have pr93 : ∀ tg, Steps pP.tables eE below (T92.setTop (mkF mM 124 #[.val (.ref y), .val (.ref a), .val (.int pv), .val (.int cv), .val (.int ov), .val (.int ev)] [])) tg → Steps pP.tables eE below (s₁.setTop (entryFrame mM #[(.ref y), (.ref a), (.int pv), (.int cv), (.int ov), (.int ev)] 6)) tg := fun tg kg => pr89 _ (st92 _ kg)
  clear pr89 st92 X91
  have hN92 : N = Int32.ofNat tx92.length := by rw [hl92]; exact hN82
  have hm92 : tx92.length ≤ 20 := by rw [hl92]; exact hm82
  have hz92 : tx92.length = tx.length := hl92.trans hz82
  have c94 := (Exa.keep c84 K92)
  have c95 := (Fld.keep c85 K92 (ninS nya nin0))
  have c96 := (Fld.keep c86 K92 (ninS nya nin0))
  have c97 := (Arv.keep c87 K92 (ninS nyb nin0))
  have c98 := (Old.keep c88 K92 (allS g_y all0))
  have pr99 : ∀ tg, Steps pP.tables eE below (T92.setTop (mkF mM 134 #[.val (.ref y), .val (.ref a), .val (.int pv), .val (.int cv), .val (.int ov), .val (.int ev)] [(.int ev), (.int ov), (.int cv), (.int pv), (.ref a), (.int (10 : Int32)), (.ref y)])) tg → Steps pP.tables eE below (s₁.setTop (entryFrame mM #[(.ref y), (.ref a), (.int pv), (.int cv), (.int ov), (.int ev)] 6)) tg := fun tg kg => pr93 _ (by
    show Steps pP.tables eE below (T92.setTop (mkF mM 124 #[.val (.ref y), .val (.ref a), .val (.int pv), .val (.int cv), .val (.int ov), .val (.int ev)] [])) _
    refine XS.aloadN X92.here hx rfl (hb hby d3_124) rfl rfl ?_
    refine XS.bipush X92.here hx rfl (hb hby d3_125) ?_
    refine XS.aloadN X92.here hx rfl (hb hby d3_127) rfl rfl ?_
    refine XS.iloadN X92.here hx rfl (hb hby d3_128) rfl ?_
    refine XS.iloadN X92.here hx rfl (hb hby d3_129) rfl ?_
    refine XS.iload X92.here hx rfl (hb hby d3_130) rfl ?_
    show Steps pP.tables eE below (T92.setTop (mkF mM 132 #[.val (.ref y), .val (.ref a), .val (.int pv), .val (.int cv), .val (.int ov), .val (.int ev)] [(.int ov), (.int cv), (.int pv), (.ref a), (.int (10 : Int32)), (.ref y)])) _
    refine XS.iload X92.here hx rfl (hb hby d3_132) rfl ?_
    exact kg)
  clear pr93
  have c100 := (Nat.le_trans c90 K92.1)
  obtain ⟨Ls101, X101, N101⟩ := own_hide X92 N92
  clear X92 N92
  obtain ⟨_, _, ⟨T102, L102, kk102, nn102⟩, -, X102, ⟨Lc102, hQ102, l102, y102, z102⟩, st102⟩ := Jvm.LawKit.callS X101 hx (y := (⟨"com/example/tesserae/tesserae/dicom/TransferSyntaxForUidPinLaw", "set", "([CILjava/lang/String;ICCC)V"⟩ : MethodName)) hown (mvT hZ (hw _ (List.mem_of_getElem? (i := 16) rfl))) (mvT hZ (hw _ (List.mem_of_getElem? (i := 17) rfl))) (mvT hZ (hw _ (List.mem_of_getElem? (i := 10) rfl))) (mvT hZ (hw _ (List.mem_of_getElem? (i := 18) rfl))) (by decide) (backOf (W := 0) (rm2 l Z a0 hw [] cs sf a b kb nv vs y ky N tx92 (10 : Int32) pv cv ov ev T92.heap n0 c100 c98 S_cs hcs S_sf rsf c94 c95 c96 c97 hvs V92 hN92 hm92 hp92 g_y nya nyb (by decide) hcv hov hev) hZ (hw _ (List.mem_of_getElem? (i := 18) rfl)) (hw _ (List.mem_of_getElem? (i := 10) rfl)) (by decide) (by decide)) (g := (mkF mM 134 #[.val (.ref y), .val (.ref a), .val (.int pv), .val (.int cv), .val (.int ov), .val (.int ev)] [(.int ev), (.int ov), (.int cv), (.int pv), (.ref a), (.int (10 : Int32)), (.ref y)])) rfl (by rw [hml]; rfl) (argsL := [(.ref y), (.int (10 : Int32)), (.ref a), (.int pv), (.int cv), (.int ov), (.int ev)]) (rest := []) (lenOf pd_8 rfl) rfl (by show 2 * 0 + _ ≤ _; exact Nat.le_of_eq rfl) (hb hby d3_134) (fun _ _ => ⟨rfl, rfl, (by decide : 0 + 0 ≤ _), (by decide : 0 + 0 ≤ _)⟩)
  dsimp only [Pt.U, Pt.locs, Pt.cells, Pt.slots] at X102 l102 y102 z102 st102 hQ102
  subst l102 y102 z102
  obtain ⟨rfl, Nq102, K102, tx102, hl102, hp102, V102⟩ := hQ102
  have N102 := Fr.app N101 Nq102
  have pr103 : ∀ tg, Steps pP.tables eE below (T102.setTop (mkF mM 137 #[.val (.ref y), .val (.ref a), .val (.int pv), .val (.int cv), .val (.int ov), .val (.int ev)] [])) tg → Steps pP.tables eE below (s₁.setTop (entryFrame mM #[(.ref y), (.ref a), (.int pv), (.int cv), (.int ov), (.int ev)] 6)) tg := fun tg kg => pr99 _ (st102 _ kg)
  clear pr99 st102 X101
  have hN102 : N = Int32.ofNat tx102.length := by rw [hl102]; exact hN92
  have hm102 : tx102.length ≤ 20 := by rw [hl102]; exact hm92
  have hz102 : tx102.length = tx.length := hl102.trans hz92
  have c104 := (Exa.keep c94 K102)
  have c105 := (Fld.keep c95 K102 (ninS nya nin0))
  have c106 := (Fld.keep c96 K102 (ninS nya nin0))
  have c107 := (Arv.keep c97 K102 (ninS nyb nin0))
  have c108 := (Old.keep c98 K102 (allS g_y all0))
  have pr109 : ∀ tg, Steps pP.tables eE below (T102.setTop (mkF mM 147 #[.val (.ref y), .val (.ref a), .val (.int pv), .val (.int cv), .val (.int ov), .val (.int ev)] [(.int ev), (.int ov), (.int cv), (.int pv), (.ref a), (.int (11 : Int32)), (.ref y)])) tg → Steps pP.tables eE below (s₁.setTop (entryFrame mM #[(.ref y), (.ref a), (.int pv), (.int cv), (.int ov), (.int ev)] 6)) tg := fun tg kg => pr103 _ (by
    show Steps pP.tables eE below (T102.setTop (mkF mM 137 #[.val (.ref y), .val (.ref a), .val (.int pv), .val (.int cv), .val (.int ov), .val (.int ev)] [])) _
    refine XS.aloadN X102.here hx rfl (hb hby d3_137) rfl rfl ?_
    refine XS.bipush X102.here hx rfl (hb hby d3_138) ?_
    refine XS.aloadN X102.here hx rfl (hb hby d3_140) rfl rfl ?_
    refine XS.iloadN X102.here hx rfl (hb hby d3_141) rfl ?_
    refine XS.iloadN X102.here hx rfl (hb hby d3_142) rfl ?_
    refine XS.iload X102.here hx rfl (hb hby d3_143) rfl ?_
    show Steps pP.tables eE below (T102.setTop (mkF mM 145 #[.val (.ref y), .val (.ref a), .val (.int pv), .val (.int cv), .val (.int ov), .val (.int ev)] [(.int ov), (.int cv), (.int pv), (.ref a), (.int (11 : Int32)), (.ref y)])) _
    refine XS.iload X102.here hx rfl (hb hby d3_145) rfl ?_
    exact kg)
  clear pr103
  have c110 := (Nat.le_trans c100 K102.1)
  obtain ⟨Ls111, X111, N111⟩ := own_hide X102 N102
  clear X102 N102
  obtain ⟨_, _, ⟨T112, L112, kk112, nn112⟩, -, X112, ⟨Lc112, hQ112, l112, y112, z112⟩, st112⟩ := Jvm.LawKit.callS X111 hx (y := (⟨"com/example/tesserae/tesserae/dicom/TransferSyntaxForUidPinLaw", "set", "([CILjava/lang/String;ICCC)V"⟩ : MethodName)) hown (mvT hZ (hw _ (List.mem_of_getElem? (i := 16) rfl))) (mvT hZ (hw _ (List.mem_of_getElem? (i := 17) rfl))) (mvT hZ (hw _ (List.mem_of_getElem? (i := 10) rfl))) (mvT hZ (hw _ (List.mem_of_getElem? (i := 18) rfl))) (by decide) (backOf (W := 0) (rm2 l Z a0 hw [] cs sf a b kb nv vs y ky N tx102 (11 : Int32) pv cv ov ev T102.heap n0 c110 c108 S_cs hcs S_sf rsf c104 c105 c106 c107 hvs V102 hN102 hm102 hp102 g_y nya nyb (by decide) hcv hov hev) hZ (hw _ (List.mem_of_getElem? (i := 18) rfl)) (hw _ (List.mem_of_getElem? (i := 10) rfl)) (by decide) (by decide)) (g := (mkF mM 147 #[.val (.ref y), .val (.ref a), .val (.int pv), .val (.int cv), .val (.int ov), .val (.int ev)] [(.int ev), (.int ov), (.int cv), (.int pv), (.ref a), (.int (11 : Int32)), (.ref y)])) rfl (by rw [hml]; rfl) (argsL := [(.ref y), (.int (11 : Int32)), (.ref a), (.int pv), (.int cv), (.int ov), (.int ev)]) (rest := []) (lenOf pd_8 rfl) rfl (by show 2 * 0 + _ ≤ _; exact Nat.le_of_eq rfl) (hb hby d3_147) (fun _ _ => ⟨rfl, rfl, (by decide : 0 + 0 ≤ _), (by decide : 0 + 0 ≤ _)⟩)
  dsimp only [Pt.U, Pt.locs, Pt.cells, Pt.slots] at X112 l112 y112 z112 st112 hQ112
  subst l112 y112 z112
  obtain ⟨rfl, Nq112, K112, tx112, hl112, hp112, V112⟩ := hQ112
  have N112 := Fr.app N111 Nq112
  have pr113 : ∀ tg, Steps pP.tables eE below (T112.setTop (mkF mM 150 #[.val (.ref y), .val (.ref a), .val (.int pv), .val (.int cv), .val (.int ov), .val (.int ev)] [])) tg → Steps pP.tables eE below (s₁.setTop (entryFrame mM #[(.ref y), (.ref a), (.int pv), (.int cv), (.int ov), (.int ev)] 6)) tg := fun tg kg => pr109 _ (st112 _ kg)
  clear pr109 st112 X111
  have hN112 : N = Int32.ofNat tx112.length := by rw [hl112]; exact hN102
  have hm112 : tx112.length ≤ 20 := by rw [hl112]; exact hm102
  have hz112 : tx112.length = tx.length := hl112.trans hz102
  have c114 := (Exa.keep c104 K112)
  have c115 := (Fld.keep c105 K112 (ninS nya nin0))
  have c116 := (Fld.keep c106 K112 (ninS nya nin0))
  have c117 := (Arv.keep c107 K112 (ninS nyb nin0))
  have c118 := (Old.keep c108 K112 (allS g_y all0))
  have pr119 : ∀ tg, Steps pP.tables eE below (T112.setTop (mkF mM 160 #[.val (.ref y), .val (.ref a), .val (.int pv), .val (.int cv), .val (.int ov), .val (.int ev)] [(.int ev), (.int ov), (.int cv), (.int pv), (.ref a), (.int (12 : Int32)), (.ref y)])) tg → Steps pP.tables eE below (s₁.setTop (entryFrame mM #[(.ref y), (.ref a), (.int pv), (.int cv), (.int ov), (.int ev)] 6)) tg := fun tg kg => pr113 _ (by
    show Steps pP.tables eE below (T112.setTop (mkF mM 150 #[.val (.ref y), .val (.ref a), .val (.int pv), .val (.int cv), .val (.int ov), .val (.int ev)] [])) _
    refine XS.aloadN X112.here hx rfl (hb hby d3_150) rfl rfl ?_
    refine XS.bipush X112.here hx rfl (hb hby d3_151) ?_
    refine XS.aloadN X112.here hx rfl (hb hby d3_153) rfl rfl ?_
    refine XS.iloadN X112.here hx rfl (hb hby d3_154) rfl ?_
    refine XS.iloadN X112.here hx rfl (hb hby d3_155) rfl ?_
    refine XS.iload X112.here hx rfl (hb hby d3_156) rfl ?_
    show Steps pP.tables eE below (T112.setTop (mkF mM 158 #[.val (.ref y), .val (.ref a), .val (.int pv), .val (.int cv), .val (.int ov), .val (.int ev)] [(.int ov), (.int cv), (.int pv), (.ref a), (.int (12 : Int32)), (.ref y)])) _
    refine XS.iload X112.here hx rfl (hb hby d3_158) rfl ?_
    exact kg)
  clear pr113
  have c120 := (Nat.le_trans c110 K112.1)
  obtain ⟨Ls121, X121, N121⟩ := own_hide X112 N112
  clear X112 N112
  obtain ⟨_, _, ⟨T122, L122, kk122, nn122⟩, -, X122, ⟨Lc122, hQ122, l122, y122, z122⟩, st122⟩ := Jvm.LawKit.callS X121 hx (y := (⟨"com/example/tesserae/tesserae/dicom/TransferSyntaxForUidPinLaw", "set", "([CILjava/lang/String;ICCC)V"⟩ : MethodName)) hown (mvT hZ (hw _ (List.mem_of_getElem? (i := 16) rfl))) (mvT hZ (hw _ (List.mem_of_getElem? (i := 17) rfl))) (mvT hZ (hw _ (List.mem_of_getElem? (i := 10) rfl))) (mvT hZ (hw _ (List.mem_of_getElem? (i := 18) rfl))) (by decide) (backOf (W := 0) (rm2 l Z a0 hw [] cs sf a b kb nv vs y ky N tx112 (12 : Int32) pv cv ov ev T112.heap n0 c120 c118 S_cs hcs S_sf rsf c114 c115 c116 c117 hvs V112 hN112 hm112 hp112 g_y nya nyb (by decide) hcv hov hev) hZ (hw _ (List.mem_of_getElem? (i := 18) rfl)) (hw _ (List.mem_of_getElem? (i := 10) rfl)) (by decide) (by decide)) (g := (mkF mM 160 #[.val (.ref y), .val (.ref a), .val (.int pv), .val (.int cv), .val (.int ov), .val (.int ev)] [(.int ev), (.int ov), (.int cv), (.int pv), (.ref a), (.int (12 : Int32)), (.ref y)])) rfl (by rw [hml]; rfl) (argsL := [(.ref y), (.int (12 : Int32)), (.ref a), (.int pv), (.int cv), (.int ov), (.int ev)]) (rest := []) (lenOf pd_8 rfl) rfl (by show 2 * 0 + _ ≤ _; exact Nat.le_of_eq rfl) (hb hby d3_160) (fun _ _ => ⟨rfl, rfl, (by decide : 0 + 0 ≤ _), (by decide : 0 + 0 ≤ _)⟩)
  dsimp only [Pt.U, Pt.locs, Pt.cells, Pt.slots] at X122 l122 y122 z122 st122 hQ122
  subst l122 y122 z122
  obtain ⟨rfl, Nq122, K122, tx122, hl122, hp122, V122⟩ := hQ122
  have N122 := Fr.app N121 Nq122
  have pr123 : ∀ tg, Steps pP.tables eE below (T122.setTop (mkF mM 163 #[.val (.ref y), .val (.ref a), .val (.int pv), .val (.int cv), .val (.int ov), .val (.int ev)] [])) tg → Steps pP.tables eE below (s₁.setTop (entryFrame mM #[(.ref y), (.ref a), (.int pv), (.int cv), (.int ov), (.int ev)] 6)) tg := fun tg kg => pr119 _ (st122 _ kg)
  clear pr119 st122 X121
  have hN122 : N = Int32.ofNat tx122.length := by rw [hl122]; exact hN112
  have hm122 : tx122.length ≤ 20 := by rw [hl122]; exact hm112
  have hz122 : tx122.length = tx.length := hl122.trans hz112
  have c124 := (Exa.keep c114 K122)
  have c125 := (Fld.keep c115 K122 (ninS nya nin0))
  have c126 := (Fld.keep c116 K122 (ninS nya nin0))
  have c127 := (Arv.keep c117 K122 (ninS nyb nin0))
  have c128 := (Old.keep c118 K122 (allS g_y all0))
  have pr129 : ∀ tg, Steps pP.tables eE below (T122.setTop (mkF mM 173 #[.val (.ref y), .val (.ref a), .val (.int pv), .val (.int cv), .val (.int ov), .val (.int ev)] [(.int ev), (.int ov), (.int cv), (.int pv), (.ref a), (.int (13 : Int32)), (.ref y)])) tg → Steps pP.tables eE below (s₁.setTop (entryFrame mM #[(.ref y), (.ref a), (.int pv), (.int cv), (.int ov), (.int ev)] 6)) tg := fun tg kg => pr123 _ (by
    show Steps pP.tables eE below (T122.setTop (mkF mM 163 #[.val (.ref y), .val (.ref a), .val (.int pv), .val (.int cv), .val (.int ov), .val (.int ev)] [])) _
    refine XS.aloadN X122.here hx rfl (hb hby d3_163) rfl rfl ?_
    refine XS.bipush X122.here hx rfl (hb hby d3_164) ?_
    refine XS.aloadN X122.here hx rfl (hb hby d3_166) rfl rfl ?_
    refine XS.iloadN X122.here hx rfl (hb hby d3_167) rfl ?_
    refine XS.iloadN X122.here hx rfl (hb hby d3_168) rfl ?_
    refine XS.iload X122.here hx rfl (hb hby d3_169) rfl ?_
    show Steps pP.tables eE below (T122.setTop (mkF mM 171 #[.val (.ref y), .val (.ref a), .val (.int pv), .val (.int cv), .val (.int ov), .val (.int ev)] [(.int ov), (.int cv), (.int pv), (.ref a), (.int (13 : Int32)), (.ref y)])) _
    refine XS.iload X122.here hx rfl (hb hby d3_171) rfl ?_
    exact kg)
  clear pr123
  have c130 := (Nat.le_trans c120 K122.1)
  obtain ⟨Ls131, X131, N131⟩ := own_hide X122 N122
  clear X122 N122
  obtain ⟨_, _, ⟨T132, L132, kk132, nn132⟩, -, X132, ⟨Lc132, hQ132, l132, y132, z132⟩, st132⟩ := Jvm.LawKit.callS X131 hx (y := (⟨"com/example/tesserae/tesserae/dicom/TransferSyntaxForUidPinLaw", "set", "([CILjava/lang/String;ICCC)V"⟩ : MethodName)) hown (mvT hZ (hw _ (List.mem_of_getElem? (i := 16) rfl))) (mvT hZ (hw _ (List.mem_of_getElem? (i := 17) rfl))) (mvT hZ (hw _ (List.mem_of_getElem? (i := 10) rfl))) (mvT hZ (hw _ (List.mem_of_getElem? (i := 18) rfl))) (by decide) (backOf (W := 0) (rm2 l Z a0 hw [] cs sf a b kb nv vs y ky N tx122 (13 : Int32) pv cv ov ev T122.heap n0 c130 c128 S_cs hcs S_sf rsf c124 c125 c126 c127 hvs V122 hN122 hm122 hp122 g_y nya nyb (by decide) hcv hov hev) hZ (hw _ (List.mem_of_getElem? (i := 18) rfl)) (hw _ (List.mem_of_getElem? (i := 10) rfl)) (by decide) (by decide)) (g := (mkF mM 173 #[.val (.ref y), .val (.ref a), .val (.int pv), .val (.int cv), .val (.int ov), .val (.int ev)] [(.int ev), (.int ov), (.int cv), (.int pv), (.ref a), (.int (13 : Int32)), (.ref y)])) rfl (by rw [hml]; rfl) (argsL := [(.ref y), (.int (13 : Int32)), (.ref a), (.int pv), (.int cv), (.int ov), (.int ev)]) (rest := []) (lenOf pd_8 rfl) rfl (by show 2 * 0 + _ ≤ _; exact Nat.le_of_eq rfl) (hb hby d3_173) (fun _ _ => ⟨rfl, rfl, (by decide : 0 + 0 ≤ _), (by decide : 0 + 0 ≤ _)⟩)
  dsimp only [Pt.U, Pt.locs, Pt.cells, Pt.slots] at X132 l132 y132 z132 st132 hQ132
  subst l132 y132 z132
  obtain ⟨rfl, Nq132, K132, tx132, hl132, hp132, V132⟩ := hQ132
  have N132 := Fr.app N131 Nq132
  have pr133 : ∀ tg, Steps pP.tables eE below (T132.setTop (mkF mM 176 #[.val (.ref y), .val (.ref a), .val (.int pv), .val (.int cv), .val (.int ov), .val (.int ev)] [])) tg → Steps pP.tables eE below (s₁.setTop (entryFrame mM #[(.ref y), (.ref a), (.int pv), (.int cv), (.int ov), (.int ev)] 6)) tg := fun tg kg => pr129 _ (st132 _ kg)
  clear pr129 st132 X131
  have hN132 : N = Int32.ofNat tx132.length := by rw [hl132]; exact hN122
  have hm132 : tx132.length ≤ 20 := by rw [hl132]; exact hm122
  have hz132 : tx132.length = tx.length := hl132.trans hz122
  have c134 := (Exa.keep c124 K132)
  have c135 := (Fld.keep c125 K132 (ninS nya nin0))
  have c136 := (Fld.keep c126 K132 (ninS nya nin0))
  have c137 := (Arv.keep c127 K132 (ninS nyb nin0))
  have c138 := (Old.keep c128 K132 (allS g_y all0))
  have pr139 : ∀ tg, Steps pP.tables eE below (T132.setTop (mkF mM 186 #[.val (.ref y), .val (.ref a), .val (.int pv), .val (.int cv), .val (.int ov), .val (.int ev)] [(.int ev), (.int ov), (.int cv), (.int pv), (.ref a), (.int (14 : Int32)), (.ref y)])) tg → Steps pP.tables eE below (s₁.setTop (entryFrame mM #[(.ref y), (.ref a), (.int pv), (.int cv), (.int ov), (.int ev)] 6)) tg := fun tg kg => pr133 _ (by
    show Steps pP.tables eE below (T132.setTop (mkF mM 176 #[.val (.ref y), .val (.ref a), .val (.int pv), .val (.int cv), .val (.int ov), .val (.int ev)] [])) _
    refine XS.aloadN X132.here hx rfl (hb hby d3_176) rfl rfl ?_
    refine XS.bipush X132.here hx rfl (hb hby d3_177) ?_
    refine XS.aloadN X132.here hx rfl (hb hby d3_179) rfl rfl ?_
    refine XS.iloadN X132.here hx rfl (hb hby d3_180) rfl ?_
    refine XS.iloadN X132.here hx rfl (hb hby d3_181) rfl ?_
    refine XS.iload X132.here hx rfl (hb hby d3_182) rfl ?_
    show Steps pP.tables eE below (T132.setTop (mkF mM 184 #[.val (.ref y), .val (.ref a), .val (.int pv), .val (.int cv), .val (.int ov), .val (.int ev)] [(.int ov), (.int cv), (.int pv), (.ref a), (.int (14 : Int32)), (.ref y)])) _
    refine XS.iload X132.here hx rfl (hb hby d3_184) rfl ?_
    exact kg)
  clear pr133
  have c140 := (Nat.le_trans c130 K132.1)
  obtain ⟨Ls141, X141, N141⟩ := own_hide X132 N132
  clear X132 N132
  obtain ⟨_, _, ⟨T142, L142, kk142, nn142⟩, -, X142, ⟨Lc142, hQ142, l142, y142, z142⟩, st142⟩ := Jvm.LawKit.callS X141 hx (y := (⟨"com/example/tesserae/tesserae/dicom/TransferSyntaxForUidPinLaw", "set", "([CILjava/lang/String;ICCC)V"⟩ : MethodName)) hown (mvT hZ (hw _ (List.mem_of_getElem? (i := 16) rfl))) (mvT hZ (hw _ (List.mem_of_getElem? (i := 17) rfl))) (mvT hZ (hw _ (List.mem_of_getElem? (i := 10) rfl))) (mvT hZ (hw _ (List.mem_of_getElem? (i := 18) rfl))) (by decide) (backOf (W := 0) (rm2 l Z a0 hw [] cs sf a b kb nv vs y ky N tx132 (14 : Int32) pv cv ov ev T132.heap n0 c140 c138 S_cs hcs S_sf rsf c134 c135 c136 c137 hvs V132 hN132 hm132 hp132 g_y nya nyb (by decide) hcv hov hev) hZ (hw _ (List.mem_of_getElem? (i := 18) rfl)) (hw _ (List.mem_of_getElem? (i := 10) rfl)) (by decide) (by decide)) (g := (mkF mM 186 #[.val (.ref y), .val (.ref a), .val (.int pv), .val (.int cv), .val (.int ov), .val (.int ev)] [(.int ev), (.int ov), (.int cv), (.int pv), (.ref a), (.int (14 : Int32)), (.ref y)])) rfl (by rw [hml]; rfl) (argsL := [(.ref y), (.int (14 : Int32)), (.ref a), (.int pv), (.int cv), (.int ov), (.int ev)]) (rest := []) (lenOf pd_8 rfl) rfl (by show 2 * 0 + _ ≤ _; exact Nat.le_of_eq rfl) (hb hby d3_186) (fun _ _ => ⟨rfl, rfl, (by decide : 0 + 0 ≤ _), (by decide : 0 + 0 ≤ _)⟩)
  dsimp only [Pt.U, Pt.locs, Pt.cells, Pt.slots] at X142 l142 y142 z142 st142 hQ142
  subst l142 y142 z142
  obtain ⟨rfl, Nq142, K142, tx142, hl142, hp142, V142⟩ := hQ142
  have N142 := Fr.app N141 Nq142
  have pr143 : ∀ tg, Steps pP.tables eE below (T142.setTop (mkF mM 189 #[.val (.ref y), .val (.ref a), .val (.int pv), .val (.int cv), .val (.int ov), .val (.int ev)] [])) tg → Steps pP.tables eE below (s₁.setTop (entryFrame mM #[(.ref y), (.ref a), (.int pv), (.int cv), (.int ov), (.int ev)] 6)) tg := fun tg kg => pr139 _ (st142 _ kg)
  clear pr139 st142 X141
  have hN142 : N = Int32.ofNat tx142.length := by rw [hl142]; exact hN132
  have hm142 : tx142.length ≤ 20 := by rw [hl142]; exact hm132
  have hz142 : tx142.length = tx.length := hl142.trans hz132
  have c144 := (Exa.keep c134 K142)
  have c145 := (Fld.keep c135 K142 (ninS nya nin0))
  have c146 := (Fld.keep c136 K142 (ninS nya nin0))
  have c147 := (Arv.keep c137 K142 (ninS nyb nin0))
  have c148 := (Old.keep c138 K142 (allS g_y all0))
  have pr149 : ∀ tg, Steps pP.tables eE below (T142.setTop (mkF mM 199 #[.val (.ref y), .val (.ref a), .val (.int pv), .val (.int cv), .val (.int ov), .val (.int ev)] [(.int ev), (.int ov), (.int cv), (.int pv), (.ref a), (.int (15 : Int32)), (.ref y)])) tg → Steps pP.tables eE below (s₁.setTop (entryFrame mM #[(.ref y), (.ref a), (.int pv), (.int cv), (.int ov), (.int ev)] 6)) tg := fun tg kg => pr143 _ (by
    show Steps pP.tables eE below (T142.setTop (mkF mM 189 #[.val (.ref y), .val (.ref a), .val (.int pv), .val (.int cv), .val (.int ov), .val (.int ev)] [])) _
    refine XS.aloadN X142.here hx rfl (hb hby d3_189) rfl rfl ?_
    refine XS.bipush X142.here hx rfl (hb hby d3_190) ?_
    refine XS.aloadN X142.here hx rfl (hb hby d3_192) rfl rfl ?_
    refine XS.iloadN X142.here hx rfl (hb hby d3_193) rfl ?_
    refine XS.iloadN X142.here hx rfl (hb hby d3_194) rfl ?_
    refine XS.iload X142.here hx rfl (hb hby d3_195) rfl ?_
    show Steps pP.tables eE below (T142.setTop (mkF mM 197 #[.val (.ref y), .val (.ref a), .val (.int pv), .val (.int cv), .val (.int ov), .val (.int ev)] [(.int ov), (.int cv), (.int pv), (.ref a), (.int (15 : Int32)), (.ref y)])) _
    refine XS.iload X142.here hx rfl (hb hby d3_197) rfl ?_
    exact kg)
  clear pr143
  have c150 := (Nat.le_trans c140 K142.1)
  obtain ⟨Ls151, X151, N151⟩ := own_hide X142 N142
  clear X142 N142
  obtain ⟨_, _, ⟨T152, L152, kk152, nn152⟩, -, X152, ⟨Lc152, hQ152, l152, y152, z152⟩, st152⟩ := Jvm.LawKit.callS X151 hx (y := (⟨"com/example/tesserae/tesserae/dicom/TransferSyntaxForUidPinLaw", "set", "([CILjava/lang/String;ICCC)V"⟩ : MethodName)) hown (mvT hZ (hw _ (List.mem_of_getElem? (i := 16) rfl))) (mvT hZ (hw _ (List.mem_of_getElem? (i := 17) rfl))) (mvT hZ (hw _ (List.mem_of_getElem? (i := 10) rfl))) (mvT hZ (hw _ (List.mem_of_getElem? (i := 18) rfl))) (by decide) (backOf (W := 0) (rm2 l Z a0 hw [] cs sf a b kb nv vs y ky N tx142 (15 : Int32) pv cv ov ev T142.heap n0 c150 c148 S_cs hcs S_sf rsf c144 c145 c146 c147 hvs V142 hN142 hm142 hp142 g_y nya nyb (by decide) hcv hov hev) hZ (hw _ (List.mem_of_getElem? (i := 18) rfl)) (hw _ (List.mem_of_getElem? (i := 10) rfl)) (by decide) (by decide)) (g := (mkF mM 199 #[.val (.ref y), .val (.ref a), .val (.int pv), .val (.int cv), .val (.int ov), .val (.int ev)] [(.int ev), (.int ov), (.int cv), (.int pv), (.ref a), (.int (15 : Int32)), (.ref y)])) rfl (by rw [hml]; rfl) (argsL := [(.ref y), (.int (15 : Int32)), (.ref a), (.int pv), (.int cv), (.int ov), (.int ev)]) (rest := []) (lenOf pd_8 rfl) rfl (by show 2 * 0 + _ ≤ _; exact Nat.le_of_eq rfl) (hb hby d3_199) (fun _ _ => ⟨rfl, rfl, (by decide : 0 + 0 ≤ _), (by decide : 0 + 0 ≤ _)⟩)
  dsimp only [Pt.U, Pt.locs, Pt.cells, Pt.slots] at X152 l152 y152 z152 st152 hQ152
  subst l152 y152 z152
  obtain ⟨rfl, Nq152, K152, tx152, hl152, hp152, V152⟩ := hQ152
  have N152 := Fr.app N151 Nq152
  have pr153 : ∀ tg, Steps pP.tables eE below (T152.setTop (mkF mM 202 #[.val (.ref y), .val (.ref a), .val (.int pv), .val (.int cv), .val (.int ov), .val (.int ev)] [])) tg → Steps pP.tables eE below (s₁.setTop (entryFrame mM #[(.ref y), (.ref a), (.int pv), (.int cv), (.int ov), (.int ev)] 6)) tg := fun tg kg => pr149 _ (st152 _ kg)
  clear pr149 st152 X151
  have hN152 : N = Int32.ofNat tx152.length := by rw [hl152]; exact hN142
  have hm152 : tx152.length ≤ 20 := by rw [hl152]; exact hm142
  have hz152 : tx152.length = tx.length := hl152.trans hz142
  have c154 := (Exa.keep c144 K152)
  have c155 := (Fld.keep c145 K152 (ninS nya nin0))
  have c156 := (Fld.keep c146 K152 (ninS nya nin0))
  have c157 := (Arv.keep c147 K152 (ninS nyb nin0))
  have c158 := (Old.keep c148 K152 (allS g_y all0))
  have pr159 : ∀ tg, Steps pP.tables eE below (T152.setTop (mkF mM 212 #[.val (.ref y), .val (.ref a), .val (.int pv), .val (.int cv), .val (.int ov), .val (.int ev)] [(.int ev), (.int ov), (.int cv), (.int pv), (.ref a), (.int (16 : Int32)), (.ref y)])) tg → Steps pP.tables eE below (s₁.setTop (entryFrame mM #[(.ref y), (.ref a), (.int pv), (.int cv), (.int ov), (.int ev)] 6)) tg := fun tg kg => pr153 _ (by
    show Steps pP.tables eE below (T152.setTop (mkF mM 202 #[.val (.ref y), .val (.ref a), .val (.int pv), .val (.int cv), .val (.int ov), .val (.int ev)] [])) _
    refine XS.aloadN X152.here hx rfl (hb hby d3_202) rfl rfl ?_
    refine XS.bipush X152.here hx rfl (hb hby d3_203) ?_
    refine XS.aloadN X152.here hx rfl (hb hby d3_205) rfl rfl ?_
    refine XS.iloadN X152.here hx rfl (hb hby d3_206) rfl ?_
    refine XS.iloadN X152.here hx rfl (hb hby d3_207) rfl ?_
    refine XS.iload X152.here hx rfl (hb hby d3_208) rfl ?_
    show Steps pP.tables eE below (T152.setTop (mkF mM 210 #[.val (.ref y), .val (.ref a), .val (.int pv), .val (.int cv), .val (.int ov), .val (.int ev)] [(.int ov), (.int cv), (.int pv), (.ref a), (.int (16 : Int32)), (.ref y)])) _
    refine XS.iload X152.here hx rfl (hb hby d3_210) rfl ?_
    exact kg)
  clear pr153
  have c160 := (Nat.le_trans c150 K152.1)
  obtain ⟨Ls161, X161, N161⟩ := own_hide X152 N152
  clear X152 N152
  obtain ⟨_, _, ⟨T162, L162, kk162, nn162⟩, -, X162, ⟨Lc162, hQ162, l162, y162, z162⟩, st162⟩ := Jvm.LawKit.callS X161 hx (y := (⟨"com/example/tesserae/tesserae/dicom/TransferSyntaxForUidPinLaw", "set", "([CILjava/lang/String;ICCC)V"⟩ : MethodName)) hown (mvT hZ (hw _ (List.mem_of_getElem? (i := 16) rfl))) (mvT hZ (hw _ (List.mem_of_getElem? (i := 17) rfl))) (mvT hZ (hw _ (List.mem_of_getElem? (i := 10) rfl))) (mvT hZ (hw _ (List.mem_of_getElem? (i := 18) rfl))) (by decide) (backOf (W := 0) (rm2 l Z a0 hw [] cs sf a b kb nv vs y ky N tx152 (16 : Int32) pv cv ov ev T152.heap n0 c160 c158 S_cs hcs S_sf rsf c154 c155 c156 c157 hvs V152 hN152 hm152 hp152 g_y nya nyb (by decide) hcv hov hev) hZ (hw _ (List.mem_of_getElem? (i := 18) rfl)) (hw _ (List.mem_of_getElem? (i := 10) rfl)) (by decide) (by decide)) (g := (mkF mM 212 #[.val (.ref y), .val (.ref a), .val (.int pv), .val (.int cv), .val (.int ov), .val (.int ev)] [(.int ev), (.int ov), (.int cv), (.int pv), (.ref a), (.int (16 : Int32)), (.ref y)])) rfl (by rw [hml]; rfl) (argsL := [(.ref y), (.int (16 : Int32)), (.ref a), (.int pv), (.int cv), (.int ov), (.int ev)]) (rest := []) (lenOf pd_8 rfl) rfl (by show 2 * 0 + _ ≤ _; exact Nat.le_of_eq rfl) (hb hby d3_212) (fun _ _ => ⟨rfl, rfl, (by decide : 0 + 0 ≤ _), (by decide : 0 + 0 ≤ _)⟩)
  dsimp only [Pt.U, Pt.locs, Pt.cells, Pt.slots] at X162 l162 y162 z162 st162 hQ162
  subst l162 y162 z162
  obtain ⟨rfl, Nq162, K162, tx162, hl162, hp162, V162⟩ := hQ162
  have N162 := Fr.app N161 Nq162
  have pr163 : ∀ tg, Steps pP.tables eE below (T162.setTop (mkF mM 215 #[.val (.ref y), .val (.ref a), .val (.int pv), .val (.int cv), .val (.int ov), .val (.int ev)] [])) tg → Steps pP.tables eE below (s₁.setTop (entryFrame mM #[(.ref y), (.ref a), (.int pv), (.int cv), (.int ov), (.int ev)] 6)) tg := fun tg kg => pr159 _ (st162 _ kg)
  clear pr159 st162 X161
  have hN162 : N = Int32.ofNat tx162.length := by rw [hl162]; exact hN152
  have hm162 : tx162.length ≤ 20 := by rw [hl162]; exact hm152
  have hz162 : tx162.length = tx.length := hl162.trans hz152
  have c164 := (Exa.keep c154 K162)
  have c165 := (Fld.keep c155 K162 (ninS nya nin0))
  have c166 := (Fld.keep c156 K162 (ninS nya nin0))
  have c167 := (Arv.keep c157 K162 (ninS nyb nin0))
  have c168 := (Old.keep c158 K162 (allS g_y all0))
  have pr169 : ∀ tg, Steps pP.tables eE below (T162.setTop (mkF mM 225 #[.val (.ref y), .val (.ref a), .val (.int pv), .val (.int cv), .val (.int ov), .val (.int ev)] [(.int ev), (.int ov), (.int cv), (.int pv), (.ref a), (.int (17 : Int32)), (.ref y)])) tg → Steps pP.tables eE below (s₁.setTop (entryFrame mM #[(.ref y), (.ref a), (.int pv), (.int cv), (.int ov), (.int ev)] 6)) tg := fun tg kg => pr163 _ (by
    show Steps pP.tables eE below (T162.setTop (mkF mM 215 #[.val (.ref y), .val (.ref a), .val (.int pv), .val (.int cv), .val (.int ov), .val (.int ev)] [])) _
    refine XS.aloadN X162.here hx rfl (hb hby d3_215) rfl rfl ?_
    refine XS.bipush X162.here hx rfl (hb hby d3_216) ?_
    refine XS.aloadN X162.here hx rfl (hb hby d3_218) rfl rfl ?_
    refine XS.iloadN X162.here hx rfl (hb hby d3_219) rfl ?_
    refine XS.iloadN X162.here hx rfl (hb hby d3_220) rfl ?_
    refine XS.iload X162.here hx rfl (hb hby d3_221) rfl ?_
    show Steps pP.tables eE below (T162.setTop (mkF mM 223 #[.val (.ref y), .val (.ref a), .val (.int pv), .val (.int cv), .val (.int ov), .val (.int ev)] [(.int ov), (.int cv), (.int pv), (.ref a), (.int (17 : Int32)), (.ref y)])) _
    refine XS.iload X162.here hx rfl (hb hby d3_223) rfl ?_
    exact kg)
  clear pr163
  have c170 := (Nat.le_trans c160 K162.1)
  obtain ⟨Ls171, X171, N171⟩ := own_hide X162 N162
  clear X162 N162
  obtain ⟨_, _, ⟨T172, L172, kk172, nn172⟩, -, X172, ⟨Lc172, hQ172, l172, y172, z172⟩, st172⟩ := Jvm.LawKit.callS X171 hx (y := (⟨"com/example/tesserae/tesserae/dicom/TransferSyntaxForUidPinLaw", "set", "([CILjava/lang/String;ICCC)V"⟩ : MethodName)) hown (mvT hZ (hw _ (List.mem_of_getElem? (i := 16) rfl))) (mvT hZ (hw _ (List.mem_of_getElem? (i := 17) rfl))) (mvT hZ (hw _ (List.mem_of_getElem? (i := 10) rfl))) (mvT hZ (hw _ (List.mem_of_getElem? (i := 18) rfl))) (by decide) (backOf (W := 0) (rm2 l Z a0 hw [] cs sf a b kb nv vs y ky N tx162 (17 : Int32) pv cv ov ev T162.heap n0 c170 c168 S_cs hcs S_sf rsf c164 c165 c166 c167 hvs V162 hN162 hm162 hp162 g_y nya nyb (by decide) hcv hov hev) hZ (hw _ (List.mem_of_getElem? (i := 18) rfl)) (hw _ (List.mem_of_getElem? (i := 10) rfl)) (by decide) (by decide)) (g := (mkF mM 225 #[.val (.ref y), .val (.ref a), .val (.int pv), .val (.int cv), .val (.int ov), .val (.int ev)] [(.int ev), (.int ov), (.int cv), (.int pv), (.ref a), (.int (17 : Int32)), (.ref y)])) rfl (by rw [hml]; rfl) (argsL := [(.ref y), (.int (17 : Int32)), (.ref a), (.int pv), (.int cv), (.int ov), (.int ev)]) (rest := []) (lenOf pd_8 rfl) rfl (by show 2 * 0 + _ ≤ _; exact Nat.le_of_eq rfl) (hb hby d3_225) (fun _ _ => ⟨rfl, rfl, (by decide : 0 + 0 ≤ _), (by decide : 0 + 0 ≤ _)⟩)
  dsimp only [Pt.U, Pt.locs, Pt.cells, Pt.slots] at X172 l172 y172 z172 st172 hQ172
  subst l172 y172 z172
  obtain ⟨rfl, Nq172, K172, tx172, hl172, hp172, V172⟩ := hQ172
  have N172 := Fr.app N171 Nq172
  have pr173 : ∀ tg, Steps pP.tables eE below (T172.setTop (mkF mM 228 #[.val (.ref y), .val (.ref a), .val (.int pv), .val (.int cv), .val (.int ov), .val (.int ev)] [])) tg → Steps pP.tables eE below (s₁.setTop (entryFrame mM #[(.ref y), (.ref a), (.int pv), (.int cv), (.int ov), (.int ev)] 6)) tg := fun tg kg => pr169 _ (st172 _ kg)
  clear pr169 st172 X171
  have hN172 : N = Int32.ofNat tx172.length := by rw [hl172]; exact hN162
  have hm172 : tx172.length ≤ 20 := by rw [hl172]; exact hm162
  have hz172 : tx172.length = tx.length := hl172.trans hz162
  have c174 := (Exa.keep c164 K172)
  have c175 := (Fld.keep c165 K172 (ninS nya nin0))
  have c176 := (Fld.keep c166 K172 (ninS nya nin0))
  have c177 := (Arv.keep c167 K172 (ninS nyb nin0))
  have c178 := (Old.keep c168 K172 (allS g_y all0))
  have pr179 : ∀ tg, Steps pP.tables eE below (T172.setTop (mkF mM 238 #[.val (.ref y), .val (.ref a), .val (.int pv), .val (.int cv), .val (.int ov), .val (.int ev)] [(.int ev), (.int ov), (.int cv), (.int pv), (.ref a), (.int (18 : Int32)), (.ref y)])) tg → Steps pP.tables eE below (s₁.setTop (entryFrame mM #[(.ref y), (.ref a), (.int pv), (.int cv), (.int ov), (.int ev)] 6)) tg := fun tg kg => pr173 _ (by
    show Steps pP.tables eE below (T172.setTop (mkF mM 228 #[.val (.ref y), .val (.ref a), .val (.int pv), .val (.int cv), .val (.int ov), .val (.int ev)] [])) _
    refine XS.aloadN X172.here hx rfl (hb hby d3_228) rfl rfl ?_
    refine XS.bipush X172.here hx rfl (hb hby d3_229) ?_
    refine XS.aloadN X172.here hx rfl (hb hby d3_231) rfl rfl ?_
    refine XS.iloadN X172.here hx rfl (hb hby d3_232) rfl ?_
    refine XS.iloadN X172.here hx rfl (hb hby d3_233) rfl ?_
    refine XS.iload X172.here hx rfl (hb hby d3_234) rfl ?_
    show Steps pP.tables eE below (T172.setTop (mkF mM 236 #[.val (.ref y), .val (.ref a), .val (.int pv), .val (.int cv), .val (.int ov), .val (.int ev)] [(.int ov), (.int cv), (.int pv), (.ref a), (.int (18 : Int32)), (.ref y)])) _
    refine XS.iload X172.here hx rfl (hb hby d3_236) rfl ?_
    exact kg)
  clear pr173
  have c180 := (Nat.le_trans c170 K172.1)
  obtain ⟨Ls181, X181, N181⟩ := own_hide X172 N172
  clear X172 N172
  obtain ⟨_, _, ⟨T182, L182, kk182, nn182⟩, -, X182, ⟨Lc182, hQ182, l182, y182, z182⟩, st182⟩ := Jvm.LawKit.callS X181 hx (y := (⟨"com/example/tesserae/tesserae/dicom/TransferSyntaxForUidPinLaw", "set", "([CILjava/lang/String;ICCC)V"⟩ : MethodName)) hown (mvT hZ (hw _ (List.mem_of_getElem? (i := 16) rfl))) (mvT hZ (hw _ (List.mem_of_getElem? (i := 17) rfl))) (mvT hZ (hw _ (List.mem_of_getElem? (i := 10) rfl))) (mvT hZ (hw _ (List.mem_of_getElem? (i := 18) rfl))) (by decide) (backOf (W := 0) (rm2 l Z a0 hw [] cs sf a b kb nv vs y ky N tx172 (18 : Int32) pv cv ov ev T172.heap n0 c180 c178 S_cs hcs S_sf rsf c174 c175 c176 c177 hvs V172 hN172 hm172 hp172 g_y nya nyb (by decide) hcv hov hev) hZ (hw _ (List.mem_of_getElem? (i := 18) rfl)) (hw _ (List.mem_of_getElem? (i := 10) rfl)) (by decide) (by decide)) (g := (mkF mM 238 #[.val (.ref y), .val (.ref a), .val (.int pv), .val (.int cv), .val (.int ov), .val (.int ev)] [(.int ev), (.int ov), (.int cv), (.int pv), (.ref a), (.int (18 : Int32)), (.ref y)])) rfl (by rw [hml]; rfl) (argsL := [(.ref y), (.int (18 : Int32)), (.ref a), (.int pv), (.int cv), (.int ov), (.int ev)]) (rest := []) (lenOf pd_8 rfl) rfl (by show 2 * 0 + _ ≤ _; exact Nat.le_of_eq rfl) (hb hby d3_238) (fun _ _ => ⟨rfl, rfl, (by decide : 0 + 0 ≤ _), (by decide : 0 + 0 ≤ _)⟩)
  dsimp only [Pt.U, Pt.locs, Pt.cells, Pt.slots] at X182 l182 y182 z182 st182 hQ182
  subst l182 y182 z182
  obtain ⟨rfl, Nq182, K182, tx182, hl182, hp182, V182⟩ := hQ182
  have N182 := Fr.app N181 Nq182
  have pr183 : ∀ tg, Steps pP.tables eE below (T182.setTop (mkF mM 241 #[.val (.ref y), .val (.ref a), .val (.int pv), .val (.int cv), .val (.int ov), .val (.int ev)] [])) tg → Steps pP.tables eE below (s₁.setTop (entryFrame mM #[(.ref y), (.ref a), (.int pv), (.int cv), (.int ov), (.int ev)] 6)) tg := fun tg kg => pr179 _ (st182 _ kg)
  clear pr179 st182 X181
  have hN182 : N = Int32.ofNat tx182.length := by rw [hl182]; exact hN172
  have hm182 : tx182.length ≤ 20 := by rw [hl182]; exact hm172
  have hz182 : tx182.length = tx.length := hl182.trans hz172
  have c184 := (Exa.keep c174 K182)
  have c185 := (Fld.keep c175 K182 (ninS nya nin0))
  have c186 := (Fld.keep c176 K182 (ninS nya nin0))
  have c187 := (Arv.keep c177 K182 (ninS nyb nin0))
  have c188 := (Old.keep c178 K182 (allS g_y all0))
  have pr189 : ∀ tg, Steps pP.tables eE below (T182.setTop (mkF mM 251 #[.val (.ref y), .val (.ref a), .val (.int pv), .val (.int cv), .val (.int ov), .val (.int ev)] [(.int ev), (.int ov), (.int cv), (.int pv), (.ref a), (.int (19 : Int32)), (.ref y)])) tg → Steps pP.tables eE below (s₁.setTop (entryFrame mM #[(.ref y), (.ref a), (.int pv), (.int cv), (.int ov), (.int ev)] 6)) tg := fun tg kg => pr183 _ (by
    show Steps pP.tables eE below (T182.setTop (mkF mM 241 #[.val (.ref y), .val (.ref a), .val (.int pv), .val (.int cv), .val (.int ov), .val (.int ev)] [])) _
    refine XS.aloadN X182.here hx rfl (hb hby d3_241) rfl rfl ?_
    refine XS.bipush X182.here hx rfl (hb hby d3_242) ?_
    refine XS.aloadN X182.here hx rfl (hb hby d3_244) rfl rfl ?_
    refine XS.iloadN X182.here hx rfl (hb hby d3_245) rfl ?_
    refine XS.iloadN X182.here hx rfl (hb hby d3_246) rfl ?_
    refine XS.iload X182.here hx rfl (hb hby d3_247) rfl ?_
    show Steps pP.tables eE below (T182.setTop (mkF mM 249 #[.val (.ref y), .val (.ref a), .val (.int pv), .val (.int cv), .val (.int ov), .val (.int ev)] [(.int ov), (.int cv), (.int pv), (.ref a), (.int (19 : Int32)), (.ref y)])) _
    refine XS.iload X182.here hx rfl (hb hby d3_249) rfl ?_
    exact kg)
  clear pr183
  have c190 := (Nat.le_trans c180 K182.1)
  obtain ⟨Ls191, X191, N191⟩ := own_hide X182 N182
  clear X182 N182
  obtain ⟨_, _, ⟨T192, L192, kk192, nn192⟩, -, X192, ⟨Lc192, hQ192, l192, y192, z192⟩, st192⟩ := Jvm.LawKit.callS X191 hx (y := (⟨"com/example/tesserae/tesserae/dicom/TransferSyntaxForUidPinLaw", "set", "([CILjava/lang/String;ICCC)V"⟩ : MethodName)) hown (mvT hZ (hw _ (List.mem_of_getElem? (i := 16) rfl))) (mvT hZ (hw _ (List.mem_of_getElem? (i := 17) rfl))) (mvT hZ (hw _ (List.mem_of_getElem? (i := 10) rfl))) (mvT hZ (hw _ (List.mem_of_getElem? (i := 18) rfl))) (by decide) (backOf (W := 0) (rm2 l Z a0 hw [] cs sf a b kb nv vs y ky N tx182 (19 : Int32) pv cv ov ev T182.heap n0 c190 c188 S_cs hcs S_sf rsf c184 c185 c186 c187 hvs V182 hN182 hm182 hp182 g_y nya nyb (by decide) hcv hov hev) hZ (hw _ (List.mem_of_getElem? (i := 18) rfl)) (hw _ (List.mem_of_getElem? (i := 10) rfl)) (by decide) (by decide)) (g := (mkF mM 251 #[.val (.ref y), .val (.ref a), .val (.int pv), .val (.int cv), .val (.int ov), .val (.int ev)] [(.int ev), (.int ov), (.int cv), (.int pv), (.ref a), (.int (19 : Int32)), (.ref y)])) rfl (by rw [hml]; rfl) (argsL := [(.ref y), (.int (19 : Int32)), (.ref a), (.int pv), (.int cv), (.int ov), (.int ev)]) (rest := []) (lenOf pd_8 rfl) rfl (by show 2 * 0 + _ ≤ _; exact Nat.le_of_eq rfl) (hb hby d3_251) (fun _ _ => ⟨rfl, rfl, (by decide : 0 + 0 ≤ _), (by decide : 0 + 0 ≤ _)⟩)
  dsimp only [Pt.U, Pt.locs, Pt.cells, Pt.slots] at X192 l192 y192 z192 st192 hQ192
  subst l192 y192 z192
  obtain ⟨rfl, Nq192, K192, tx192, hl192, hp192, V192⟩ := hQ192
  have N192 := Fr.app N191 Nq192
  have pr193 : ∀ tg, Steps pP.tables eE below (T192.setTop (mkF mM 254 #[.val (.ref y), .val (.ref a), .val (.int pv), .val (.int cv), .val (.int ov), .val (.int ev)] [])) tg → Steps pP.tables eE below (s₁.setTop (entryFrame mM #[(.ref y), (.ref a), (.int pv), (.int cv), (.int ov), (.int ev)] 6)) tg := fun tg kg => pr189 _ (st192 _ kg)
  clear pr189 st192 X191
  have hN192 : N = Int32.ofNat tx192.length := by rw [hl192]; exact hN182
  have hm192 : tx192.length ≤ 20 := by rw [hl192]; exact hm182
  have hz192 : tx192.length = tx.length := hl192.trans hz182
  have c194 := (Keep.trans (Keep.trans (Keep.trans (Keep.trans (Keep.trans (Keep.trans (Keep.trans (Keep.trans (Keep.trans (Keep.trans (Keep.trans (Keep.trans (Keep.trans (Keep.trans (Keep.trans (Keep.trans (Keep.trans (Keep.trans (Keep.trans (Keep.trans (Keep.refl h0 [y]) K2 (allS (Or.inl (List.mem_of_getElem? (i := 0) rfl)) all0)) K12 (allS (Or.inl (List.mem_of_getElem? (i := 0) rfl)) all0)) K22 (allS (Or.inl (List.mem_of_getElem? (i := 0) rfl)) all0)) K32 (allS (Or.inl (List.mem_of_getElem? (i := 0) rfl)) all0)) K42 (allS (Or.inl (List.mem_of_getElem? (i := 0) rfl)) all0)) K52 (allS (Or.inl (List.mem_of_getElem? (i := 0) rfl)) all0)) K62 (allS (Or.inl (List.mem_of_getElem? (i := 0) rfl)) all0)) K72 (allS (Or.inl (List.mem_of_getElem? (i := 0) rfl)) all0)) K82 (allS (Or.inl (List.mem_of_getElem? (i := 0) rfl)) all0)) K92 (allS (Or.inl (List.mem_of_getElem? (i := 0) rfl)) all0)) K102 (allS (Or.inl (List.mem_of_getElem? (i := 0) rfl)) all0)) K112 (allS (Or.inl (List.mem_of_getElem? (i := 0) rfl)) all0)) K122 (allS (Or.inl (List.mem_of_getElem? (i := 0) rfl)) all0)) K132 (allS (Or.inl (List.mem_of_getElem? (i := 0) rfl)) all0)) K142 (allS (Or.inl (List.mem_of_getElem? (i := 0) rfl)) all0)) K152 (allS (Or.inl (List.mem_of_getElem? (i := 0) rfl)) all0)) K162 (allS (Or.inl (List.mem_of_getElem? (i := 0) rfl)) all0)) K172 (allS (Or.inl (List.mem_of_getElem? (i := 0) rfl)) all0)) K182 (allS (Or.inl (List.mem_of_getElem? (i := 0) rfl)) all0)) K192 (allS (Or.inl (List.mem_of_getElem? (i := 0) rfl)) all0))
  obtain ⟨fs, hr, hrun, hended, hW, hsame⟩ := X192.leave (v := none) (fun _ => rfl)
  refine ⟨_, _, pr193 _ (X192.returnOut hx Bd.returns (hb hby d3_254) hr), hrun, hended, _, _, rfl, ?_, ⟨_, rfl⟩, hW, hsame.mono (by decide) (by decide)⟩
  show Q3 Z cs sf a b kb nv vs y ky N tx pv cv ov ev h0 n0 _ T192.heap _
  exact ⟨rfl, N192, c194, tx192, hz192, hp192, V192⟩
theorem d4_0 : decode prog_9_method_1_code 0 = .ok (.getstatic 10, 3) := by decide +kernel
theorem d4_3 : decode prog_9_method_1_code 3 = .ok (.invokevirtual 14, 3) := by decide +kernel
theorem d4_6 : decode prog_9_method_1_code 6 = .ok (.checkcast 15, 3) := by decide +kernel
theorem d4_9 : decode prog_9_method_1_code 9 = .ok (.areturn, 1) := by decide +kernel
theorem pn_4 : plainName "com/example/tesserae/tesserae/dicom/TransferSyntax" = true := by first | (simp [plainName, overriddenIn]; done) | decide +kernel
theorem ef_4 (mM : MethodId)  : entryFrame mM #[] 0 = mkF mM 0 #[] [] := by first | (simp [entryFrame, mkF, argsToLocals, Value.category]; done) | rfl
def Q4 (Z : State) (al : Addr) (kal : ClassId) (a_IMPLICIT_VR_LITTLE_ENDIAN : Addr) (t_IMPLICIT_VR_LITTLE_ENDIAN : Addr) (u_IMPLICIT_VR_LITTLE_ENDIAN : Addr) (k_IMPLICIT_VR_LITTLE_ENDIAN : ClassId) (a_EXPLICIT_VR_LITTLE_ENDIAN : Addr) (t_EXPLICIT_VR_LITTLE_ENDIAN : Addr) (u_EXPLICIT_VR_LITTLE_ENDIAN : Addr) (k_EXPLICIT_VR_LITTLE_ENDIAN : ClassId) (h0 : Heap) (n0 : Nat) (v : Option Value) (h : Heap) (L : List Loc) : Prop := ∃ b : Addr, v = some (.ref b) ∧ h0.size ≤ b ∧ Fr n0 L ∧ Keep h0 h [] ∧ ∃ kb : ClassId, Arv Z h b kb (.object "com/example/tesserae/tesserae/dicom/TransferSyntax") (2 : Int32) [(.ref a_IMPLICIT_VR_LITTLE_ENDIAN), (.ref a_EXPLICIT_VR_LITTLE_ENDIAN)] .null
set_option maxRecDepth 65536 in
set_option maxHeartbeats 40000000 in
theorem rm4 (l : Launch) (Z : State) (a0 : Array Value) (hw : ∀ d ∈ tables_1, d.before a0 Z = true) (ws : List Jvm.Cond) (al : Addr) (kal : ClassId) (a_IMPLICIT_VR_LITTLE_ENDIAN : Addr) (t_IMPLICIT_VR_LITTLE_ENDIAN : Addr) (u_IMPLICIT_VR_LITTLE_ENDIAN : Addr) (k_IMPLICIT_VR_LITTLE_ENDIAN : ClassId) (a_EXPLICIT_VR_LITTLE_ENDIAN : Addr) (t_EXPLICIT_VR_LITTLE_ENDIAN : Addr) (u_EXPLICIT_VR_LITTLE_ENDIAN : Addr) (k_EXPLICIT_VR_LITTLE_ENDIAN : ClassId) (h0 : Heap) (n0 : Nat) (Z0 : n0 ≤ h0.size) (O : Old Z n0 h0) (S_ALL : Sta Z Z.heap "com/example/tesserae/tesserae/dicom/TransferSyntax" "$VALUES" "[Lcom/example/tesserae/tesserae/dicom/TransferSyntax;" (.ref al)) (E_ALL : Exa Z Z.heap al "[Lcom/example/tesserae/tesserae/dicom/TransferSyntax;") (V_ALL : Arv Z Z.heap al kal (.object "com/example/tesserae/tesserae/dicom/TransferSyntax") (2 : Int32) [(.ref a_IMPLICIT_VR_LITTLE_ENDIAN), (.ref a_EXPLICIT_VR_LITTLE_ENDIAN)] .null) (S_IMPLICIT_VR_LITTLE_ENDIAN : Sta Z Z.heap "com/example/tesserae/tesserae/dicom/TransferSyntax" "IMPLICIT_VR_LITTLE_ENDIAN" "Lcom/example/tesserae/tesserae/dicom/TransferSyntax;" (.ref a_IMPLICIT_VR_LITTLE_ENDIAN)) (E_IMPLICIT_VR_LITTLE_ENDIAN : Exa Z Z.heap a_IMPLICIT_VR_LITTLE_ENDIAN "com/example/tesserae/tesserae/dicom/TransferSyntax") (F_IMPLICIT_VR_LITTLE_ENDIAN : Fld Z Z.heap a_IMPLICIT_VR_LITTLE_ENDIAN "com/example/tesserae/tesserae/dicom/TransferSyntax" "uid" "Ljava/lang/String;" (.ref t_IMPLICIT_VR_LITTLE_ENDIAN)) (Et_IMPLICIT_VR_LITTLE_ENDIAN : Exa Z Z.heap t_IMPLICIT_VR_LITTLE_ENDIAN "java/lang/String") (Fc_IMPLICIT_VR_LITTLE_ENDIAN : Fld Z Z.heap t_IMPLICIT_VR_LITTLE_ENDIAN "java/lang/String" "coder" "B" (.int (0 : Int32))) (Fv_IMPLICIT_VR_LITTLE_ENDIAN : Fld Z Z.heap t_IMPLICIT_VR_LITTLE_ENDIAN "java/lang/String" "value" "[B" (.ref u_IMPLICIT_VR_LITTLE_ENDIAN)) (Vt_IMPLICIT_VR_LITTLE_ENDIAN : Arv Z Z.heap u_IMPLICIT_VR_LITTLE_ENDIAN k_IMPLICIT_VR_LITTLE_ENDIAN .byte (17 : Int32) [(.int (49 : Int32)), (.int (46 : Int32)), (.int (50 : Int32)), (.int (46 : Int32)), (.int (56 : Int32)), (.int (52 : Int32)), (.int (48 : Int32)), (.int (46 : Int32)), (.int (49 : Int32)), (.int (48 : Int32)), (.int (48 : Int32)), (.int (48 : Int32)), (.int (56 : Int32)), (.int (46 : Int32)), (.int (49 : Int32)), (.int (46 : Int32)), (.int (50 : Int32))] (.int (0 : Int32))) (S_EXPLICIT_VR_LITTLE_ENDIAN : Sta Z Z.heap "com/example/tesserae/tesserae/dicom/TransferSyntax" "EXPLICIT_VR_LITTLE_ENDIAN" "Lcom/example/tesserae/tesserae/dicom/TransferSyntax;" (.ref a_EXPLICIT_VR_LITTLE_ENDIAN)) (E_EXPLICIT_VR_LITTLE_ENDIAN : Exa Z Z.heap a_EXPLICIT_VR_LITTLE_ENDIAN "com/example/tesserae/tesserae/dicom/TransferSyntax") (F_EXPLICIT_VR_LITTLE_ENDIAN : Fld Z Z.heap a_EXPLICIT_VR_LITTLE_ENDIAN "com/example/tesserae/tesserae/dicom/TransferSyntax" "uid" "Ljava/lang/String;" (.ref t_EXPLICIT_VR_LITTLE_ENDIAN)) (Et_EXPLICIT_VR_LITTLE_ENDIAN : Exa Z Z.heap t_EXPLICIT_VR_LITTLE_ENDIAN "java/lang/String") (Fc_EXPLICIT_VR_LITTLE_ENDIAN : Fld Z Z.heap t_EXPLICIT_VR_LITTLE_ENDIAN "java/lang/String" "coder" "B" (.int (0 : Int32))) (Fv_EXPLICIT_VR_LITTLE_ENDIAN : Fld Z Z.heap t_EXPLICIT_VR_LITTLE_ENDIAN "java/lang/String" "value" "[B" (.ref u_EXPLICIT_VR_LITTLE_ENDIAN)) (Vt_EXPLICIT_VR_LITTLE_ENDIAN : Arv Z Z.heap u_EXPLICIT_VR_LITTLE_ENDIAN k_EXPLICIT_VR_LITTLE_ENDIAN .byte (19 : Int32) [(.int (49 : Int32)), (.int (46 : Int32)), (.int (50 : Int32)), (.int (46 : Int32)), (.int (56 : Int32)), (.int (52 : Int32)), (.int (48 : Int32)), (.int (46 : Int32)), (.int (49 : Int32)), (.int (48 : Int32)), (.int (48 : Int32)), (.int (48 : Int32)), (.int (56 : Int32)), (.int (46 : Int32)), (.int (49 : Int32)), (.int (46 : Int32)), (.int (50 : Int32)), (.int (46 : Int32)), (.int (49 : Int32))] (.int (0 : Int32))) :
    MetFree l (⟨"com/example/tesserae/tesserae/dicom/TransferSyntax", "values", "()[Lcom/example/tesserae/tesserae/dicom/TransferSyntax;"⟩ : MethodName) (head1 (Jvm.Cond.code (⟨"com/example/tesserae/tesserae/dicom/TransferSyntax", "values", "()[Lcom/example/tesserae/tesserae/dicom/TransferSyntax;"⟩ : MethodName) prog_9_method_1_code 0 (some (.array (.object "com/example/tesserae/tesserae/dicom/TransferSyntax"))) :: ws) ({ frames := 1, cells := 1, slots := 2, locals := 14 } : Room)) (fun aA uU => aA = #[] ∧ Z.Warmed39 uU.vm ∧ uU.heap = h0) (fun _ _ _ _ _ => True) (fun _ uU oO uU' => ∃ vV lL, oO = .returned vV ∧ Q4 Z al kal a_IMPLICIT_VR_LITTLE_ENDIAN t_IMPLICIT_VR_LITTLE_ENDIAN u_IMPLICIT_VR_LITTLE_ENDIAN k_IMPLICIT_VR_LITTLE_ENDIAN a_EXPLICIT_VR_LITTLE_ENDIAN t_EXPLICIT_VR_LITTLE_ENDIAN u_EXPLICIT_VR_LITTLE_ENDIAN k_EXPLICIT_VR_LITTLE_ENDIAN h0 n0 vV uU'.heap lL ∧ FrameEnd uU oO uU' lL ({ frames := 1, cells := 1, slots := 2, locals := 14 } : Room).cells ({ frames := 1, cells := 1, slots := 2, locals := 14 } : Room).slots) := by
  refine MetFree.of_bodySF (plainFor_of_name pn_4) hisR ?_
  intro pP eE sS mM args below meth cC s₁ Bd hml0 hP hK
  obtain ⟨rfl, hZ, hh⟩ := hP
  have hx := Bd.exec
  have hby := Bd.bytes
  have hml : cC.maxLocals = 0 := hml0
  have hown : sS.vm.findClass "com/example/tesserae/tesserae/dicom/TransferSyntax" = some mM.cls := findClass_of_methodNamed Bd.named
  have hnm := (name_of_methodNamed Bd.named Bd.method).1
  have X0 : Stand pP l eE ({ frames := 1, cells := 1, slots := 2, locals := 14 } : Room) sS mM #[] below meth cC s₁ [] 0 0 := Stand.of_body Bd
  have e0 : s₁.heap = h0 := by rw [← hh, Bd.state]; rfl
  have N0 := Fr.nil n0
  have pre0 : ∀ tg, Steps pP.tables eE below (s₁.setTop (mkF mM 0 #[] [])) tg → Steps pP.tables eE below (s₁.setTop (entryFrame mM #[] 0)) tg := fun tg kg => castTop (ef_4 mM ) kg
  obtain ⟨T1, X1, e1, st1⟩ := getS2 X0 hx hZ hown (host := "") (Or.inl (hw _ (List.mem_of_getElem? (i := 40) rfl))) Via.refl e0 (Sta.ext (O).2 S_ALL) (g := (mkF mM 0 #[] [])) rfl (hb hby d4_0)
  have pr2 : ∀ tg, Steps pP.tables eE below (T1.setTop (mkF mM 3 #[] [(.ref al)])) tg → Steps pP.tables eE below (s₁.setTop (entryFrame mM #[] 0)) tg := fun tg kg => pre0 _ (st1 _ kg)
  clear pre0 st1 X0 e0
  obtain ⟨T3, h3, X3, e3, E3, A3, Ex3, st3⟩ := cloneH X1 hx hZ hown (hw _ (List.mem_of_getElem? (i := 42) rfl)) (hw _ (List.mem_of_getElem? (i := 43) rfl)) (hw _ (List.mem_of_getElem? (i := 47) rfl)) (hw _ (List.mem_of_getElem? (i := 45) rfl)) (hw _ (List.mem_of_getElem? (i := 46) rfl)) (hw _ (List.mem_of_getElem? (i := 48) rfl)) e1 (Arv.arh (Arv.ext V_ALL (O).2)) (Exa.ext (O).2 E_ALL) (g := (mkF mM 3 #[] [(.ref al)])) rfl (by rw [hml]; rfl) rfl (hb hby d4_3) (by decide) (W := 0) (cap := 2) (by show 2 * 0 + _ ≤ _; exact Nat.le_of_eq rfl) (by decide) (by decide) (by decide) (by decide)
  obtain ⟨b3, g3⟩ : ∃ z, z = (h0).size := ⟨_, rfl⟩
  rw [← g3] at A3 Ex3 st3
  have gn4 : n0 ≤ b3 := Nat.le_trans Z0 (Nat.le_of_eq g3.symm)
  have gs5 : h0.size ≤ b3 := Nat.le_trans (Keep.refl h0 []).1 (Nat.le_of_eq g3.symm)
  have V3 : Arv Z h3 b3 kal (.object "com/example/tesserae/tesserae/dicom/TransferSyntax") (2 : Int32) [(.ref a_IMPLICIT_VR_LITTLE_ENDIAN), (.ref a_EXPLICIT_VR_LITTLE_ENDIAN)] .null := A3
  have pr6 : ∀ tg, Steps pP.tables eE below (T3.setTop (mkF mM 6 #[] [(.ref b3)])) tg → Steps pP.tables eE below (s₁.setTop (entryFrame mM #[] 0)) tg := fun tg kg => pr2 _ (st3 _ kg)
  clear pr2 st3 X1 e1
  obtain ⟨T7, X7, e7, st7⟩ := castY X3 hx hZ hown (hw _ (List.mem_of_getElem? (i := 52) rfl)) e3 (Ins.self Ex3) (g := (mkF mM 6 #[] [(.ref b3)])) rfl rfl (hb hby d4_6)
  have pr8 : ∀ tg, Steps pP.tables eE below (T7.setTop (mkF mM 9 #[] [(.ref b3)])) tg → Steps pP.tables eE below (s₁.setTop (entryFrame mM #[] 0)) tg := fun tg kg => pr6 _ (st7 _ kg)
  clear pr6 st7 X3 e3
  have c9 := (Keep.ext (Keep.refl h0 []) E3)
  obtain ⟨fs, hr, hrun, hended, hW, hsame⟩ := X7.leave (v := some (.ref b3)) (fun h => by rw [Bd.returns] at h; cases h)
  refine ⟨_, _, pr8 _ (retOut X7 hx (t := (.array (.object "com/example/tesserae/tesserae/dicom/TransferSyntax"))) Bd.returns rfl (Or.inr (Or.inr (Or.inr (Or.inr ⟨rfl, rfl, rfl⟩)))) (hb hby d4_9) hr), hrun, hended, _, _, rfl, ?_, ⟨_, rfl⟩, hW, hsame.mono (by decide) (by decide)⟩
  show Q4 Z al kal a_IMPLICIT_VR_LITTLE_ENDIAN t_IMPLICIT_VR_LITTLE_ENDIAN u_IMPLICIT_VR_LITTLE_ENDIAN k_IMPLICIT_VR_LITTLE_ENDIAN a_EXPLICIT_VR_LITTLE_ENDIAN t_EXPLICIT_VR_LITTLE_ENDIAN u_EXPLICIT_VR_LITTLE_ENDIAN k_EXPLICIT_VR_LITTLE_ENDIAN h0 n0 _ T7.heap _
  rw [e7]
  exact ⟨b3, rfl, gs5, N0, c9, _, V3⟩
theorem pd_9 : parseMethodDescriptor "()[Lcom/example/tesserae/tesserae/dicom/TransferSyntax;" = some ⟨[], some (.array (.object "com/example/tesserae/tesserae/dicom/TransferSyntax"))⟩ := by decide +kernel
theorem pd_10 : parseMethodDescriptor "(Ljava/lang/Object;)Z" = some ⟨[(.object "java/lang/Object")], some .boolean⟩ := by decide +kernel
theorem d50_0 : decode prog_9_method_4_code 0 = .ok (.invokestatic 37, 3) := by decide +kernel
theorem d50_3 : decode prog_9_method_4_code 3 = .ok (.astore_n 1, 1) := by decide +kernel
theorem d50_4 : decode prog_9_method_4_code 4 = .ok (.aload_n 1, 1) := by decide +kernel
theorem d50_5 : decode prog_9_method_4_code 5 = .ok (.arraylength, 1) := by decide +kernel
theorem d50_6 : decode prog_9_method_4_code 6 = .ok (.istore_n 2, 1) := by decide +kernel
theorem d50_7 : decode prog_9_method_4_code 7 = .ok (.iconst 0, 1) := by decide +kernel
theorem d50_8 : decode prog_9_method_4_code 8 = .ok (.istore_n 3, 1) := by decide +kernel
theorem d50_9 : decode prog_9_method_4_code 9 = .ok (.iload_n 3, 1) := by decide +kernel
theorem d50_10 : decode prog_9_method_4_code 10 = .ok (.iload_n 2, 1) := by decide +kernel
theorem d50_11 : decode prog_9_method_4_code 11 = .ok (.if_icmp .ge 29, 3) := by decide +kernel
theorem d50_14 : decode prog_9_method_4_code 14 = .ok (.aload_n 1, 1) := by decide +kernel
theorem d50_15 : decode prog_9_method_4_code 15 = .ok (.iload_n 3, 1) := by decide +kernel
theorem d50_16 : decode prog_9_method_4_code 16 = .ok (.aaload, 1) := by decide +kernel
theorem d50_17 : decode prog_9_method_4_code 17 = .ok (.astore 4, 2) := by decide +kernel
theorem d50_19 : decode prog_9_method_4_code 19 = .ok (.aload 4, 2) := by decide +kernel
theorem d50_21 : decode prog_9_method_4_code 21 = .ok (.getfield 29, 3) := by decide +kernel
theorem d50_24 : decode prog_9_method_4_code 24 = .ok (.aload_n 0, 1) := by decide +kernel
theorem d50_25 : decode prog_9_method_4_code 25 = .ok (.invokevirtual 41, 3) := by decide +kernel
theorem d50_28 : decode prog_9_method_4_code 28 = .ok (.ifCond .eq 6, 3) := by decide +kernel
theorem d50_31 : decode prog_9_method_4_code 31 = .ok (.aload 4, 2) := by decide +kernel
theorem d50_33 : decode prog_9_method_4_code 33 = .ok (.areturn, 1) := by decide +kernel
theorem ef_50 (mM : MethodId) (x0 : Addr) : entryFrame mM #[(.ref x0)] 5 = mkF mM 0 #[.val (.ref x0), .unset, .unset, .unset, .unset] [] := by first | (simp [entryFrame, mkF, argsToLocals, Value.category]; done) | rfl
def Q50 (Z : State) (cs : Int32) (al : Addr) (kal : ClassId) (a_IMPLICIT_VR_LITTLE_ENDIAN : Addr) (t_IMPLICIT_VR_LITTLE_ENDIAN : Addr) (u_IMPLICIT_VR_LITTLE_ENDIAN : Addr) (k_IMPLICIT_VR_LITTLE_ENDIAN : ClassId) (a_EXPLICIT_VR_LITTLE_ENDIAN : Addr) (t_EXPLICIT_VR_LITTLE_ENDIAN : Addr) (u_EXPLICIT_VR_LITTLE_ENDIAN : Addr) (k_EXPLICIT_VR_LITTLE_ENDIAN : ClassId) (x : Addr) (t : Addr) (kt : ClassId) (tx : List Int32) (h0 : Heap) (n0 : Nat) (v : Option Value) (h : Heap) (L : List Loc) : Prop := v = some (.ref a_IMPLICIT_VR_LITTLE_ENDIAN) ∧ Fr n0 L ∧ Keep h0 h []
set_option maxRecDepth 65536 in
set_option maxHeartbeats 40000000 in
theorem rm50 (l : Launch) (Z : State) (a0 : Array Value) (hw : ∀ d ∈ tables_1, d.before a0 Z = true) (ws : List Jvm.Cond) (cs : Int32) (al : Addr) (kal : ClassId) (a_IMPLICIT_VR_LITTLE_ENDIAN : Addr) (t_IMPLICIT_VR_LITTLE_ENDIAN : Addr) (u_IMPLICIT_VR_LITTLE_ENDIAN : Addr) (k_IMPLICIT_VR_LITTLE_ENDIAN : ClassId) (a_EXPLICIT_VR_LITTLE_ENDIAN : Addr) (t_EXPLICIT_VR_LITTLE_ENDIAN : Addr) (u_EXPLICIT_VR_LITTLE_ENDIAN : Addr) (k_EXPLICIT_VR_LITTLE_ENDIAN : ClassId) (x : Addr) (t : Addr) (kt : ClassId) (tx : List Int32) (h0 : Heap) (n0 : Nat) (Z0 : n0 ≤ h0.size) (O : Old Z n0 h0) (S_cs : Sta Z Z.heap "java/lang/String" "COMPACT_STRINGS" "Z" (.int cs)) (hcs : ¬ cs = (0 : Int32)) (S_ALL : Sta Z Z.heap "com/example/tesserae/tesserae/dicom/TransferSyntax" "$VALUES" "[Lcom/example/tesserae/tesserae/dicom/TransferSyntax;" (.ref al)) (E_ALL : Exa Z Z.heap al "[Lcom/example/tesserae/tesserae/dicom/TransferSyntax;") (V_ALL : Arv Z Z.heap al kal (.object "com/example/tesserae/tesserae/dicom/TransferSyntax") (2 : Int32) [(.ref a_IMPLICIT_VR_LITTLE_ENDIAN), (.ref a_EXPLICIT_VR_LITTLE_ENDIAN)] .null) (S_IMPLICIT_VR_LITTLE_ENDIAN : Sta Z Z.heap "com/example/tesserae/tesserae/dicom/TransferSyntax" "IMPLICIT_VR_LITTLE_ENDIAN" "Lcom/example/tesserae/tesserae/dicom/TransferSyntax;" (.ref a_IMPLICIT_VR_LITTLE_ENDIAN)) (E_IMPLICIT_VR_LITTLE_ENDIAN : Exa Z Z.heap a_IMPLICIT_VR_LITTLE_ENDIAN "com/example/tesserae/tesserae/dicom/TransferSyntax") (F_IMPLICIT_VR_LITTLE_ENDIAN : Fld Z Z.heap a_IMPLICIT_VR_LITTLE_ENDIAN "com/example/tesserae/tesserae/dicom/TransferSyntax" "uid" "Ljava/lang/String;" (.ref t_IMPLICIT_VR_LITTLE_ENDIAN)) (Et_IMPLICIT_VR_LITTLE_ENDIAN : Exa Z Z.heap t_IMPLICIT_VR_LITTLE_ENDIAN "java/lang/String") (Fc_IMPLICIT_VR_LITTLE_ENDIAN : Fld Z Z.heap t_IMPLICIT_VR_LITTLE_ENDIAN "java/lang/String" "coder" "B" (.int (0 : Int32))) (Fv_IMPLICIT_VR_LITTLE_ENDIAN : Fld Z Z.heap t_IMPLICIT_VR_LITTLE_ENDIAN "java/lang/String" "value" "[B" (.ref u_IMPLICIT_VR_LITTLE_ENDIAN)) (Vt_IMPLICIT_VR_LITTLE_ENDIAN : Arv Z Z.heap u_IMPLICIT_VR_LITTLE_ENDIAN k_IMPLICIT_VR_LITTLE_ENDIAN .byte (17 : Int32) [(.int (49 : Int32)), (.int (46 : Int32)), (.int (50 : Int32)), (.int (46 : Int32)), (.int (56 : Int32)), (.int (52 : Int32)), (.int (48 : Int32)), (.int (46 : Int32)), (.int (49 : Int32)), (.int (48 : Int32)), (.int (48 : Int32)), (.int (48 : Int32)), (.int (56 : Int32)), (.int (46 : Int32)), (.int (49 : Int32)), (.int (46 : Int32)), (.int (50 : Int32))] (.int (0 : Int32))) (S_EXPLICIT_VR_LITTLE_ENDIAN : Sta Z Z.heap "com/example/tesserae/tesserae/dicom/TransferSyntax" "EXPLICIT_VR_LITTLE_ENDIAN" "Lcom/example/tesserae/tesserae/dicom/TransferSyntax;" (.ref a_EXPLICIT_VR_LITTLE_ENDIAN)) (E_EXPLICIT_VR_LITTLE_ENDIAN : Exa Z Z.heap a_EXPLICIT_VR_LITTLE_ENDIAN "com/example/tesserae/tesserae/dicom/TransferSyntax") (F_EXPLICIT_VR_LITTLE_ENDIAN : Fld Z Z.heap a_EXPLICIT_VR_LITTLE_ENDIAN "com/example/tesserae/tesserae/dicom/TransferSyntax" "uid" "Ljava/lang/String;" (.ref t_EXPLICIT_VR_LITTLE_ENDIAN)) (Et_EXPLICIT_VR_LITTLE_ENDIAN : Exa Z Z.heap t_EXPLICIT_VR_LITTLE_ENDIAN "java/lang/String") (Fc_EXPLICIT_VR_LITTLE_ENDIAN : Fld Z Z.heap t_EXPLICIT_VR_LITTLE_ENDIAN "java/lang/String" "coder" "B" (.int (0 : Int32))) (Fv_EXPLICIT_VR_LITTLE_ENDIAN : Fld Z Z.heap t_EXPLICIT_VR_LITTLE_ENDIAN "java/lang/String" "value" "[B" (.ref u_EXPLICIT_VR_LITTLE_ENDIAN)) (Vt_EXPLICIT_VR_LITTLE_ENDIAN : Arv Z Z.heap u_EXPLICIT_VR_LITTLE_ENDIAN k_EXPLICIT_VR_LITTLE_ENDIAN .byte (19 : Int32) [(.int (49 : Int32)), (.int (46 : Int32)), (.int (50 : Int32)), (.int (46 : Int32)), (.int (56 : Int32)), (.int (52 : Int32)), (.int (48 : Int32)), (.int (46 : Int32)), (.int (49 : Int32)), (.int (48 : Int32)), (.int (48 : Int32)), (.int (48 : Int32)), (.int (56 : Int32)), (.int (46 : Int32)), (.int (49 : Int32)), (.int (46 : Int32)), (.int (50 : Int32)), (.int (46 : Int32)), (.int (49 : Int32))] (.int (0 : Int32))) (E_x : Exa Z h0 x "java/lang/String") (F_xv : Fld Z h0 x "java/lang/String" "value" "[B" (.ref t)) (F_xc : Fld Z h0 x "java/lang/String" "coder" "B" (.int (0 : Int32))) (V_t : Arv Z h0 t kt .byte (Int32.ofNat tx.length) ((tx.map StrChars.lo8).map Value.int) (.int (0 : Int32))) (hp : ∀ c ∈ tx, ¬ c < 0 ∧ ¬ (255 : Int32) < c) (hlen : tx.length ≤ 4000) (hk0 : tx = ([(49 : Int32), (46 : Int32), (50 : Int32), (46 : Int32), (56 : Int32), (52 : Int32), (48 : Int32), (46 : Int32), (49 : Int32), (48 : Int32), (48 : Int32), (48 : Int32), (56 : Int32), (46 : Int32), (49 : Int32), (46 : Int32), (50 : Int32)] : List Int32)) :
    MetFree l (⟨"com/example/tesserae/tesserae/dicom/TransferSyntax", "forUid", "(Ljava/lang/String;)Lcom/example/tesserae/tesserae/dicom/TransferSyntax;"⟩ : MethodName) (head1 (Jvm.Cond.code (⟨"com/example/tesserae/tesserae/dicom/TransferSyntax", "forUid", "(Ljava/lang/String;)Lcom/example/tesserae/tesserae/dicom/TransferSyntax;"⟩ : MethodName) prog_9_method_4_code 5 (some (.object "com/example/tesserae/tesserae/dicom/TransferSyntax")) :: ws) ({ frames := 2, cells := 1, slots := 2, locals := 28 } : Room)) (fun aA uU => aA = #[(.ref x)] ∧ Z.Warmed39 uU.vm ∧ uU.heap = h0) (fun _ _ _ _ _ => True) (fun _ uU oO uU' => ∃ vV lL, oO = .returned vV ∧ Q50 Z cs al kal a_IMPLICIT_VR_LITTLE_ENDIAN t_IMPLICIT_VR_LITTLE_ENDIAN u_IMPLICIT_VR_LITTLE_ENDIAN k_IMPLICIT_VR_LITTLE_ENDIAN a_EXPLICIT_VR_LITTLE_ENDIAN t_EXPLICIT_VR_LITTLE_ENDIAN u_EXPLICIT_VR_LITTLE_ENDIAN k_EXPLICIT_VR_LITTLE_ENDIAN x t kt tx h0 n0 vV uU'.heap lL ∧ FrameEnd uU oO uU' lL ({ frames := 2, cells := 1, slots := 2, locals := 28 } : Room).cells ({ frames := 2, cells := 1, slots := 2, locals := 28 } : Room).slots) := by
  refine MetFree.of_bodySF (plainFor_of_name pn_4) hisR ?_
  intro pP eE sS mM args below meth cC s₁ Bd hml0 hP hK
  obtain ⟨rfl, hZ, hh⟩ := hP
  have hx := Bd.exec
  have hby := Bd.bytes
  have hml : cC.maxLocals = 5 := hml0
  have hown : sS.vm.findClass "com/example/tesserae/tesserae/dicom/TransferSyntax" = some mM.cls := findClass_of_methodNamed Bd.named
  have hnm := (name_of_methodNamed Bd.named Bd.method).1
  have X0 : Stand pP l eE ({ frames := 2, cells := 1, slots := 2, locals := 28 } : Room) sS mM #[(.ref x)] below meth cC s₁ [] 0 0 := Stand.of_body Bd
  have e0 : s₁.heap = h0 := by rw [← hh, Bd.state]; rfl
  have N0 := Fr.nil n0
  have pre0 : ∀ tg, Steps pP.tables eE below (s₁.setTop (mkF mM 0 #[.val (.ref x), .unset, .unset, .unset, .unset] [])) tg → Steps pP.tables eE below (s₁.setTop (entryFrame mM #[(.ref x)] 5)) tg := fun tg kg => castTop (ef_50 mM x) kg
  obtain ⟨_, _, ⟨T1, L1, kk1, nn1⟩, -, X1, ⟨Lc1, hQ1, l1, y1, z1⟩, st1⟩ := Jvm.LawKit.callS X0 hx (y := (⟨"com/example/tesserae/tesserae/dicom/TransferSyntax", "values", "()[Lcom/example/tesserae/tesserae/dicom/TransferSyntax;"⟩ : MethodName)) hown (mvT hZ (hw _ (List.mem_of_getElem? (i := 37) rfl))) (mvT hZ (hw _ (List.mem_of_getElem? (i := 38) rfl))) (mvT hZ (hw _ (List.mem_of_getElem? (i := 35) rfl))) (mvT hZ (hw _ (List.mem_of_getElem? (i := 39) rfl))) (by decide) (backOf (W := 0) (rm4 l Z a0 hw [] al kal a_IMPLICIT_VR_LITTLE_ENDIAN t_IMPLICIT_VR_LITTLE_ENDIAN u_IMPLICIT_VR_LITTLE_ENDIAN k_IMPLICIT_VR_LITTLE_ENDIAN a_EXPLICIT_VR_LITTLE_ENDIAN t_EXPLICIT_VR_LITTLE_ENDIAN u_EXPLICIT_VR_LITTLE_ENDIAN k_EXPLICIT_VR_LITTLE_ENDIAN h0 n0 Z0 O S_ALL E_ALL V_ALL S_IMPLICIT_VR_LITTLE_ENDIAN E_IMPLICIT_VR_LITTLE_ENDIAN F_IMPLICIT_VR_LITTLE_ENDIAN Et_IMPLICIT_VR_LITTLE_ENDIAN Fc_IMPLICIT_VR_LITTLE_ENDIAN Fv_IMPLICIT_VR_LITTLE_ENDIAN Vt_IMPLICIT_VR_LITTLE_ENDIAN S_EXPLICIT_VR_LITTLE_ENDIAN E_EXPLICIT_VR_LITTLE_ENDIAN F_EXPLICIT_VR_LITTLE_ENDIAN Et_EXPLICIT_VR_LITTLE_ENDIAN Fc_EXPLICIT_VR_LITTLE_ENDIAN Fv_EXPLICIT_VR_LITTLE_ENDIAN Vt_EXPLICIT_VR_LITTLE_ENDIAN) hZ (hw _ (List.mem_of_getElem? (i := 39) rfl)) (hw _ (List.mem_of_getElem? (i := 35) rfl)) (by decide) (by decide)) (g := (mkF mM 0 #[.val (.ref x), .unset, .unset, .unset, .unset] [])) rfl (by rw [hml]; rfl) (argsL := []) (rest := []) (lenOf pd_9 rfl) rfl (by show 2 * 0 + _ ≤ _; exact Nat.le_of_eq rfl) (hb hby d50_0) (fun _ _ => ⟨rfl, e0, (by decide : 0 + 1 ≤ _), (by decide : 0 + 2 ≤ _)⟩)
  dsimp only [Pt.U, Pt.locs, Pt.cells, Pt.slots] at X1 l1 y1 z1 st1 hQ1
  subst l1 y1 z1
  obtain ⟨bv1, rfl, ge1, Nq1, K1, kv1, V1⟩ := hQ1
  have N1 := Fr.app N0 Nq1
  have ne2 : x ≠ bv1 := Nat.ne_of_lt (Nat.lt_of_lt_of_le (E_x).lt ge1)
  have ne3 : t ≠ bv1 := Nat.ne_of_lt (Nat.lt_of_lt_of_le (V_t).lt ge1)
  have gn4 : n0 ≤ bv1 := Nat.le_trans Z0 ge1
  have gs5 : h0.size ≤ bv1 := Nat.le_trans (Keep.refl h0 []).1 ge1
  have pr6 : ∀ tg, Steps pP.tables eE below (T1.setTop (mkF mM 3 #[.val (.ref x), .unset, .unset, .unset, .unset] [(.ref bv1)])) tg → Steps pP.tables eE below (s₁.setTop (entryFrame mM #[(.ref x)] 5)) tg := fun tg kg => pre0 _ (st1 _ kg)
  clear pre0 st1 X0 e0
  obtain ⟨cla7, Ara7, qa7, Sa7, Ma7, Ha7, Ga7⟩ := id V1
  have hin8 : ¬ ((0 : Int32) < 0 ∨ cla7.slots.size ≤ ((0 : Int32)).toNatClampNeg) := inb_of Sa7 ⟨by decide, by decide⟩
  have hat8 : cla7.slots[((0 : Int32)).toNatClampNeg]? = some (.ref a_IMPLICIT_VR_LITTLE_ENDIAN) := Has.at Ha7 hin8 rfl
  have c9 := (Old.keep O K1 all0)
  have pr10 : ∀ tg, Steps pP.tables eE below (T1.setTop (mkF mM 21 #[.val (.ref x), .val (.ref bv1), .val (.int (2 : Int32)), .val (.int (0 : Int32)), .val (.ref a_IMPLICIT_VR_LITTLE_ENDIAN)] [(.ref a_IMPLICIT_VR_LITTLE_ENDIAN)])) tg → Steps pP.tables eE below (s₁.setTop (entryFrame mM #[(.ref x)] 5)) tg := fun tg kg => pr6 _ (by
    show Steps pP.tables eE below (T1.setTop (mkF mM 3 #[.val (.ref x), .unset, .unset, .unset, .unset] [(.ref bv1)])) _
    refine XS.astoreN X1.here hx rfl (hb hby d50_3) rfl rfl (l' := #[.val (.ref x), .val (.ref bv1), .unset, .unset, .unset]) rfl ?_
    refine XS.aloadN X1.here hx rfl (hb hby d50_4) rfl rfl ?_
    show Steps pP.tables eE below (T1.setTop (mkF mM 5 #[.val (.ref x), .val (.ref bv1), .unset, .unset, .unset] [(.ref bv1)])) _
    refine X1.arraylength hx Ara7.1 (State.isArrayOf_alike hZ.alike Ara7.2.1) (g := (mkF mM 5 #[.val (.ref x), .val (.ref bv1), .unset, .unset, .unset] [(.ref bv1)])) rfl rfl (hb hby d50_5) _ ?_
    rw [len_of Sa7 Ma7]
    show Steps pP.tables eE below (T1.setTop (mkF mM 6 #[.val (.ref x), .val (.ref bv1), .unset, .unset, .unset] [(.int (2 : Int32))])) _
    refine XS.istoreN X1.here hx rfl (hb hby d50_6) rfl (l' := #[.val (.ref x), .val (.ref bv1), .val (.int (2 : Int32)), .unset, .unset]) rfl ?_
    refine XS.iconst X1.here hx rfl (hb hby d50_7) ?_
    refine XS.istoreN X1.here hx rfl (hb hby d50_8) rfl (l' := #[.val (.ref x), .val (.ref bv1), .val (.int (2 : Int32)), .val (.int (0 : Int32)), .unset]) rfl ?_
    refine XS.iloadN X1.here hx rfl (hb hby d50_9) rfl ?_
    refine XS.iloadN X1.here hx rfl (hb hby d50_10) rfl ?_
    refine XS.icmpNo X1.here hx rfl (hb hby d50_11) rfl (tlt (by decide)).2.1 ?_
    show Steps pP.tables eE below (T1.setTop (mkF mM 14 #[.val (.ref x), .val (.ref bv1), .val (.int (2 : Int32)), .val (.int (0 : Int32)), .unset] [])) _
    refine XS.aloadN X1.here hx rfl (hb hby d50_14) rfl rfl ?_
    refine XS.iloadN X1.here hx rfl (hb hby d50_15) rfl ?_
    show Steps pP.tables eE below (T1.setTop (mkF mM 16 #[.val (.ref x), .val (.ref bv1), .val (.int (2 : Int32)), .val (.int (0 : Int32)), .unset] [(.int (0 : Int32)), (.ref bv1)])) _
    refine X1.aaload hx (j := (0 : Int32)) (v := (.ref a_IMPLICIT_VR_LITTLE_ENDIAN)) Ara7.1 (State.isArrayOf_alike hZ.alike Ara7.2.1) rfl Ara7.2.2 hin8 hat8 (g := (mkF mM 16 #[.val (.ref x), .val (.ref bv1), .val (.int (2 : Int32)), .val (.int (0 : Int32)), .unset] [(.int (0 : Int32)), (.ref bv1)])) rfl rfl (hb hby d50_16) _ ?_
    show Steps pP.tables eE below (T1.setTop (mkF mM 17 #[.val (.ref x), .val (.ref bv1), .val (.int (2 : Int32)), .val (.int (0 : Int32)), .unset] [(.ref a_IMPLICIT_VR_LITTLE_ENDIAN)])) _
    refine XS.astore X1.here hx rfl (hb hby d50_17) rfl rfl (l' := #[.val (.ref x), .val (.ref bv1), .val (.int (2 : Int32)), .val (.int (0 : Int32)), .val (.ref a_IMPLICIT_VR_LITTLE_ENDIAN)]) rfl ?_
    refine XS.aload X1.here hx rfl (hb hby d50_19) rfl rfl ?_
    exact kg)
  clear pr6
  obtain ⟨T11, X11, e11, st11⟩ := getF X1 hx hZ hown (host := "") (Or.inl (hw _ (List.mem_of_getElem? (i := 54) rfl))) Via.refl rfl (Fld.ext (c9).2 F_IMPLICIT_VR_LITTLE_ENDIAN) (g := (mkF mM 21 #[.val (.ref x), .val (.ref bv1), .val (.int (2 : Int32)), .val (.int (0 : Int32)), .val (.ref a_IMPLICIT_VR_LITTLE_ENDIAN)] [(.ref a_IMPLICIT_VR_LITTLE_ENDIAN)])) rfl rfl (hb hby d50_21)
  have pr12 : ∀ tg, Steps pP.tables eE below (T11.setTop (mkF mM 24 #[.val (.ref x), .val (.ref bv1), .val (.int (2 : Int32)), .val (.int (0 : Int32)), .val (.ref a_IMPLICIT_VR_LITTLE_ENDIAN)] [(.ref t_IMPLICIT_VR_LITTLE_ENDIAN)])) tg → Steps pP.tables eE below (s₁.setTop (entryFrame mM #[(.ref x)] 5)) tg := fun tg kg => pr10 _ (st11 _ kg)
  clear pr10 st11 X1
  have c13 := (Exa.keep E_x K1)
  have c14 := (Fld.keep F_xv K1 nin0)
  have c15 := (Fld.keep F_xc K1 nin0)
  have c16 := (Arv.keep V_t K1 nin0)
  have pr17 : ∀ tg, Steps pP.tables eE below (T11.setTop (mkF mM 25 #[.val (.ref x), .val (.ref bv1), .val (.int (2 : Int32)), .val (.int (0 : Int32)), .val (.ref a_IMPLICIT_VR_LITTLE_ENDIAN)] [(.ref x), (.ref t_IMPLICIT_VR_LITTLE_ENDIAN)])) tg → Steps pP.tables eE below (s₁.setTop (entryFrame mM #[(.ref x)] 5)) tg := fun tg kg => pr12 _ (by
    show Steps pP.tables eE below (T11.setTop (mkF mM 24 #[.val (.ref x), .val (.ref bv1), .val (.int (2 : Int32)), .val (.int (0 : Int32)), .val (.ref a_IMPLICIT_VR_LITTLE_ENDIAN)] [(.ref t_IMPLICIT_VR_LITTLE_ENDIAN)])) _
    refine XS.aloadN X11.here hx rfl (hb hby d50_24) rfl rfl ?_
    exact kg)
  clear pr12
  have c18 := (Nat.le_trans Z0 K1.1)
  obtain ⟨Ls19, X19, N19⟩ := own_hide X11 N1
  clear X11 N1
  obtain ⟨cq20, kq20, qa20, qb20, qc20⟩ := isOf hZ e11 (Exa.ext (c9).2 Et_IMPLICIT_VR_LITTLE_ENDIAN)
  obtain ⟨vq20, _, ⟨T20, L20, kk20, nn20⟩, -, X20, ⟨Lc20, hQ20, l20, y20, z20⟩, st20⟩ := X19.virtualBack hx (y := (⟨"java/lang/String", "equals", "(Ljava/lang/Object;)Z"⟩ : MethodName)) (z := (⟨"java/lang/String", "equals", "(Ljava/lang/Object;)Z"⟩ : MethodName)) hown (mvT hZ (hw _ (List.mem_of_getElem? (i := 56) rfl))) (mvT hZ (hw _ (List.mem_of_getElem? (i := 57) rfl))) (notFace_of_selects (args := #[]) (mvT hZ (hw _ (List.mem_of_getElem? (i := 59) rfl)))) (mvT hZ (hw _ (List.mem_of_getElem? (i := 59) rfl))) (mvT hZ (hw _ (List.mem_of_getElem? (i := 58) rfl))) (by decide) (StrChars.Road.eqW (W := 0) hZ (own_wE hw) (kI := 4) (hw _ (List.mem_of_getElem? (i := 2) rfl)) (cs := ([(49 : Int32), (46 : Int32), (50 : Int32), (46 : Int32), (56 : Int32), (52 : Int32), (48 : Int32), (46 : Int32), (49 : Int32), (48 : Int32), (48 : Int32), (48 : Int32), (56 : Int32), (46 : Int32), (49 : Int32), (46 : Int32), (50 : Int32)] : List Int32)) (Exa.ext (c9).2 Et_IMPLICIT_VR_LITTLE_ENDIAN) (Fld.ext (c9).2 Fv_IMPLICIT_VR_LITTLE_ENDIAN) (Fld.ext (c9).2 Fc_IMPLICIT_VR_LITTLE_ENDIAN) (Arv.ext Vt_IMPLICIT_VR_LITTLE_ENDIAN (c9).2) own_cod_t0 own_bd_t0 (Nat.le_of_ble_eq_true rfl) (ds := tx) c13 c14 c15 c16 (StrChars.Road.codOf (n := tx.length) rfl (fun c hc => (hp c hc).2)) (own_up hp) hlen (Sta.ext (c9).2 S_cs) hcs (by decide) (by decide)) qa20 qc20 (g := (mkF mM 25 #[.val (.ref x), .val (.ref bv1), .val (.int (2 : Int32)), .val (.int (0 : Int32)), .val (.ref a_IMPLICIT_VR_LITTLE_ENDIAN)] [(.ref x), (.ref t_IMPLICIT_VR_LITTLE_ENDIAN)])) rfl (by rw [hml]; rfl) (Steps.refl _) (argsL := [(.ref x)]) (rest := []) (lenOf pd_10 rfl) rfl (by show 2 * 0 + _ ≤ _; exact Nat.le_of_eq rfl) (hb hby d50_25) (fun _ _ => ⟨rfl, e11, (by decide : 1 + 0 ≤ _), (by decide : 2 + 0 ≤ _)⟩)
  dsimp only [Pt.U, Pt.locs, Pt.cells, Pt.slots] at X20 l20 y20 z20 st20 hQ20
  subst l20 y20 z20
  obtain ⟨hq20, hL20, e20⟩ := hQ20
  subst hL20
  obtain ⟨r20, hv20, hr20⟩ : ∃ r : Int32, vq20 = some (.int r) ∧ r = (if ([(49 : Int32), (46 : Int32), (50 : Int32), (46 : Int32), (56 : Int32), (52 : Int32), (48 : Int32), (46 : Int32), (49 : Int32), (48 : Int32), (48 : Int32), (48 : Int32), (56 : Int32), (46 : Int32), (49 : Int32), (46 : Int32), (50 : Int32)] : List Int32) = tx then (1 : Int32) else (0 : Int32)) := hq20.elim (fun q => ⟨1, q.1, (if_pos q.2).symm⟩) (fun q => ⟨0, q.1, (if_neg q.2).symm⟩)
  subst hv20
  have N20 := Fr.app N19 (Fr.nil n0)
  have pr21 : ∀ tg, Steps pP.tables eE below (T20.setTop (mkF mM 28 #[.val (.ref x), .val (.ref bv1), .val (.int (2 : Int32)), .val (.int (0 : Int32)), .val (.ref a_IMPLICIT_VR_LITTLE_ENDIAN)] [(.int r20)])) tg → Steps pP.tables eE below (s₁.setTop (entryFrame mM #[(.ref x)] 5)) tg := fun tg kg => pr17 _ (st20.trans kg)
  clear pr17 st20 X19 e11
  rw [if_pos hk0.symm] at hr20
  subst hr20
  have pr22 : ∀ tg, Steps pP.tables eE below (T20.setTop (mkF mM 33 #[.val (.ref x), .val (.ref bv1), .val (.int (2 : Int32)), .val (.int (0 : Int32)), .val (.ref a_IMPLICIT_VR_LITTLE_ENDIAN)] [(.ref a_IMPLICIT_VR_LITTLE_ENDIAN)])) tg → Steps pP.tables eE below (s₁.setTop (entryFrame mM #[(.ref x)] 5)) tg := fun tg kg => pr21 _ (by
    show Steps pP.tables eE below (T20.setTop (mkF mM 28 #[.val (.ref x), .val (.ref bv1), .val (.int (2 : Int32)), .val (.int (0 : Int32)), .val (.ref a_IMPLICIT_VR_LITTLE_ENDIAN)] [(.int (1 : Int32))])) _
    refine XS.ifNo X20.here hx rfl (hb hby d50_28) rfl ((if0 _ _).trans (feq (by decide)).1) ?_
    refine XS.aload X20.here hx rfl (hb hby d50_31) rfl rfl ?_
    exact kg)
  clear pr21
  have c23 := (Keep.trans (Keep.refl h0 []) K1 all0)
  obtain ⟨fs, hr, hrun, hended, hW, hsame⟩ := X20.leave (v := some (.ref a_IMPLICIT_VR_LITTLE_ENDIAN)) (fun h => by rw [Bd.returns] at h; cases h)
  refine ⟨_, _, pr22 _ (retOut X20 hx (t := (.object "com/example/tesserae/tesserae/dicom/TransferSyntax")) Bd.returns rfl (Or.inr (Or.inr (Or.inr (Or.inr ⟨rfl, rfl, rfl⟩)))) (hb hby d50_33) hr), hrun, hended, _, _, rfl, ?_, ⟨_, rfl⟩, hW, hsame.mono (by decide) (by decide)⟩
  show Q50 Z cs al kal a_IMPLICIT_VR_LITTLE_ENDIAN t_IMPLICIT_VR_LITTLE_ENDIAN u_IMPLICIT_VR_LITTLE_ENDIAN k_IMPLICIT_VR_LITTLE_ENDIAN a_EXPLICIT_VR_LITTLE_ENDIAN t_EXPLICIT_VR_LITTLE_ENDIAN u_EXPLICIT_VR_LITTLE_ENDIAN k_EXPLICIT_VR_LITTLE_ENDIAN x t kt tx h0 n0 _ T20.heap _
  rw [e20]
  exact ⟨rfl, N20, c23⟩
theorem d51_0 : decode prog_9_method_4_code 0 = .ok (.invokestatic 37, 3) := by decide +kernel
theorem d51_3 : decode prog_9_method_4_code 3 = .ok (.astore_n 1, 1) := by decide +kernel
theorem d51_4 : decode prog_9_method_4_code 4 = .ok (.aload_n 1, 1) := by decide +kernel
theorem d51_5 : decode prog_9_method_4_code 5 = .ok (.arraylength, 1) := by decide +kernel
theorem d51_6 : decode prog_9_method_4_code 6 = .ok (.istore_n 2, 1) := by decide +kernel
theorem d51_7 : decode prog_9_method_4_code 7 = .ok (.iconst 0, 1) := by decide +kernel
theorem d51_8 : decode prog_9_method_4_code 8 = .ok (.istore_n 3, 1) := by decide +kernel
theorem d51_9 : decode prog_9_method_4_code 9 = .ok (.iload_n 3, 1) := by decide +kernel
theorem d51_10 : decode prog_9_method_4_code 10 = .ok (.iload_n 2, 1) := by decide +kernel
theorem d51_11 : decode prog_9_method_4_code 11 = .ok (.if_icmp .ge 29, 3) := by decide +kernel
theorem d51_14 : decode prog_9_method_4_code 14 = .ok (.aload_n 1, 1) := by decide +kernel
theorem d51_15 : decode prog_9_method_4_code 15 = .ok (.iload_n 3, 1) := by decide +kernel
theorem d51_16 : decode prog_9_method_4_code 16 = .ok (.aaload, 1) := by decide +kernel
theorem d51_17 : decode prog_9_method_4_code 17 = .ok (.astore 4, 2) := by decide +kernel
theorem d51_19 : decode prog_9_method_4_code 19 = .ok (.aload 4, 2) := by decide +kernel
theorem d51_21 : decode prog_9_method_4_code 21 = .ok (.getfield 29, 3) := by decide +kernel
theorem d51_24 : decode prog_9_method_4_code 24 = .ok (.aload_n 0, 1) := by decide +kernel
theorem d51_25 : decode prog_9_method_4_code 25 = .ok (.invokevirtual 41, 3) := by decide +kernel
theorem d51_28 : decode prog_9_method_4_code 28 = .ok (.ifCond .eq 6, 3) := by decide +kernel
theorem d51_31 : decode prog_9_method_4_code 31 = .ok (.aload 4, 2) := by decide +kernel
theorem d51_33 : decode prog_9_method_4_code 33 = .ok (.areturn, 1) := by decide +kernel
theorem d51_34 : decode prog_9_method_4_code 34 = .ok (.iinc 3 1, 3) := by decide +kernel
theorem d51_37 : decode prog_9_method_4_code 37 = .ok (.goto (-28), 3) := by decide +kernel
theorem ef_51 (mM : MethodId) (x0 : Addr) : entryFrame mM #[(.ref x0)] 5 = mkF mM 0 #[.val (.ref x0), .unset, .unset, .unset, .unset] [] := by first | (simp [entryFrame, mkF, argsToLocals, Value.category]; done) | rfl
def Q51 (Z : State) (cs : Int32) (al : Addr) (kal : ClassId) (a_IMPLICIT_VR_LITTLE_ENDIAN : Addr) (t_IMPLICIT_VR_LITTLE_ENDIAN : Addr) (u_IMPLICIT_VR_LITTLE_ENDIAN : Addr) (k_IMPLICIT_VR_LITTLE_ENDIAN : ClassId) (a_EXPLICIT_VR_LITTLE_ENDIAN : Addr) (t_EXPLICIT_VR_LITTLE_ENDIAN : Addr) (u_EXPLICIT_VR_LITTLE_ENDIAN : Addr) (k_EXPLICIT_VR_LITTLE_ENDIAN : ClassId) (x : Addr) (t : Addr) (kt : ClassId) (tx : List Int32) (h0 : Heap) (n0 : Nat) (v : Option Value) (h : Heap) (L : List Loc) : Prop := v = some (.ref a_EXPLICIT_VR_LITTLE_ENDIAN) ∧ Fr n0 L ∧ Keep h0 h []
set_option maxRecDepth 65536 in
set_option maxHeartbeats 40000000 in
theorem rm51 (l : Launch) (Z : State) (a0 : Array Value) (hw : ∀ d ∈ tables_1, d.before a0 Z = true) (ws : List Jvm.Cond) (cs : Int32) (al : Addr) (kal : ClassId) (a_IMPLICIT_VR_LITTLE_ENDIAN : Addr) (t_IMPLICIT_VR_LITTLE_ENDIAN : Addr) (u_IMPLICIT_VR_LITTLE_ENDIAN : Addr) (k_IMPLICIT_VR_LITTLE_ENDIAN : ClassId) (a_EXPLICIT_VR_LITTLE_ENDIAN : Addr) (t_EXPLICIT_VR_LITTLE_ENDIAN : Addr) (u_EXPLICIT_VR_LITTLE_ENDIAN : Addr) (k_EXPLICIT_VR_LITTLE_ENDIAN : ClassId) (x : Addr) (t : Addr) (kt : ClassId) (tx : List Int32) (h0 : Heap) (n0 : Nat) (Z0 : n0 ≤ h0.size) (O : Old Z n0 h0) (S_cs : Sta Z Z.heap "java/lang/String" "COMPACT_STRINGS" "Z" (.int cs)) (hcs : ¬ cs = (0 : Int32)) (S_ALL : Sta Z Z.heap "com/example/tesserae/tesserae/dicom/TransferSyntax" "$VALUES" "[Lcom/example/tesserae/tesserae/dicom/TransferSyntax;" (.ref al)) (E_ALL : Exa Z Z.heap al "[Lcom/example/tesserae/tesserae/dicom/TransferSyntax;") (V_ALL : Arv Z Z.heap al kal (.object "com/example/tesserae/tesserae/dicom/TransferSyntax") (2 : Int32) [(.ref a_IMPLICIT_VR_LITTLE_ENDIAN), (.ref a_EXPLICIT_VR_LITTLE_ENDIAN)] .null) (S_IMPLICIT_VR_LITTLE_ENDIAN : Sta Z Z.heap "com/example/tesserae/tesserae/dicom/TransferSyntax" "IMPLICIT_VR_LITTLE_ENDIAN" "Lcom/example/tesserae/tesserae/dicom/TransferSyntax;" (.ref a_IMPLICIT_VR_LITTLE_ENDIAN)) (E_IMPLICIT_VR_LITTLE_ENDIAN : Exa Z Z.heap a_IMPLICIT_VR_LITTLE_ENDIAN "com/example/tesserae/tesserae/dicom/TransferSyntax") (F_IMPLICIT_VR_LITTLE_ENDIAN : Fld Z Z.heap a_IMPLICIT_VR_LITTLE_ENDIAN "com/example/tesserae/tesserae/dicom/TransferSyntax" "uid" "Ljava/lang/String;" (.ref t_IMPLICIT_VR_LITTLE_ENDIAN)) (Et_IMPLICIT_VR_LITTLE_ENDIAN : Exa Z Z.heap t_IMPLICIT_VR_LITTLE_ENDIAN "java/lang/String") (Fc_IMPLICIT_VR_LITTLE_ENDIAN : Fld Z Z.heap t_IMPLICIT_VR_LITTLE_ENDIAN "java/lang/String" "coder" "B" (.int (0 : Int32))) (Fv_IMPLICIT_VR_LITTLE_ENDIAN : Fld Z Z.heap t_IMPLICIT_VR_LITTLE_ENDIAN "java/lang/String" "value" "[B" (.ref u_IMPLICIT_VR_LITTLE_ENDIAN)) (Vt_IMPLICIT_VR_LITTLE_ENDIAN : Arv Z Z.heap u_IMPLICIT_VR_LITTLE_ENDIAN k_IMPLICIT_VR_LITTLE_ENDIAN .byte (17 : Int32) [(.int (49 : Int32)), (.int (46 : Int32)), (.int (50 : Int32)), (.int (46 : Int32)), (.int (56 : Int32)), (.int (52 : Int32)), (.int (48 : Int32)), (.int (46 : Int32)), (.int (49 : Int32)), (.int (48 : Int32)), (.int (48 : Int32)), (.int (48 : Int32)), (.int (56 : Int32)), (.int (46 : Int32)), (.int (49 : Int32)), (.int (46 : Int32)), (.int (50 : Int32))] (.int (0 : Int32))) (S_EXPLICIT_VR_LITTLE_ENDIAN : Sta Z Z.heap "com/example/tesserae/tesserae/dicom/TransferSyntax" "EXPLICIT_VR_LITTLE_ENDIAN" "Lcom/example/tesserae/tesserae/dicom/TransferSyntax;" (.ref a_EXPLICIT_VR_LITTLE_ENDIAN)) (E_EXPLICIT_VR_LITTLE_ENDIAN : Exa Z Z.heap a_EXPLICIT_VR_LITTLE_ENDIAN "com/example/tesserae/tesserae/dicom/TransferSyntax") (F_EXPLICIT_VR_LITTLE_ENDIAN : Fld Z Z.heap a_EXPLICIT_VR_LITTLE_ENDIAN "com/example/tesserae/tesserae/dicom/TransferSyntax" "uid" "Ljava/lang/String;" (.ref t_EXPLICIT_VR_LITTLE_ENDIAN)) (Et_EXPLICIT_VR_LITTLE_ENDIAN : Exa Z Z.heap t_EXPLICIT_VR_LITTLE_ENDIAN "java/lang/String") (Fc_EXPLICIT_VR_LITTLE_ENDIAN : Fld Z Z.heap t_EXPLICIT_VR_LITTLE_ENDIAN "java/lang/String" "coder" "B" (.int (0 : Int32))) (Fv_EXPLICIT_VR_LITTLE_ENDIAN : Fld Z Z.heap t_EXPLICIT_VR_LITTLE_ENDIAN "java/lang/String" "value" "[B" (.ref u_EXPLICIT_VR_LITTLE_ENDIAN)) (Vt_EXPLICIT_VR_LITTLE_ENDIAN : Arv Z Z.heap u_EXPLICIT_VR_LITTLE_ENDIAN k_EXPLICIT_VR_LITTLE_ENDIAN .byte (19 : Int32) [(.int (49 : Int32)), (.int (46 : Int32)), (.int (50 : Int32)), (.int (46 : Int32)), (.int (56 : Int32)), (.int (52 : Int32)), (.int (48 : Int32)), (.int (46 : Int32)), (.int (49 : Int32)), (.int (48 : Int32)), (.int (48 : Int32)), (.int (48 : Int32)), (.int (56 : Int32)), (.int (46 : Int32)), (.int (49 : Int32)), (.int (46 : Int32)), (.int (50 : Int32)), (.int (46 : Int32)), (.int (49 : Int32))] (.int (0 : Int32))) (E_x : Exa Z h0 x "java/lang/String") (F_xv : Fld Z h0 x "java/lang/String" "value" "[B" (.ref t)) (F_xc : Fld Z h0 x "java/lang/String" "coder" "B" (.int (0 : Int32))) (V_t : Arv Z h0 t kt .byte (Int32.ofNat tx.length) ((tx.map StrChars.lo8).map Value.int) (.int (0 : Int32))) (hp : ∀ c ∈ tx, ¬ c < 0 ∧ ¬ (255 : Int32) < c) (hlen : tx.length ≤ 4000) (hk0 : ¬ tx = ([(49 : Int32), (46 : Int32), (50 : Int32), (46 : Int32), (56 : Int32), (52 : Int32), (48 : Int32), (46 : Int32), (49 : Int32), (48 : Int32), (48 : Int32), (48 : Int32), (56 : Int32), (46 : Int32), (49 : Int32), (46 : Int32), (50 : Int32)] : List Int32)) (hk1 : tx = ([(49 : Int32), (46 : Int32), (50 : Int32), (46 : Int32), (56 : Int32), (52 : Int32), (48 : Int32), (46 : Int32), (49 : Int32), (48 : Int32), (48 : Int32), (48 : Int32), (56 : Int32), (46 : Int32), (49 : Int32), (46 : Int32), (50 : Int32), (46 : Int32), (49 : Int32)] : List Int32)) :
    MetFree l (⟨"com/example/tesserae/tesserae/dicom/TransferSyntax", "forUid", "(Ljava/lang/String;)Lcom/example/tesserae/tesserae/dicom/TransferSyntax;"⟩ : MethodName) (head1 (Jvm.Cond.code (⟨"com/example/tesserae/tesserae/dicom/TransferSyntax", "forUid", "(Ljava/lang/String;)Lcom/example/tesserae/tesserae/dicom/TransferSyntax;"⟩ : MethodName) prog_9_method_4_code 5 (some (.object "com/example/tesserae/tesserae/dicom/TransferSyntax")) :: ws) ({ frames := 2, cells := 1, slots := 2, locals := 28 } : Room)) (fun aA uU => aA = #[(.ref x)] ∧ Z.Warmed39 uU.vm ∧ uU.heap = h0) (fun _ _ _ _ _ => True) (fun _ uU oO uU' => ∃ vV lL, oO = .returned vV ∧ Q51 Z cs al kal a_IMPLICIT_VR_LITTLE_ENDIAN t_IMPLICIT_VR_LITTLE_ENDIAN u_IMPLICIT_VR_LITTLE_ENDIAN k_IMPLICIT_VR_LITTLE_ENDIAN a_EXPLICIT_VR_LITTLE_ENDIAN t_EXPLICIT_VR_LITTLE_ENDIAN u_EXPLICIT_VR_LITTLE_ENDIAN k_EXPLICIT_VR_LITTLE_ENDIAN x t kt tx h0 n0 vV uU'.heap lL ∧ FrameEnd uU oO uU' lL ({ frames := 2, cells := 1, slots := 2, locals := 28 } : Room).cells ({ frames := 2, cells := 1, slots := 2, locals := 28 } : Room).slots) := by
  refine MetFree.of_bodySF (plainFor_of_name pn_4) hisR ?_
  intro pP eE sS mM args below meth cC s₁ Bd hml0 hP hK
  obtain ⟨rfl, hZ, hh⟩ := hP
  have hx := Bd.exec
  have hby := Bd.bytes
  have hml : cC.maxLocals = 5 := hml0
  have hown : sS.vm.findClass "com/example/tesserae/tesserae/dicom/TransferSyntax" = some mM.cls := findClass_of_methodNamed Bd.named
  have hnm := (name_of_methodNamed Bd.named Bd.method).1
  have X0 : Stand pP l eE ({ frames := 2, cells := 1, slots := 2, locals := 28 } : Room) sS mM #[(.ref x)] below meth cC s₁ [] 0 0 := Stand.of_body Bd
  have e0 : s₁.heap = h0 := by rw [← hh, Bd.state]; rfl
  have N0 := Fr.nil n0
  have pre0 : ∀ tg, Steps pP.tables eE below (s₁.setTop (mkF mM 0 #[.val (.ref x), .unset, .unset, .unset, .unset] [])) tg → Steps pP.tables eE below (s₁.setTop (entryFrame mM #[(.ref x)] 5)) tg := fun tg kg => castTop (ef_51 mM x) kg
  obtain ⟨_, _, ⟨T1, L1, kk1, nn1⟩, -, X1, ⟨Lc1, hQ1, l1, y1, z1⟩, st1⟩ := Jvm.LawKit.callS X0 hx (y := (⟨"com/example/tesserae/tesserae/dicom/TransferSyntax", "values", "()[Lcom/example/tesserae/tesserae/dicom/TransferSyntax;"⟩ : MethodName)) hown (mvT hZ (hw _ (List.mem_of_getElem? (i := 37) rfl))) (mvT hZ (hw _ (List.mem_of_getElem? (i := 38) rfl))) (mvT hZ (hw _ (List.mem_of_getElem? (i := 35) rfl))) (mvT hZ (hw _ (List.mem_of_getElem? (i := 39) rfl))) (by decide) (backOf (W := 0) (rm4 l Z a0 hw [] al kal a_IMPLICIT_VR_LITTLE_ENDIAN t_IMPLICIT_VR_LITTLE_ENDIAN u_IMPLICIT_VR_LITTLE_ENDIAN k_IMPLICIT_VR_LITTLE_ENDIAN a_EXPLICIT_VR_LITTLE_ENDIAN t_EXPLICIT_VR_LITTLE_ENDIAN u_EXPLICIT_VR_LITTLE_ENDIAN k_EXPLICIT_VR_LITTLE_ENDIAN h0 n0 Z0 O S_ALL E_ALL V_ALL S_IMPLICIT_VR_LITTLE_ENDIAN E_IMPLICIT_VR_LITTLE_ENDIAN F_IMPLICIT_VR_LITTLE_ENDIAN Et_IMPLICIT_VR_LITTLE_ENDIAN Fc_IMPLICIT_VR_LITTLE_ENDIAN Fv_IMPLICIT_VR_LITTLE_ENDIAN Vt_IMPLICIT_VR_LITTLE_ENDIAN S_EXPLICIT_VR_LITTLE_ENDIAN E_EXPLICIT_VR_LITTLE_ENDIAN F_EXPLICIT_VR_LITTLE_ENDIAN Et_EXPLICIT_VR_LITTLE_ENDIAN Fc_EXPLICIT_VR_LITTLE_ENDIAN Fv_EXPLICIT_VR_LITTLE_ENDIAN Vt_EXPLICIT_VR_LITTLE_ENDIAN) hZ (hw _ (List.mem_of_getElem? (i := 39) rfl)) (hw _ (List.mem_of_getElem? (i := 35) rfl)) (by decide) (by decide)) (g := (mkF mM 0 #[.val (.ref x), .unset, .unset, .unset, .unset] [])) rfl (by rw [hml]; rfl) (argsL := []) (rest := []) (lenOf pd_9 rfl) rfl (by show 2 * 0 + _ ≤ _; exact Nat.le_of_eq rfl) (hb hby d51_0) (fun _ _ => ⟨rfl, e0, (by decide : 0 + 1 ≤ _), (by decide : 0 + 2 ≤ _)⟩)
  dsimp only [Pt.U, Pt.locs, Pt.cells, Pt.slots] at X1 l1 y1 z1 st1 hQ1
  subst l1 y1 z1
  obtain ⟨bv1, rfl, ge1, Nq1, K1, kv1, V1⟩ := hQ1
  have N1 := Fr.app N0 Nq1
  have ne2 : x ≠ bv1 := Nat.ne_of_lt (Nat.lt_of_lt_of_le (E_x).lt ge1)
  have ne3 : t ≠ bv1 := Nat.ne_of_lt (Nat.lt_of_lt_of_le (V_t).lt ge1)
  have gn4 : n0 ≤ bv1 := Nat.le_trans Z0 ge1
  have gs5 : h0.size ≤ bv1 := Nat.le_trans (Keep.refl h0 []).1 ge1
  have pr6 : ∀ tg, Steps pP.tables eE below (T1.setTop (mkF mM 3 #[.val (.ref x), .unset, .unset, .unset, .unset] [(.ref bv1)])) tg → Steps pP.tables eE below (s₁.setTop (entryFrame mM #[(.ref x)] 5)) tg := fun tg kg => pre0 _ (st1 _ kg)
  clear pre0 st1 X0 e0
  obtain ⟨cla7, Ara7, qa7, Sa7, Ma7, Ha7, Ga7⟩ := id V1
  have hin8 : ¬ ((0 : Int32) < 0 ∨ cla7.slots.size ≤ ((0 : Int32)).toNatClampNeg) := inb_of Sa7 ⟨by decide, by decide⟩
  have hat8 : cla7.slots[((0 : Int32)).toNatClampNeg]? = some (.ref a_IMPLICIT_VR_LITTLE_ENDIAN) := Has.at Ha7 hin8 rfl
  have c9 := (Old.keep O K1 all0)
  have pr10 : ∀ tg, Steps pP.tables eE below (T1.setTop (mkF mM 21 #[.val (.ref x), .val (.ref bv1), .val (.int (2 : Int32)), .val (.int (0 : Int32)), .val (.ref a_IMPLICIT_VR_LITTLE_ENDIAN)] [(.ref a_IMPLICIT_VR_LITTLE_ENDIAN)])) tg → Steps pP.tables eE below (s₁.setTop (entryFrame mM #[(.ref x)] 5)) tg := fun tg kg => pr6 _ (by
    show Steps pP.tables eE below (T1.setTop (mkF mM 3 #[.val (.ref x), .unset, .unset, .unset, .unset] [(.ref bv1)])) _
    refine XS.astoreN X1.here hx rfl (hb hby d51_3) rfl rfl (l' := #[.val (.ref x), .val (.ref bv1), .unset, .unset, .unset]) rfl ?_
    refine XS.aloadN X1.here hx rfl (hb hby d51_4) rfl rfl ?_
    show Steps pP.tables eE below (T1.setTop (mkF mM 5 #[.val (.ref x), .val (.ref bv1), .unset, .unset, .unset] [(.ref bv1)])) _
    refine X1.arraylength hx Ara7.1 (State.isArrayOf_alike hZ.alike Ara7.2.1) (g := (mkF mM 5 #[.val (.ref x), .val (.ref bv1), .unset, .unset, .unset] [(.ref bv1)])) rfl rfl (hb hby d51_5) _ ?_
    rw [len_of Sa7 Ma7]
    show Steps pP.tables eE below (T1.setTop (mkF mM 6 #[.val (.ref x), .val (.ref bv1), .unset, .unset, .unset] [(.int (2 : Int32))])) _
    refine XS.istoreN X1.here hx rfl (hb hby d51_6) rfl (l' := #[.val (.ref x), .val (.ref bv1), .val (.int (2 : Int32)), .unset, .unset]) rfl ?_
    refine XS.iconst X1.here hx rfl (hb hby d51_7) ?_
    refine XS.istoreN X1.here hx rfl (hb hby d51_8) rfl (l' := #[.val (.ref x), .val (.ref bv1), .val (.int (2 : Int32)), .val (.int (0 : Int32)), .unset]) rfl ?_
    refine XS.iloadN X1.here hx rfl (hb hby d51_9) rfl ?_
    refine XS.iloadN X1.here hx rfl (hb hby d51_10) rfl ?_
    refine XS.icmpNo X1.here hx rfl (hb hby d51_11) rfl (tlt (by decide)).2.1 ?_
    show Steps pP.tables eE below (T1.setTop (mkF mM 14 #[.val (.ref x), .val (.ref bv1), .val (.int (2 : Int32)), .val (.int (0 : Int32)), .unset] [])) _
    refine XS.aloadN X1.here hx rfl (hb hby d51_14) rfl rfl ?_
    refine XS.iloadN X1.here hx rfl (hb hby d51_15) rfl ?_
    show Steps pP.tables eE below (T1.setTop (mkF mM 16 #[.val (.ref x), .val (.ref bv1), .val (.int (2 : Int32)), .val (.int (0 : Int32)), .unset] [(.int (0 : Int32)), (.ref bv1)])) _
    refine X1.aaload hx (j := (0 : Int32)) (v := (.ref a_IMPLICIT_VR_LITTLE_ENDIAN)) Ara7.1 (State.isArrayOf_alike hZ.alike Ara7.2.1) rfl Ara7.2.2 hin8 hat8 (g := (mkF mM 16 #[.val (.ref x), .val (.ref bv1), .val (.int (2 : Int32)), .val (.int (0 : Int32)), .unset] [(.int (0 : Int32)), (.ref bv1)])) rfl rfl (hb hby d51_16) _ ?_
    show Steps pP.tables eE below (T1.setTop (mkF mM 17 #[.val (.ref x), .val (.ref bv1), .val (.int (2 : Int32)), .val (.int (0 : Int32)), .unset] [(.ref a_IMPLICIT_VR_LITTLE_ENDIAN)])) _
    refine XS.astore X1.here hx rfl (hb hby d51_17) rfl rfl (l' := #[.val (.ref x), .val (.ref bv1), .val (.int (2 : Int32)), .val (.int (0 : Int32)), .val (.ref a_IMPLICIT_VR_LITTLE_ENDIAN)]) rfl ?_
    refine XS.aload X1.here hx rfl (hb hby d51_19) rfl rfl ?_
    exact kg)
  clear pr6
  obtain ⟨T11, X11, e11, st11⟩ := getF X1 hx hZ hown (host := "") (Or.inl (hw _ (List.mem_of_getElem? (i := 54) rfl))) Via.refl rfl (Fld.ext (c9).2 F_IMPLICIT_VR_LITTLE_ENDIAN) (g := (mkF mM 21 #[.val (.ref x), .val (.ref bv1), .val (.int (2 : Int32)), .val (.int (0 : Int32)), .val (.ref a_IMPLICIT_VR_LITTLE_ENDIAN)] [(.ref a_IMPLICIT_VR_LITTLE_ENDIAN)])) rfl rfl (hb hby d51_21)
  have pr12 : ∀ tg, Steps pP.tables eE below (T11.setTop (mkF mM 24 #[.val (.ref x), .val (.ref bv1), .val (.int (2 : Int32)), .val (.int (0 : Int32)), .val (.ref a_IMPLICIT_VR_LITTLE_ENDIAN)] [(.ref t_IMPLICIT_VR_LITTLE_ENDIAN)])) tg → Steps pP.tables eE below (s₁.setTop (entryFrame mM #[(.ref x)] 5)) tg := fun tg kg => pr10 _ (st11 _ kg)
  clear pr10 st11 X1
  have c13 := (Exa.keep E_x K1)
  have c14 := (Fld.keep F_xv K1 nin0)
  have c15 := (Fld.keep F_xc K1 nin0)
  have c16 := (Arv.keep V_t K1 nin0)
  have pr17 : ∀ tg, Steps pP.tables eE below (T11.setTop (mkF mM 25 #[.val (.ref x), .val (.ref bv1), .val (.int (2 : Int32)), .val (.int (0 : Int32)), .val (.ref a_IMPLICIT_VR_LITTLE_ENDIAN)] [(.ref x), (.ref t_IMPLICIT_VR_LITTLE_ENDIAN)])) tg → Steps pP.tables eE below (s₁.setTop (entryFrame mM #[(.ref x)] 5)) tg := fun tg kg => pr12 _ (by
    show Steps pP.tables eE below (T11.setTop (mkF mM 24 #[.val (.ref x), .val (.ref bv1), .val (.int (2 : Int32)), .val (.int (0 : Int32)), .val (.ref a_IMPLICIT_VR_LITTLE_ENDIAN)] [(.ref t_IMPLICIT_VR_LITTLE_ENDIAN)])) _
    refine XS.aloadN X11.here hx rfl (hb hby d51_24) rfl rfl ?_
    exact kg)
  clear pr12
  have c18 := (Nat.le_trans Z0 K1.1)
  obtain ⟨Ls19, X19, N19⟩ := own_hide X11 N1
  clear X11 N1
  obtain ⟨cq20, kq20, qa20, qb20, qc20⟩ := isOf hZ e11 (Exa.ext (c9).2 Et_IMPLICIT_VR_LITTLE_ENDIAN)
  obtain ⟨vq20, _, ⟨T20, L20, kk20, nn20⟩, -, X20, ⟨Lc20, hQ20, l20, y20, z20⟩, st20⟩ := X19.virtualBack hx (y := (⟨"java/lang/String", "equals", "(Ljava/lang/Object;)Z"⟩ : MethodName)) (z := (⟨"java/lang/String", "equals", "(Ljava/lang/Object;)Z"⟩ : MethodName)) hown (mvT hZ (hw _ (List.mem_of_getElem? (i := 56) rfl))) (mvT hZ (hw _ (List.mem_of_getElem? (i := 57) rfl))) (notFace_of_selects (args := #[]) (mvT hZ (hw _ (List.mem_of_getElem? (i := 59) rfl)))) (mvT hZ (hw _ (List.mem_of_getElem? (i := 59) rfl))) (mvT hZ (hw _ (List.mem_of_getElem? (i := 58) rfl))) (by decide) (StrChars.Road.eqW (W := 0) hZ (own_wE hw) (kI := 4) (hw _ (List.mem_of_getElem? (i := 2) rfl)) (cs := ([(49 : Int32), (46 : Int32), (50 : Int32), (46 : Int32), (56 : Int32), (52 : Int32), (48 : Int32), (46 : Int32), (49 : Int32), (48 : Int32), (48 : Int32), (48 : Int32), (56 : Int32), (46 : Int32), (49 : Int32), (46 : Int32), (50 : Int32)] : List Int32)) (Exa.ext (c9).2 Et_IMPLICIT_VR_LITTLE_ENDIAN) (Fld.ext (c9).2 Fv_IMPLICIT_VR_LITTLE_ENDIAN) (Fld.ext (c9).2 Fc_IMPLICIT_VR_LITTLE_ENDIAN) (Arv.ext Vt_IMPLICIT_VR_LITTLE_ENDIAN (c9).2) own_cod_t0 own_bd_t0 (Nat.le_of_ble_eq_true rfl) (ds := tx) c13 c14 c15 c16 (StrChars.Road.codOf (n := tx.length) rfl (fun c hc => (hp c hc).2)) (own_up hp) hlen (Sta.ext (c9).2 S_cs) hcs (by decide) (by decide)) qa20 qc20 (g := (mkF mM 25 #[.val (.ref x), .val (.ref bv1), .val (.int (2 : Int32)), .val (.int (0 : Int32)), .val (.ref a_IMPLICIT_VR_LITTLE_ENDIAN)] [(.ref x), (.ref t_IMPLICIT_VR_LITTLE_ENDIAN)])) rfl (by rw [hml]; rfl) (Steps.refl _) (argsL := [(.ref x)]) (rest := []) (lenOf pd_10 rfl) rfl (by show 2 * 0 + _ ≤ _; exact Nat.le_of_eq rfl) (hb hby d51_25) (fun _ _ => ⟨rfl, e11, (by decide : 1 + 0 ≤ _), (by decide : 2 + 0 ≤ _)⟩)
  dsimp only [Pt.U, Pt.locs, Pt.cells, Pt.slots] at X20 l20 y20 z20 st20 hQ20
  subst l20 y20 z20
  obtain ⟨hq20, hL20, e20⟩ := hQ20
  subst hL20
  obtain ⟨r20, hv20, hr20⟩ : ∃ r : Int32, vq20 = some (.int r) ∧ r = (if ([(49 : Int32), (46 : Int32), (50 : Int32), (46 : Int32), (56 : Int32), (52 : Int32), (48 : Int32), (46 : Int32), (49 : Int32), (48 : Int32), (48 : Int32), (48 : Int32), (56 : Int32), (46 : Int32), (49 : Int32), (46 : Int32), (50 : Int32)] : List Int32) = tx then (1 : Int32) else (0 : Int32)) := hq20.elim (fun q => ⟨1, q.1, (if_pos q.2).symm⟩) (fun q => ⟨0, q.1, (if_neg q.2).symm⟩)
  subst hv20
  have N20 := Fr.app N19 (Fr.nil n0)
  have pr21 : ∀ tg, Steps pP.tables eE below (T20.setTop (mkF mM 28 #[.val (.ref x), .val (.ref bv1), .val (.int (2 : Int32)), .val (.int (0 : Int32)), .val (.ref a_IMPLICIT_VR_LITTLE_ENDIAN)] [(.int r20)])) tg → Steps pP.tables eE below (s₁.setTop (entryFrame mM #[(.ref x)] 5)) tg := fun tg kg => pr17 _ (st20.trans kg)
  clear pr17 st20 X19 e11
  rw [if_neg (fun q => hk0 q.symm)] at hr20
  subst hr20
  have hin22 : ¬ ((1 : Int32) < 0 ∨ cla7.slots.size ≤ ((1 : Int32)).toNatClampNeg) := inb_of Sa7 ⟨by decide, by decide⟩
  have hat22 : cla7.slots[((1 : Int32)).toNatClampNeg]? = some (.ref a_EXPLICIT_VR_LITTLE_ENDIAN) := Has.at Ha7 hin22 rfl
  have pr23 : ∀ tg, Steps pP.tables eE below (T20.setTop (mkF mM 21 #[.val (.ref x), .val (.ref bv1), .val (.int (2 : Int32)), .val (.int (1 : Int32)), .val (.ref a_EXPLICIT_VR_LITTLE_ENDIAN)] [(.ref a_EXPLICIT_VR_LITTLE_ENDIAN)])) tg → Steps pP.tables eE below (s₁.setTop (entryFrame mM #[(.ref x)] 5)) tg := fun tg kg => pr21 _ (by
    show Steps pP.tables eE below (T20.setTop (mkF mM 28 #[.val (.ref x), .val (.ref bv1), .val (.int (2 : Int32)), .val (.int (0 : Int32)), .val (.ref a_IMPLICIT_VR_LITTLE_ENDIAN)] [(.int (0 : Int32))])) _
    refine XS.ifYes X20.here hx rfl (pc0 := 28) (pc' := 34) rfl (hb hby d51_28) rfl ((if0 _ _).trans (teq (by decide)).1) (by decide) (by decide) ?_
    refine XS.iinc X20.here hx rfl (hb hby d51_34) rfl (l' := #[.val (.ref x), .val (.ref bv1), .val (.int (2 : Int32)), .val (.int (1 : Int32)), .val (.ref a_IMPLICIT_VR_LITTLE_ENDIAN)]) rfl ?_
    refine XS.goto X20.here hx rfl (pc0 := 37) (pc' := 9) rfl (hb hby d51_37) (by decide) (by decide) ?_
    refine XS.iloadN X20.here hx rfl (hb hby d51_9) rfl ?_
    refine XS.iloadN X20.here hx rfl (hb hby d51_10) rfl ?_
    refine XS.icmpNo X20.here hx rfl (hb hby d51_11) rfl (tlt (by decide)).2.1 ?_
    show Steps pP.tables eE below (T20.setTop (mkF mM 14 #[.val (.ref x), .val (.ref bv1), .val (.int (2 : Int32)), .val (.int (1 : Int32)), .val (.ref a_IMPLICIT_VR_LITTLE_ENDIAN)] [])) _
    refine XS.aloadN X20.here hx rfl (hb hby d51_14) rfl rfl ?_
    refine XS.iloadN X20.here hx rfl (hb hby d51_15) rfl ?_
    show Steps pP.tables eE below (T20.setTop (mkF mM 16 #[.val (.ref x), .val (.ref bv1), .val (.int (2 : Int32)), .val (.int (1 : Int32)), .val (.ref a_IMPLICIT_VR_LITTLE_ENDIAN)] [(.int (1 : Int32)), (.ref bv1)])) _
    refine X20.aaload hx (j := (1 : Int32)) (v := (.ref a_EXPLICIT_VR_LITTLE_ENDIAN)) (by rw [e20]; exact Ara7.1) (State.isArrayOf_alike hZ.alike Ara7.2.1) rfl Ara7.2.2 hin22 hat22 (g := (mkF mM 16 #[.val (.ref x), .val (.ref bv1), .val (.int (2 : Int32)), .val (.int (1 : Int32)), .val (.ref a_IMPLICIT_VR_LITTLE_ENDIAN)] [(.int (1 : Int32)), (.ref bv1)])) rfl rfl (hb hby d51_16) _ ?_
    show Steps pP.tables eE below (T20.setTop (mkF mM 17 #[.val (.ref x), .val (.ref bv1), .val (.int (2 : Int32)), .val (.int (1 : Int32)), .val (.ref a_IMPLICIT_VR_LITTLE_ENDIAN)] [(.ref a_EXPLICIT_VR_LITTLE_ENDIAN)])) _
    refine XS.astore X20.here hx rfl (hb hby d51_17) rfl rfl (l' := #[.val (.ref x), .val (.ref bv1), .val (.int (2 : Int32)), .val (.int (1 : Int32)), .val (.ref a_EXPLICIT_VR_LITTLE_ENDIAN)]) rfl ?_
    refine XS.aload X20.here hx rfl (hb hby d51_19) rfl rfl ?_
    exact kg)
  clear pr21
  obtain ⟨T24, X24, e24, st24⟩ := getF X20 hx hZ hown (host := "") (Or.inl (hw _ (List.mem_of_getElem? (i := 54) rfl))) Via.refl e20 (Fld.ext (c9).2 F_EXPLICIT_VR_LITTLE_ENDIAN) (g := (mkF mM 21 #[.val (.ref x), .val (.ref bv1), .val (.int (2 : Int32)), .val (.int (1 : Int32)), .val (.ref a_EXPLICIT_VR_LITTLE_ENDIAN)] [(.ref a_EXPLICIT_VR_LITTLE_ENDIAN)])) rfl rfl (hb hby d51_21)
  have pr25 : ∀ tg, Steps pP.tables eE below (T24.setTop (mkF mM 24 #[.val (.ref x), .val (.ref bv1), .val (.int (2 : Int32)), .val (.int (1 : Int32)), .val (.ref a_EXPLICIT_VR_LITTLE_ENDIAN)] [(.ref t_EXPLICIT_VR_LITTLE_ENDIAN)])) tg → Steps pP.tables eE below (s₁.setTop (entryFrame mM #[(.ref x)] 5)) tg := fun tg kg => pr23 _ (st24 _ kg)
  clear pr23 st24 X20 e20
  have pr26 : ∀ tg, Steps pP.tables eE below (T24.setTop (mkF mM 25 #[.val (.ref x), .val (.ref bv1), .val (.int (2 : Int32)), .val (.int (1 : Int32)), .val (.ref a_EXPLICIT_VR_LITTLE_ENDIAN)] [(.ref x), (.ref t_EXPLICIT_VR_LITTLE_ENDIAN)])) tg → Steps pP.tables eE below (s₁.setTop (entryFrame mM #[(.ref x)] 5)) tg := fun tg kg => pr25 _ (by
    show Steps pP.tables eE below (T24.setTop (mkF mM 24 #[.val (.ref x), .val (.ref bv1), .val (.int (2 : Int32)), .val (.int (1 : Int32)), .val (.ref a_EXPLICIT_VR_LITTLE_ENDIAN)] [(.ref t_EXPLICIT_VR_LITTLE_ENDIAN)])) _
    refine XS.aloadN X24.here hx rfl (hb hby d51_24) rfl rfl ?_
    exact kg)
  clear pr25
  obtain ⟨Ls27, X27, N27⟩ := own_hide X24 N20
  clear X24 N20
  obtain ⟨cq28, kq28, qa28, qb28, qc28⟩ := isOf hZ e24 (Exa.ext (c9).2 Et_EXPLICIT_VR_LITTLE_ENDIAN)
  obtain ⟨vq28, _, ⟨T28, L28, kk28, nn28⟩, -, X28, ⟨Lc28, hQ28, l28, y28, z28⟩, st28⟩ := X27.virtualBack hx (y := (⟨"java/lang/String", "equals", "(Ljava/lang/Object;)Z"⟩ : MethodName)) (z := (⟨"java/lang/String", "equals", "(Ljava/lang/Object;)Z"⟩ : MethodName)) hown (mvT hZ (hw _ (List.mem_of_getElem? (i := 56) rfl))) (mvT hZ (hw _ (List.mem_of_getElem? (i := 57) rfl))) (notFace_of_selects (args := #[]) (mvT hZ (hw _ (List.mem_of_getElem? (i := 59) rfl)))) (mvT hZ (hw _ (List.mem_of_getElem? (i := 59) rfl))) (mvT hZ (hw _ (List.mem_of_getElem? (i := 58) rfl))) (by decide) (StrChars.Road.eqW (W := 0) hZ (own_wE hw) (kI := 4) (hw _ (List.mem_of_getElem? (i := 2) rfl)) (cs := ([(49 : Int32), (46 : Int32), (50 : Int32), (46 : Int32), (56 : Int32), (52 : Int32), (48 : Int32), (46 : Int32), (49 : Int32), (48 : Int32), (48 : Int32), (48 : Int32), (56 : Int32), (46 : Int32), (49 : Int32), (46 : Int32), (50 : Int32), (46 : Int32), (49 : Int32)] : List Int32)) (Exa.ext (c9).2 Et_EXPLICIT_VR_LITTLE_ENDIAN) (Fld.ext (c9).2 Fv_EXPLICIT_VR_LITTLE_ENDIAN) (Fld.ext (c9).2 Fc_EXPLICIT_VR_LITTLE_ENDIAN) (Arv.ext Vt_EXPLICIT_VR_LITTLE_ENDIAN (c9).2) own_cod_t1 own_bd_t1 (Nat.le_of_ble_eq_true rfl) (ds := tx) c13 c14 c15 c16 (StrChars.Road.codOf (n := tx.length) rfl (fun c hc => (hp c hc).2)) (own_up hp) hlen (Sta.ext (c9).2 S_cs) hcs (by decide) (by decide)) qa28 qc28 (g := (mkF mM 25 #[.val (.ref x), .val (.ref bv1), .val (.int (2 : Int32)), .val (.int (1 : Int32)), .val (.ref a_EXPLICIT_VR_LITTLE_ENDIAN)] [(.ref x), (.ref t_EXPLICIT_VR_LITTLE_ENDIAN)])) rfl (by rw [hml]; rfl) (Steps.refl _) (argsL := [(.ref x)]) (rest := []) (lenOf pd_10 rfl) rfl (by show 2 * 0 + _ ≤ _; exact Nat.le_of_eq rfl) (hb hby d51_25) (fun _ _ => ⟨rfl, e24, (by decide : 1 + 0 ≤ _), (by decide : 2 + 0 ≤ _)⟩)
  dsimp only [Pt.U, Pt.locs, Pt.cells, Pt.slots] at X28 l28 y28 z28 st28 hQ28
  subst l28 y28 z28
  obtain ⟨hq28, hL28, e28⟩ := hQ28
  subst hL28
  obtain ⟨r28, hv28, hr28⟩ : ∃ r : Int32, vq28 = some (.int r) ∧ r = (if ([(49 : Int32), (46 : Int32), (50 : Int32), (46 : Int32), (56 : Int32), (52 : Int32), (48 : Int32), (46 : Int32), (49 : Int32), (48 : Int32), (48 : Int32), (48 : Int32), (56 : Int32), (46 : Int32), (49 : Int32), (46 : Int32), (50 : Int32), (46 : Int32), (49 : Int32)] : List Int32) = tx then (1 : Int32) else (0 : Int32)) := hq28.elim (fun q => ⟨1, q.1, (if_pos q.2).symm⟩) (fun q => ⟨0, q.1, (if_neg q.2).symm⟩)
  subst hv28
  have N28 := Fr.app N27 (Fr.nil n0)
  have pr29 : ∀ tg, Steps pP.tables eE below (T28.setTop (mkF mM 28 #[.val (.ref x), .val (.ref bv1), .val (.int (2 : Int32)), .val (.int (1 : Int32)), .val (.ref a_EXPLICIT_VR_LITTLE_ENDIAN)] [(.int r28)])) tg → Steps pP.tables eE below (s₁.setTop (entryFrame mM #[(.ref x)] 5)) tg := fun tg kg => pr26 _ (st28.trans kg)
  clear pr26 st28 X27 e24
  rw [if_pos hk1.symm] at hr28
  subst hr28
  have pr30 : ∀ tg, Steps pP.tables eE below (T28.setTop (mkF mM 33 #[.val (.ref x), .val (.ref bv1), .val (.int (2 : Int32)), .val (.int (1 : Int32)), .val (.ref a_EXPLICIT_VR_LITTLE_ENDIAN)] [(.ref a_EXPLICIT_VR_LITTLE_ENDIAN)])) tg → Steps pP.tables eE below (s₁.setTop (entryFrame mM #[(.ref x)] 5)) tg := fun tg kg => pr29 _ (by
    show Steps pP.tables eE below (T28.setTop (mkF mM 28 #[.val (.ref x), .val (.ref bv1), .val (.int (2 : Int32)), .val (.int (1 : Int32)), .val (.ref a_EXPLICIT_VR_LITTLE_ENDIAN)] [(.int (1 : Int32))])) _
    refine XS.ifNo X28.here hx rfl (hb hby d51_28) rfl ((if0 _ _).trans (feq (by decide)).1) ?_
    refine XS.aload X28.here hx rfl (hb hby d51_31) rfl rfl ?_
    exact kg)
  clear pr29
  have c31 := (Keep.trans (Keep.refl h0 []) K1 all0)
  obtain ⟨fs, hr, hrun, hended, hW, hsame⟩ := X28.leave (v := some (.ref a_EXPLICIT_VR_LITTLE_ENDIAN)) (fun h => by rw [Bd.returns] at h; cases h)
  refine ⟨_, _, pr30 _ (retOut X28 hx (t := (.object "com/example/tesserae/tesserae/dicom/TransferSyntax")) Bd.returns rfl (Or.inr (Or.inr (Or.inr (Or.inr ⟨rfl, rfl, rfl⟩)))) (hb hby d51_33) hr), hrun, hended, _, _, rfl, ?_, ⟨_, rfl⟩, hW, hsame.mono (by decide) (by decide)⟩
  show Q51 Z cs al kal a_IMPLICIT_VR_LITTLE_ENDIAN t_IMPLICIT_VR_LITTLE_ENDIAN u_IMPLICIT_VR_LITTLE_ENDIAN k_IMPLICIT_VR_LITTLE_ENDIAN a_EXPLICIT_VR_LITTLE_ENDIAN t_EXPLICIT_VR_LITTLE_ENDIAN u_EXPLICIT_VR_LITTLE_ENDIAN k_EXPLICIT_VR_LITTLE_ENDIAN x t kt tx h0 n0 _ T28.heap _
  rw [e28]
  exact ⟨rfl, N28, c31⟩
theorem d52_0 : decode prog_9_method_4_code 0 = .ok (.invokestatic 37, 3) := by decide +kernel
theorem d52_3 : decode prog_9_method_4_code 3 = .ok (.astore_n 1, 1) := by decide +kernel
theorem d52_4 : decode prog_9_method_4_code 4 = .ok (.aload_n 1, 1) := by decide +kernel
theorem d52_5 : decode prog_9_method_4_code 5 = .ok (.arraylength, 1) := by decide +kernel
theorem d52_6 : decode prog_9_method_4_code 6 = .ok (.istore_n 2, 1) := by decide +kernel
theorem d52_7 : decode prog_9_method_4_code 7 = .ok (.iconst 0, 1) := by decide +kernel
theorem d52_8 : decode prog_9_method_4_code 8 = .ok (.istore_n 3, 1) := by decide +kernel
theorem d52_9 : decode prog_9_method_4_code 9 = .ok (.iload_n 3, 1) := by decide +kernel
theorem d52_10 : decode prog_9_method_4_code 10 = .ok (.iload_n 2, 1) := by decide +kernel
theorem d52_11 : decode prog_9_method_4_code 11 = .ok (.if_icmp .ge 29, 3) := by decide +kernel
theorem d52_14 : decode prog_9_method_4_code 14 = .ok (.aload_n 1, 1) := by decide +kernel
theorem d52_15 : decode prog_9_method_4_code 15 = .ok (.iload_n 3, 1) := by decide +kernel
theorem d52_16 : decode prog_9_method_4_code 16 = .ok (.aaload, 1) := by decide +kernel
theorem d52_17 : decode prog_9_method_4_code 17 = .ok (.astore 4, 2) := by decide +kernel
theorem d52_19 : decode prog_9_method_4_code 19 = .ok (.aload 4, 2) := by decide +kernel
theorem d52_21 : decode prog_9_method_4_code 21 = .ok (.getfield 29, 3) := by decide +kernel
theorem d52_24 : decode prog_9_method_4_code 24 = .ok (.aload_n 0, 1) := by decide +kernel
theorem d52_25 : decode prog_9_method_4_code 25 = .ok (.invokevirtual 41, 3) := by decide +kernel
theorem d52_28 : decode prog_9_method_4_code 28 = .ok (.ifCond .eq 6, 3) := by decide +kernel
theorem d52_34 : decode prog_9_method_4_code 34 = .ok (.iinc 3 1, 3) := by decide +kernel
theorem d52_37 : decode prog_9_method_4_code 37 = .ok (.goto (-28), 3) := by decide +kernel
theorem d52_40 : decode prog_9_method_4_code 40 = .ok (.aconst_null, 1) := by decide +kernel
theorem d52_41 : decode prog_9_method_4_code 41 = .ok (.areturn, 1) := by decide +kernel
theorem ef_52 (mM : MethodId) (x0 : Addr) : entryFrame mM #[(.ref x0)] 5 = mkF mM 0 #[.val (.ref x0), .unset, .unset, .unset, .unset] [] := by first | (simp [entryFrame, mkF, argsToLocals, Value.category]; done) | rfl
def Q52 (Z : State) (cs : Int32) (al : Addr) (kal : ClassId) (a_IMPLICIT_VR_LITTLE_ENDIAN : Addr) (t_IMPLICIT_VR_LITTLE_ENDIAN : Addr) (u_IMPLICIT_VR_LITTLE_ENDIAN : Addr) (k_IMPLICIT_VR_LITTLE_ENDIAN : ClassId) (a_EXPLICIT_VR_LITTLE_ENDIAN : Addr) (t_EXPLICIT_VR_LITTLE_ENDIAN : Addr) (u_EXPLICIT_VR_LITTLE_ENDIAN : Addr) (k_EXPLICIT_VR_LITTLE_ENDIAN : ClassId) (x : Addr) (t : Addr) (kt : ClassId) (tx : List Int32) (h0 : Heap) (n0 : Nat) (v : Option Value) (h : Heap) (L : List Loc) : Prop := v = some .null ∧ Fr n0 L ∧ Keep h0 h []
set_option maxRecDepth 65536 in
set_option maxHeartbeats 40000000 in
theorem rm52 (l : Launch) (Z : State) (a0 : Array Value) (hw : ∀ d ∈ tables_1, d.before a0 Z = true) (ws : List Jvm.Cond) (cs : Int32) (al : Addr) (kal : ClassId) (a_IMPLICIT_VR_LITTLE_ENDIAN : Addr) (t_IMPLICIT_VR_LITTLE_ENDIAN : Addr) (u_IMPLICIT_VR_LITTLE_ENDIAN : Addr) (k_IMPLICIT_VR_LITTLE_ENDIAN : ClassId) (a_EXPLICIT_VR_LITTLE_ENDIAN : Addr) (t_EXPLICIT_VR_LITTLE_ENDIAN : Addr) (u_EXPLICIT_VR_LITTLE_ENDIAN : Addr) (k_EXPLICIT_VR_LITTLE_ENDIAN : ClassId) (x : Addr) (t : Addr) (kt : ClassId) (tx : List Int32) (h0 : Heap) (n0 : Nat) (Z0 : n0 ≤ h0.size) (O : Old Z n0 h0) (S_cs : Sta Z Z.heap "java/lang/String" "COMPACT_STRINGS" "Z" (.int cs)) (hcs : ¬ cs = (0 : Int32)) (S_ALL : Sta Z Z.heap "com/example/tesserae/tesserae/dicom/TransferSyntax" "$VALUES" "[Lcom/example/tesserae/tesserae/dicom/TransferSyntax;" (.ref al)) (E_ALL : Exa Z Z.heap al "[Lcom/example/tesserae/tesserae/dicom/TransferSyntax;") (V_ALL : Arv Z Z.heap al kal (.object "com/example/tesserae/tesserae/dicom/TransferSyntax") (2 : Int32) [(.ref a_IMPLICIT_VR_LITTLE_ENDIAN), (.ref a_EXPLICIT_VR_LITTLE_ENDIAN)] .null) (S_IMPLICIT_VR_LITTLE_ENDIAN : Sta Z Z.heap "com/example/tesserae/tesserae/dicom/TransferSyntax" "IMPLICIT_VR_LITTLE_ENDIAN" "Lcom/example/tesserae/tesserae/dicom/TransferSyntax;" (.ref a_IMPLICIT_VR_LITTLE_ENDIAN)) (E_IMPLICIT_VR_LITTLE_ENDIAN : Exa Z Z.heap a_IMPLICIT_VR_LITTLE_ENDIAN "com/example/tesserae/tesserae/dicom/TransferSyntax") (F_IMPLICIT_VR_LITTLE_ENDIAN : Fld Z Z.heap a_IMPLICIT_VR_LITTLE_ENDIAN "com/example/tesserae/tesserae/dicom/TransferSyntax" "uid" "Ljava/lang/String;" (.ref t_IMPLICIT_VR_LITTLE_ENDIAN)) (Et_IMPLICIT_VR_LITTLE_ENDIAN : Exa Z Z.heap t_IMPLICIT_VR_LITTLE_ENDIAN "java/lang/String") (Fc_IMPLICIT_VR_LITTLE_ENDIAN : Fld Z Z.heap t_IMPLICIT_VR_LITTLE_ENDIAN "java/lang/String" "coder" "B" (.int (0 : Int32))) (Fv_IMPLICIT_VR_LITTLE_ENDIAN : Fld Z Z.heap t_IMPLICIT_VR_LITTLE_ENDIAN "java/lang/String" "value" "[B" (.ref u_IMPLICIT_VR_LITTLE_ENDIAN)) (Vt_IMPLICIT_VR_LITTLE_ENDIAN : Arv Z Z.heap u_IMPLICIT_VR_LITTLE_ENDIAN k_IMPLICIT_VR_LITTLE_ENDIAN .byte (17 : Int32) [(.int (49 : Int32)), (.int (46 : Int32)), (.int (50 : Int32)), (.int (46 : Int32)), (.int (56 : Int32)), (.int (52 : Int32)), (.int (48 : Int32)), (.int (46 : Int32)), (.int (49 : Int32)), (.int (48 : Int32)), (.int (48 : Int32)), (.int (48 : Int32)), (.int (56 : Int32)), (.int (46 : Int32)), (.int (49 : Int32)), (.int (46 : Int32)), (.int (50 : Int32))] (.int (0 : Int32))) (S_EXPLICIT_VR_LITTLE_ENDIAN : Sta Z Z.heap "com/example/tesserae/tesserae/dicom/TransferSyntax" "EXPLICIT_VR_LITTLE_ENDIAN" "Lcom/example/tesserae/tesserae/dicom/TransferSyntax;" (.ref a_EXPLICIT_VR_LITTLE_ENDIAN)) (E_EXPLICIT_VR_LITTLE_ENDIAN : Exa Z Z.heap a_EXPLICIT_VR_LITTLE_ENDIAN "com/example/tesserae/tesserae/dicom/TransferSyntax") (F_EXPLICIT_VR_LITTLE_ENDIAN : Fld Z Z.heap a_EXPLICIT_VR_LITTLE_ENDIAN "com/example/tesserae/tesserae/dicom/TransferSyntax" "uid" "Ljava/lang/String;" (.ref t_EXPLICIT_VR_LITTLE_ENDIAN)) (Et_EXPLICIT_VR_LITTLE_ENDIAN : Exa Z Z.heap t_EXPLICIT_VR_LITTLE_ENDIAN "java/lang/String") (Fc_EXPLICIT_VR_LITTLE_ENDIAN : Fld Z Z.heap t_EXPLICIT_VR_LITTLE_ENDIAN "java/lang/String" "coder" "B" (.int (0 : Int32))) (Fv_EXPLICIT_VR_LITTLE_ENDIAN : Fld Z Z.heap t_EXPLICIT_VR_LITTLE_ENDIAN "java/lang/String" "value" "[B" (.ref u_EXPLICIT_VR_LITTLE_ENDIAN)) (Vt_EXPLICIT_VR_LITTLE_ENDIAN : Arv Z Z.heap u_EXPLICIT_VR_LITTLE_ENDIAN k_EXPLICIT_VR_LITTLE_ENDIAN .byte (19 : Int32) [(.int (49 : Int32)), (.int (46 : Int32)), (.int (50 : Int32)), (.int (46 : Int32)), (.int (56 : Int32)), (.int (52 : Int32)), (.int (48 : Int32)), (.int (46 : Int32)), (.int (49 : Int32)), (.int (48 : Int32)), (.int (48 : Int32)), (.int (48 : Int32)), (.int (56 : Int32)), (.int (46 : Int32)), (.int (49 : Int32)), (.int (46 : Int32)), (.int (50 : Int32)), (.int (46 : Int32)), (.int (49 : Int32))] (.int (0 : Int32))) (E_x : Exa Z h0 x "java/lang/String") (F_xv : Fld Z h0 x "java/lang/String" "value" "[B" (.ref t)) (F_xc : Fld Z h0 x "java/lang/String" "coder" "B" (.int (0 : Int32))) (V_t : Arv Z h0 t kt .byte (Int32.ofNat tx.length) ((tx.map StrChars.lo8).map Value.int) (.int (0 : Int32))) (hp : ∀ c ∈ tx, ¬ c < 0 ∧ ¬ (255 : Int32) < c) (hlen : tx.length ≤ 4000) (hk0 : ¬ tx = ([(49 : Int32), (46 : Int32), (50 : Int32), (46 : Int32), (56 : Int32), (52 : Int32), (48 : Int32), (46 : Int32), (49 : Int32), (48 : Int32), (48 : Int32), (48 : Int32), (56 : Int32), (46 : Int32), (49 : Int32), (46 : Int32), (50 : Int32)] : List Int32)) (hk1 : ¬ tx = ([(49 : Int32), (46 : Int32), (50 : Int32), (46 : Int32), (56 : Int32), (52 : Int32), (48 : Int32), (46 : Int32), (49 : Int32), (48 : Int32), (48 : Int32), (48 : Int32), (56 : Int32), (46 : Int32), (49 : Int32), (46 : Int32), (50 : Int32), (46 : Int32), (49 : Int32)] : List Int32)) :
    MetFree l (⟨"com/example/tesserae/tesserae/dicom/TransferSyntax", "forUid", "(Ljava/lang/String;)Lcom/example/tesserae/tesserae/dicom/TransferSyntax;"⟩ : MethodName) (head1 (Jvm.Cond.code (⟨"com/example/tesserae/tesserae/dicom/TransferSyntax", "forUid", "(Ljava/lang/String;)Lcom/example/tesserae/tesserae/dicom/TransferSyntax;"⟩ : MethodName) prog_9_method_4_code 5 (some (.object "com/example/tesserae/tesserae/dicom/TransferSyntax")) :: ws) ({ frames := 2, cells := 1, slots := 2, locals := 28 } : Room)) (fun aA uU => aA = #[(.ref x)] ∧ Z.Warmed39 uU.vm ∧ uU.heap = h0) (fun _ _ _ _ _ => True) (fun _ uU oO uU' => ∃ vV lL, oO = .returned vV ∧ Q52 Z cs al kal a_IMPLICIT_VR_LITTLE_ENDIAN t_IMPLICIT_VR_LITTLE_ENDIAN u_IMPLICIT_VR_LITTLE_ENDIAN k_IMPLICIT_VR_LITTLE_ENDIAN a_EXPLICIT_VR_LITTLE_ENDIAN t_EXPLICIT_VR_LITTLE_ENDIAN u_EXPLICIT_VR_LITTLE_ENDIAN k_EXPLICIT_VR_LITTLE_ENDIAN x t kt tx h0 n0 vV uU'.heap lL ∧ FrameEnd uU oO uU' lL ({ frames := 2, cells := 1, slots := 2, locals := 28 } : Room).cells ({ frames := 2, cells := 1, slots := 2, locals := 28 } : Room).slots) := by
  refine MetFree.of_bodySF (plainFor_of_name pn_4) hisR ?_
  intro pP eE sS mM args below meth cC s₁ Bd hml0 hP hK
  obtain ⟨rfl, hZ, hh⟩ := hP
  have hx := Bd.exec
  have hby := Bd.bytes
  have hml : cC.maxLocals = 5 := hml0
  have hown : sS.vm.findClass "com/example/tesserae/tesserae/dicom/TransferSyntax" = some mM.cls := findClass_of_methodNamed Bd.named
  have hnm := (name_of_methodNamed Bd.named Bd.method).1
  have X0 : Stand pP l eE ({ frames := 2, cells := 1, slots := 2, locals := 28 } : Room) sS mM #[(.ref x)] below meth cC s₁ [] 0 0 := Stand.of_body Bd
  have e0 : s₁.heap = h0 := by rw [← hh, Bd.state]; rfl
  have N0 := Fr.nil n0
  have pre0 : ∀ tg, Steps pP.tables eE below (s₁.setTop (mkF mM 0 #[.val (.ref x), .unset, .unset, .unset, .unset] [])) tg → Steps pP.tables eE below (s₁.setTop (entryFrame mM #[(.ref x)] 5)) tg := fun tg kg => castTop (ef_52 mM x) kg
  obtain ⟨_, _, ⟨T1, L1, kk1, nn1⟩, -, X1, ⟨Lc1, hQ1, l1, y1, z1⟩, st1⟩ := Jvm.LawKit.callS X0 hx (y := (⟨"com/example/tesserae/tesserae/dicom/TransferSyntax", "values", "()[Lcom/example/tesserae/tesserae/dicom/TransferSyntax;"⟩ : MethodName)) hown (mvT hZ (hw _ (List.mem_of_getElem? (i := 37) rfl))) (mvT hZ (hw _ (List.mem_of_getElem? (i := 38) rfl))) (mvT hZ (hw _ (List.mem_of_getElem? (i := 35) rfl))) (mvT hZ (hw _ (List.mem_of_getElem? (i := 39) rfl))) (by decide) (backOf (W := 0) (rm4 l Z a0 hw [] al kal a_IMPLICIT_VR_LITTLE_ENDIAN t_IMPLICIT_VR_LITTLE_ENDIAN u_IMPLICIT_VR_LITTLE_ENDIAN k_IMPLICIT_VR_LITTLE_ENDIAN a_EXPLICIT_VR_LITTLE_ENDIAN t_EXPLICIT_VR_LITTLE_ENDIAN u_EXPLICIT_VR_LITTLE_ENDIAN k_EXPLICIT_VR_LITTLE_ENDIAN h0 n0 Z0 O S_ALL E_ALL V_ALL S_IMPLICIT_VR_LITTLE_ENDIAN E_IMPLICIT_VR_LITTLE_ENDIAN F_IMPLICIT_VR_LITTLE_ENDIAN Et_IMPLICIT_VR_LITTLE_ENDIAN Fc_IMPLICIT_VR_LITTLE_ENDIAN Fv_IMPLICIT_VR_LITTLE_ENDIAN Vt_IMPLICIT_VR_LITTLE_ENDIAN S_EXPLICIT_VR_LITTLE_ENDIAN E_EXPLICIT_VR_LITTLE_ENDIAN F_EXPLICIT_VR_LITTLE_ENDIAN Et_EXPLICIT_VR_LITTLE_ENDIAN Fc_EXPLICIT_VR_LITTLE_ENDIAN Fv_EXPLICIT_VR_LITTLE_ENDIAN Vt_EXPLICIT_VR_LITTLE_ENDIAN) hZ (hw _ (List.mem_of_getElem? (i := 39) rfl)) (hw _ (List.mem_of_getElem? (i := 35) rfl)) (by decide) (by decide)) (g := (mkF mM 0 #[.val (.ref x), .unset, .unset, .unset, .unset] [])) rfl (by rw [hml]; rfl) (argsL := []) (rest := []) (lenOf pd_9 rfl) rfl (by show 2 * 0 + _ ≤ _; exact Nat.le_of_eq rfl) (hb hby d52_0) (fun _ _ => ⟨rfl, e0, (by decide : 0 + 1 ≤ _), (by decide : 0 + 2 ≤ _)⟩)
  dsimp only [Pt.U, Pt.locs, Pt.cells, Pt.slots] at X1 l1 y1 z1 st1 hQ1
  subst l1 y1 z1
  obtain ⟨bv1, rfl, ge1, Nq1, K1, kv1, V1⟩ := hQ1
  have N1 := Fr.app N0 Nq1
  have ne2 : x ≠ bv1 := Nat.ne_of_lt (Nat.lt_of_lt_of_le (E_x).lt ge1)
  have ne3 : t ≠ bv1 := Nat.ne_of_lt (Nat.lt_of_lt_of_le (V_t).lt ge1)
  have gn4 : n0 ≤ bv1 := Nat.le_trans Z0 ge1
  have gs5 : h0.size ≤ bv1 := Nat.le_trans (Keep.refl h0 []).1 ge1
  have pr6 : ∀ tg, Steps pP.tables eE below (T1.setTop (mkF mM 3 #[.val (.ref x), .unset, .unset, .unset, .unset] [(.ref bv1)])) tg → Steps pP.tables eE below (s₁.setTop (entryFrame mM #[(.ref x)] 5)) tg := fun tg kg => pre0 _ (st1 _ kg)
  clear pre0 st1 X0 e0
  obtain ⟨cla7, Ara7, qa7, Sa7, Ma7, Ha7, Ga7⟩ := id V1
  have hin8 : ¬ ((0 : Int32) < 0 ∨ cla7.slots.size ≤ ((0 : Int32)).toNatClampNeg) := inb_of Sa7 ⟨by decide, by decide⟩
  have hat8 : cla7.slots[((0 : Int32)).toNatClampNeg]? = some (.ref a_IMPLICIT_VR_LITTLE_ENDIAN) := Has.at Ha7 hin8 rfl
  have c9 := (Old.keep O K1 all0)
  have pr10 : ∀ tg, Steps pP.tables eE below (T1.setTop (mkF mM 21 #[.val (.ref x), .val (.ref bv1), .val (.int (2 : Int32)), .val (.int (0 : Int32)), .val (.ref a_IMPLICIT_VR_LITTLE_ENDIAN)] [(.ref a_IMPLICIT_VR_LITTLE_ENDIAN)])) tg → Steps pP.tables eE below (s₁.setTop (entryFrame mM #[(.ref x)] 5)) tg := fun tg kg => pr6 _ (by
    show Steps pP.tables eE below (T1.setTop (mkF mM 3 #[.val (.ref x), .unset, .unset, .unset, .unset] [(.ref bv1)])) _
    refine XS.astoreN X1.here hx rfl (hb hby d52_3) rfl rfl (l' := #[.val (.ref x), .val (.ref bv1), .unset, .unset, .unset]) rfl ?_
    refine XS.aloadN X1.here hx rfl (hb hby d52_4) rfl rfl ?_
    show Steps pP.tables eE below (T1.setTop (mkF mM 5 #[.val (.ref x), .val (.ref bv1), .unset, .unset, .unset] [(.ref bv1)])) _
    refine X1.arraylength hx Ara7.1 (State.isArrayOf_alike hZ.alike Ara7.2.1) (g := (mkF mM 5 #[.val (.ref x), .val (.ref bv1), .unset, .unset, .unset] [(.ref bv1)])) rfl rfl (hb hby d52_5) _ ?_
    rw [len_of Sa7 Ma7]
    show Steps pP.tables eE below (T1.setTop (mkF mM 6 #[.val (.ref x), .val (.ref bv1), .unset, .unset, .unset] [(.int (2 : Int32))])) _
    refine XS.istoreN X1.here hx rfl (hb hby d52_6) rfl (l' := #[.val (.ref x), .val (.ref bv1), .val (.int (2 : Int32)), .unset, .unset]) rfl ?_
    refine XS.iconst X1.here hx rfl (hb hby d52_7) ?_
    refine XS.istoreN X1.here hx rfl (hb hby d52_8) rfl (l' := #[.val (.ref x), .val (.ref bv1), .val (.int (2 : Int32)), .val (.int (0 : Int32)), .unset]) rfl ?_
    refine XS.iloadN X1.here hx rfl (hb hby d52_9) rfl ?_
    refine XS.iloadN X1.here hx rfl (hb hby d52_10) rfl ?_
    refine XS.icmpNo X1.here hx rfl (hb hby d52_11) rfl (tlt (by decide)).2.1 ?_
    show Steps pP.tables eE below (T1.setTop (mkF mM 14 #[.val (.ref x), .val (.ref bv1), .val (.int (2 : Int32)), .val (.int (0 : Int32)), .unset] [])) _
    refine XS.aloadN X1.here hx rfl (hb hby d52_14) rfl rfl ?_
    refine XS.iloadN X1.here hx rfl (hb hby d52_15) rfl ?_
    show Steps pP.tables eE below (T1.setTop (mkF mM 16 #[.val (.ref x), .val (.ref bv1), .val (.int (2 : Int32)), .val (.int (0 : Int32)), .unset] [(.int (0 : Int32)), (.ref bv1)])) _
    refine X1.aaload hx (j := (0 : Int32)) (v := (.ref a_IMPLICIT_VR_LITTLE_ENDIAN)) Ara7.1 (State.isArrayOf_alike hZ.alike Ara7.2.1) rfl Ara7.2.2 hin8 hat8 (g := (mkF mM 16 #[.val (.ref x), .val (.ref bv1), .val (.int (2 : Int32)), .val (.int (0 : Int32)), .unset] [(.int (0 : Int32)), (.ref bv1)])) rfl rfl (hb hby d52_16) _ ?_
    show Steps pP.tables eE below (T1.setTop (mkF mM 17 #[.val (.ref x), .val (.ref bv1), .val (.int (2 : Int32)), .val (.int (0 : Int32)), .unset] [(.ref a_IMPLICIT_VR_LITTLE_ENDIAN)])) _
    refine XS.astore X1.here hx rfl (hb hby d52_17) rfl rfl (l' := #[.val (.ref x), .val (.ref bv1), .val (.int (2 : Int32)), .val (.int (0 : Int32)), .val (.ref a_IMPLICIT_VR_LITTLE_ENDIAN)]) rfl ?_
    refine XS.aload X1.here hx rfl (hb hby d52_19) rfl rfl ?_
    exact kg)
  clear pr6
  obtain ⟨T11, X11, e11, st11⟩ := getF X1 hx hZ hown (host := "") (Or.inl (hw _ (List.mem_of_getElem? (i := 54) rfl))) Via.refl rfl (Fld.ext (c9).2 F_IMPLICIT_VR_LITTLE_ENDIAN) (g := (mkF mM 21 #[.val (.ref x), .val (.ref bv1), .val (.int (2 : Int32)), .val (.int (0 : Int32)), .val (.ref a_IMPLICIT_VR_LITTLE_ENDIAN)] [(.ref a_IMPLICIT_VR_LITTLE_ENDIAN)])) rfl rfl (hb hby d52_21)
  have pr12 : ∀ tg, Steps pP.tables eE below (T11.setTop (mkF mM 24 #[.val (.ref x), .val (.ref bv1), .val (.int (2 : Int32)), .val (.int (0 : Int32)), .val (.ref a_IMPLICIT_VR_LITTLE_ENDIAN)] [(.ref t_IMPLICIT_VR_LITTLE_ENDIAN)])) tg → Steps pP.tables eE below (s₁.setTop (entryFrame mM #[(.ref x)] 5)) tg := fun tg kg => pr10 _ (st11 _ kg)
  clear pr10 st11 X1
  have c13 := (Exa.keep E_x K1)
  have c14 := (Fld.keep F_xv K1 nin0)
  have c15 := (Fld.keep F_xc K1 nin0)
  have c16 := (Arv.keep V_t K1 nin0)
  have pr17 : ∀ tg, Steps pP.tables eE below (T11.setTop (mkF mM 25 #[.val (.ref x), .val (.ref bv1), .val (.int (2 : Int32)), .val (.int (0 : Int32)), .val (.ref a_IMPLICIT_VR_LITTLE_ENDIAN)] [(.ref x), (.ref t_IMPLICIT_VR_LITTLE_ENDIAN)])) tg → Steps pP.tables eE below (s₁.setTop (entryFrame mM #[(.ref x)] 5)) tg := fun tg kg => pr12 _ (by
    show Steps pP.tables eE below (T11.setTop (mkF mM 24 #[.val (.ref x), .val (.ref bv1), .val (.int (2 : Int32)), .val (.int (0 : Int32)), .val (.ref a_IMPLICIT_VR_LITTLE_ENDIAN)] [(.ref t_IMPLICIT_VR_LITTLE_ENDIAN)])) _
    refine XS.aloadN X11.here hx rfl (hb hby d52_24) rfl rfl ?_
    exact kg)
  clear pr12
  have c18 := (Nat.le_trans Z0 K1.1)
  obtain ⟨Ls19, X19, N19⟩ := own_hide X11 N1
  clear X11 N1
  obtain ⟨cq20, kq20, qa20, qb20, qc20⟩ := isOf hZ e11 (Exa.ext (c9).2 Et_IMPLICIT_VR_LITTLE_ENDIAN)
  obtain ⟨vq20, _, ⟨T20, L20, kk20, nn20⟩, -, X20, ⟨Lc20, hQ20, l20, y20, z20⟩, st20⟩ := X19.virtualBack hx (y := (⟨"java/lang/String", "equals", "(Ljava/lang/Object;)Z"⟩ : MethodName)) (z := (⟨"java/lang/String", "equals", "(Ljava/lang/Object;)Z"⟩ : MethodName)) hown (mvT hZ (hw _ (List.mem_of_getElem? (i := 56) rfl))) (mvT hZ (hw _ (List.mem_of_getElem? (i := 57) rfl))) (notFace_of_selects (args := #[]) (mvT hZ (hw _ (List.mem_of_getElem? (i := 59) rfl)))) (mvT hZ (hw _ (List.mem_of_getElem? (i := 59) rfl))) (mvT hZ (hw _ (List.mem_of_getElem? (i := 58) rfl))) (by decide) (StrChars.Road.eqW (W := 0) hZ (own_wE hw) (kI := 4) (hw _ (List.mem_of_getElem? (i := 2) rfl)) (cs := ([(49 : Int32), (46 : Int32), (50 : Int32), (46 : Int32), (56 : Int32), (52 : Int32), (48 : Int32), (46 : Int32), (49 : Int32), (48 : Int32), (48 : Int32), (48 : Int32), (56 : Int32), (46 : Int32), (49 : Int32), (46 : Int32), (50 : Int32)] : List Int32)) (Exa.ext (c9).2 Et_IMPLICIT_VR_LITTLE_ENDIAN) (Fld.ext (c9).2 Fv_IMPLICIT_VR_LITTLE_ENDIAN) (Fld.ext (c9).2 Fc_IMPLICIT_VR_LITTLE_ENDIAN) (Arv.ext Vt_IMPLICIT_VR_LITTLE_ENDIAN (c9).2) own_cod_t0 own_bd_t0 (Nat.le_of_ble_eq_true rfl) (ds := tx) c13 c14 c15 c16 (StrChars.Road.codOf (n := tx.length) rfl (fun c hc => (hp c hc).2)) (own_up hp) hlen (Sta.ext (c9).2 S_cs) hcs (by decide) (by decide)) qa20 qc20 (g := (mkF mM 25 #[.val (.ref x), .val (.ref bv1), .val (.int (2 : Int32)), .val (.int (0 : Int32)), .val (.ref a_IMPLICIT_VR_LITTLE_ENDIAN)] [(.ref x), (.ref t_IMPLICIT_VR_LITTLE_ENDIAN)])) rfl (by rw [hml]; rfl) (Steps.refl _) (argsL := [(.ref x)]) (rest := []) (lenOf pd_10 rfl) rfl (by show 2 * 0 + _ ≤ _; exact Nat.le_of_eq rfl) (hb hby d52_25) (fun _ _ => ⟨rfl, e11, (by decide : 1 + 0 ≤ _), (by decide : 2 + 0 ≤ _)⟩)
  dsimp only [Pt.U, Pt.locs, Pt.cells, Pt.slots] at X20 l20 y20 z20 st20 hQ20
  subst l20 y20 z20
  obtain ⟨hq20, hL20, e20⟩ := hQ20
  subst hL20
  obtain ⟨r20, hv20, hr20⟩ : ∃ r : Int32, vq20 = some (.int r) ∧ r = (if ([(49 : Int32), (46 : Int32), (50 : Int32), (46 : Int32), (56 : Int32), (52 : Int32), (48 : Int32), (46 : Int32), (49 : Int32), (48 : Int32), (48 : Int32), (48 : Int32), (56 : Int32), (46 : Int32), (49 : Int32), (46 : Int32), (50 : Int32)] : List Int32) = tx then (1 : Int32) else (0 : Int32)) := hq20.elim (fun q => ⟨1, q.1, (if_pos q.2).symm⟩) (fun q => ⟨0, q.1, (if_neg q.2).symm⟩)
  subst hv20
  have N20 := Fr.app N19 (Fr.nil n0)
  have pr21 : ∀ tg, Steps pP.tables eE below (T20.setTop (mkF mM 28 #[.val (.ref x), .val (.ref bv1), .val (.int (2 : Int32)), .val (.int (0 : Int32)), .val (.ref a_IMPLICIT_VR_LITTLE_ENDIAN)] [(.int r20)])) tg → Steps pP.tables eE below (s₁.setTop (entryFrame mM #[(.ref x)] 5)) tg := fun tg kg => pr17 _ (st20.trans kg)
  clear pr17 st20 X19 e11
  rw [if_neg (fun q => hk0 q.symm)] at hr20
  subst hr20
  have hin22 : ¬ ((1 : Int32) < 0 ∨ cla7.slots.size ≤ ((1 : Int32)).toNatClampNeg) := inb_of Sa7 ⟨by decide, by decide⟩
  have hat22 : cla7.slots[((1 : Int32)).toNatClampNeg]? = some (.ref a_EXPLICIT_VR_LITTLE_ENDIAN) := Has.at Ha7 hin22 rfl
  have pr23 : ∀ tg, Steps pP.tables eE below (T20.setTop (mkF mM 21 #[.val (.ref x), .val (.ref bv1), .val (.int (2 : Int32)), .val (.int (1 : Int32)), .val (.ref a_EXPLICIT_VR_LITTLE_ENDIAN)] [(.ref a_EXPLICIT_VR_LITTLE_ENDIAN)])) tg → Steps pP.tables eE below (s₁.setTop (entryFrame mM #[(.ref x)] 5)) tg := fun tg kg => pr21 _ (by
    show Steps pP.tables eE below (T20.setTop (mkF mM 28 #[.val (.ref x), .val (.ref bv1), .val (.int (2 : Int32)), .val (.int (0 : Int32)), .val (.ref a_IMPLICIT_VR_LITTLE_ENDIAN)] [(.int (0 : Int32))])) _
    refine XS.ifYes X20.here hx rfl (pc0 := 28) (pc' := 34) rfl (hb hby d52_28) rfl ((if0 _ _).trans (teq (by decide)).1) (by decide) (by decide) ?_
    refine XS.iinc X20.here hx rfl (hb hby d52_34) rfl (l' := #[.val (.ref x), .val (.ref bv1), .val (.int (2 : Int32)), .val (.int (1 : Int32)), .val (.ref a_IMPLICIT_VR_LITTLE_ENDIAN)]) rfl ?_
    refine XS.goto X20.here hx rfl (pc0 := 37) (pc' := 9) rfl (hb hby d52_37) (by decide) (by decide) ?_
    refine XS.iloadN X20.here hx rfl (hb hby d52_9) rfl ?_
    refine XS.iloadN X20.here hx rfl (hb hby d52_10) rfl ?_
    refine XS.icmpNo X20.here hx rfl (hb hby d52_11) rfl (tlt (by decide)).2.1 ?_
    show Steps pP.tables eE below (T20.setTop (mkF mM 14 #[.val (.ref x), .val (.ref bv1), .val (.int (2 : Int32)), .val (.int (1 : Int32)), .val (.ref a_IMPLICIT_VR_LITTLE_ENDIAN)] [])) _
    refine XS.aloadN X20.here hx rfl (hb hby d52_14) rfl rfl ?_
    refine XS.iloadN X20.here hx rfl (hb hby d52_15) rfl ?_
    show Steps pP.tables eE below (T20.setTop (mkF mM 16 #[.val (.ref x), .val (.ref bv1), .val (.int (2 : Int32)), .val (.int (1 : Int32)), .val (.ref a_IMPLICIT_VR_LITTLE_ENDIAN)] [(.int (1 : Int32)), (.ref bv1)])) _
    refine X20.aaload hx (j := (1 : Int32)) (v := (.ref a_EXPLICIT_VR_LITTLE_ENDIAN)) (by rw [e20]; exact Ara7.1) (State.isArrayOf_alike hZ.alike Ara7.2.1) rfl Ara7.2.2 hin22 hat22 (g := (mkF mM 16 #[.val (.ref x), .val (.ref bv1), .val (.int (2 : Int32)), .val (.int (1 : Int32)), .val (.ref a_IMPLICIT_VR_LITTLE_ENDIAN)] [(.int (1 : Int32)), (.ref bv1)])) rfl rfl (hb hby d52_16) _ ?_
    show Steps pP.tables eE below (T20.setTop (mkF mM 17 #[.val (.ref x), .val (.ref bv1), .val (.int (2 : Int32)), .val (.int (1 : Int32)), .val (.ref a_IMPLICIT_VR_LITTLE_ENDIAN)] [(.ref a_EXPLICIT_VR_LITTLE_ENDIAN)])) _
    refine XS.astore X20.here hx rfl (hb hby d52_17) rfl rfl (l' := #[.val (.ref x), .val (.ref bv1), .val (.int (2 : Int32)), .val (.int (1 : Int32)), .val (.ref a_EXPLICIT_VR_LITTLE_ENDIAN)]) rfl ?_
    refine XS.aload X20.here hx rfl (hb hby d52_19) rfl rfl ?_
    exact kg)
  clear pr21
  obtain ⟨T24, X24, e24, st24⟩ := getF X20 hx hZ hown (host := "") (Or.inl (hw _ (List.mem_of_getElem? (i := 54) rfl))) Via.refl e20 (Fld.ext (c9).2 F_EXPLICIT_VR_LITTLE_ENDIAN) (g := (mkF mM 21 #[.val (.ref x), .val (.ref bv1), .val (.int (2 : Int32)), .val (.int (1 : Int32)), .val (.ref a_EXPLICIT_VR_LITTLE_ENDIAN)] [(.ref a_EXPLICIT_VR_LITTLE_ENDIAN)])) rfl rfl (hb hby d52_21)
  have pr25 : ∀ tg, Steps pP.tables eE below (T24.setTop (mkF mM 24 #[.val (.ref x), .val (.ref bv1), .val (.int (2 : Int32)), .val (.int (1 : Int32)), .val (.ref a_EXPLICIT_VR_LITTLE_ENDIAN)] [(.ref t_EXPLICIT_VR_LITTLE_ENDIAN)])) tg → Steps pP.tables eE below (s₁.setTop (entryFrame mM #[(.ref x)] 5)) tg := fun tg kg => pr23 _ (st24 _ kg)
  clear pr23 st24 X20 e20
  have pr26 : ∀ tg, Steps pP.tables eE below (T24.setTop (mkF mM 25 #[.val (.ref x), .val (.ref bv1), .val (.int (2 : Int32)), .val (.int (1 : Int32)), .val (.ref a_EXPLICIT_VR_LITTLE_ENDIAN)] [(.ref x), (.ref t_EXPLICIT_VR_LITTLE_ENDIAN)])) tg → Steps pP.tables eE below (s₁.setTop (entryFrame mM #[(.ref x)] 5)) tg := fun tg kg => pr25 _ (by
    show Steps pP.tables eE below (T24.setTop (mkF mM 24 #[.val (.ref x), .val (.ref bv1), .val (.int (2 : Int32)), .val (.int (1 : Int32)), .val (.ref a_EXPLICIT_VR_LITTLE_ENDIAN)] [(.ref t_EXPLICIT_VR_LITTLE_ENDIAN)])) _
    refine XS.aloadN X24.here hx rfl (hb hby d52_24) rfl rfl ?_
    exact kg)
  clear pr25
  obtain ⟨Ls27, X27, N27⟩ := own_hide X24 N20
  clear X24 N20
  obtain ⟨cq28, kq28, qa28, qb28, qc28⟩ := isOf hZ e24 (Exa.ext (c9).2 Et_EXPLICIT_VR_LITTLE_ENDIAN)
  obtain ⟨vq28, _, ⟨T28, L28, kk28, nn28⟩, -, X28, ⟨Lc28, hQ28, l28, y28, z28⟩, st28⟩ := X27.virtualBack hx (y := (⟨"java/lang/String", "equals", "(Ljava/lang/Object;)Z"⟩ : MethodName)) (z := (⟨"java/lang/String", "equals", "(Ljava/lang/Object;)Z"⟩ : MethodName)) hown (mvT hZ (hw _ (List.mem_of_getElem? (i := 56) rfl))) (mvT hZ (hw _ (List.mem_of_getElem? (i := 57) rfl))) (notFace_of_selects (args := #[]) (mvT hZ (hw _ (List.mem_of_getElem? (i := 59) rfl)))) (mvT hZ (hw _ (List.mem_of_getElem? (i := 59) rfl))) (mvT hZ (hw _ (List.mem_of_getElem? (i := 58) rfl))) (by decide) (StrChars.Road.eqW (W := 0) hZ (own_wE hw) (kI := 4) (hw _ (List.mem_of_getElem? (i := 2) rfl)) (cs := ([(49 : Int32), (46 : Int32), (50 : Int32), (46 : Int32), (56 : Int32), (52 : Int32), (48 : Int32), (46 : Int32), (49 : Int32), (48 : Int32), (48 : Int32), (48 : Int32), (56 : Int32), (46 : Int32), (49 : Int32), (46 : Int32), (50 : Int32), (46 : Int32), (49 : Int32)] : List Int32)) (Exa.ext (c9).2 Et_EXPLICIT_VR_LITTLE_ENDIAN) (Fld.ext (c9).2 Fv_EXPLICIT_VR_LITTLE_ENDIAN) (Fld.ext (c9).2 Fc_EXPLICIT_VR_LITTLE_ENDIAN) (Arv.ext Vt_EXPLICIT_VR_LITTLE_ENDIAN (c9).2) own_cod_t1 own_bd_t1 (Nat.le_of_ble_eq_true rfl) (ds := tx) c13 c14 c15 c16 (StrChars.Road.codOf (n := tx.length) rfl (fun c hc => (hp c hc).2)) (own_up hp) hlen (Sta.ext (c9).2 S_cs) hcs (by decide) (by decide)) qa28 qc28 (g := (mkF mM 25 #[.val (.ref x), .val (.ref bv1), .val (.int (2 : Int32)), .val (.int (1 : Int32)), .val (.ref a_EXPLICIT_VR_LITTLE_ENDIAN)] [(.ref x), (.ref t_EXPLICIT_VR_LITTLE_ENDIAN)])) rfl (by rw [hml]; rfl) (Steps.refl _) (argsL := [(.ref x)]) (rest := []) (lenOf pd_10 rfl) rfl (by show 2 * 0 + _ ≤ _; exact Nat.le_of_eq rfl) (hb hby d52_25) (fun _ _ => ⟨rfl, e24, (by decide : 1 + 0 ≤ _), (by decide : 2 + 0 ≤ _)⟩)
  dsimp only [Pt.U, Pt.locs, Pt.cells, Pt.slots] at X28 l28 y28 z28 st28 hQ28
  subst l28 y28 z28
  obtain ⟨hq28, hL28, e28⟩ := hQ28
  subst hL28
  obtain ⟨r28, hv28, hr28⟩ : ∃ r : Int32, vq28 = some (.int r) ∧ r = (if ([(49 : Int32), (46 : Int32), (50 : Int32), (46 : Int32), (56 : Int32), (52 : Int32), (48 : Int32), (46 : Int32), (49 : Int32), (48 : Int32), (48 : Int32), (48 : Int32), (56 : Int32), (46 : Int32), (49 : Int32), (46 : Int32), (50 : Int32), (46 : Int32), (49 : Int32)] : List Int32) = tx then (1 : Int32) else (0 : Int32)) := hq28.elim (fun q => ⟨1, q.1, (if_pos q.2).symm⟩) (fun q => ⟨0, q.1, (if_neg q.2).symm⟩)
  subst hv28
  have N28 := Fr.app N27 (Fr.nil n0)
  have pr29 : ∀ tg, Steps pP.tables eE below (T28.setTop (mkF mM 28 #[.val (.ref x), .val (.ref bv1), .val (.int (2 : Int32)), .val (.int (1 : Int32)), .val (.ref a_EXPLICIT_VR_LITTLE_ENDIAN)] [(.int r28)])) tg → Steps pP.tables eE below (s₁.setTop (entryFrame mM #[(.ref x)] 5)) tg := fun tg kg => pr26 _ (st28.trans kg)
  clear pr26 st28 X27 e24
  rw [if_neg (fun q => hk1 q.symm)] at hr28
  subst hr28
  have pr30 : ∀ tg, Steps pP.tables eE below (T28.setTop (mkF mM 41 #[.val (.ref x), .val (.ref bv1), .val (.int (2 : Int32)), .val (.int (2 : Int32)), .val (.ref a_EXPLICIT_VR_LITTLE_ENDIAN)] [.null])) tg → Steps pP.tables eE below (s₁.setTop (entryFrame mM #[(.ref x)] 5)) tg := fun tg kg => pr29 _ (by
    show Steps pP.tables eE below (T28.setTop (mkF mM 28 #[.val (.ref x), .val (.ref bv1), .val (.int (2 : Int32)), .val (.int (1 : Int32)), .val (.ref a_EXPLICIT_VR_LITTLE_ENDIAN)] [(.int (0 : Int32))])) _
    refine XS.ifYes X28.here hx rfl (pc0 := 28) (pc' := 34) rfl (hb hby d52_28) rfl ((if0 _ _).trans (teq (by decide)).1) (by decide) (by decide) ?_
    refine XS.iinc X28.here hx rfl (hb hby d52_34) rfl (l' := #[.val (.ref x), .val (.ref bv1), .val (.int (2 : Int32)), .val (.int (2 : Int32)), .val (.ref a_EXPLICIT_VR_LITTLE_ENDIAN)]) rfl ?_
    refine XS.goto X28.here hx rfl (pc0 := 37) (pc' := 9) rfl (hb hby d52_37) (by decide) (by decide) ?_
    refine XS.iloadN X28.here hx rfl (hb hby d52_9) rfl ?_
    refine XS.iloadN X28.here hx rfl (hb hby d52_10) rfl ?_
    refine XS.icmpYes X28.here hx rfl (pc0 := 11) (pc' := 40) rfl (hb hby d52_11) rfl (flt (by decide)).2.1 (by decide) (by decide) ?_
    show Steps pP.tables eE below (T28.setTop (mkF mM 40 #[.val (.ref x), .val (.ref bv1), .val (.int (2 : Int32)), .val (.int (2 : Int32)), .val (.ref a_EXPLICIT_VR_LITTLE_ENDIAN)] [])) _
    refine XS.aconstNull X28.here hx rfl (hb hby d52_40) ?_
    exact kg)
  clear pr29
  have c31 := (Keep.trans (Keep.refl h0 []) K1 all0)
  obtain ⟨fs, hr, hrun, hended, hW, hsame⟩ := X28.leave (v := some .null) (fun h => by rw [Bd.returns] at h; cases h)
  refine ⟨_, _, pr30 _ (retOut X28 hx (t := (.object "com/example/tesserae/tesserae/dicom/TransferSyntax")) Bd.returns rfl (Or.inr (Or.inr (Or.inr (Or.inr ⟨rfl, rfl, rfl⟩)))) (hb hby d52_41) hr), hrun, hended, _, _, rfl, ?_, ⟨_, rfl⟩, hW, hsame.mono (by decide) (by decide)⟩
  show Q52 Z cs al kal a_IMPLICIT_VR_LITTLE_ENDIAN t_IMPLICIT_VR_LITTLE_ENDIAN u_IMPLICIT_VR_LITTLE_ENDIAN k_IMPLICIT_VR_LITTLE_ENDIAN a_EXPLICIT_VR_LITTLE_ENDIAN t_EXPLICIT_VR_LITTLE_ENDIAN u_EXPLICIT_VR_LITTLE_ENDIAN k_EXPLICIT_VR_LITTLE_ENDIAN x t kt tx h0 n0 _ T28.heap _
  rw [e28]
  exact ⟨rfl, N28, c31⟩
theorem d6_0 : decode jdk_42_method_66_code 0 = .ok (.aload_n 0, 1) := by decide +kernel
theorem d6_1 : decode jdk_42_method_66_code 1 = .ok (.aload_n 1, 1) := by decide +kernel
theorem d6_2 : decode jdk_42_method_66_code 2 = .ok (.if_acmp .ne 5, 3) := by decide +kernel
theorem d6_7 : decode jdk_42_method_66_code 7 = .ok (.aload_n 1, 1) := by decide +kernel
theorem d6_8 : decode jdk_42_method_66_code 8 = .ok (.instanceof 10, 3) := by decide +kernel
theorem d6_11 : decode jdk_42_method_66_code 11 = .ok (.ifCond .eq 43, 3) := by decide +kernel
theorem d6_54 : decode jdk_42_method_66_code 54 = .ok (.iconst 0, 1) := by decide +kernel
theorem d6_55 : decode jdk_42_method_66_code 55 = .ok (.ireturn, 1) := by decide +kernel
theorem ef_6 (mM : MethodId) (x0 : Addr) : entryFrame mM #[(.ref x0), .null] 3 = mkF mM 0 #[.val (.ref x0), .val .null, .unset] [] := by first | (simp [entryFrame, mkF, argsToLocals, Value.category]; done) | rfl
def Q6 (Z : State) (a : Addr) (h0 : Heap) (n0 : Nat) (v : Option Value) (h : Heap) (L : List Loc) : Prop := v = some (.int (0 : Int32)) ∧ Fr n0 L ∧ h = h0
set_option maxRecDepth 65536 in
set_option maxHeartbeats 40000000 in
theorem rm6 (l : Launch) (Z : State) (a0 : Array Value) (hw : ∀ d ∈ tables_1, d.before a0 Z = true) (ws : List Jvm.Cond) (a : Addr) (h0 : Heap) (n0 : Nat) (Z0 : n0 ≤ h0.size) :
    MetFree l (⟨"java/lang/String", "equals", "(Ljava/lang/Object;)Z"⟩ : MethodName) (head1 (Jvm.Cond.code (⟨"java/lang/String", "equals", "(Ljava/lang/Object;)Z"⟩ : MethodName) jdk_42_method_66_code 3 (some .boolean) :: ws) ({ frames := 0, cells := 0, slots := 0, locals := 0 } : Room)) (fun aA uU => aA = #[(.ref a), .null] ∧ Z.Warmed39 uU.vm ∧ uU.heap = h0) (fun _ _ _ _ _ => True) (fun _ uU oO uU' => ∃ vV lL, oO = .returned vV ∧ Q6 Z a h0 n0 vV uU'.heap lL ∧ FrameEnd uU oO uU' lL ({ frames := 0, cells := 0, slots := 0, locals := 0 } : Room).cells ({ frames := 0, cells := 0, slots := 0, locals := 0 } : Room).slots) := by
  refine MetFree.of_bodySF (plainFor_of_name pn_0) hisR ?_
  intro pP eE sS mM args below meth cC s₁ Bd hml0 hP hK
  obtain ⟨rfl, hZ, hh⟩ := hP
  have hx := Bd.exec
  have hby := Bd.bytes
  have hml : cC.maxLocals = 3 := hml0
  have hown : sS.vm.findClass "java/lang/String" = some mM.cls := findClass_of_methodNamed Bd.named
  have hnm := (name_of_methodNamed Bd.named Bd.method).1
  have X0 : Stand pP l eE ({ frames := 0, cells := 0, slots := 0, locals := 0 } : Room) sS mM #[(.ref a), .null] below meth cC s₁ [] 0 0 := Stand.of_body Bd
  have e0 : s₁.heap = h0 := by rw [← hh, Bd.state]; rfl
  have N0 := Fr.nil n0
  have pre0 : ∀ tg, Steps pP.tables eE below (s₁.setTop (mkF mM 0 #[.val (.ref a), .val .null, .unset] [])) tg → Steps pP.tables eE below (s₁.setTop (entryFrame mM #[(.ref a), .null] 3)) tg := fun tg kg => castTop (ef_6 mM a) kg
  have pr1 : ∀ tg, Steps pP.tables eE below (s₁.setTop (mkF mM 55 #[.val (.ref a), .val .null, .unset] [(.int (0 : Int32))])) tg → Steps pP.tables eE below (s₁.setTop (entryFrame mM #[(.ref a), .null] 3)) tg := fun tg kg => pre0 _ (by
    show Steps pP.tables eE below (s₁.setTop (mkF mM 0 #[.val (.ref a), .val .null, .unset] [])) _
    refine XS.aloadN X0.here hx rfl (hb hby d6_0) rfl rfl ?_
    refine XS.aloadN X0.here hx rfl (hb hby d6_1) rfl rfl ?_
    show Steps pP.tables eE below (s₁.setTop (mkF mM 2 #[.val (.ref a), .val .null, .unset] [.null, (.ref a)])) _
    refine Jvm.RoadKit.acmp (g := (mkF mM 2 #[.val (.ref a), .val .null, .unset] [.null, (.ref a)])) X0 hx rfl rfl rfl (pc0 := 2) (pc' := 7) (same := false) rfl (hb hby d6_2) rfl (decide_eq_false nofun) (by decide) (by decide) ?_
    show Steps pP.tables eE below (s₁.setTop (mkF mM 7 #[.val (.ref a), .val .null, .unset] [])) _
    refine XS.aloadN X0.here hx rfl (hb hby d6_7) rfl rfl ?_
    show Steps pP.tables eE below (s₁.setTop (mkF mM 8 #[.val (.ref a), .val .null, .unset] [.null])) _
    refine X0.instanceofNull hx (g := (mkF mM 8 #[.val (.ref a), .val .null, .unset] [.null])) rfl rfl (hb hby d6_8) _ ?_
    show Steps pP.tables eE below (s₁.setTop (mkF mM 11 #[.val (.ref a), .val .null, .unset] [(.int (0 : Int32))])) _
    refine XS.ifYes X0.here hx rfl (pc0 := 11) (pc' := 54) rfl (hb hby d6_11) rfl ((if0 _ _).trans (teq (by decide)).1) (by decide) (by decide) ?_
    refine XS.iconst X0.here hx rfl (hb hby d6_54) ?_
    exact kg)
  clear pre0
  obtain ⟨fs, hr, hrun, hended, hW, hsame⟩ := X0.leave (v := some (.int (0 : Int32))) (fun h => by rw [Bd.returns] at h; cases h)
  refine ⟨_, _, pr1 _ (retOut X0 hx (t := .boolean) Bd.returns rfl (Or.inl ⟨rfl, Or.inr (Or.inl rfl), _, rfl⟩) (hb hby d6_55) hr), hrun, hended, _, _, rfl, ?_, ⟨_, rfl⟩, hW, hsame.mono (by decide) (by decide)⟩
  show Q6 Z a h0 n0 _ s₁.heap _
  rw [e0]
  exact ⟨rfl, N0, rfl⟩
theorem d59_0 : decode prog_9_method_4_code 0 = .ok (.invokestatic 37, 3) := by decide +kernel
theorem d59_3 : decode prog_9_method_4_code 3 = .ok (.astore_n 1, 1) := by decide +kernel
theorem d59_4 : decode prog_9_method_4_code 4 = .ok (.aload_n 1, 1) := by decide +kernel
theorem d59_5 : decode prog_9_method_4_code 5 = .ok (.arraylength, 1) := by decide +kernel
theorem d59_6 : decode prog_9_method_4_code 6 = .ok (.istore_n 2, 1) := by decide +kernel
theorem d59_7 : decode prog_9_method_4_code 7 = .ok (.iconst 0, 1) := by decide +kernel
theorem d59_8 : decode prog_9_method_4_code 8 = .ok (.istore_n 3, 1) := by decide +kernel
theorem d59_9 : decode prog_9_method_4_code 9 = .ok (.iload_n 3, 1) := by decide +kernel
theorem d59_10 : decode prog_9_method_4_code 10 = .ok (.iload_n 2, 1) := by decide +kernel
theorem d59_11 : decode prog_9_method_4_code 11 = .ok (.if_icmp .ge 29, 3) := by decide +kernel
theorem d59_14 : decode prog_9_method_4_code 14 = .ok (.aload_n 1, 1) := by decide +kernel
theorem d59_15 : decode prog_9_method_4_code 15 = .ok (.iload_n 3, 1) := by decide +kernel
theorem d59_16 : decode prog_9_method_4_code 16 = .ok (.aaload, 1) := by decide +kernel
theorem d59_17 : decode prog_9_method_4_code 17 = .ok (.astore 4, 2) := by decide +kernel
theorem d59_19 : decode prog_9_method_4_code 19 = .ok (.aload 4, 2) := by decide +kernel
theorem d59_21 : decode prog_9_method_4_code 21 = .ok (.getfield 29, 3) := by decide +kernel
theorem d59_24 : decode prog_9_method_4_code 24 = .ok (.aload_n 0, 1) := by decide +kernel
theorem d59_25 : decode prog_9_method_4_code 25 = .ok (.invokevirtual 41, 3) := by decide +kernel
theorem d59_28 : decode prog_9_method_4_code 28 = .ok (.ifCond .eq 6, 3) := by decide +kernel
theorem d59_34 : decode prog_9_method_4_code 34 = .ok (.iinc 3 1, 3) := by decide +kernel
theorem d59_37 : decode prog_9_method_4_code 37 = .ok (.goto (-28), 3) := by decide +kernel
theorem d59_40 : decode prog_9_method_4_code 40 = .ok (.aconst_null, 1) := by decide +kernel
theorem d59_41 : decode prog_9_method_4_code 41 = .ok (.areturn, 1) := by decide +kernel
theorem ef_59 (mM : MethodId)  : entryFrame mM #[.null] 5 = mkF mM 0 #[.val .null, .unset, .unset, .unset, .unset] [] := by first | (simp [entryFrame, mkF, argsToLocals, Value.category]; done) | rfl
def Q59 (Z : State) (cs : Int32) (al : Addr) (kal : ClassId) (a_IMPLICIT_VR_LITTLE_ENDIAN : Addr) (t_IMPLICIT_VR_LITTLE_ENDIAN : Addr) (u_IMPLICIT_VR_LITTLE_ENDIAN : Addr) (k_IMPLICIT_VR_LITTLE_ENDIAN : ClassId) (a_EXPLICIT_VR_LITTLE_ENDIAN : Addr) (t_EXPLICIT_VR_LITTLE_ENDIAN : Addr) (u_EXPLICIT_VR_LITTLE_ENDIAN : Addr) (k_EXPLICIT_VR_LITTLE_ENDIAN : ClassId) (h0 : Heap) (n0 : Nat) (v : Option Value) (h : Heap) (L : List Loc) : Prop := v = some .null ∧ Fr n0 L ∧ Keep h0 h []
set_option maxRecDepth 65536 in
set_option maxHeartbeats 40000000 in
theorem rm59 (l : Launch) (Z : State) (a0 : Array Value) (hw : ∀ d ∈ tables_1, d.before a0 Z = true) (ws : List Jvm.Cond) (cs : Int32) (al : Addr) (kal : ClassId) (a_IMPLICIT_VR_LITTLE_ENDIAN : Addr) (t_IMPLICIT_VR_LITTLE_ENDIAN : Addr) (u_IMPLICIT_VR_LITTLE_ENDIAN : Addr) (k_IMPLICIT_VR_LITTLE_ENDIAN : ClassId) (a_EXPLICIT_VR_LITTLE_ENDIAN : Addr) (t_EXPLICIT_VR_LITTLE_ENDIAN : Addr) (u_EXPLICIT_VR_LITTLE_ENDIAN : Addr) (k_EXPLICIT_VR_LITTLE_ENDIAN : ClassId) (h0 : Heap) (n0 : Nat) (Z0 : n0 ≤ h0.size) (O : Old Z n0 h0) (S_cs : Sta Z Z.heap "java/lang/String" "COMPACT_STRINGS" "Z" (.int cs)) (hcs : ¬ cs = (0 : Int32)) (S_ALL : Sta Z Z.heap "com/example/tesserae/tesserae/dicom/TransferSyntax" "$VALUES" "[Lcom/example/tesserae/tesserae/dicom/TransferSyntax;" (.ref al)) (E_ALL : Exa Z Z.heap al "[Lcom/example/tesserae/tesserae/dicom/TransferSyntax;") (V_ALL : Arv Z Z.heap al kal (.object "com/example/tesserae/tesserae/dicom/TransferSyntax") (2 : Int32) [(.ref a_IMPLICIT_VR_LITTLE_ENDIAN), (.ref a_EXPLICIT_VR_LITTLE_ENDIAN)] .null) (S_IMPLICIT_VR_LITTLE_ENDIAN : Sta Z Z.heap "com/example/tesserae/tesserae/dicom/TransferSyntax" "IMPLICIT_VR_LITTLE_ENDIAN" "Lcom/example/tesserae/tesserae/dicom/TransferSyntax;" (.ref a_IMPLICIT_VR_LITTLE_ENDIAN)) (E_IMPLICIT_VR_LITTLE_ENDIAN : Exa Z Z.heap a_IMPLICIT_VR_LITTLE_ENDIAN "com/example/tesserae/tesserae/dicom/TransferSyntax") (F_IMPLICIT_VR_LITTLE_ENDIAN : Fld Z Z.heap a_IMPLICIT_VR_LITTLE_ENDIAN "com/example/tesserae/tesserae/dicom/TransferSyntax" "uid" "Ljava/lang/String;" (.ref t_IMPLICIT_VR_LITTLE_ENDIAN)) (Et_IMPLICIT_VR_LITTLE_ENDIAN : Exa Z Z.heap t_IMPLICIT_VR_LITTLE_ENDIAN "java/lang/String") (Fc_IMPLICIT_VR_LITTLE_ENDIAN : Fld Z Z.heap t_IMPLICIT_VR_LITTLE_ENDIAN "java/lang/String" "coder" "B" (.int (0 : Int32))) (Fv_IMPLICIT_VR_LITTLE_ENDIAN : Fld Z Z.heap t_IMPLICIT_VR_LITTLE_ENDIAN "java/lang/String" "value" "[B" (.ref u_IMPLICIT_VR_LITTLE_ENDIAN)) (Vt_IMPLICIT_VR_LITTLE_ENDIAN : Arv Z Z.heap u_IMPLICIT_VR_LITTLE_ENDIAN k_IMPLICIT_VR_LITTLE_ENDIAN .byte (17 : Int32) [(.int (49 : Int32)), (.int (46 : Int32)), (.int (50 : Int32)), (.int (46 : Int32)), (.int (56 : Int32)), (.int (52 : Int32)), (.int (48 : Int32)), (.int (46 : Int32)), (.int (49 : Int32)), (.int (48 : Int32)), (.int (48 : Int32)), (.int (48 : Int32)), (.int (56 : Int32)), (.int (46 : Int32)), (.int (49 : Int32)), (.int (46 : Int32)), (.int (50 : Int32))] (.int (0 : Int32))) (S_EXPLICIT_VR_LITTLE_ENDIAN : Sta Z Z.heap "com/example/tesserae/tesserae/dicom/TransferSyntax" "EXPLICIT_VR_LITTLE_ENDIAN" "Lcom/example/tesserae/tesserae/dicom/TransferSyntax;" (.ref a_EXPLICIT_VR_LITTLE_ENDIAN)) (E_EXPLICIT_VR_LITTLE_ENDIAN : Exa Z Z.heap a_EXPLICIT_VR_LITTLE_ENDIAN "com/example/tesserae/tesserae/dicom/TransferSyntax") (F_EXPLICIT_VR_LITTLE_ENDIAN : Fld Z Z.heap a_EXPLICIT_VR_LITTLE_ENDIAN "com/example/tesserae/tesserae/dicom/TransferSyntax" "uid" "Ljava/lang/String;" (.ref t_EXPLICIT_VR_LITTLE_ENDIAN)) (Et_EXPLICIT_VR_LITTLE_ENDIAN : Exa Z Z.heap t_EXPLICIT_VR_LITTLE_ENDIAN "java/lang/String") (Fc_EXPLICIT_VR_LITTLE_ENDIAN : Fld Z Z.heap t_EXPLICIT_VR_LITTLE_ENDIAN "java/lang/String" "coder" "B" (.int (0 : Int32))) (Fv_EXPLICIT_VR_LITTLE_ENDIAN : Fld Z Z.heap t_EXPLICIT_VR_LITTLE_ENDIAN "java/lang/String" "value" "[B" (.ref u_EXPLICIT_VR_LITTLE_ENDIAN)) (Vt_EXPLICIT_VR_LITTLE_ENDIAN : Arv Z Z.heap u_EXPLICIT_VR_LITTLE_ENDIAN k_EXPLICIT_VR_LITTLE_ENDIAN .byte (19 : Int32) [(.int (49 : Int32)), (.int (46 : Int32)), (.int (50 : Int32)), (.int (46 : Int32)), (.int (56 : Int32)), (.int (52 : Int32)), (.int (48 : Int32)), (.int (46 : Int32)), (.int (49 : Int32)), (.int (48 : Int32)), (.int (48 : Int32)), (.int (48 : Int32)), (.int (56 : Int32)), (.int (46 : Int32)), (.int (49 : Int32)), (.int (46 : Int32)), (.int (50 : Int32)), (.int (46 : Int32)), (.int (49 : Int32))] (.int (0 : Int32))) :
    MetFree l (⟨"com/example/tesserae/tesserae/dicom/TransferSyntax", "forUid", "(Ljava/lang/String;)Lcom/example/tesserae/tesserae/dicom/TransferSyntax;"⟩ : MethodName) (head1 (Jvm.Cond.code (⟨"com/example/tesserae/tesserae/dicom/TransferSyntax", "forUid", "(Ljava/lang/String;)Lcom/example/tesserae/tesserae/dicom/TransferSyntax;"⟩ : MethodName) prog_9_method_4_code 5 (some (.object "com/example/tesserae/tesserae/dicom/TransferSyntax")) :: ws) ({ frames := 2, cells := 1, slots := 2, locals := 25 } : Room)) (fun aA uU => aA = #[.null] ∧ Z.Warmed39 uU.vm ∧ uU.heap = h0) (fun _ _ _ _ _ => True) (fun _ uU oO uU' => ∃ vV lL, oO = .returned vV ∧ Q59 Z cs al kal a_IMPLICIT_VR_LITTLE_ENDIAN t_IMPLICIT_VR_LITTLE_ENDIAN u_IMPLICIT_VR_LITTLE_ENDIAN k_IMPLICIT_VR_LITTLE_ENDIAN a_EXPLICIT_VR_LITTLE_ENDIAN t_EXPLICIT_VR_LITTLE_ENDIAN u_EXPLICIT_VR_LITTLE_ENDIAN k_EXPLICIT_VR_LITTLE_ENDIAN h0 n0 vV uU'.heap lL ∧ FrameEnd uU oO uU' lL ({ frames := 2, cells := 1, slots := 2, locals := 25 } : Room).cells ({ frames := 2, cells := 1, slots := 2, locals := 25 } : Room).slots) := by
  refine MetFree.of_bodySF (plainFor_of_name pn_4) hisR ?_
  intro pP eE sS mM args below meth cC s₁ Bd hml0 hP hK
  obtain ⟨rfl, hZ, hh⟩ := hP
  have hx := Bd.exec
  have hby := Bd.bytes
  have hml : cC.maxLocals = 5 := hml0
  have hown : sS.vm.findClass "com/example/tesserae/tesserae/dicom/TransferSyntax" = some mM.cls := findClass_of_methodNamed Bd.named
  have hnm := (name_of_methodNamed Bd.named Bd.method).1
  have X0 : Stand pP l eE ({ frames := 2, cells := 1, slots := 2, locals := 25 } : Room) sS mM #[.null] below meth cC s₁ [] 0 0 := Stand.of_body Bd
  have e0 : s₁.heap = h0 := by rw [← hh, Bd.state]; rfl
  have N0 := Fr.nil n0
  have pre0 : ∀ tg, Steps pP.tables eE below (s₁.setTop (mkF mM 0 #[.val .null, .unset, .unset, .unset, .unset] [])) tg → Steps pP.tables eE below (s₁.setTop (entryFrame mM #[.null] 5)) tg := fun tg kg => castTop (ef_59 mM ) kg
  obtain ⟨_, _, ⟨T1, L1, kk1, nn1⟩, -, X1, ⟨Lc1, hQ1, l1, y1, z1⟩, st1⟩ := Jvm.LawKit.callS X0 hx (y := (⟨"com/example/tesserae/tesserae/dicom/TransferSyntax", "values", "()[Lcom/example/tesserae/tesserae/dicom/TransferSyntax;"⟩ : MethodName)) hown (mvT hZ (hw _ (List.mem_of_getElem? (i := 37) rfl))) (mvT hZ (hw _ (List.mem_of_getElem? (i := 38) rfl))) (mvT hZ (hw _ (List.mem_of_getElem? (i := 35) rfl))) (mvT hZ (hw _ (List.mem_of_getElem? (i := 39) rfl))) (by decide) (backOf (W := 0) (rm4 l Z a0 hw [] al kal a_IMPLICIT_VR_LITTLE_ENDIAN t_IMPLICIT_VR_LITTLE_ENDIAN u_IMPLICIT_VR_LITTLE_ENDIAN k_IMPLICIT_VR_LITTLE_ENDIAN a_EXPLICIT_VR_LITTLE_ENDIAN t_EXPLICIT_VR_LITTLE_ENDIAN u_EXPLICIT_VR_LITTLE_ENDIAN k_EXPLICIT_VR_LITTLE_ENDIAN h0 n0 Z0 O S_ALL E_ALL V_ALL S_IMPLICIT_VR_LITTLE_ENDIAN E_IMPLICIT_VR_LITTLE_ENDIAN F_IMPLICIT_VR_LITTLE_ENDIAN Et_IMPLICIT_VR_LITTLE_ENDIAN Fc_IMPLICIT_VR_LITTLE_ENDIAN Fv_IMPLICIT_VR_LITTLE_ENDIAN Vt_IMPLICIT_VR_LITTLE_ENDIAN S_EXPLICIT_VR_LITTLE_ENDIAN E_EXPLICIT_VR_LITTLE_ENDIAN F_EXPLICIT_VR_LITTLE_ENDIAN Et_EXPLICIT_VR_LITTLE_ENDIAN Fc_EXPLICIT_VR_LITTLE_ENDIAN Fv_EXPLICIT_VR_LITTLE_ENDIAN Vt_EXPLICIT_VR_LITTLE_ENDIAN) hZ (hw _ (List.mem_of_getElem? (i := 39) rfl)) (hw _ (List.mem_of_getElem? (i := 35) rfl)) (by decide) (by decide)) (g := (mkF mM 0 #[.val .null, .unset, .unset, .unset, .unset] [])) rfl (by rw [hml]; rfl) (argsL := []) (rest := []) (lenOf pd_9 rfl) rfl (by show 2 * 0 + _ ≤ _; exact Nat.le_of_eq rfl) (hb hby d59_0) (fun _ _ => ⟨rfl, e0, (by decide : 0 + 1 ≤ _), (by decide : 0 + 2 ≤ _)⟩)
  dsimp only [Pt.U, Pt.locs, Pt.cells, Pt.slots] at X1 l1 y1 z1 st1 hQ1
  subst l1 y1 z1
  obtain ⟨bv1, rfl, ge1, Nq1, K1, kv1, V1⟩ := hQ1
  have N1 := Fr.app N0 Nq1
  have gn2 : n0 ≤ bv1 := Nat.le_trans Z0 ge1
  have gs3 : h0.size ≤ bv1 := Nat.le_trans (Keep.refl h0 []).1 ge1
  have pr4 : ∀ tg, Steps pP.tables eE below (T1.setTop (mkF mM 3 #[.val .null, .unset, .unset, .unset, .unset] [(.ref bv1)])) tg → Steps pP.tables eE below (s₁.setTop (entryFrame mM #[.null] 5)) tg := fun tg kg => pre0 _ (st1 _ kg)
  clear pre0 st1 X0 e0
  obtain ⟨cla5, Ara5, qa5, Sa5, Ma5, Ha5, Ga5⟩ := id V1
  have hin6 : ¬ ((0 : Int32) < 0 ∨ cla5.slots.size ≤ ((0 : Int32)).toNatClampNeg) := inb_of Sa5 ⟨by decide, by decide⟩
  have hat6 : cla5.slots[((0 : Int32)).toNatClampNeg]? = some (.ref a_IMPLICIT_VR_LITTLE_ENDIAN) := Has.at Ha5 hin6 rfl
  have c7 := (Old.keep O K1 all0)
  have pr8 : ∀ tg, Steps pP.tables eE below (T1.setTop (mkF mM 21 #[.val .null, .val (.ref bv1), .val (.int (2 : Int32)), .val (.int (0 : Int32)), .val (.ref a_IMPLICIT_VR_LITTLE_ENDIAN)] [(.ref a_IMPLICIT_VR_LITTLE_ENDIAN)])) tg → Steps pP.tables eE below (s₁.setTop (entryFrame mM #[.null] 5)) tg := fun tg kg => pr4 _ (by
    show Steps pP.tables eE below (T1.setTop (mkF mM 3 #[.val .null, .unset, .unset, .unset, .unset] [(.ref bv1)])) _
    refine XS.astoreN X1.here hx rfl (hb hby d59_3) rfl rfl (l' := #[.val .null, .val (.ref bv1), .unset, .unset, .unset]) rfl ?_
    refine XS.aloadN X1.here hx rfl (hb hby d59_4) rfl rfl ?_
    show Steps pP.tables eE below (T1.setTop (mkF mM 5 #[.val .null, .val (.ref bv1), .unset, .unset, .unset] [(.ref bv1)])) _
    refine X1.arraylength hx Ara5.1 (State.isArrayOf_alike hZ.alike Ara5.2.1) (g := (mkF mM 5 #[.val .null, .val (.ref bv1), .unset, .unset, .unset] [(.ref bv1)])) rfl rfl (hb hby d59_5) _ ?_
    rw [len_of Sa5 Ma5]
    show Steps pP.tables eE below (T1.setTop (mkF mM 6 #[.val .null, .val (.ref bv1), .unset, .unset, .unset] [(.int (2 : Int32))])) _
    refine XS.istoreN X1.here hx rfl (hb hby d59_6) rfl (l' := #[.val .null, .val (.ref bv1), .val (.int (2 : Int32)), .unset, .unset]) rfl ?_
    refine XS.iconst X1.here hx rfl (hb hby d59_7) ?_
    refine XS.istoreN X1.here hx rfl (hb hby d59_8) rfl (l' := #[.val .null, .val (.ref bv1), .val (.int (2 : Int32)), .val (.int (0 : Int32)), .unset]) rfl ?_
    refine XS.iloadN X1.here hx rfl (hb hby d59_9) rfl ?_
    refine XS.iloadN X1.here hx rfl (hb hby d59_10) rfl ?_
    refine XS.icmpNo X1.here hx rfl (hb hby d59_11) rfl (tlt (by decide)).2.1 ?_
    show Steps pP.tables eE below (T1.setTop (mkF mM 14 #[.val .null, .val (.ref bv1), .val (.int (2 : Int32)), .val (.int (0 : Int32)), .unset] [])) _
    refine XS.aloadN X1.here hx rfl (hb hby d59_14) rfl rfl ?_
    refine XS.iloadN X1.here hx rfl (hb hby d59_15) rfl ?_
    show Steps pP.tables eE below (T1.setTop (mkF mM 16 #[.val .null, .val (.ref bv1), .val (.int (2 : Int32)), .val (.int (0 : Int32)), .unset] [(.int (0 : Int32)), (.ref bv1)])) _
    refine X1.aaload hx (j := (0 : Int32)) (v := (.ref a_IMPLICIT_VR_LITTLE_ENDIAN)) Ara5.1 (State.isArrayOf_alike hZ.alike Ara5.2.1) rfl Ara5.2.2 hin6 hat6 (g := (mkF mM 16 #[.val .null, .val (.ref bv1), .val (.int (2 : Int32)), .val (.int (0 : Int32)), .unset] [(.int (0 : Int32)), (.ref bv1)])) rfl rfl (hb hby d59_16) _ ?_
    show Steps pP.tables eE below (T1.setTop (mkF mM 17 #[.val .null, .val (.ref bv1), .val (.int (2 : Int32)), .val (.int (0 : Int32)), .unset] [(.ref a_IMPLICIT_VR_LITTLE_ENDIAN)])) _
    refine XS.astore X1.here hx rfl (hb hby d59_17) rfl rfl (l' := #[.val .null, .val (.ref bv1), .val (.int (2 : Int32)), .val (.int (0 : Int32)), .val (.ref a_IMPLICIT_VR_LITTLE_ENDIAN)]) rfl ?_
    refine XS.aload X1.here hx rfl (hb hby d59_19) rfl rfl ?_
    exact kg)
  clear pr4
  obtain ⟨T9, X9, e9, st9⟩ := getF X1 hx hZ hown (host := "") (Or.inl (hw _ (List.mem_of_getElem? (i := 54) rfl))) Via.refl rfl (Fld.ext (c7).2 F_IMPLICIT_VR_LITTLE_ENDIAN) (g := (mkF mM 21 #[.val .null, .val (.ref bv1), .val (.int (2 : Int32)), .val (.int (0 : Int32)), .val (.ref a_IMPLICIT_VR_LITTLE_ENDIAN)] [(.ref a_IMPLICIT_VR_LITTLE_ENDIAN)])) rfl rfl (hb hby d59_21)
  have pr10 : ∀ tg, Steps pP.tables eE below (T9.setTop (mkF mM 24 #[.val .null, .val (.ref bv1), .val (.int (2 : Int32)), .val (.int (0 : Int32)), .val (.ref a_IMPLICIT_VR_LITTLE_ENDIAN)] [(.ref t_IMPLICIT_VR_LITTLE_ENDIAN)])) tg → Steps pP.tables eE below (s₁.setTop (entryFrame mM #[.null] 5)) tg := fun tg kg => pr8 _ (st9 _ kg)
  clear pr8 st9 X1
  have pr11 : ∀ tg, Steps pP.tables eE below (T9.setTop (mkF mM 25 #[.val .null, .val (.ref bv1), .val (.int (2 : Int32)), .val (.int (0 : Int32)), .val (.ref a_IMPLICIT_VR_LITTLE_ENDIAN)] [.null, (.ref t_IMPLICIT_VR_LITTLE_ENDIAN)])) tg → Steps pP.tables eE below (s₁.setTop (entryFrame mM #[.null] 5)) tg := fun tg kg => pr10 _ (by
    show Steps pP.tables eE below (T9.setTop (mkF mM 24 #[.val .null, .val (.ref bv1), .val (.int (2 : Int32)), .val (.int (0 : Int32)), .val (.ref a_IMPLICIT_VR_LITTLE_ENDIAN)] [(.ref t_IMPLICIT_VR_LITTLE_ENDIAN)])) _
    refine XS.aloadN X9.here hx rfl (hb hby d59_24) rfl rfl ?_
    exact kg)
  clear pr10
  have c12 := (Nat.le_trans Z0 K1.1)
  obtain ⟨Ls13, X13, N13⟩ := own_hide X9 N1
  clear X9 N1
  obtain ⟨cq14, kq14, qa14, qb14, qc14⟩ := isOf hZ e9 (Exa.ext (c7).2 Et_IMPLICIT_VR_LITTLE_ENDIAN)
  obtain ⟨_, _, ⟨T14, L14, kk14, nn14⟩, -, X14, ⟨Lc14, hQ14, l14, y14, z14⟩, st14⟩ := X13.virtualBack hx (y := (⟨"java/lang/String", "equals", "(Ljava/lang/Object;)Z"⟩ : MethodName)) (z := (⟨"java/lang/String", "equals", "(Ljava/lang/Object;)Z"⟩ : MethodName)) hown (mvT hZ (hw _ (List.mem_of_getElem? (i := 56) rfl))) (mvT hZ (hw _ (List.mem_of_getElem? (i := 57) rfl))) (notFace_of_selects (args := #[]) (mvT hZ (hw _ (List.mem_of_getElem? (i := 59) rfl)))) (mvT hZ (hw _ (List.mem_of_getElem? (i := 59) rfl))) (mvT hZ (hw _ (List.mem_of_getElem? (i := 58) rfl))) (by decide) (backOf (W := 0) (rm6 l Z a0 hw [] t_IMPLICIT_VR_LITTLE_ENDIAN T1.heap n0 c12) hZ (hw _ (List.mem_of_getElem? (i := 60) rfl)) (hw _ (List.mem_of_getElem? (i := 1) rfl)) (by decide) (by decide)) qa14 qc14 (g := (mkF mM 25 #[.val .null, .val (.ref bv1), .val (.int (2 : Int32)), .val (.int (0 : Int32)), .val (.ref a_IMPLICIT_VR_LITTLE_ENDIAN)] [.null, (.ref t_IMPLICIT_VR_LITTLE_ENDIAN)])) rfl (by rw [hml]; rfl) (Steps.refl _) (argsL := [.null]) (rest := []) (lenOf pd_10 rfl) rfl (by show 2 * 0 + _ ≤ _; exact Nat.le_of_eq rfl) (hb hby d59_25) (fun _ _ => ⟨rfl, e9, (by decide : 1 + 0 ≤ _), (by decide : 2 + 0 ≤ _)⟩)
  dsimp only [Pt.U, Pt.locs, Pt.cells, Pt.slots] at X14 l14 y14 z14 st14 hQ14
  subst l14 y14 z14
  obtain ⟨rfl, Nq14, e14⟩ := hQ14
  have N14 := Fr.app N13 Nq14
  have pr15 : ∀ tg, Steps pP.tables eE below (T14.setTop (mkF mM 28 #[.val .null, .val (.ref bv1), .val (.int (2 : Int32)), .val (.int (0 : Int32)), .val (.ref a_IMPLICIT_VR_LITTLE_ENDIAN)] [(.int (0 : Int32))])) tg → Steps pP.tables eE below (s₁.setTop (entryFrame mM #[.null] 5)) tg := fun tg kg => pr11 _ (st14.trans kg)
  clear pr11 st14 X13 e9
  have hin16 : ¬ ((1 : Int32) < 0 ∨ cla5.slots.size ≤ ((1 : Int32)).toNatClampNeg) := inb_of Sa5 ⟨by decide, by decide⟩
  have hat16 : cla5.slots[((1 : Int32)).toNatClampNeg]? = some (.ref a_EXPLICIT_VR_LITTLE_ENDIAN) := Has.at Ha5 hin16 rfl
  have pr17 : ∀ tg, Steps pP.tables eE below (T14.setTop (mkF mM 21 #[.val .null, .val (.ref bv1), .val (.int (2 : Int32)), .val (.int (1 : Int32)), .val (.ref a_EXPLICIT_VR_LITTLE_ENDIAN)] [(.ref a_EXPLICIT_VR_LITTLE_ENDIAN)])) tg → Steps pP.tables eE below (s₁.setTop (entryFrame mM #[.null] 5)) tg := fun tg kg => pr15 _ (by
    show Steps pP.tables eE below (T14.setTop (mkF mM 28 #[.val .null, .val (.ref bv1), .val (.int (2 : Int32)), .val (.int (0 : Int32)), .val (.ref a_IMPLICIT_VR_LITTLE_ENDIAN)] [(.int (0 : Int32))])) _
    refine XS.ifYes X14.here hx rfl (pc0 := 28) (pc' := 34) rfl (hb hby d59_28) rfl ((if0 _ _).trans (teq (by decide)).1) (by decide) (by decide) ?_
    refine XS.iinc X14.here hx rfl (hb hby d59_34) rfl (l' := #[.val .null, .val (.ref bv1), .val (.int (2 : Int32)), .val (.int (1 : Int32)), .val (.ref a_IMPLICIT_VR_LITTLE_ENDIAN)]) rfl ?_
    refine XS.goto X14.here hx rfl (pc0 := 37) (pc' := 9) rfl (hb hby d59_37) (by decide) (by decide) ?_
    refine XS.iloadN X14.here hx rfl (hb hby d59_9) rfl ?_
    refine XS.iloadN X14.here hx rfl (hb hby d59_10) rfl ?_
    refine XS.icmpNo X14.here hx rfl (hb hby d59_11) rfl (tlt (by decide)).2.1 ?_
    show Steps pP.tables eE below (T14.setTop (mkF mM 14 #[.val .null, .val (.ref bv1), .val (.int (2 : Int32)), .val (.int (1 : Int32)), .val (.ref a_IMPLICIT_VR_LITTLE_ENDIAN)] [])) _
    refine XS.aloadN X14.here hx rfl (hb hby d59_14) rfl rfl ?_
    refine XS.iloadN X14.here hx rfl (hb hby d59_15) rfl ?_
    show Steps pP.tables eE below (T14.setTop (mkF mM 16 #[.val .null, .val (.ref bv1), .val (.int (2 : Int32)), .val (.int (1 : Int32)), .val (.ref a_IMPLICIT_VR_LITTLE_ENDIAN)] [(.int (1 : Int32)), (.ref bv1)])) _
    refine X14.aaload hx (j := (1 : Int32)) (v := (.ref a_EXPLICIT_VR_LITTLE_ENDIAN)) (by rw [e14]; exact Ara5.1) (State.isArrayOf_alike hZ.alike Ara5.2.1) rfl Ara5.2.2 hin16 hat16 (g := (mkF mM 16 #[.val .null, .val (.ref bv1), .val (.int (2 : Int32)), .val (.int (1 : Int32)), .val (.ref a_IMPLICIT_VR_LITTLE_ENDIAN)] [(.int (1 : Int32)), (.ref bv1)])) rfl rfl (hb hby d59_16) _ ?_
    show Steps pP.tables eE below (T14.setTop (mkF mM 17 #[.val .null, .val (.ref bv1), .val (.int (2 : Int32)), .val (.int (1 : Int32)), .val (.ref a_IMPLICIT_VR_LITTLE_ENDIAN)] [(.ref a_EXPLICIT_VR_LITTLE_ENDIAN)])) _
    refine XS.astore X14.here hx rfl (hb hby d59_17) rfl rfl (l' := #[.val .null, .val (.ref bv1), .val (.int (2 : Int32)), .val (.int (1 : Int32)), .val (.ref a_EXPLICIT_VR_LITTLE_ENDIAN)]) rfl ?_
    refine XS.aload X14.here hx rfl (hb hby d59_19) rfl rfl ?_
    exact kg)
  clear pr15
  obtain ⟨T18, X18, e18, st18⟩ := getF X14 hx hZ hown (host := "") (Or.inl (hw _ (List.mem_of_getElem? (i := 54) rfl))) Via.refl e14 (Fld.ext (c7).2 F_EXPLICIT_VR_LITTLE_ENDIAN) (g := (mkF mM 21 #[.val .null, .val (.ref bv1), .val (.int (2 : Int32)), .val (.int (1 : Int32)), .val (.ref a_EXPLICIT_VR_LITTLE_ENDIAN)] [(.ref a_EXPLICIT_VR_LITTLE_ENDIAN)])) rfl rfl (hb hby d59_21)
  have pr19 : ∀ tg, Steps pP.tables eE below (T18.setTop (mkF mM 24 #[.val .null, .val (.ref bv1), .val (.int (2 : Int32)), .val (.int (1 : Int32)), .val (.ref a_EXPLICIT_VR_LITTLE_ENDIAN)] [(.ref t_EXPLICIT_VR_LITTLE_ENDIAN)])) tg → Steps pP.tables eE below (s₁.setTop (entryFrame mM #[.null] 5)) tg := fun tg kg => pr17 _ (st18 _ kg)
  clear pr17 st18 X14 e14
  have pr20 : ∀ tg, Steps pP.tables eE below (T18.setTop (mkF mM 25 #[.val .null, .val (.ref bv1), .val (.int (2 : Int32)), .val (.int (1 : Int32)), .val (.ref a_EXPLICIT_VR_LITTLE_ENDIAN)] [.null, (.ref t_EXPLICIT_VR_LITTLE_ENDIAN)])) tg → Steps pP.tables eE below (s₁.setTop (entryFrame mM #[.null] 5)) tg := fun tg kg => pr19 _ (by
    show Steps pP.tables eE below (T18.setTop (mkF mM 24 #[.val .null, .val (.ref bv1), .val (.int (2 : Int32)), .val (.int (1 : Int32)), .val (.ref a_EXPLICIT_VR_LITTLE_ENDIAN)] [(.ref t_EXPLICIT_VR_LITTLE_ENDIAN)])) _
    refine XS.aloadN X18.here hx rfl (hb hby d59_24) rfl rfl ?_
    exact kg)
  clear pr19
  obtain ⟨Ls21, X21, N21⟩ := own_hide X18 N14
  clear X18 N14
  obtain ⟨cq22, kq22, qa22, qb22, qc22⟩ := isOf hZ e18 (Exa.ext (c7).2 Et_EXPLICIT_VR_LITTLE_ENDIAN)
  obtain ⟨_, _, ⟨T22, L22, kk22, nn22⟩, -, X22, ⟨Lc22, hQ22, l22, y22, z22⟩, st22⟩ := X21.virtualBack hx (y := (⟨"java/lang/String", "equals", "(Ljava/lang/Object;)Z"⟩ : MethodName)) (z := (⟨"java/lang/String", "equals", "(Ljava/lang/Object;)Z"⟩ : MethodName)) hown (mvT hZ (hw _ (List.mem_of_getElem? (i := 56) rfl))) (mvT hZ (hw _ (List.mem_of_getElem? (i := 57) rfl))) (notFace_of_selects (args := #[]) (mvT hZ (hw _ (List.mem_of_getElem? (i := 59) rfl)))) (mvT hZ (hw _ (List.mem_of_getElem? (i := 59) rfl))) (mvT hZ (hw _ (List.mem_of_getElem? (i := 58) rfl))) (by decide) (backOf (W := 0) (rm6 l Z a0 hw [] t_EXPLICIT_VR_LITTLE_ENDIAN T1.heap n0 c12) hZ (hw _ (List.mem_of_getElem? (i := 60) rfl)) (hw _ (List.mem_of_getElem? (i := 1) rfl)) (by decide) (by decide)) qa22 qc22 (g := (mkF mM 25 #[.val .null, .val (.ref bv1), .val (.int (2 : Int32)), .val (.int (1 : Int32)), .val (.ref a_EXPLICIT_VR_LITTLE_ENDIAN)] [.null, (.ref t_EXPLICIT_VR_LITTLE_ENDIAN)])) rfl (by rw [hml]; rfl) (Steps.refl _) (argsL := [.null]) (rest := []) (lenOf pd_10 rfl) rfl (by show 2 * 0 + _ ≤ _; exact Nat.le_of_eq rfl) (hb hby d59_25) (fun _ _ => ⟨rfl, e18, (by decide : 1 + 0 ≤ _), (by decide : 2 + 0 ≤ _)⟩)
  dsimp only [Pt.U, Pt.locs, Pt.cells, Pt.slots] at X22 l22 y22 z22 st22 hQ22
  subst l22 y22 z22
  obtain ⟨rfl, Nq22, e22⟩ := hQ22
  have N22 := Fr.app N21 Nq22
  have pr23 : ∀ tg, Steps pP.tables eE below (T22.setTop (mkF mM 28 #[.val .null, .val (.ref bv1), .val (.int (2 : Int32)), .val (.int (1 : Int32)), .val (.ref a_EXPLICIT_VR_LITTLE_ENDIAN)] [(.int (0 : Int32))])) tg → Steps pP.tables eE below (s₁.setTop (entryFrame mM #[.null] 5)) tg := fun tg kg => pr20 _ (st22.trans kg)
  clear pr20 st22 X21 e18
  have pr24 : ∀ tg, Steps pP.tables eE below (T22.setTop (mkF mM 41 #[.val .null, .val (.ref bv1), .val (.int (2 : Int32)), .val (.int (2 : Int32)), .val (.ref a_EXPLICIT_VR_LITTLE_ENDIAN)] [.null])) tg → Steps pP.tables eE below (s₁.setTop (entryFrame mM #[.null] 5)) tg := fun tg kg => pr23 _ (by
    show Steps pP.tables eE below (T22.setTop (mkF mM 28 #[.val .null, .val (.ref bv1), .val (.int (2 : Int32)), .val (.int (1 : Int32)), .val (.ref a_EXPLICIT_VR_LITTLE_ENDIAN)] [(.int (0 : Int32))])) _
    refine XS.ifYes X22.here hx rfl (pc0 := 28) (pc' := 34) rfl (hb hby d59_28) rfl ((if0 _ _).trans (teq (by decide)).1) (by decide) (by decide) ?_
    refine XS.iinc X22.here hx rfl (hb hby d59_34) rfl (l' := #[.val .null, .val (.ref bv1), .val (.int (2 : Int32)), .val (.int (2 : Int32)), .val (.ref a_EXPLICIT_VR_LITTLE_ENDIAN)]) rfl ?_
    refine XS.goto X22.here hx rfl (pc0 := 37) (pc' := 9) rfl (hb hby d59_37) (by decide) (by decide) ?_
    refine XS.iloadN X22.here hx rfl (hb hby d59_9) rfl ?_
    refine XS.iloadN X22.here hx rfl (hb hby d59_10) rfl ?_
    refine XS.icmpYes X22.here hx rfl (pc0 := 11) (pc' := 40) rfl (hb hby d59_11) rfl (flt (by decide)).2.1 (by decide) (by decide) ?_
    show Steps pP.tables eE below (T22.setTop (mkF mM 40 #[.val .null, .val (.ref bv1), .val (.int (2 : Int32)), .val (.int (2 : Int32)), .val (.ref a_EXPLICIT_VR_LITTLE_ENDIAN)] [])) _
    refine XS.aconstNull X22.here hx rfl (hb hby d59_40) ?_
    exact kg)
  clear pr23
  have c25 := (Keep.trans (Keep.refl h0 []) K1 all0)
  obtain ⟨fs, hr, hrun, hended, hW, hsame⟩ := X22.leave (v := some .null) (fun h => by rw [Bd.returns] at h; cases h)
  refine ⟨_, _, pr24 _ (retOut X22 hx (t := (.object "com/example/tesserae/tesserae/dicom/TransferSyntax")) Bd.returns rfl (Or.inr (Or.inr (Or.inr (Or.inr ⟨rfl, rfl, rfl⟩)))) (hb hby d59_41) hr), hrun, hended, _, _, rfl, ?_, ⟨_, rfl⟩, hW, hsame.mono (by decide) (by decide)⟩
  show Q59 Z cs al kal a_IMPLICIT_VR_LITTLE_ENDIAN t_IMPLICIT_VR_LITTLE_ENDIAN u_IMPLICIT_VR_LITTLE_ENDIAN k_IMPLICIT_VR_LITTLE_ENDIAN a_EXPLICIT_VR_LITTLE_ENDIAN t_EXPLICIT_VR_LITTLE_ENDIAN u_EXPLICIT_VR_LITTLE_ENDIAN k_EXPLICIT_VR_LITTLE_ENDIAN h0 n0 _ T22.heap _
  rw [e22]
  exact ⟨rfl, N22, c25⟩
theorem own_and (k : Int32) : 0 ≤ (k &&& (1 : Int32)).toInt ∧ (k &&& (1 : Int32)).toInt < 2 := by
  have e1 : (k &&& 1).toInt = k.toInt % 2 ^ 1 := Jvm.Kit.i32_mask k 1 (k := 1) (by decide) (by decide)
  omega
theorem own_and7 (k : Int32) : 0 ≤ (k &&& (7 : Int32)).toInt ∧ (k &&& (7 : Int32)).toInt < 8 := by
  have e1 : (k &&& 7).toInt = k.toInt % 2 ^ 3 := Jvm.Kit.i32_mask k 7 (k := 3) (by decide) (by decide)
  omega
theorem own_vs17 (x0 x1 x2 x3 x4 x5 x6 x7 x8 x9 x10 x11 x12 x13 x14 x15 x16 : Int32) : ∀ j : Nat, ∃ u : Int32, ([.int x0, .int x1, .int x2, .int x3, .int x4, .int x5, .int x6, .int x7, .int x8, .int x9, .int x10, .int x11, .int x12, .int x13, .int x14, .int x15, .int x16] : List Value).getD j (.int (0 : Int32)) = .int u := fun j => by
  match j with
  | 0 => exact ⟨_, rfl⟩
  | 1 => exact ⟨_, rfl⟩
  | 2 => exact ⟨_, rfl⟩
  | 3 => exact ⟨_, rfl⟩
  | 4 => exact ⟨_, rfl⟩
  | 5 => exact ⟨_, rfl⟩
  | 6 => exact ⟨_, rfl⟩
  | 7 => exact ⟨_, rfl⟩
  | 8 => exact ⟨_, rfl⟩
  | 9 => exact ⟨_, rfl⟩
  | 10 => exact ⟨_, rfl⟩
  | 11 => exact ⟨_, rfl⟩
  | 12 => exact ⟨_, rfl⟩
  | 13 => exact ⟨_, rfl⟩
  | 14 => exact ⟨_, rfl⟩
  | 15 => exact ⟨_, rfl⟩
  | 16 => exact ⟨_, rfl⟩
  | j + 17 => exact ⟨0, rfl⟩
theorem own_vs19 (x0 x1 x2 x3 x4 x5 x6 x7 x8 x9 x10 x11 x12 x13 x14 x15 x16 x17 x18 : Int32) : ∀ j : Nat, ∃ u : Int32, ([.int x0, .int x1, .int x2, .int x3, .int x4, .int x5, .int x6, .int x7, .int x8, .int x9, .int x10, .int x11, .int x12, .int x13, .int x14, .int x15, .int x16, .int x17, .int x18] : List Value).getD j (.int (0 : Int32)) = .int u := fun j => by
  match j with
  | 0 => exact ⟨_, rfl⟩
  | 1 => exact ⟨_, rfl⟩
  | 2 => exact ⟨_, rfl⟩
  | 3 => exact ⟨_, rfl⟩
  | 4 => exact ⟨_, rfl⟩
  | 5 => exact ⟨_, rfl⟩
  | 6 => exact ⟨_, rfl⟩
  | 7 => exact ⟨_, rfl⟩
  | 8 => exact ⟨_, rfl⟩
  | 9 => exact ⟨_, rfl⟩
  | 10 => exact ⟨_, rfl⟩
  | 11 => exact ⟨_, rfl⟩
  | 12 => exact ⟨_, rfl⟩
  | 13 => exact ⟨_, rfl⟩
  | 14 => exact ⟨_, rfl⟩
  | 15 => exact ⟨_, rfl⟩
  | 16 => exact ⟨_, rfl⟩
  | 17 => exact ⟨_, rfl⟩
  | 18 => exact ⟨_, rfl⟩
  | j + 19 => exact ⟨0, rfl⟩
theorem pd_11 : parseMethodDescriptor "(Ljava/lang/String;)Lcom/example/tesserae/tesserae/dicom/TransferSyntax;" = some ⟨[(.object "java/lang/String")], some (.object "com/example/tesserae/tesserae/dicom/TransferSyntax")⟩ := by decide +kernel
theorem pd_12 : parseMethodDescriptor "(I)[C" = some ⟨[.int], some (.array .char)⟩ := by decide +kernel
theorem pd_13 : parseMethodDescriptor "([CLjava/lang/String;ICCC)V" = some ⟨[(.array .char), (.object "java/lang/String"), .int, .char, .char, .char], none⟩ := by decide +kernel
theorem pd_14 : parseMethodDescriptor "([C)V" = some ⟨[(.array .char)], none⟩ := by decide +kernel
theorem ef_0 (mM : MethodId) (x0 : Int32) (x1 : Int32) (x2 : Int32) (x3 : Int32) (x4 : Int32) : entryFrame mM #[(.int x0), (.int x1), (.int x2), (.int x3), (.int x4)] maxLocals = mkF mM 0 #[.val (.int x0), .val (.int x1), .val (.int x2), .val (.int x3), .val (.int x4), .unset, .unset, .unset, .unset, .unset, .unset, .unset, .unset, .unset] [] := by first | (simp [entryFrame, mkF, argsToLocals, Value.category, maxLocals]; done) | rfl
def Q0 (Z : State) (p1 : Int32) (p2 : Int32) (p3 : Int32) (p4 : Int32) (p5 : Int32) (cs : Int32) (sf : Value) (al : Addr) (kal : ClassId) (a_IMPLICIT_VR_LITTLE_ENDIAN : Addr) (t_IMPLICIT_VR_LITTLE_ENDIAN : Addr) (u_IMPLICIT_VR_LITTLE_ENDIAN : Addr) (k_IMPLICIT_VR_LITTLE_ENDIAN : ClassId) (a_EXPLICIT_VR_LITTLE_ENDIAN : Addr) (t_EXPLICIT_VR_LITTLE_ENDIAN : Addr) (u_EXPLICIT_VR_LITTLE_ENDIAN : Addr) (k_EXPLICIT_VR_LITTLE_ENDIAN : ClassId) (h0 : Heap) (n0 : Nat) (v : Option Value) (h : Heap) (L : List Loc) : Prop := v = some (.int (1 : Int32)) ∧ Fr n0 L
set_option maxRecDepth 65536 in
set_option maxHeartbeats 40000000 in
theorem rm0 (l : Launch) (Z : State) (a0 : Array Value) (hw : ∀ d ∈ tables_1, d.before a0 Z = true) (ws : List Jvm.Cond) (p1 : Int32) (p2 : Int32) (p3 : Int32) (p4 : Int32) (p5 : Int32) (cs : Int32) (sf : Value) (al : Addr) (kal : ClassId) (a_IMPLICIT_VR_LITTLE_ENDIAN : Addr) (t_IMPLICIT_VR_LITTLE_ENDIAN : Addr) (u_IMPLICIT_VR_LITTLE_ENDIAN : Addr) (k_IMPLICIT_VR_LITTLE_ENDIAN : ClassId) (a_EXPLICIT_VR_LITTLE_ENDIAN : Addr) (t_EXPLICIT_VR_LITTLE_ENDIAN : Addr) (u_EXPLICIT_VR_LITTLE_ENDIAN : Addr) (k_EXPLICIT_VR_LITTLE_ENDIAN : ClassId) (h0 : Heap) (n0 : Nat) (Z0 : n0 ≤ h0.size) (O : Old Z n0 h0) (HH : ∀ p ∈ consts_1, Jvm.Lit.constHeld Z p.1 p.2) (hcw : Jvm.Lit.compactW.before a0 Z = true) (S_cs : Sta Z Z.heap "java/lang/String" "COMPACT_STRINGS" "Z" (.int cs)) (hcs : ¬ cs = (0 : Int32)) (S_sf : Sta Z Z.heap "jdk/internal/util/Preconditions" "SIOOBE_FORMATTER" "Ljava/util/function/BiFunction;" sf) (rsf : sf.isRef = true) (S_ALL : Sta Z Z.heap "com/example/tesserae/tesserae/dicom/TransferSyntax" "$VALUES" "[Lcom/example/tesserae/tesserae/dicom/TransferSyntax;" (.ref al)) (E_ALL : Exa Z Z.heap al "[Lcom/example/tesserae/tesserae/dicom/TransferSyntax;") (V_ALL : Arv Z Z.heap al kal (.object "com/example/tesserae/tesserae/dicom/TransferSyntax") (2 : Int32) [(.ref a_IMPLICIT_VR_LITTLE_ENDIAN), (.ref a_EXPLICIT_VR_LITTLE_ENDIAN)] .null) (S_IMPLICIT_VR_LITTLE_ENDIAN : Sta Z Z.heap "com/example/tesserae/tesserae/dicom/TransferSyntax" "IMPLICIT_VR_LITTLE_ENDIAN" "Lcom/example/tesserae/tesserae/dicom/TransferSyntax;" (.ref a_IMPLICIT_VR_LITTLE_ENDIAN)) (E_IMPLICIT_VR_LITTLE_ENDIAN : Exa Z Z.heap a_IMPLICIT_VR_LITTLE_ENDIAN "com/example/tesserae/tesserae/dicom/TransferSyntax") (F_IMPLICIT_VR_LITTLE_ENDIAN : Fld Z Z.heap a_IMPLICIT_VR_LITTLE_ENDIAN "com/example/tesserae/tesserae/dicom/TransferSyntax" "uid" "Ljava/lang/String;" (.ref t_IMPLICIT_VR_LITTLE_ENDIAN)) (Et_IMPLICIT_VR_LITTLE_ENDIAN : Exa Z Z.heap t_IMPLICIT_VR_LITTLE_ENDIAN "java/lang/String") (Fc_IMPLICIT_VR_LITTLE_ENDIAN : Fld Z Z.heap t_IMPLICIT_VR_LITTLE_ENDIAN "java/lang/String" "coder" "B" (.int (0 : Int32))) (Fv_IMPLICIT_VR_LITTLE_ENDIAN : Fld Z Z.heap t_IMPLICIT_VR_LITTLE_ENDIAN "java/lang/String" "value" "[B" (.ref u_IMPLICIT_VR_LITTLE_ENDIAN)) (Vt_IMPLICIT_VR_LITTLE_ENDIAN : Arv Z Z.heap u_IMPLICIT_VR_LITTLE_ENDIAN k_IMPLICIT_VR_LITTLE_ENDIAN .byte (17 : Int32) [(.int (49 : Int32)), (.int (46 : Int32)), (.int (50 : Int32)), (.int (46 : Int32)), (.int (56 : Int32)), (.int (52 : Int32)), (.int (48 : Int32)), (.int (46 : Int32)), (.int (49 : Int32)), (.int (48 : Int32)), (.int (48 : Int32)), (.int (48 : Int32)), (.int (56 : Int32)), (.int (46 : Int32)), (.int (49 : Int32)), (.int (46 : Int32)), (.int (50 : Int32))] (.int (0 : Int32))) (S_EXPLICIT_VR_LITTLE_ENDIAN : Sta Z Z.heap "com/example/tesserae/tesserae/dicom/TransferSyntax" "EXPLICIT_VR_LITTLE_ENDIAN" "Lcom/example/tesserae/tesserae/dicom/TransferSyntax;" (.ref a_EXPLICIT_VR_LITTLE_ENDIAN)) (E_EXPLICIT_VR_LITTLE_ENDIAN : Exa Z Z.heap a_EXPLICIT_VR_LITTLE_ENDIAN "com/example/tesserae/tesserae/dicom/TransferSyntax") (F_EXPLICIT_VR_LITTLE_ENDIAN : Fld Z Z.heap a_EXPLICIT_VR_LITTLE_ENDIAN "com/example/tesserae/tesserae/dicom/TransferSyntax" "uid" "Ljava/lang/String;" (.ref t_EXPLICIT_VR_LITTLE_ENDIAN)) (Et_EXPLICIT_VR_LITTLE_ENDIAN : Exa Z Z.heap t_EXPLICIT_VR_LITTLE_ENDIAN "java/lang/String") (Fc_EXPLICIT_VR_LITTLE_ENDIAN : Fld Z Z.heap t_EXPLICIT_VR_LITTLE_ENDIAN "java/lang/String" "coder" "B" (.int (0 : Int32))) (Fv_EXPLICIT_VR_LITTLE_ENDIAN : Fld Z Z.heap t_EXPLICIT_VR_LITTLE_ENDIAN "java/lang/String" "value" "[B" (.ref u_EXPLICIT_VR_LITTLE_ENDIAN)) (Vt_EXPLICIT_VR_LITTLE_ENDIAN : Arv Z Z.heap u_EXPLICIT_VR_LITTLE_ENDIAN k_EXPLICIT_VR_LITTLE_ENDIAN .byte (19 : Int32) [(.int (49 : Int32)), (.int (46 : Int32)), (.int (50 : Int32)), (.int (46 : Int32)), (.int (56 : Int32)), (.int (52 : Int32)), (.int (48 : Int32)), (.int (46 : Int32)), (.int (49 : Int32)), (.int (48 : Int32)), (.int (48 : Int32)), (.int (48 : Int32)), (.int (56 : Int32)), (.int (46 : Int32)), (.int (49 : Int32)), (.int (46 : Int32)), (.int (50 : Int32)), (.int (46 : Int32)), (.int (49 : Int32))] (.int (0 : Int32))) :
    MetFree l x (head1 (Jvm.Cond.code x code maxLocals ret :: ws) room_1) (fun aA uU => aA = #[(.int p1), (.int p2), (.int p3), (.int p4), (.int p5)] ∧ uU = Z ∧ uU.heap = h0) (fun _ _ _ _ _ => True) (fun _ uU oO uU' => ∃ vV lL, oO = .returned vV ∧ Q0 Z p1 p2 p3 p4 p5 cs sf al kal a_IMPLICIT_VR_LITTLE_ENDIAN t_IMPLICIT_VR_LITTLE_ENDIAN u_IMPLICIT_VR_LITTLE_ENDIAN k_IMPLICIT_VR_LITTLE_ENDIAN a_EXPLICIT_VR_LITTLE_ENDIAN t_EXPLICIT_VR_LITTLE_ENDIAN u_EXPLICIT_VR_LITTLE_ENDIAN k_EXPLICIT_VR_LITTLE_ENDIAN h0 n0 vV uU'.heap lL ∧ ReturnedEndW uU oO uU' lL room_1.cells room_1.slots) := by
  refine MetFree.of_bodySF (plainFor_of_name pn_3) hisR ?_
  intro pP eE sS mM args below meth cC s₁ Bd hml0 hP hK
  obtain ⟨rfl, hUZ, hh⟩ := hP
  have hZ : Z.Warmed39 sS.vm := by rw [hUZ]; exact State.Warmed39.refl _
  have hS : sS.Since sS.vm 0 := (State.WarmedH.refl sS).since 0
  have wS : ∀ a ∈ Bundle.stringAtoms, a.before a0 Z = true := fun a ha => hw a ((by decide +kernel : ∀ a ∈ Bundle.stringAtoms, a ∈ tables_1) a ha)
  have hEW := own_ew hw
  have cr0 : CHr Z consts_1 sS.vm h0 sS.vm h0 := by rw [← hh, hUZ]; exact CHr.refl (CHv.start hEW HH hcw (hw _ (List.mem_of_getElem? (i := 3) rfl)) (hw _ (List.mem_of_getElem? (i := 2) rfl)))
  have hx := Bd.exec
  have hby := Bd.bytes
  have hml : cC.maxLocals = 14 := hml0
  have hown : sS.vm.findClass "com/example/tesserae/tesserae/dicom/TransferSyntaxForUidPinLaw" = some mM.cls := findClass_of_methodNamed Bd.named
  have hnm := (name_of_methodNamed Bd.named Bd.method).1
  have X0 : Stand pP l eE room_1 sS mM #[(.int p1), (.int p2), (.int p3), (.int p4), (.int p5)] below meth cC s₁ [] 0 0 := Stand.of_body Bd
  have e0 : s₁.heap = h0 := by rw [← hh, Bd.state]; rfl
  have N0 := Fr.nil n0
  have pre0 : ∀ tg, Steps pP.tables eE below (s₁.setTop (mkF mM 0 #[.val (.int p1), .val (.int p2), .val (.int p3), .val (.int p4), .val (.int p5), .unset, .unset, .unset, .unset, .unset, .unset, .unset, .unset, .unset] [])) tg → Steps pP.tables eE below (s₁.setTop (entryFrame mM #[(.int p1), (.int p2), (.int p3), (.int p4), (.int p5)] maxLocals)) tg := fun tg kg => castTop (ef_0 mM p1 p2 p3 p4 p5) kg
  have pr1 : ∀ tg, Steps pP.tables eE below (s₁.setTop (mkF mM 5 #[.val (.int p1), .val (.int p2), .val (.int p3), .val (.int p4), .val (.int p5), .unset, .unset, .unset, .unset, .unset, .unset, .unset, .unset, .unset] [(.int (((p1.toUInt32 >>> ((3 : Int32) &&& 31).toUInt32).toInt32) &&& (1 : Int32)))])) tg → Steps pP.tables eE below (s₁.setTop (entryFrame mM #[(.int p1), (.int p2), (.int p3), (.int p4), (.int p5)] maxLocals)) tg := fun tg kg => pre0 _ (by
    show Steps pP.tables eE below (s₁.setTop (mkF mM 0 #[.val (.int p1), .val (.int p2), .val (.int p3), .val (.int p4), .val (.int p5), .unset, .unset, .unset, .unset, .unset, .unset, .unset, .unset, .unset] [])) _
    refine XS.iloadN X0.here hx rfl (hb hby at_0) rfl ?_
    refine XS.iconst X0.here hx rfl (hb hby at_1) ?_
    refine XS.iushr X0.here hx rfl (hb hby at_2) rfl ?_
    refine XS.iconst X0.here hx rfl (hb hby at_3) ?_
    refine XS.iand X0.here hx rfl (hb hby at_4) rfl ?_
    exact kg)
  clear pre0
  obtain ⟨z2, hz2⟩ : ∃ z, z = (((p1.toUInt32 >>> ((3 : Int32) &&& 31).toUInt32).toInt32) &&& (1 : Int32)) := ⟨_, rfl⟩
  have pr3 : ∀ tg, Steps pP.tables eE below (s₁.setTop (mkF mM 5 #[.val (.int p1), .val (.int p2), .val (.int p3), .val (.int p4), .val (.int p5), .unset, .unset, .unset, .unset, .unset, .unset, .unset, .unset, .unset] [(.int z2)])) tg → Steps pP.tables eE below (s₁.setTop (entryFrame mM #[(.int p1), (.int p2), (.int p3), (.int p4), (.int p5)] maxLocals)) tg := by
    rw [hz2]; exact pr1
  have hk2 : 0 ≤ z2.toInt ∧ z2.toInt < 2 := by rw [hz2]; exact own_and _
  obtain ⟨a4, T4, h4, kk4, b4, kc4, nv, vs, X4, e4, E4, hS, hk4, hZ, hown, Es4, Fc4, Fv4, V4, A4, hvs, st4⟩ : ∃ (a4 : Addr) (T : State) (h : Heap) (kk : Nat) (b : Addr) (kc : ClassId) (nv : Int32) (vs : List Value), Stand pP l eE room_1 (sS.setVm T.vm) mM #[(.int p1), (.int p2), (.int p3), (.int p4), (.int p5)] below meth cC T [] 2 80 ∧ T.heap = h ∧ Ext h0 h ∧ sS.Since T.vm kk ∧ kk ≤ h.size ∧ Z.Warmed39 (sS.setVm T.vm).vm ∧ (sS.setVm T.vm).vm.findClass "com/example/tesserae/tesserae/dicom/TransferSyntaxForUidPinLaw" = some mM.cls ∧ Exa Z h a4 "java/lang/String" ∧ Fld Z h a4 "java/lang/String" "coder" "B" (.int 0) ∧ Fld Z h a4 "java/lang/String" "value" "[B" (.ref b) ∧ Arv Z h b kc .byte nv vs (.int 0) ∧ CHr Z consts_1 sS.vm h0 T.vm h ∧ (∀ j : Nat, ∃ u : Int32, vs.getD j (.int (0 : Int32)) = .int u) ∧ ∀ tg, Steps pP.tables eE below (T.setTop (mkF mM 15 #[.val (.int p1), .val (.int p2), .val (.int p3), .val (.int p4), .val (.int p5), .unset, .unset, .unset, .unset, .unset, .unset, .unset, .unset, .unset] [(.ref a4)])) tg → Steps pP.tables eE below (s₁.setTop (entryFrame mM #[(.int p1), (.int p2), (.int p3), (.int p4), (.int p5)] maxLocals)) tg := by
    rcases own_2 hk2.1 hk2.2 with rfl | rfl
    ·
      have pr5 : ∀ tg, Steps pP.tables eE below (s₁.setTop (mkF mM 8 #[.val (.int p1), .val (.int p2), .val (.int p3), .val (.int p4), .val (.int p5), .unset, .unset, .unset, .unset, .unset, .unset, .unset, .unset, .unset] [])) tg → Steps pP.tables eE below (s₁.setTop (entryFrame mM #[(.int p1), (.int p2), (.int p3), (.int p4), (.int p5)] maxLocals)) tg := fun tg kg => pr3 _ (by
        show Steps pP.tables eE below (s₁.setTop (mkF mM 5 #[.val (.int p1), .val (.int p2), .val (.int p3), .val (.int p4), .val (.int p5), .unset, .unset, .unset, .unset, .unset, .unset, .unset, .unset, .unset] [(.int (0 : Int32))])) _
        refine XS.ifNo X0.here hx rfl (hb hby at_5) rfl ((if0 _ _).trans (teq (by decide)).2) ?_
        exact kg)
      clear pr3
      obtain ⟨a6, T6, h6, kk6, b6, kc6, X6, e6, E6, hS, hk6, hZ, hown, Es6, Fc6, Fv6, V6, la6, lb6, A6, -, hn6, st6⟩ := ldcCH (s := sS) (vm0 := sS.vm) (EL := consts_1) X0 hx hZ hown (hw _ (List.mem_of_getElem? (i := 0) rfl)) wS e0 hS (Nat.zero_le _) hEW (List.mem_of_getElem? (i := 0) rfl) cr0.1 (vs := [(.int (49 : Int32)), (.int (46 : Int32)), (.int (50 : Int32)), (.int (46 : Int32)), (.int (56 : Int32)), (.int (52 : Int32)), (.int (48 : Int32)), (.int (46 : Int32)), (.int (49 : Int32)), (.int (48 : Int32)), (.int (48 : Int32)), (.int (48 : Int32)), (.int (56 : Int32)), (.int (46 : Int32)), (.int (49 : Int32)), (.int (46 : Int32)), (.int (50 : Int32))]) (z := (17 : Int32)) ⟨by decide, rfl⟩ (by decide) rfl (g := (mkF mM 8 #[.val (.int p1), .val (.int p2), .val (.int p3), .val (.int p4), .val (.int p5), .unset, .unset, .unset, .unset, .unset, .unset, .unset, .unset, .unset] [])) rfl (hb hby at_8) (n := 76) (by decide) (by decide) (by decide) (by decide)
      have cr7 := CHr.trans cr0 A6
      have pr8 : ∀ tg, Steps pP.tables eE below (T6.setTop (mkF mM 10 #[.val (.int p1), .val (.int p2), .val (.int p3), .val (.int p4), .val (.int p5), .unset, .unset, .unset, .unset, .unset, .unset, .unset, .unset, .unset] [(.ref a6)])) tg → Steps pP.tables eE below (s₁.setTop (entryFrame mM #[(.int p1), (.int p2), (.int p3), (.int p4), (.int p5)] maxLocals)) tg := fun tg kg => pr5 _ (st6 _ kg)
      clear pr5 st6 X0 e0
      have pr9 : ∀ tg, Steps pP.tables eE below (T6.setTop (mkF mM 15 #[.val (.int p1), .val (.int p2), .val (.int p3), .val (.int p4), .val (.int p5), .unset, .unset, .unset, .unset, .unset, .unset, .unset, .unset, .unset] [(.ref a6)])) tg → Steps pP.tables eE below (s₁.setTop (entryFrame mM #[(.int p1), (.int p2), (.int p3), (.int p4), (.int p5)] maxLocals)) tg := fun tg kg => pr8 _ (by
        show Steps pP.tables eE below (T6.setTop (mkF mM 10 #[.val (.int p1), .val (.int p2), .val (.int p3), .val (.int p4), .val (.int p5), .unset, .unset, .unset, .unset, .unset, .unset, .unset, .unset, .unset] [(.ref a6)])) _
        refine XS.goto X6.here hx rfl (pc0 := 10) (pc' := 15) rfl (hb hby at_10) (by decide) (by decide) ?_
        exact kg)
      clear pr8
      exact ⟨a6, T6, h6, _, b6, _, (17 : Int32), [(.int (49 : Int32)), (.int (46 : Int32)), (.int (50 : Int32)), (.int (46 : Int32)), (.int (56 : Int32)), (.int (52 : Int32)), (.int (48 : Int32)), (.int (46 : Int32)), (.int (49 : Int32)), (.int (48 : Int32)), (.int (48 : Int32)), (.int (48 : Int32)), (.int (56 : Int32)), (.int (46 : Int32)), (.int (49 : Int32)), (.int (46 : Int32)), (.int (50 : Int32))], X6, e6, E6, hS, hk6, hZ, hown, Es6, Fc6, Fv6, V6, A6, own_vs17 _  _  _  _  _  _  _  _  _  _  _  _  _  _  _  _  _ , pr9⟩
    ·
      have pr10 : ∀ tg, Steps pP.tables eE below (s₁.setTop (mkF mM 13 #[.val (.int p1), .val (.int p2), .val (.int p3), .val (.int p4), .val (.int p5), .unset, .unset, .unset, .unset, .unset, .unset, .unset, .unset, .unset] [])) tg → Steps pP.tables eE below (s₁.setTop (entryFrame mM #[(.int p1), (.int p2), (.int p3), (.int p4), (.int p5)] maxLocals)) tg := fun tg kg => pr3 _ (by
        show Steps pP.tables eE below (s₁.setTop (mkF mM 5 #[.val (.int p1), .val (.int p2), .val (.int p3), .val (.int p4), .val (.int p5), .unset, .unset, .unset, .unset, .unset, .unset, .unset, .unset, .unset] [(.int (1 : Int32))])) _
        refine XS.ifYes X0.here hx rfl (pc0 := 5) (pc' := 13) rfl (hb hby at_5) rfl ((if0 _ _).trans (feq (by decide)).2) (by decide) (by decide) ?_
        exact kg)
      clear pr3
      obtain ⟨a11, T11, h11, kk11, b11, kc11, X11, e11, E11, hS, hk11, hZ, hown, Es11, Fc11, Fv11, V11, la11, lb11, A11, -, hn11, st11⟩ := ldcCH (s := sS) (vm0 := sS.vm) (EL := consts_1) X0 hx hZ hown (hw _ (List.mem_of_getElem? (i := 68) rfl)) wS e0 hS (Nat.zero_le _) hEW (List.mem_of_getElem? (i := 1) rfl) cr0.1 (vs := [(.int (49 : Int32)), (.int (46 : Int32)), (.int (50 : Int32)), (.int (46 : Int32)), (.int (56 : Int32)), (.int (52 : Int32)), (.int (48 : Int32)), (.int (46 : Int32)), (.int (49 : Int32)), (.int (48 : Int32)), (.int (48 : Int32)), (.int (48 : Int32)), (.int (56 : Int32)), (.int (46 : Int32)), (.int (49 : Int32)), (.int (46 : Int32)), (.int (50 : Int32)), (.int (46 : Int32)), (.int (49 : Int32))]) (z := (19 : Int32)) ⟨by decide, rfl⟩ (by decide) rfl (g := (mkF mM 13 #[.val (.int p1), .val (.int p2), .val (.int p3), .val (.int p4), .val (.int p5), .unset, .unset, .unset, .unset, .unset, .unset, .unset, .unset, .unset] [])) rfl (hb hby at_13) (n := 76) (by decide) (by decide) (by decide) (by decide)
      have cr12 := CHr.trans cr0 A11
      have pr13 : ∀ tg, Steps pP.tables eE below (T11.setTop (mkF mM 15 #[.val (.int p1), .val (.int p2), .val (.int p3), .val (.int p4), .val (.int p5), .unset, .unset, .unset, .unset, .unset, .unset, .unset, .unset, .unset] [(.ref a11)])) tg → Steps pP.tables eE below (s₁.setTop (entryFrame mM #[(.int p1), (.int p2), (.int p3), (.int p4), (.int p5)] maxLocals)) tg := fun tg kg => pr10 _ (st11 _ kg)
      clear pr10 st11 X0 e0
      exact ⟨a11, T11, h11, _, b11, _, (19 : Int32), [(.int (49 : Int32)), (.int (46 : Int32)), (.int (50 : Int32)), (.int (46 : Int32)), (.int (56 : Int32)), (.int (52 : Int32)), (.int (48 : Int32)), (.int (46 : Int32)), (.int (49 : Int32)), (.int (48 : Int32)), (.int (48 : Int32)), (.int (48 : Int32)), (.int (56 : Int32)), (.int (46 : Int32)), (.int (49 : Int32)), (.int (46 : Int32)), (.int (50 : Int32)), (.int (46 : Int32)), (.int (49 : Int32))], X11, e11, E11, hS, hk11, hZ, hown, Es11, Fc11, Fv11, V11, A11, own_vs19 _  _  _  _  _  _  _  _  _  _  _  _  _  _  _  _  _  _  _ , pr13⟩
  have cr14 := CHr.trans cr0 A4
  have pr15 : ∀ tg, Steps pP.tables eE below (T4.setTop (mkF mM 23 #[.val (.int p1), .val (.int p2), .val (.int p3), .val (.int p4), .val (.int p5), .val (.ref a4), .val (.int (p1 &&& (7 : Int32))), .unset, .unset, .unset, .unset, .unset, .unset, .unset] [])) tg → Steps pP.tables eE below (s₁.setTop (entryFrame mM #[(.int p1), (.int p2), (.int p3), (.int p4), (.int p5)] maxLocals)) tg := fun tg kg => st4 _ (by
    show Steps pP.tables eE below (T4.setTop (mkF mM 15 #[.val (.int p1), .val (.int p2), .val (.int p3), .val (.int p4), .val (.int p5), .unset, .unset, .unset, .unset, .unset, .unset, .unset, .unset, .unset] [(.ref a4)])) _
    refine XS.astore X4.here hx rfl (hb hby at_15) rfl rfl (l' := #[.val (.int p1), .val (.int p2), .val (.int p3), .val (.int p4), .val (.int p5), .val (.ref a4), .unset, .unset, .unset, .unset, .unset, .unset, .unset, .unset]) rfl ?_
    refine XS.iloadN X4.here hx rfl (hb hby at_17) rfl ?_
    refine XS.bipush X4.here hx rfl (hb hby at_18) ?_
    refine XS.iand X4.here hx rfl (hb hby at_20) rfl ?_
    refine XS.istore X4.here hx rfl (hb hby at_21) rfl (l' := #[.val (.int p1), .val (.int p2), .val (.int p3), .val (.int p4), .val (.int p5), .val (.ref a4), .val (.int (p1 &&& (7 : Int32))), .unset, .unset, .unset, .unset, .unset, .unset, .unset]) rfl ?_
    exact kg)
  clear st4
  obtain ⟨z16, hz16⟩ : ∃ z, z = (p1 &&& (7 : Int32)) := ⟨_, rfl⟩
  have pr17 : ∀ tg, Steps pP.tables eE below (T4.setTop (mkF mM 23 #[.val (.int p1), .val (.int p2), .val (.int p3), .val (.int p4), .val (.int p5), .val (.ref a4), .val (.int z16), .unset, .unset, .unset, .unset, .unset, .unset, .unset] [])) tg → Steps pP.tables eE below (s₁.setTop (entryFrame mM #[(.int p1), (.int p2), (.int p3), (.int p4), (.int p5)] maxLocals)) tg := by
    rw [hz16]; exact pr15
  have hk8 : 0 ≤ z16.toInt ∧ z16.toInt < 8 := by rw [hz16]; exact own_and7 _
  by_cases hz7 : z16 = (7 : Int32)
  ·
    subst hz7
    have c18 := (Old.ext O E4)
    have pr19 : ∀ tg, Steps pP.tables eE below (T4.setTop (mkF mM 129 #[.val (.int p1), .val (.int p2), .val (.int p3), .val (.int p4), .val (.int p5), .val (.ref a4), .val (.int (7 : Int32)), .val .null, .unset, .unset, .unset, .unset, .unset, .unset] [.null])) tg → Steps pP.tables eE below (s₁.setTop (entryFrame mM #[(.int p1), (.int p2), (.int p3), (.int p4), (.int p5)] maxLocals)) tg := fun tg kg => pr17 _ (by
      show Steps pP.tables eE below (T4.setTop (mkF mM 23 #[.val (.int p1), .val (.int p2), .val (.int p3), .val (.int p4), .val (.int p5), .val (.ref a4), .val (.int (7 : Int32)), .unset, .unset, .unset, .unset, .unset, .unset, .unset] [])) _
      refine XS.iload X4.here hx rfl (hb hby at_23) rfl ?_
      refine XS.bipush X4.here hx rfl (hb hby at_25) ?_
      refine XS.icmpNo X4.here hx rfl (hb hby at_27) rfl (teq (by decide)).2 ?_
      refine XS.aconstNull X4.here hx rfl (hb hby at_30) ?_
      refine XS.astore X4.here hx rfl (hb hby at_31) rfl rfl (l' := #[.val (.int p1), .val (.int p2), .val (.int p3), .val (.int p4), .val (.int p5), .val (.ref a4), .val (.int (7 : Int32)), .val .null, .unset, .unset, .unset, .unset, .unset, .unset]) rfl ?_
      refine XS.goto X4.here hx rfl (pc0 := 33) (pc' := 127) rfl (hb hby at_33) (by decide) (by decide) ?_
      show Steps pP.tables eE below (T4.setTop (mkF mM 127 #[.val (.int p1), .val (.int p2), .val (.int p3), .val (.int p4), .val (.int p5), .val (.ref a4), .val (.int (7 : Int32)), .val .null, .unset, .unset, .unset, .unset, .unset, .unset] [])) _
      refine XS.aload X4.here hx rfl (hb hby at_127) rfl rfl ?_
      exact kg)
    clear pr17
    have c20 := (Nat.le_trans Z0 E4.1)
    obtain ⟨_, _, ⟨T21, L21, kk21, nn21⟩, -, X21, ⟨Lc21, hQ21, l21, y21, z21⟩, st21⟩ := Jvm.LawKit.callS X4 hx (y := (⟨"com/example/tesserae/tesserae/dicom/TransferSyntax", "forUid", "(Ljava/lang/String;)Lcom/example/tesserae/tesserae/dicom/TransferSyntax;"⟩ : MethodName)) hown (mvT hZ (hw _ (List.mem_of_getElem? (i := 33) rfl))) (mvT hZ (hw _ (List.mem_of_getElem? (i := 34) rfl))) (mvT hZ (hw _ (List.mem_of_getElem? (i := 35) rfl))) (mvT hZ (hw _ (List.mem_of_getElem? (i := 36) rfl))) (by decide) (backOf (W := 0) (rm59 l Z a0 hw [] cs al kal a_IMPLICIT_VR_LITTLE_ENDIAN t_IMPLICIT_VR_LITTLE_ENDIAN u_IMPLICIT_VR_LITTLE_ENDIAN k_IMPLICIT_VR_LITTLE_ENDIAN a_EXPLICIT_VR_LITTLE_ENDIAN t_EXPLICIT_VR_LITTLE_ENDIAN u_EXPLICIT_VR_LITTLE_ENDIAN k_EXPLICIT_VR_LITTLE_ENDIAN h4 n0 c20 c18 S_cs hcs S_ALL E_ALL V_ALL S_IMPLICIT_VR_LITTLE_ENDIAN E_IMPLICIT_VR_LITTLE_ENDIAN F_IMPLICIT_VR_LITTLE_ENDIAN Et_IMPLICIT_VR_LITTLE_ENDIAN Fc_IMPLICIT_VR_LITTLE_ENDIAN Fv_IMPLICIT_VR_LITTLE_ENDIAN Vt_IMPLICIT_VR_LITTLE_ENDIAN S_EXPLICIT_VR_LITTLE_ENDIAN E_EXPLICIT_VR_LITTLE_ENDIAN F_EXPLICIT_VR_LITTLE_ENDIAN Et_EXPLICIT_VR_LITTLE_ENDIAN Fc_EXPLICIT_VR_LITTLE_ENDIAN Fv_EXPLICIT_VR_LITTLE_ENDIAN Vt_EXPLICIT_VR_LITTLE_ENDIAN) hZ (hw _ (List.mem_of_getElem? (i := 36) rfl)) (hw _ (List.mem_of_getElem? (i := 35) rfl)) (by decide) (by decide)) (g := (mkF mM 129 #[.val (.int p1), .val (.int p2), .val (.int p3), .val (.int p4), .val (.int p5), .val (.ref a4), .val (.int (7 : Int32)), .val .null, .unset, .unset, .unset, .unset, .unset, .unset] [.null])) rfl (by rw [hml]; rfl) (argsL := [.null]) (rest := []) (lenOf pd_11 rfl) rfl (by show 2 * 0 + _ ≤ _; exact Nat.le_of_eq rfl) (hb hby at_129) (fun _ _ => ⟨rfl, e4, (by decide : 2 + 1 ≤ _), (by decide : 80 + 2 ≤ _)⟩)
    dsimp only [Pt.U, Pt.locs, Pt.cells, Pt.slots] at X21 l21 y21 z21 st21 hQ21
    subst l21 y21 z21
    obtain ⟨rfl, Nq21, K21⟩ := hQ21
    have N21 := Fr.app N0 Nq21
    have cr22 := CHr.trans cr14 (CHr.keep K21 sf0 cr14.1)
    have pr23 : ∀ tg, Steps pP.tables eE below (T21.setTop (mkF mM 132 #[.val (.int p1), .val (.int p2), .val (.int p3), .val (.int p4), .val (.int p5), .val (.ref a4), .val (.int (7 : Int32)), .val .null, .unset, .unset, .unset, .unset, .unset, .unset] [.null])) tg → Steps pP.tables eE below (s₁.setTop (entryFrame mM #[(.int p1), (.int p2), (.int p3), (.int p4), (.int p5)] maxLocals)) tg := fun tg kg => pr19 _ (st21 _ kg)
    clear pr19 st21 X4 e4
    have pr24 : ∀ tg, Steps pP.tables eE below (T21.setTop (mkF mM 187 #[.val (.int p1), .val (.int p2), .val (.int p3), .val (.int p4), .val (.int p5), .val (.ref a4), .val (.int (7 : Int32)), .val .null, .val .null, .val .null, .unset, .unset, .unset, .unset] [(.int (1 : Int32))])) tg → Steps pP.tables eE below (s₁.setTop (entryFrame mM #[(.int p1), (.int p2), (.int p3), (.int p4), (.int p5)] maxLocals)) tg := fun tg kg => pr23 _ (by
      show Steps pP.tables eE below (T21.setTop (mkF mM 132 #[.val (.int p1), .val (.int p2), .val (.int p3), .val (.int p4), .val (.int p5), .val (.ref a4), .val (.int (7 : Int32)), .val .null, .unset, .unset, .unset, .unset, .unset, .unset] [.null])) _
      refine XS.astore X21.here hx rfl (hb hby at_132) rfl rfl (l' := #[.val (.int p1), .val (.int p2), .val (.int p3), .val (.int p4), .val (.int p5), .val (.ref a4), .val (.int (7 : Int32)), .val .null, .val .null, .unset, .unset, .unset, .unset, .unset]) rfl ?_
      refine XS.aconstNull X21.here hx rfl (hb hby at_134) ?_
      refine XS.astore X21.here hx rfl (hb hby at_135) rfl rfl (l' := #[.val (.int p1), .val (.int p2), .val (.int p3), .val (.int p4), .val (.int p5), .val (.ref a4), .val (.int (7 : Int32)), .val .null, .val .null, .val .null, .unset, .unset, .unset, .unset]) rfl ?_
      refine XS.aload X21.here hx rfl (hb hby at_137) rfl rfl ?_
      refine XS.ifnullYes X21.here hx rfl (pc0 := 139) (pc' := 175) rfl (hb hby at_139) rfl (by decide) (by decide) ?_
      refine XS.aload X21.here hx rfl (hb hby at_175) rfl rfl ?_
      show Steps pP.tables eE below (T21.setTop (mkF mM 177 #[.val (.int p1), .val (.int p2), .val (.int p3), .val (.int p4), .val (.int p5), .val (.ref a4), .val (.int (7 : Int32)), .val .null, .val .null, .val .null, .unset, .unset, .unset, .unset] [.null])) _
      refine XS.aload X21.here hx rfl (hb hby at_177) rfl rfl ?_
      show Steps pP.tables eE below (T21.setTop (mkF mM 179 #[.val (.int p1), .val (.int p2), .val (.int p3), .val (.int p4), .val (.int p5), .val (.ref a4), .val (.int (7 : Int32)), .val .null, .val .null, .val .null, .unset, .unset, .unset, .unset] [.null, .null])) _
      refine Jvm.RoadKit.acmp (g := (mkF mM 179 #[.val (.int p1), .val (.int p2), .val (.int p3), .val (.int p4), .val (.int p5), .val (.ref a4), .val (.int (7 : Int32)), .val .null, .val .null, .val .null, .unset, .unset, .unset, .unset] [.null, .null])) X21 hx rfl rfl rfl (pc0 := 179) (pc' := 182) (same := true) rfl (hb hby at_179) rfl (decide_eq_true rfl) (by decide) (by decide) ?_
      show Steps pP.tables eE below (T21.setTop (mkF mM 182 #[.val (.int p1), .val (.int p2), .val (.int p3), .val (.int p4), .val (.int p5), .val (.ref a4), .val (.int (7 : Int32)), .val .null, .val .null, .val .null, .unset, .unset, .unset, .unset] [])) _
      refine XS.iconst X21.here hx rfl (hb hby at_182) ?_
      refine XS.goto X21.here hx rfl (pc0 := 183) (pc' := 187) rfl (hb hby at_183) (by decide) (by decide) ?_
      exact kg)
    clear pr23
    have c25 := (Nat.le_trans hk4 K21.1)
    obtain ⟨fs, hr, hrun, hended, hW⟩ := Jvm.Stand.leaveW (s := sS) (vm₁ := T4.vm) X21 hS (Nat.le_trans c25 (Nat.le_of_eq (congrArg Array.size (rfl : T21.heap = T21.heap).symm))) (v := some (.int (1 : Int32))) (fun h => by rw [Bd.returns] at h; cases h)
    refine ⟨_, _, pr24 _ (retOut X21 hx (t := .boolean) Bd.returns rfl (Or.inl ⟨rfl, Or.inr (Or.inl rfl), _, rfl⟩) (hb hby at_187) hr), hrun, hended, _, _, rfl, ?_, hW.1, hW.2.1, hW.2.2.1, hW.2.2.2.mono (by decide) (by decide)⟩
    show Q0 Z p1 p2 p3 p4 p5 cs sf al kal a_IMPLICIT_VR_LITTLE_ENDIAN t_IMPLICIT_VR_LITTLE_ENDIAN u_IMPLICIT_VR_LITTLE_ENDIAN k_IMPLICIT_VR_LITTLE_ENDIAN a_EXPLICIT_VR_LITTLE_ENDIAN t_EXPLICIT_VR_LITTLE_ENDIAN u_EXPLICIT_VR_LITTLE_ENDIAN k_EXPLICIT_VR_LITTLE_ENDIAN h0 n0 _ T21.heap _
    exact ⟨rfl, N21⟩
  ·
    obtain ⟨T26, h26, vm26, kk26, xx26, tt26, kt26, tx26, nn26, yy26, Ls26, X26, N26, e26, O26, Zz26, hS, hk26, hZ, hown, cr26, E26, Fv26, Fc26, V26, hp26, hl26, st26⟩ : ∃ (T : State) (h : Heap) (vmm : Vm) (kk : Nat) (xx26 t : Addr) (kt : ClassId) (tx : List Int32) (nn26 : Int32) (yy26 : Addr) (Ls : List Loc), Stand pP l eE room_1 (sS.setVm vmm) mM #[(.int p1), (.int p2), (.int p3), (.int p4), (.int p5)] below meth cC T Ls 8 124 ∧ Fr n0 Ls ∧ T.heap = h ∧ Old Z n0 h ∧ n0 ≤ h.size ∧ sS.Since vmm kk ∧ kk ≤ h.size ∧ Z.Warmed39 (sS.setVm vmm).vm ∧ (sS.setVm vmm).vm.findClass "com/example/tesserae/tesserae/dicom/TransferSyntaxForUidPinLaw" = some mM.cls ∧ CHr Z consts_1 sS.vm h0 vmm h ∧ Exa Z h xx26 "java/lang/String" ∧ Fld Z h xx26 "java/lang/String" "value" "[B" (.ref t) ∧ Fld Z h xx26 "java/lang/String" "coder" "B" (.int 0) ∧ Arv Z h t kt .byte (Int32.ofNat tx.length) ((tx.map StrChars.lo8).map Value.int) (.int 0) ∧ (∀ c ∈ tx, ¬ c < 0 ∧ ¬ (255 : Int32) < c) ∧ tx.length ≤ 4000 ∧ ∀ tg, Steps pP.tables eE below (T.setTop (mkF mM 127 #[.val (.int p1), .val (.int p2), .val (.int p3), .val (.int p4), .val (.int p5), .val (.ref a4), .val (.int z16), .val (.ref xx26), .val (.int nn26), .val (.ref yy26), .val (.int (p2 &&& (31 : Int32))), .val (.int (p3 &&& (255 : Int32)).toUInt32.toUInt16.toUInt32.toInt32), .val (.int (p4 &&& (255 : Int32)).toUInt32.toUInt16.toUInt32.toInt32), .val (.int (p5 &&& (255 : Int32)).toUInt32.toUInt16.toUInt32.toInt32)] [])) tg → Steps pP.tables eE below (s₁.setTop (entryFrame mM #[(.int p1), (.int p2), (.int p3), (.int p4), (.int p5)] maxLocals)) tg := by
      rcases own_8 hk8.1 hk8.2 with rfl | rfl | rfl | rfl | rfl | rfl | rfl | rfl
      ·
        have pr27 : ∀ tg, Steps pP.tables eE below (T4.setTop (mkF mM 65 #[.val (.int p1), .val (.int p2), .val (.int p3), .val (.int p4), .val (.int p5), .val (.ref a4), .val (.int (0 : Int32)), .unset, .val (.int (0 : Int32)), .unset, .unset, .unset, .unset, .unset] [(.int (0 : Int32))])) tg → Steps pP.tables eE below (s₁.setTop (entryFrame mM #[(.int p1), (.int p2), (.int p3), (.int p4), (.int p5)] maxLocals)) tg := fun tg kg => pr17 _ (by
          show Steps pP.tables eE below (T4.setTop (mkF mM 23 #[.val (.int p1), .val (.int p2), .val (.int p3), .val (.int p4), .val (.int p5), .val (.ref a4), .val (.int (0 : Int32)), .unset, .unset, .unset, .unset, .unset, .unset, .unset] [])) _
          refine XS.iload X4.here hx rfl (hb hby at_23) rfl ?_
          refine XS.bipush X4.here hx rfl (hb hby at_25) ?_
          refine XS.icmpYes X4.here hx rfl (pc0 := 27) (pc' := 36) rfl (hb hby at_27) rfl (feq (by decide)).2 (by decide) (by decide) ?_
          refine XS.iload X4.here hx rfl (hb hby at_36) rfl ?_
          refine XS.ifNo X4.here hx rfl (hb hby at_38) rfl ((if0 _ _).trans (teq (by decide)).2) ?_
          refine XS.iconst X4.here hx rfl (hb hby at_41) ?_
          show Steps pP.tables eE below (T4.setTop (mkF mM 42 #[.val (.int p1), .val (.int p2), .val (.int p3), .val (.int p4), .val (.int p5), .val (.ref a4), .val (.int (0 : Int32)), .unset, .unset, .unset, .unset, .unset, .unset, .unset] [(.int (0 : Int32))])) _
          refine XS.goto X4.here hx rfl (pc0 := 42) (pc' := 61) rfl (hb hby at_42) (by decide) (by decide) ?_
          refine XS.istore X4.here hx rfl (hb hby at_61) rfl (l' := #[.val (.int p1), .val (.int p2), .val (.int p3), .val (.int p4), .val (.int p5), .val (.ref a4), .val (.int (0 : Int32)), .unset, .val (.int (0 : Int32)), .unset, .unset, .unset, .unset, .unset]) rfl ?_
          refine XS.iload X4.here hx rfl (hb hby at_63) rfl ?_
          exact kg)
        clear pr17
        have c28 := (Nat.le_trans Z0 E4.1)
        obtain ⟨_, _, ⟨T29, L29, kk29, nn29⟩, -, X29, ⟨Lc29, hQ29, l29, y29, z29⟩, st29⟩ := Jvm.LawKit.callS X4 hx (y := (⟨"com/example/tesserae/tesserae/dicom/TransferSyntaxForUidPinLaw", "make", "(I)[C"⟩ : MethodName)) hown (mvT hZ (hw _ (List.mem_of_getElem? (i := 8) rfl))) (mvT hZ (hw _ (List.mem_of_getElem? (i := 9) rfl))) (mvT hZ (hw _ (List.mem_of_getElem? (i := 10) rfl))) (mvT hZ (hw _ (List.mem_of_getElem? (i := 11) rfl))) (by decide) (backOf (W := 0) (rm10 l Z a0 hw [] h4 n0 c28) hZ (hw _ (List.mem_of_getElem? (i := 11) rfl)) (hw _ (List.mem_of_getElem? (i := 10) rfl)) (by decide) (by decide)) (g := (mkF mM 65 #[.val (.int p1), .val (.int p2), .val (.int p3), .val (.int p4), .val (.int p5), .val (.ref a4), .val (.int (0 : Int32)), .unset, .val (.int (0 : Int32)), .unset, .unset, .unset, .unset, .unset] [(.int (0 : Int32))])) rfl (by rw [hml]; rfl) (argsL := [(.int (0 : Int32))]) (rest := []) (lenOf pd_12 rfl) rfl (by show 2 * 0 + _ ≤ _; exact Nat.le_of_eq rfl) (hb hby at_65) (fun _ _ => ⟨rfl, e4, (by decide : 2 + 1 ≤ _), (by decide : 80 + 0 ≤ _)⟩)
        dsimp only [Pt.U, Pt.locs, Pt.cells, Pt.slots] at X29 l29 y29 z29 st29 hQ29
        subst l29 y29 z29
        obtain ⟨bm29, rfl, ge29, Nq29, K29, km29, V29⟩ := hQ29
        have N29 := Fr.app N0 Nq29
        have ne30 : a4 ≠ bm29 := Nat.ne_of_lt (Nat.lt_of_lt_of_le (Es4).lt ge29)
        have ne31 : b4 ≠ bm29 := Nat.ne_of_lt (Nat.lt_of_lt_of_le (V4).lt ge29)
        have gn32 : n0 ≤ bm29 := Nat.le_trans c28 ge29
        have c34 := (Keep.ext (Keep.refl h0 []) E4)
        have gs33 : h0.size ≤ bm29 := Nat.le_trans c34.1 ge29
        have c35 := (Old.ext O E4)
        have cr36 := CHr.trans cr14 (CHr.keep K29 sf0 cr14.1)
        have pr37 : ∀ tg, Steps pP.tables eE below (T29.setTop (mkF mM 68 #[.val (.int p1), .val (.int p2), .val (.int p3), .val (.int p4), .val (.int p5), .val (.ref a4), .val (.int (0 : Int32)), .unset, .val (.int (0 : Int32)), .unset, .unset, .unset, .unset, .unset] [(.ref bm29)])) tg → Steps pP.tables eE below (s₁.setTop (entryFrame mM #[(.int p1), (.int p2), (.int p3), (.int p4), (.int p5)] maxLocals)) tg := fun tg kg => pr27 _ (st29 _ kg)
        clear pr27 st29 X4 e4
        have c38 := (Exa.keep Es4 K29)
        have c39 := (Fld.keep Fc4 K29 nin0)
        have c40 := (Fld.keep Fv4 K29 nin0)
        have c41 := (Arv.keep V4 K29 nin0)
        have c42 := (Old.keep c35 K29 all0)
        have pr43 : ∀ tg, Steps pP.tables eE below (T29.setTop (mkF mM 113 #[.val (.int p1), .val (.int p2), .val (.int p3), .val (.int p4), .val (.int p5), .val (.ref a4), .val (.int (0 : Int32)), .unset, .val (.int (0 : Int32)), .val (.ref bm29), .val (.int (p2 &&& (31 : Int32))), .val (.int (p3 &&& (255 : Int32)).toUInt32.toUInt16.toUInt32.toInt32), .val (.int (p4 &&& (255 : Int32)).toUInt32.toUInt16.toUInt32.toInt32), .val (.int (p5 &&& (255 : Int32)).toUInt32.toUInt16.toUInt32.toInt32)] [(.int (p5 &&& (255 : Int32)).toUInt32.toUInt16.toUInt32.toInt32), (.int (p4 &&& (255 : Int32)).toUInt32.toUInt16.toUInt32.toInt32), (.int (p3 &&& (255 : Int32)).toUInt32.toUInt16.toUInt32.toInt32), (.int (p2 &&& (31 : Int32))), (.ref a4), (.ref bm29)])) tg → Steps pP.tables eE below (s₁.setTop (entryFrame mM #[(.int p1), (.int p2), (.int p3), (.int p4), (.int p5)] maxLocals)) tg := fun tg kg => pr37 _ (by
          show Steps pP.tables eE below (T29.setTop (mkF mM 68 #[.val (.int p1), .val (.int p2), .val (.int p3), .val (.int p4), .val (.int p5), .val (.ref a4), .val (.int (0 : Int32)), .unset, .val (.int (0 : Int32)), .unset, .unset, .unset, .unset, .unset] [(.ref bm29)])) _
          refine XS.astore X29.here hx rfl (hb hby at_68) rfl rfl (l' := #[.val (.int p1), .val (.int p2), .val (.int p3), .val (.int p4), .val (.int p5), .val (.ref a4), .val (.int (0 : Int32)), .unset, .val (.int (0 : Int32)), .val (.ref bm29), .unset, .unset, .unset, .unset]) rfl ?_
          refine XS.iloadN X29.here hx rfl (hb hby at_70) rfl ?_
          refine XS.bipush X29.here hx rfl (hb hby at_71) ?_
          refine XS.iand X29.here hx rfl (hb hby at_73) rfl ?_
          refine XS.istore X29.here hx rfl (hb hby at_74) rfl (l' := #[.val (.int p1), .val (.int p2), .val (.int p3), .val (.int p4), .val (.int p5), .val (.ref a4), .val (.int (0 : Int32)), .unset, .val (.int (0 : Int32)), .val (.ref bm29), .val (.int (p2 &&& (31 : Int32))), .unset, .unset, .unset]) rfl ?_
          refine XS.iloadN X29.here hx rfl (hb hby at_76) rfl ?_
          show Steps pP.tables eE below (T29.setTop (mkF mM 77 #[.val (.int p1), .val (.int p2), .val (.int p3), .val (.int p4), .val (.int p5), .val (.ref a4), .val (.int (0 : Int32)), .unset, .val (.int (0 : Int32)), .val (.ref bm29), .val (.int (p2 &&& (31 : Int32))), .unset, .unset, .unset] [(.int p3)])) _
          refine XS.sipush X29.here hx rfl (hb hby at_77) ?_
          refine XS.iand X29.here hx rfl (hb hby at_80) rfl ?_
          refine XS.i2c X29.here hx rfl (hb hby at_81) rfl ?_
          refine XS.istore X29.here hx rfl (hb hby at_82) rfl (l' := #[.val (.int p1), .val (.int p2), .val (.int p3), .val (.int p4), .val (.int p5), .val (.ref a4), .val (.int (0 : Int32)), .unset, .val (.int (0 : Int32)), .val (.ref bm29), .val (.int (p2 &&& (31 : Int32))), .val (.int (p3 &&& (255 : Int32)).toUInt32.toUInt16.toUInt32.toInt32), .unset, .unset]) rfl ?_
          refine XS.iloadN X29.here hx rfl (hb hby at_84) rfl ?_
          refine XS.sipush X29.here hx rfl (hb hby at_85) ?_
          show Steps pP.tables eE below (T29.setTop (mkF mM 88 #[.val (.int p1), .val (.int p2), .val (.int p3), .val (.int p4), .val (.int p5), .val (.ref a4), .val (.int (0 : Int32)), .unset, .val (.int (0 : Int32)), .val (.ref bm29), .val (.int (p2 &&& (31 : Int32))), .val (.int (p3 &&& (255 : Int32)).toUInt32.toUInt16.toUInt32.toInt32), .unset, .unset] [(.int (255 : Int32)), (.int p4)])) _
          refine XS.iand X29.here hx rfl (hb hby at_88) rfl ?_
          refine XS.i2c X29.here hx rfl (hb hby at_89) rfl ?_
          refine XS.istore X29.here hx rfl (hb hby at_90) rfl (l' := #[.val (.int p1), .val (.int p2), .val (.int p3), .val (.int p4), .val (.int p5), .val (.ref a4), .val (.int (0 : Int32)), .unset, .val (.int (0 : Int32)), .val (.ref bm29), .val (.int (p2 &&& (31 : Int32))), .val (.int (p3 &&& (255 : Int32)).toUInt32.toUInt16.toUInt32.toInt32), .val (.int (p4 &&& (255 : Int32)).toUInt32.toUInt16.toUInt32.toInt32), .unset]) rfl ?_
          refine XS.iload X29.here hx rfl (hb hby at_92) rfl ?_
          refine XS.sipush X29.here hx rfl (hb hby at_94) ?_
          refine XS.iand X29.here hx rfl (hb hby at_97) rfl ?_
          show Steps pP.tables eE below (T29.setTop (mkF mM 98 #[.val (.int p1), .val (.int p2), .val (.int p3), .val (.int p4), .val (.int p5), .val (.ref a4), .val (.int (0 : Int32)), .unset, .val (.int (0 : Int32)), .val (.ref bm29), .val (.int (p2 &&& (31 : Int32))), .val (.int (p3 &&& (255 : Int32)).toUInt32.toUInt16.toUInt32.toInt32), .val (.int (p4 &&& (255 : Int32)).toUInt32.toUInt16.toUInt32.toInt32), .unset] [(.int (p5 &&& (255 : Int32)))])) _
          refine XS.i2c X29.here hx rfl (hb hby at_98) rfl ?_
          refine XS.istore X29.here hx rfl (hb hby at_99) rfl (l' := #[.val (.int p1), .val (.int p2), .val (.int p3), .val (.int p4), .val (.int p5), .val (.ref a4), .val (.int (0 : Int32)), .unset, .val (.int (0 : Int32)), .val (.ref bm29), .val (.int (p2 &&& (31 : Int32))), .val (.int (p3 &&& (255 : Int32)).toUInt32.toUInt16.toUInt32.toInt32), .val (.int (p4 &&& (255 : Int32)).toUInt32.toUInt16.toUInt32.toInt32), .val (.int (p5 &&& (255 : Int32)).toUInt32.toUInt16.toUInt32.toInt32)]) rfl ?_
          refine XS.aload X29.here hx rfl (hb hby at_101) rfl rfl ?_
          refine XS.aload X29.here hx rfl (hb hby at_103) rfl rfl ?_
          refine XS.iload X29.here hx rfl (hb hby at_105) rfl ?_
          refine XS.iload X29.here hx rfl (hb hby at_107) rfl ?_
          show Steps pP.tables eE below (T29.setTop (mkF mM 109 #[.val (.int p1), .val (.int p2), .val (.int p3), .val (.int p4), .val (.int p5), .val (.ref a4), .val (.int (0 : Int32)), .unset, .val (.int (0 : Int32)), .val (.ref bm29), .val (.int (p2 &&& (31 : Int32))), .val (.int (p3 &&& (255 : Int32)).toUInt32.toUInt16.toUInt32.toInt32), .val (.int (p4 &&& (255 : Int32)).toUInt32.toUInt16.toUInt32.toInt32), .val (.int (p5 &&& (255 : Int32)).toUInt32.toUInt16.toUInt32.toInt32)] [(.int (p3 &&& (255 : Int32)).toUInt32.toUInt16.toUInt32.toInt32), (.int (p2 &&& (31 : Int32))), (.ref a4), (.ref bm29)])) _
          refine XS.iload X29.here hx rfl (hb hby at_109) rfl ?_
          refine XS.iload X29.here hx rfl (hb hby at_111) rfl ?_
          exact kg)
        clear pr37
        have c44 := (Nat.le_trans c28 K29.1)
        obtain ⟨Ls45, X45, N45⟩ := own_hide X29 N29
        clear X29 N29
        obtain ⟨_, _, ⟨T46, L46, kk46, nn46⟩, -, X46, ⟨Lc46, hQ46, l46, y46, z46⟩, st46⟩ := Jvm.LawKit.callS X45 hx (y := (⟨"com/example/tesserae/tesserae/dicom/TransferSyntaxForUidPinLaw", "fill", "([CLjava/lang/String;ICCC)V"⟩ : MethodName)) hown (mvT hZ (hw _ (List.mem_of_getElem? (i := 13) rfl))) (mvT hZ (hw _ (List.mem_of_getElem? (i := 14) rfl))) (mvT hZ (hw _ (List.mem_of_getElem? (i := 10) rfl))) (mvT hZ (hw _ (List.mem_of_getElem? (i := 15) rfl))) (by decide) (backOf (W := 0) (rm3 l Z a0 hw [] cs sf a4 b4 kc4 nv vs bm29 km29 (0 : Int32) ([] : List Int32) (p2 &&& (31 : Int32)) (p3 &&& (255 : Int32)).toUInt32.toUInt16.toUInt32.toInt32 (p4 &&& (255 : Int32)).toUInt32.toUInt16.toUInt32.toInt32 (p5 &&& (255 : Int32)).toUInt32.toUInt16.toUInt32.toInt32 T29.heap n0 c44 c42 S_cs hcs S_sf rsf c38 c39 c40 c41 hvs V29 rfl (by decide) (by decide) gn32 ne30 ne31 (own_b8 _) (own_b8 _) (own_b8 _)) hZ (hw _ (List.mem_of_getElem? (i := 15) rfl)) (hw _ (List.mem_of_getElem? (i := 10) rfl)) (by decide) (by decide)) (g := (mkF mM 113 #[.val (.int p1), .val (.int p2), .val (.int p3), .val (.int p4), .val (.int p5), .val (.ref a4), .val (.int (0 : Int32)), .unset, .val (.int (0 : Int32)), .val (.ref bm29), .val (.int (p2 &&& (31 : Int32))), .val (.int (p3 &&& (255 : Int32)).toUInt32.toUInt16.toUInt32.toInt32), .val (.int (p4 &&& (255 : Int32)).toUInt32.toUInt16.toUInt32.toInt32), .val (.int (p5 &&& (255 : Int32)).toUInt32.toUInt16.toUInt32.toInt32)] [(.int (p5 &&& (255 : Int32)).toUInt32.toUInt16.toUInt32.toInt32), (.int (p4 &&& (255 : Int32)).toUInt32.toUInt16.toUInt32.toInt32), (.int (p3 &&& (255 : Int32)).toUInt32.toUInt16.toUInt32.toInt32), (.int (p2 &&& (31 : Int32))), (.ref a4), (.ref bm29)])) rfl (by rw [hml]; rfl) (argsL := [(.ref bm29), (.ref a4), (.int (p2 &&& (31 : Int32))), (.int (p3 &&& (255 : Int32)).toUInt32.toUInt16.toUInt32.toInt32), (.int (p4 &&& (255 : Int32)).toUInt32.toUInt16.toUInt32.toInt32), (.int (p5 &&& (255 : Int32)).toUInt32.toUInt16.toUInt32.toInt32)]) (rest := []) (lenOf pd_13 rfl) rfl (by show 2 * 0 + _ ≤ _; exact Nat.le_of_eq rfl) (hb hby at_113) (fun _ _ => ⟨rfl, rfl, (by decide : 3 + 0 ≤ _), (by decide : 80 + 0 ≤ _)⟩)
        dsimp only [Pt.U, Pt.locs, Pt.cells, Pt.slots] at X46 l46 y46 z46 st46 hQ46
        subst l46 y46 z46
        obtain ⟨rfl, Nq46, K46, tx46, hl46, hp46, V46⟩ := hQ46
        have N46 := Fr.app N45 Nq46
        have cr47 := CHr.trans cr36 (CHr.keep K46 (sfS (Safe.arv hZ.alike V29 (by decide)) sf0) cr36.1)
        have pr48 : ∀ tg, Steps pP.tables eE below (T46.setTop (mkF mM 116 #[.val (.int p1), .val (.int p2), .val (.int p3), .val (.int p4), .val (.int p5), .val (.ref a4), .val (.int (0 : Int32)), .unset, .val (.int (0 : Int32)), .val (.ref bm29), .val (.int (p2 &&& (31 : Int32))), .val (.int (p3 &&& (255 : Int32)).toUInt32.toUInt16.toUInt32.toInt32), .val (.int (p4 &&& (255 : Int32)).toUInt32.toUInt16.toUInt32.toInt32), .val (.int (p5 &&& (255 : Int32)).toUInt32.toUInt16.toUInt32.toInt32)] [])) tg → Steps pP.tables eE below (s₁.setTop (entryFrame mM #[(.int p1), (.int p2), (.int p3), (.int p4), (.int p5)] maxLocals)) tg := fun tg kg => pr43 _ (st46 _ kg)
        clear pr43 st46 X45
        have hlk46 : tx46.length = 0 := hl46
        obtain ⟨T49, h49, X49, e49, E49, A49, D49, -, st49⟩ := newO X46 hx hZ hown (hw _ (List.mem_of_getElem? (i := 19) rfl)) (hw _ (List.mem_of_getElem? (i := 2) rfl)) (hw _ (List.mem_of_getElem? (i := 1) rfl)) rfl (g := (mkF mM 116 #[.val (.int p1), .val (.int p2), .val (.int p3), .val (.int p4), .val (.int p5), .val (.ref a4), .val (.int (0 : Int32)), .unset, .val (.int (0 : Int32)), .val (.ref bm29), .val (.int (p2 &&& (31 : Int32))), .val (.int (p3 &&& (255 : Int32)).toUInt32.toUInt16.toUInt32.toInt32), .val (.int (p4 &&& (255 : Int32)).toUInt32.toUInt16.toUInt32.toInt32), .val (.int (p5 &&& (255 : Int32)).toUInt32.toUInt16.toUInt32.toInt32)] [])) rfl (hb hby at_116) (by decide) (by decide)
        obtain ⟨b49, g49⟩ : ∃ z, z = (T46.heap).size := ⟨_, rfl⟩
        rw [← g49] at A49 D49 st49
        have c51 := (Exa.keep c38 K46)
        have ne50 : a4 ≠ b49 := Nat.ne_of_lt (Nat.lt_of_lt_of_le (c51).lt (Nat.le_of_eq g49.symm))
        have c53 := (Arv.keep c41 K46 (ninS ne31 nin0))
        have ne52 : b4 ≠ b49 := Nat.ne_of_lt (Nat.lt_of_lt_of_le (c53).lt (Nat.le_of_eq g49.symm))
        have ne54 : bm29 ≠ b49 := Nat.ne_of_lt (Nat.lt_of_lt_of_le (V46).lt (Nat.le_of_eq g49.symm))
        have c56 := (Nat.le_trans c44 K46.1)
        have gn55 : n0 ≤ b49 := Nat.le_trans c56 (Nat.le_of_eq g49.symm)
        have c58 := (Keep.trans (Keep.trans c34 K29 all0) K46 (allS (Or.inr gs33) all0))
        have gs57 : h0.size ≤ b49 := Nat.le_trans c58.1 (Nat.le_of_eq g49.symm)
        have c59 := (Old.keep c42 K46 (allS gn32 all0))
        have sf60_b49 : Safe Z consts_1 T4.vm _ b49 := Safe.ext E49 cr47.1 (Safe.new (Nat.le_of_eq g49.symm))
        have cr60 := CHr.trans cr47 (CHr.ext E49 cr47.1)
        have F49_value : Fld Z h49 b49 "java/lang/String" "value" "[B" .null := D49 (Or.inr (hw _ (List.mem_of_getElem? (i := 4) rfl))) (ty := (.array .byte)) (by decide)
        have F49_coder : Fld Z h49 b49 "java/lang/String" "coder" "B" (.int (0 : Int32)) := D49 (Or.inr (hw _ (List.mem_of_getElem? (i := 5) rfl))) (ty := .byte) (by decide)
        have pr61 : ∀ tg, Steps pP.tables eE below (T49.setTop (mkF mM 119 #[.val (.int p1), .val (.int p2), .val (.int p3), .val (.int p4), .val (.int p5), .val (.ref a4), .val (.int (0 : Int32)), .unset, .val (.int (0 : Int32)), .val (.ref bm29), .val (.int (p2 &&& (31 : Int32))), .val (.int (p3 &&& (255 : Int32)).toUInt32.toUInt16.toUInt32.toInt32), .val (.int (p4 &&& (255 : Int32)).toUInt32.toUInt16.toUInt32.toInt32), .val (.int (p5 &&& (255 : Int32)).toUInt32.toUInt16.toUInt32.toInt32)] [(.ref b49)])) tg → Steps pP.tables eE below (s₁.setTop (entryFrame mM #[(.int p1), (.int p2), (.int p3), (.int p4), (.int p5)] maxLocals)) tg := fun tg kg => pr48 _ (st49 _ kg)
        clear pr48 st49 X46
        have c62 := (Arv.ext V46 E49)
        have pr63 : ∀ tg, Steps pP.tables eE below (T49.setTop (mkF mM 122 #[.val (.int p1), .val (.int p2), .val (.int p3), .val (.int p4), .val (.int p5), .val (.ref a4), .val (.int (0 : Int32)), .unset, .val (.int (0 : Int32)), .val (.ref bm29), .val (.int (p2 &&& (31 : Int32))), .val (.int (p3 &&& (255 : Int32)).toUInt32.toUInt16.toUInt32.toInt32), .val (.int (p4 &&& (255 : Int32)).toUInt32.toUInt16.toUInt32.toInt32), .val (.int (p5 &&& (255 : Int32)).toUInt32.toUInt16.toUInt32.toInt32)] [(.ref bm29), (.ref b49), (.ref b49)])) tg → Steps pP.tables eE below (s₁.setTop (entryFrame mM #[(.int p1), (.int p2), (.int p3), (.int p4), (.int p5)] maxLocals)) tg := fun tg kg => pr61 _ (by
          show Steps pP.tables eE below (T49.setTop (mkF mM 119 #[.val (.int p1), .val (.int p2), .val (.int p3), .val (.int p4), .val (.int p5), .val (.ref a4), .val (.int (0 : Int32)), .unset, .val (.int (0 : Int32)), .val (.ref bm29), .val (.int (p2 &&& (31 : Int32))), .val (.int (p3 &&& (255 : Int32)).toUInt32.toUInt16.toUInt32.toInt32), .val (.int (p4 &&& (255 : Int32)).toUInt32.toUInt16.toUInt32.toInt32), .val (.int (p5 &&& (255 : Int32)).toUInt32.toUInt16.toUInt32.toInt32)] [(.ref b49)])) _
          refine XS.dup X49.here hx rfl (hb hby at_119) rfl rfl ?_
          refine XS.aload X49.here hx rfl (hb hby at_120) rfl rfl ?_
          exact kg)
        clear pr61
        have Ve : Arv Z h49 bm29 km29 .char (0 : Int32) [] (.int (0 : Int32)) := by have q := c62; rw [List.length_eq_zero_iff.mp hlk46] at q; exact q
        have c64 := (Nat.le_trans c56 E49.1)
        obtain ⟨Ls65, X65, N65⟩ := own_hide X49 N46
        clear X49 N46
        have c67 := (Nat.le_trans (Nat.le_trans (Nat.le_trans hk4 K29.1) K46.1) E49.1)
        obtain ⟨_, _, ⟨T66, L66, kk66, nn66⟩, -, X66, hSq66, -, ⟨Lc66, hQ66, l66, y66, z66, A66⟩, st66⟩ := Jvm.Stand.specialBackS (s := sS.setVm T4.vm) X65 hx (y := (⟨"java/lang/String", "<init>", "([C)V"⟩ : MethodName)) rfl hown (mvT hZ (hw _ (List.mem_of_getElem? (i := 20) rfl))) (mvT hZ (hw _ (List.mem_of_getElem? (i := 21) rfl))) (mvT hZ (hw _ (List.mem_of_getElem? (i := 22) rfl))) (by decide) (backOfSH (s := sS) (vm0 := T4.vm) (EL := consts_1) (W := 1) (rmt4 l Z a0 hw [] b49 bm29 km29 h49 n0 c64 A49 gn55 F49_value F49_coder Ve) hZ (hw _ (List.mem_of_getElem? (i := 22) rfl)) (hw _ (List.mem_of_getElem? (i := 1) rfl)) (by decide) (by decide) hEW cr60.1) (g := (mkF mM 122 #[.val (.int p1), .val (.int p2), .val (.int p3), .val (.int p4), .val (.int p5), .val (.ref a4), .val (.int (0 : Int32)), .unset, .val (.int (0 : Int32)), .val (.ref bm29), .val (.int (p2 &&& (31 : Int32))), .val (.int (p3 &&& (255 : Int32)).toUInt32.toUInt16.toUInt32.toInt32), .val (.int (p4 &&& (255 : Int32)).toUInt32.toUInt16.toUInt32.toInt32), .val (.int (p5 &&& (255 : Int32)).toUInt32.toUInt16.toUInt32.toInt32)] [(.ref bm29), (.ref b49), (.ref b49)])) rfl (by rw [hml]; rfl) (Steps.refl _) (a := b49) (argsL := [(.ref bm29)]) (rest := [(.ref b49)]) (lenOf pd_14 rfl) rfl (by show 2 * 0 + _ ≤ _; exact Nat.le_of_eq rfl) (hb hby at_122) (fun _ _ => ⟨rfl, e49, (by decide : 4 + 4 ≤ _), (by decide : 84 + 8 ≤ _)⟩)
        dsimp only [Pt.U, Pt.locs, Pt.cells, Pt.slots] at X66 l66 y66 z66 st66 hQ66 hSq66 A66
        subst l66 y66 z66
        have hS : sS.Since T66.vm T66.heap.size := hS.trans hSq66 (Nat.le_trans c67 A66.2.1)
        have hown : (sS.setVm T66.vm).vm.findClass "com/example/tesserae/tesserae/dicom/TransferSyntaxForUidPinLaw" = some mM.cls := by rw [show (sS.setVm T66.vm).vm = T66.vm from rfl, hSq66.1.alike.findClass]; exact hown
        have hZ : Z.Warmed39 (sS.setVm T66.vm).vm := State.Warmed39.trans (t := sS.setVm T4.vm) hZ hSq66.1
        have sf68_b49 := CHr.safe A66 (A49).lt sf60_b49
        have cr68 := CHr.trans cr60 A66
        obtain ⟨rfl, Nq66, K66, E66, Fc66, te66, kt66, Fv66, V66⟩ := hQ66
        have N66 := Fr.app N65 Nq66
        have pr69 : ∀ tg, Steps pP.tables eE below (T66.setTop (mkF mM 125 #[.val (.int p1), .val (.int p2), .val (.int p3), .val (.int p4), .val (.int p5), .val (.ref a4), .val (.int (0 : Int32)), .unset, .val (.int (0 : Int32)), .val (.ref bm29), .val (.int (p2 &&& (31 : Int32))), .val (.int (p3 &&& (255 : Int32)).toUInt32.toUInt16.toUInt32.toInt32), .val (.int (p4 &&& (255 : Int32)).toUInt32.toUInt16.toUInt32.toInt32), .val (.int (p5 &&& (255 : Int32)).toUInt32.toUInt16.toUInt32.toInt32)] [(.ref b49)])) tg → Steps pP.tables eE below (s₁.setTop (entryFrame mM #[(.int p1), (.int p2), (.int p3), (.int p4), (.int p5)] maxLocals)) tg := fun tg kg => pr63 _ (st66.trans kg)
        clear pr63 st66 X65 e49
        have hpe : ∀ c ∈ ([] : List Int32), ¬ c < 0 ∧ ¬ (255 : Int32) < c := fun c hc => nomatch hc
        have pr70 : ∀ tg, Steps pP.tables eE below (T66.setTop (mkF mM 127 #[.val (.int p1), .val (.int p2), .val (.int p3), .val (.int p4), .val (.int p5), .val (.ref a4), .val (.int (0 : Int32)), .val (.ref b49), .val (.int (0 : Int32)), .val (.ref bm29), .val (.int (p2 &&& (31 : Int32))), .val (.int (p3 &&& (255 : Int32)).toUInt32.toUInt16.toUInt32.toInt32), .val (.int (p4 &&& (255 : Int32)).toUInt32.toUInt16.toUInt32.toInt32), .val (.int (p5 &&& (255 : Int32)).toUInt32.toUInt16.toUInt32.toInt32)] [])) tg → Steps pP.tables eE below (s₁.setTop (entryFrame mM #[(.int p1), (.int p2), (.int p3), (.int p4), (.int p5)] maxLocals)) tg := fun tg kg => pr69 _ (by
          show Steps pP.tables eE below (T66.setTop (mkF mM 125 #[.val (.int p1), .val (.int p2), .val (.int p3), .val (.int p4), .val (.int p5), .val (.ref a4), .val (.int (0 : Int32)), .unset, .val (.int (0 : Int32)), .val (.ref bm29), .val (.int (p2 &&& (31 : Int32))), .val (.int (p3 &&& (255 : Int32)).toUInt32.toUInt16.toUInt32.toInt32), .val (.int (p4 &&& (255 : Int32)).toUInt32.toUInt16.toUInt32.toInt32), .val (.int (p5 &&& (255 : Int32)).toUInt32.toUInt16.toUInt32.toInt32)] [(.ref b49)])) _
          refine XS.astore X66.here hx rfl (hb hby at_125) rfl rfl (l' := #[.val (.int p1), .val (.int p2), .val (.int p3), .val (.int p4), .val (.int p5), .val (.ref a4), .val (.int (0 : Int32)), .val (.ref b49), .val (.int (0 : Int32)), .val (.ref bm29), .val (.int (p2 &&& (31 : Int32))), .val (.int (p3 &&& (255 : Int32)).toUInt32.toUInt16.toUInt32.toInt32), .val (.int (p4 &&& (255 : Int32)).toUInt32.toUInt16.toUInt32.toInt32), .val (.int (p5 &&& (255 : Int32)).toUInt32.toUInt16.toUInt32.toInt32)]) rfl ?_
          exact kg)
        clear pr69
        have c71 := (Old.keep (Old.ext c59 E49) K66 (allS gn55 all0))
        have c72 := (Nat.le_trans c64 K66.1)
        exact ⟨T66, T66.heap, T66.vm, _, b49, te66, _, ([] : List Int32), (0 : Int32), bm29, _, Jvm.Stand.mono X66 (by decide) (by decide), N66, rfl, c71, c72, hS, (Nat.le_refl _), hZ, hown, cr68, E66, Fv66, Fc66, V66, hpe, (Nat.zero_le _), pr70⟩
      ·
        have pr73 : ∀ tg, Steps pP.tables eE below (T4.setTop (mkF mM 65 #[.val (.int p1), .val (.int p2), .val (.int p3), .val (.int p4), .val (.int p5), .val (.ref a4), .val (.int (1 : Int32)), .unset, .val (.int (16 : Int32)), .unset, .unset, .unset, .unset, .unset] [(.int (16 : Int32))])) tg → Steps pP.tables eE below (s₁.setTop (entryFrame mM #[(.int p1), (.int p2), (.int p3), (.int p4), (.int p5)] maxLocals)) tg := fun tg kg => pr17 _ (by
          show Steps pP.tables eE below (T4.setTop (mkF mM 23 #[.val (.int p1), .val (.int p2), .val (.int p3), .val (.int p4), .val (.int p5), .val (.ref a4), .val (.int (1 : Int32)), .unset, .unset, .unset, .unset, .unset, .unset, .unset] [])) _
          refine XS.iload X4.here hx rfl (hb hby at_23) rfl ?_
          refine XS.bipush X4.here hx rfl (hb hby at_25) ?_
          refine XS.icmpYes X4.here hx rfl (pc0 := 27) (pc' := 36) rfl (hb hby at_27) rfl (feq (by decide)).2 (by decide) (by decide) ?_
          refine XS.iload X4.here hx rfl (hb hby at_36) rfl ?_
          refine XS.ifYes X4.here hx rfl (pc0 := 38) (pc' := 45) rfl (hb hby at_38) rfl ((if0 _ _).trans (feq (by decide)).2) (by decide) (by decide) ?_
          refine XS.iload X4.here hx rfl (hb hby at_45) rfl ?_
          show Steps pP.tables eE below (T4.setTop (mkF mM 47 #[.val (.int p1), .val (.int p2), .val (.int p3), .val (.int p4), .val (.int p5), .val (.ref a4), .val (.int (1 : Int32)), .unset, .unset, .unset, .unset, .unset, .unset, .unset] [(.int (1 : Int32))])) _
          refine XS.bipush X4.here hx rfl (hb hby at_47) ?_
          refine XS.icmpYes X4.here hx rfl (pc0 := 49) (pc' := 56) rfl (hb hby at_49) rfl (feq (by decide)).2 (by decide) (by decide) ?_
          refine XS.bipush X4.here hx rfl (hb hby at_56) ?_
          refine XS.iload X4.here hx rfl (hb hby at_58) rfl ?_
          refine XS.iadd X4.here hx rfl (hb hby at_60) rfl ?_
          refine XS.istore X4.here hx rfl (hb hby at_61) rfl (l' := #[.val (.int p1), .val (.int p2), .val (.int p3), .val (.int p4), .val (.int p5), .val (.ref a4), .val (.int (1 : Int32)), .unset, .val (.int (16 : Int32)), .unset, .unset, .unset, .unset, .unset]) rfl ?_
          show Steps pP.tables eE below (T4.setTop (mkF mM 63 #[.val (.int p1), .val (.int p2), .val (.int p3), .val (.int p4), .val (.int p5), .val (.ref a4), .val (.int (1 : Int32)), .unset, .val (.int (16 : Int32)), .unset, .unset, .unset, .unset, .unset] [])) _
          refine XS.iload X4.here hx rfl (hb hby at_63) rfl ?_
          exact kg)
        clear pr17
        have c74 := (Nat.le_trans Z0 E4.1)
        obtain ⟨_, _, ⟨T75, L75, kk75, nn75⟩, -, X75, ⟨Lc75, hQ75, l75, y75, z75⟩, st75⟩ := Jvm.LawKit.callS X4 hx (y := (⟨"com/example/tesserae/tesserae/dicom/TransferSyntaxForUidPinLaw", "make", "(I)[C"⟩ : MethodName)) hown (mvT hZ (hw _ (List.mem_of_getElem? (i := 8) rfl))) (mvT hZ (hw _ (List.mem_of_getElem? (i := 9) rfl))) (mvT hZ (hw _ (List.mem_of_getElem? (i := 10) rfl))) (mvT hZ (hw _ (List.mem_of_getElem? (i := 11) rfl))) (by decide) (backOf (W := 0) (rm116 l Z a0 hw [] h4 n0 c74) hZ (hw _ (List.mem_of_getElem? (i := 11) rfl)) (hw _ (List.mem_of_getElem? (i := 10) rfl)) (by decide) (by decide)) (g := (mkF mM 65 #[.val (.int p1), .val (.int p2), .val (.int p3), .val (.int p4), .val (.int p5), .val (.ref a4), .val (.int (1 : Int32)), .unset, .val (.int (16 : Int32)), .unset, .unset, .unset, .unset, .unset] [(.int (16 : Int32))])) rfl (by rw [hml]; rfl) (argsL := [(.int (16 : Int32))]) (rest := []) (lenOf pd_12 rfl) rfl (by show 2 * 0 + _ ≤ _; exact Nat.le_of_eq rfl) (hb hby at_65) (fun _ _ => ⟨rfl, e4, (by decide : 2 + 1 ≤ _), (by decide : 80 + 16 ≤ _)⟩)
        dsimp only [Pt.U, Pt.locs, Pt.cells, Pt.slots] at X75 l75 y75 z75 st75 hQ75
        subst l75 y75 z75
        obtain ⟨bm75, rfl, ge75, Nq75, K75, km75, V75⟩ := hQ75
        have N75 := Fr.app N0 Nq75
        have ne76 : a4 ≠ bm75 := Nat.ne_of_lt (Nat.lt_of_lt_of_le (Es4).lt ge75)
        have ne77 : b4 ≠ bm75 := Nat.ne_of_lt (Nat.lt_of_lt_of_le (V4).lt ge75)
        have gn78 : n0 ≤ bm75 := Nat.le_trans c74 ge75
        have c80 := (Keep.ext (Keep.refl h0 []) E4)
        have gs79 : h0.size ≤ bm75 := Nat.le_trans c80.1 ge75
        have c81 := (Old.ext O E4)
        have cr82 := CHr.trans cr14 (CHr.keep K75 sf0 cr14.1)
        have pr83 : ∀ tg, Steps pP.tables eE below (T75.setTop (mkF mM 68 #[.val (.int p1), .val (.int p2), .val (.int p3), .val (.int p4), .val (.int p5), .val (.ref a4), .val (.int (1 : Int32)), .unset, .val (.int (16 : Int32)), .unset, .unset, .unset, .unset, .unset] [(.ref bm75)])) tg → Steps pP.tables eE below (s₁.setTop (entryFrame mM #[(.int p1), (.int p2), (.int p3), (.int p4), (.int p5)] maxLocals)) tg := fun tg kg => pr73 _ (st75 _ kg)
        clear pr73 st75 X4 e4
        have c84 := (Exa.keep Es4 K75)
        have c85 := (Fld.keep Fc4 K75 nin0)
        have c86 := (Fld.keep Fv4 K75 nin0)
        have c87 := (Arv.keep V4 K75 nin0)
        have c88 := (Old.keep c81 K75 all0)
        have pr89 : ∀ tg, Steps pP.tables eE below (T75.setTop (mkF mM 113 #[.val (.int p1), .val (.int p2), .val (.int p3), .val (.int p4), .val (.int p5), .val (.ref a4), .val (.int (1 : Int32)), .unset, .val (.int (16 : Int32)), .val (.ref bm75), .val (.int (p2 &&& (31 : Int32))), .val (.int (p3 &&& (255 : Int32)).toUInt32.toUInt16.toUInt32.toInt32), .val (.int (p4 &&& (255 : Int32)).toUInt32.toUInt16.toUInt32.toInt32), .val (.int (p5 &&& (255 : Int32)).toUInt32.toUInt16.toUInt32.toInt32)] [(.int (p5 &&& (255 : Int32)).toUInt32.toUInt16.toUInt32.toInt32), (.int (p4 &&& (255 : Int32)).toUInt32.toUInt16.toUInt32.toInt32), (.int (p3 &&& (255 : Int32)).toUInt32.toUInt16.toUInt32.toInt32), (.int (p2 &&& (31 : Int32))), (.ref a4), (.ref bm75)])) tg → Steps pP.tables eE below (s₁.setTop (entryFrame mM #[(.int p1), (.int p2), (.int p3), (.int p4), (.int p5)] maxLocals)) tg := fun tg kg => pr83 _ (by
          show Steps pP.tables eE below (T75.setTop (mkF mM 68 #[.val (.int p1), .val (.int p2), .val (.int p3), .val (.int p4), .val (.int p5), .val (.ref a4), .val (.int (1 : Int32)), .unset, .val (.int (16 : Int32)), .unset, .unset, .unset, .unset, .unset] [(.ref bm75)])) _
          refine XS.astore X75.here hx rfl (hb hby at_68) rfl rfl (l' := #[.val (.int p1), .val (.int p2), .val (.int p3), .val (.int p4), .val (.int p5), .val (.ref a4), .val (.int (1 : Int32)), .unset, .val (.int (16 : Int32)), .val (.ref bm75), .unset, .unset, .unset, .unset]) rfl ?_
          refine XS.iloadN X75.here hx rfl (hb hby at_70) rfl ?_
          refine XS.bipush X75.here hx rfl (hb hby at_71) ?_
          refine XS.iand X75.here hx rfl (hb hby at_73) rfl ?_
          refine XS.istore X75.here hx rfl (hb hby at_74) rfl (l' := #[.val (.int p1), .val (.int p2), .val (.int p3), .val (.int p4), .val (.int p5), .val (.ref a4), .val (.int (1 : Int32)), .unset, .val (.int (16 : Int32)), .val (.ref bm75), .val (.int (p2 &&& (31 : Int32))), .unset, .unset, .unset]) rfl ?_
          refine XS.iloadN X75.here hx rfl (hb hby at_76) rfl ?_
          show Steps pP.tables eE below (T75.setTop (mkF mM 77 #[.val (.int p1), .val (.int p2), .val (.int p3), .val (.int p4), .val (.int p5), .val (.ref a4), .val (.int (1 : Int32)), .unset, .val (.int (16 : Int32)), .val (.ref bm75), .val (.int (p2 &&& (31 : Int32))), .unset, .unset, .unset] [(.int p3)])) _
          refine XS.sipush X75.here hx rfl (hb hby at_77) ?_
          refine XS.iand X75.here hx rfl (hb hby at_80) rfl ?_
          refine XS.i2c X75.here hx rfl (hb hby at_81) rfl ?_
          refine XS.istore X75.here hx rfl (hb hby at_82) rfl (l' := #[.val (.int p1), .val (.int p2), .val (.int p3), .val (.int p4), .val (.int p5), .val (.ref a4), .val (.int (1 : Int32)), .unset, .val (.int (16 : Int32)), .val (.ref bm75), .val (.int (p2 &&& (31 : Int32))), .val (.int (p3 &&& (255 : Int32)).toUInt32.toUInt16.toUInt32.toInt32), .unset, .unset]) rfl ?_
          refine XS.iloadN X75.here hx rfl (hb hby at_84) rfl ?_
          refine XS.sipush X75.here hx rfl (hb hby at_85) ?_
          show Steps pP.tables eE below (T75.setTop (mkF mM 88 #[.val (.int p1), .val (.int p2), .val (.int p3), .val (.int p4), .val (.int p5), .val (.ref a4), .val (.int (1 : Int32)), .unset, .val (.int (16 : Int32)), .val (.ref bm75), .val (.int (p2 &&& (31 : Int32))), .val (.int (p3 &&& (255 : Int32)).toUInt32.toUInt16.toUInt32.toInt32), .unset, .unset] [(.int (255 : Int32)), (.int p4)])) _
          refine XS.iand X75.here hx rfl (hb hby at_88) rfl ?_
          refine XS.i2c X75.here hx rfl (hb hby at_89) rfl ?_
          refine XS.istore X75.here hx rfl (hb hby at_90) rfl (l' := #[.val (.int p1), .val (.int p2), .val (.int p3), .val (.int p4), .val (.int p5), .val (.ref a4), .val (.int (1 : Int32)), .unset, .val (.int (16 : Int32)), .val (.ref bm75), .val (.int (p2 &&& (31 : Int32))), .val (.int (p3 &&& (255 : Int32)).toUInt32.toUInt16.toUInt32.toInt32), .val (.int (p4 &&& (255 : Int32)).toUInt32.toUInt16.toUInt32.toInt32), .unset]) rfl ?_
          refine XS.iload X75.here hx rfl (hb hby at_92) rfl ?_
          refine XS.sipush X75.here hx rfl (hb hby at_94) ?_
          refine XS.iand X75.here hx rfl (hb hby at_97) rfl ?_
          show Steps pP.tables eE below (T75.setTop (mkF mM 98 #[.val (.int p1), .val (.int p2), .val (.int p3), .val (.int p4), .val (.int p5), .val (.ref a4), .val (.int (1 : Int32)), .unset, .val (.int (16 : Int32)), .val (.ref bm75), .val (.int (p2 &&& (31 : Int32))), .val (.int (p3 &&& (255 : Int32)).toUInt32.toUInt16.toUInt32.toInt32), .val (.int (p4 &&& (255 : Int32)).toUInt32.toUInt16.toUInt32.toInt32), .unset] [(.int (p5 &&& (255 : Int32)))])) _
          refine XS.i2c X75.here hx rfl (hb hby at_98) rfl ?_
          refine XS.istore X75.here hx rfl (hb hby at_99) rfl (l' := #[.val (.int p1), .val (.int p2), .val (.int p3), .val (.int p4), .val (.int p5), .val (.ref a4), .val (.int (1 : Int32)), .unset, .val (.int (16 : Int32)), .val (.ref bm75), .val (.int (p2 &&& (31 : Int32))), .val (.int (p3 &&& (255 : Int32)).toUInt32.toUInt16.toUInt32.toInt32), .val (.int (p4 &&& (255 : Int32)).toUInt32.toUInt16.toUInt32.toInt32), .val (.int (p5 &&& (255 : Int32)).toUInt32.toUInt16.toUInt32.toInt32)]) rfl ?_
          refine XS.aload X75.here hx rfl (hb hby at_101) rfl rfl ?_
          refine XS.aload X75.here hx rfl (hb hby at_103) rfl rfl ?_
          refine XS.iload X75.here hx rfl (hb hby at_105) rfl ?_
          refine XS.iload X75.here hx rfl (hb hby at_107) rfl ?_
          show Steps pP.tables eE below (T75.setTop (mkF mM 109 #[.val (.int p1), .val (.int p2), .val (.int p3), .val (.int p4), .val (.int p5), .val (.ref a4), .val (.int (1 : Int32)), .unset, .val (.int (16 : Int32)), .val (.ref bm75), .val (.int (p2 &&& (31 : Int32))), .val (.int (p3 &&& (255 : Int32)).toUInt32.toUInt16.toUInt32.toInt32), .val (.int (p4 &&& (255 : Int32)).toUInt32.toUInt16.toUInt32.toInt32), .val (.int (p5 &&& (255 : Int32)).toUInt32.toUInt16.toUInt32.toInt32)] [(.int (p3 &&& (255 : Int32)).toUInt32.toUInt16.toUInt32.toInt32), (.int (p2 &&& (31 : Int32))), (.ref a4), (.ref bm75)])) _
          refine XS.iload X75.here hx rfl (hb hby at_109) rfl ?_
          refine XS.iload X75.here hx rfl (hb hby at_111) rfl ?_
          exact kg)
        clear pr83
        have c90 := (Nat.le_trans c74 K75.1)
        obtain ⟨Ls91, X91, N91⟩ := own_hide X75 N75
        clear X75 N75
        obtain ⟨_, _, ⟨T92, L92, kk92, nn92⟩, -, X92, ⟨Lc92, hQ92, l92, y92, z92⟩, st92⟩ := Jvm.LawKit.callS X91 hx (y := (⟨"com/example/tesserae/tesserae/dicom/TransferSyntaxForUidPinLaw", "fill", "([CLjava/lang/String;ICCC)V"⟩ : MethodName)) hown (mvT hZ (hw _ (List.mem_of_getElem? (i := 13) rfl))) (mvT hZ (hw _ (List.mem_of_getElem? (i := 14) rfl))) (mvT hZ (hw _ (List.mem_of_getElem? (i := 10) rfl))) (mvT hZ (hw _ (List.mem_of_getElem? (i := 15) rfl))) (by decide) (backOf (W := 0) (rm3 l Z a0 hw [] cs sf a4 b4 kc4 nv vs bm75 km75 (16 : Int32) ([(0 : Int32), (0 : Int32), (0 : Int32), (0 : Int32), (0 : Int32), (0 : Int32), (0 : Int32), (0 : Int32), (0 : Int32), (0 : Int32), (0 : Int32), (0 : Int32), (0 : Int32), (0 : Int32), (0 : Int32), (0 : Int32)] : List Int32) (p2 &&& (31 : Int32)) (p3 &&& (255 : Int32)).toUInt32.toUInt16.toUInt32.toInt32 (p4 &&& (255 : Int32)).toUInt32.toUInt16.toUInt32.toInt32 (p5 &&& (255 : Int32)).toUInt32.toUInt16.toUInt32.toInt32 T75.heap n0 c90 c88 S_cs hcs S_sf rsf c84 c85 c86 c87 hvs V75 rfl (by decide) (by decide) gn78 ne76 ne77 (own_b8 _) (own_b8 _) (own_b8 _)) hZ (hw _ (List.mem_of_getElem? (i := 15) rfl)) (hw _ (List.mem_of_getElem? (i := 10) rfl)) (by decide) (by decide)) (g := (mkF mM 113 #[.val (.int p1), .val (.int p2), .val (.int p3), .val (.int p4), .val (.int p5), .val (.ref a4), .val (.int (1 : Int32)), .unset, .val (.int (16 : Int32)), .val (.ref bm75), .val (.int (p2 &&& (31 : Int32))), .val (.int (p3 &&& (255 : Int32)).toUInt32.toUInt16.toUInt32.toInt32), .val (.int (p4 &&& (255 : Int32)).toUInt32.toUInt16.toUInt32.toInt32), .val (.int (p5 &&& (255 : Int32)).toUInt32.toUInt16.toUInt32.toInt32)] [(.int (p5 &&& (255 : Int32)).toUInt32.toUInt16.toUInt32.toInt32), (.int (p4 &&& (255 : Int32)).toUInt32.toUInt16.toUInt32.toInt32), (.int (p3 &&& (255 : Int32)).toUInt32.toUInt16.toUInt32.toInt32), (.int (p2 &&& (31 : Int32))), (.ref a4), (.ref bm75)])) rfl (by rw [hml]; rfl) (argsL := [(.ref bm75), (.ref a4), (.int (p2 &&& (31 : Int32))), (.int (p3 &&& (255 : Int32)).toUInt32.toUInt16.toUInt32.toInt32), (.int (p4 &&& (255 : Int32)).toUInt32.toUInt16.toUInt32.toInt32), (.int (p5 &&& (255 : Int32)).toUInt32.toUInt16.toUInt32.toInt32)]) (rest := []) (lenOf pd_13 rfl) rfl (by show 2 * 0 + _ ≤ _; exact Nat.le_of_eq rfl) (hb hby at_113) (fun _ _ => ⟨rfl, rfl, (by decide : 3 + 0 ≤ _), (by decide : 96 + 0 ≤ _)⟩)
        dsimp only [Pt.U, Pt.locs, Pt.cells, Pt.slots] at X92 l92 y92 z92 st92 hQ92
        subst l92 y92 z92
        obtain ⟨rfl, Nq92, K92, tx92, hl92, hp92, V92⟩ := hQ92
        have N92 := Fr.app N91 Nq92
        have cr93 := CHr.trans cr82 (CHr.keep K92 (sfS (Safe.arv hZ.alike V75 (by decide)) sf0) cr82.1)
        have pr94 : ∀ tg, Steps pP.tables eE below (T92.setTop (mkF mM 116 #[.val (.int p1), .val (.int p2), .val (.int p3), .val (.int p4), .val (.int p5), .val (.ref a4), .val (.int (1 : Int32)), .unset, .val (.int (16 : Int32)), .val (.ref bm75), .val (.int (p2 &&& (31 : Int32))), .val (.int (p3 &&& (255 : Int32)).toUInt32.toUInt16.toUInt32.toInt32), .val (.int (p4 &&& (255 : Int32)).toUInt32.toUInt16.toUInt32.toInt32), .val (.int (p5 &&& (255 : Int32)).toUInt32.toUInt16.toUInt32.toInt32)] [])) tg → Steps pP.tables eE below (s₁.setTop (entryFrame mM #[(.int p1), (.int p2), (.int p3), (.int p4), (.int p5)] maxLocals)) tg := fun tg kg => pr89 _ (st92 _ kg)
        clear pr89 st92 X91
        have hlk92 : tx92.length = 16 := hl92
        obtain ⟨T95, h95, X95, e95, E95, A95, D95, -, st95⟩ := newO X92 hx hZ hown (hw _ (List.mem_of_getElem? (i := 19) rfl)) (hw _ (List.mem_of_getElem? (i := 2) rfl)) (hw _ (List.mem_of_getElem? (i := 1) rfl)) rfl (g := (mkF mM 116 #[.val (.int p1), .val (.int p2), .val (.int p3), .val (.int p4), .val (.int p5), .val (.ref a4), .val (.int (1 : Int32)), .unset, .val (.int (16 : Int32)), .val (.ref bm75), .val (.int (p2 &&& (31 : Int32))), .val (.int (p3 &&& (255 : Int32)).toUInt32.toUInt16.toUInt32.toInt32), .val (.int (p4 &&& (255 : Int32)).toUInt32.toUInt16.toUInt32.toInt32), .val (.int (p5 &&& (255 : Int32)).toUInt32.toUInt16.toUInt32.toInt32)] [])) rfl (hb hby at_116) (by decide) (by decide)
        obtain ⟨b95, g95⟩ : ∃ z, z = (T92.heap).size := ⟨_, rfl⟩
        rw [← g95] at A95 D95 st95
        have c97 := (Exa.keep c84 K92)
        have ne96 : a4 ≠ b95 := Nat.ne_of_lt (Nat.lt_of_lt_of_le (c97).lt (Nat.le_of_eq g95.symm))
        have c99 := (Arv.keep c87 K92 (ninS ne77 nin0))
        have ne98 : b4 ≠ b95 := Nat.ne_of_lt (Nat.lt_of_lt_of_le (c99).lt (Nat.le_of_eq g95.symm))
        have ne100 : bm75 ≠ b95 := Nat.ne_of_lt (Nat.lt_of_lt_of_le (V92).lt (Nat.le_of_eq g95.symm))
        have c102 := (Nat.le_trans c90 K92.1)
        have gn101 : n0 ≤ b95 := Nat.le_trans c102 (Nat.le_of_eq g95.symm)
        have c104 := (Keep.trans (Keep.trans c80 K75 all0) K92 (allS (Or.inr gs79) all0))
        have gs103 : h0.size ≤ b95 := Nat.le_trans c104.1 (Nat.le_of_eq g95.symm)
        have c105 := (Old.keep c88 K92 (allS gn78 all0))
        have sf106_b95 : Safe Z consts_1 T4.vm _ b95 := Safe.ext E95 cr93.1 (Safe.new (Nat.le_of_eq g95.symm))
        have cr106 := CHr.trans cr93 (CHr.ext E95 cr93.1)
        have F95_value : Fld Z h95 b95 "java/lang/String" "value" "[B" .null := D95 (Or.inr (hw _ (List.mem_of_getElem? (i := 4) rfl))) (ty := (.array .byte)) (by decide)
        have F95_coder : Fld Z h95 b95 "java/lang/String" "coder" "B" (.int (0 : Int32)) := D95 (Or.inr (hw _ (List.mem_of_getElem? (i := 5) rfl))) (ty := .byte) (by decide)
        have pr107 : ∀ tg, Steps pP.tables eE below (T95.setTop (mkF mM 119 #[.val (.int p1), .val (.int p2), .val (.int p3), .val (.int p4), .val (.int p5), .val (.ref a4), .val (.int (1 : Int32)), .unset, .val (.int (16 : Int32)), .val (.ref bm75), .val (.int (p2 &&& (31 : Int32))), .val (.int (p3 &&& (255 : Int32)).toUInt32.toUInt16.toUInt32.toInt32), .val (.int (p4 &&& (255 : Int32)).toUInt32.toUInt16.toUInt32.toInt32), .val (.int (p5 &&& (255 : Int32)).toUInt32.toUInt16.toUInt32.toInt32)] [(.ref b95)])) tg → Steps pP.tables eE below (s₁.setTop (entryFrame mM #[(.int p1), (.int p2), (.int p3), (.int p4), (.int p5)] maxLocals)) tg := fun tg kg => pr94 _ (st95 _ kg)
        clear pr94 st95 X92
        have c108 := (Arv.ext V92 E95)
        have c109 := (Old.ext c105 E95)
        have c110 := (Nat.le_trans c102 E95.1)
        have pr111 : ∀ tg, Steps pP.tables eE below (T95.setTop (mkF mM 122 #[.val (.int p1), .val (.int p2), .val (.int p3), .val (.int p4), .val (.int p5), .val (.ref a4), .val (.int (1 : Int32)), .unset, .val (.int (16 : Int32)), .val (.ref bm75), .val (.int (p2 &&& (31 : Int32))), .val (.int (p3 &&& (255 : Int32)).toUInt32.toUInt16.toUInt32.toInt32), .val (.int (p4 &&& (255 : Int32)).toUInt32.toUInt16.toUInt32.toInt32), .val (.int (p5 &&& (255 : Int32)).toUInt32.toUInt16.toUInt32.toInt32)] [(.ref bm75), (.ref b95), (.ref b95)])) tg → Steps pP.tables eE below (s₁.setTop (entryFrame mM #[(.int p1), (.int p2), (.int p3), (.int p4), (.int p5)] maxLocals)) tg := fun tg kg => pr107 _ (by
          show Steps pP.tables eE below (T95.setTop (mkF mM 119 #[.val (.int p1), .val (.int p2), .val (.int p3), .val (.int p4), .val (.int p5), .val (.ref a4), .val (.int (1 : Int32)), .unset, .val (.int (16 : Int32)), .val (.ref bm75), .val (.int (p2 &&& (31 : Int32))), .val (.int (p3 &&& (255 : Int32)).toUInt32.toUInt16.toUInt32.toInt32), .val (.int (p4 &&& (255 : Int32)).toUInt32.toUInt16.toUInt32.toInt32), .val (.int (p5 &&& (255 : Int32)).toUInt32.toUInt16.toUInt32.toInt32)] [(.ref b95)])) _
          refine XS.dup X95.here hx rfl (hb hby at_119) rfl rfl ?_
          refine XS.aload X95.here hx rfl (hb hby at_120) rfl rfl ?_
          exact kg)
        clear pr107
        obtain ⟨Ls112, X112, N112⟩ := own_hide X95 N92
        clear X95 N92
        obtain ⟨_, _, ⟨T113, L113, kk113, nn113⟩, -, X113, ⟨Lc113, hQ113, l113, y113, z113⟩, st113⟩ := X112.specialBack hx (y := (⟨"java/lang/String", "<init>", "([C)V"⟩ : MethodName)) rfl hown (mvT hZ (hw _ (List.mem_of_getElem? (i := 20) rfl))) (mvT hZ (hw _ (List.mem_of_getElem? (i := 21) rfl))) (mvT hZ (hw _ (List.mem_of_getElem? (i := 22) rfl))) (by decide) (StrChars.Road.backV (W := 1) hZ (own_wB hw) (kI := 4) (hw _ (List.mem_of_getElem? (i := 2) rfl)) (cs := tx92) (bs := (tx92).map (fun c => c.toInt8.toInt32)) (n := 16) gn101 c110 A95 F95_value F95_coder c108 (Sta.ext (c109).2 S_cs) hcs hlk92 rfl (by decide) (by decide) hp92 rfl (by decide) (by decide)) (g := (mkF mM 122 #[.val (.int p1), .val (.int p2), .val (.int p3), .val (.int p4), .val (.int p5), .val (.ref a4), .val (.int (1 : Int32)), .unset, .val (.int (16 : Int32)), .val (.ref bm75), .val (.int (p2 &&& (31 : Int32))), .val (.int (p3 &&& (255 : Int32)).toUInt32.toUInt16.toUInt32.toInt32), .val (.int (p4 &&& (255 : Int32)).toUInt32.toUInt16.toUInt32.toInt32), .val (.int (p5 &&& (255 : Int32)).toUInt32.toUInt16.toUInt32.toInt32)] [(.ref bm75), (.ref b95), (.ref b95)])) rfl (by rw [hml]; rfl) (Steps.refl _) (a := b95) (argsL := [(.ref bm75)]) (rest := [(.ref b95)]) (lenOf pd_14 rfl) rfl (by show 2 * 0 + _ ≤ _; exact Nat.le_of_eq rfl) (hb hby at_122) (fun _ _ => ⟨rfl, e95, (by decide : 4 + 1 ≤ _), (by decide : 100 + 16 ≤ _)⟩)
        dsimp only [Pt.U, Pt.locs, Pt.cells, Pt.slots] at X113 l113 y113 z113 st113 hQ113
        subst l113 y113 z113
        obtain ⟨rfl, Nq113, K113, E113, Fc113, tn113, kt113, -, ge113, -, Fv113, V113⟩ := hQ113
        have N113 := Fr.app N112 Nq113
        have sf114_b95 := Safe.keep K113 (sfS sf106_b95 sf0) cr106.1 sf106_b95
        have cr114 := CHr.trans cr106 (CHr.keep K113 (sfS sf106_b95 sf0) cr106.1)
        have pr115 : ∀ tg, Steps pP.tables eE below (T113.setTop (mkF mM 125 #[.val (.int p1), .val (.int p2), .val (.int p3), .val (.int p4), .val (.int p5), .val (.ref a4), .val (.int (1 : Int32)), .unset, .val (.int (16 : Int32)), .val (.ref bm75), .val (.int (p2 &&& (31 : Int32))), .val (.int (p3 &&& (255 : Int32)).toUInt32.toUInt16.toUInt32.toInt32), .val (.int (p4 &&& (255 : Int32)).toUInt32.toUInt16.toUInt32.toInt32), .val (.int (p5 &&& (255 : Int32)).toUInt32.toUInt16.toUInt32.toInt32)] [(.ref b95)])) tg → Steps pP.tables eE below (s₁.setTop (entryFrame mM #[(.int p1), (.int p2), (.int p3), (.int p4), (.int p5)] maxLocals)) tg := fun tg kg => pr111 _ (st113.trans kg)
        clear pr111 st113 X112 e95
        have Vl113 : Arv Z T113.heap tn113 kt113 .byte (Int32.ofNat tx92.length) ((tx92.map StrChars.lo8).map Value.int) (.int (0 : Int32)) := by rw [hlk92]; exact V113
        have pr116 : ∀ tg, Steps pP.tables eE below (T113.setTop (mkF mM 127 #[.val (.int p1), .val (.int p2), .val (.int p3), .val (.int p4), .val (.int p5), .val (.ref a4), .val (.int (1 : Int32)), .val (.ref b95), .val (.int (16 : Int32)), .val (.ref bm75), .val (.int (p2 &&& (31 : Int32))), .val (.int (p3 &&& (255 : Int32)).toUInt32.toUInt16.toUInt32.toInt32), .val (.int (p4 &&& (255 : Int32)).toUInt32.toUInt16.toUInt32.toInt32), .val (.int (p5 &&& (255 : Int32)).toUInt32.toUInt16.toUInt32.toInt32)] [])) tg → Steps pP.tables eE below (s₁.setTop (entryFrame mM #[(.int p1), (.int p2), (.int p3), (.int p4), (.int p5)] maxLocals)) tg := fun tg kg => pr115 _ (by
          show Steps pP.tables eE below (T113.setTop (mkF mM 125 #[.val (.int p1), .val (.int p2), .val (.int p3), .val (.int p4), .val (.int p5), .val (.ref a4), .val (.int (1 : Int32)), .unset, .val (.int (16 : Int32)), .val (.ref bm75), .val (.int (p2 &&& (31 : Int32))), .val (.int (p3 &&& (255 : Int32)).toUInt32.toUInt16.toUInt32.toInt32), .val (.int (p4 &&& (255 : Int32)).toUInt32.toUInt16.toUInt32.toInt32), .val (.int (p5 &&& (255 : Int32)).toUInt32.toUInt16.toUInt32.toInt32)] [(.ref b95)])) _
          refine XS.astore X113.here hx rfl (hb hby at_125) rfl rfl (l' := #[.val (.int p1), .val (.int p2), .val (.int p3), .val (.int p4), .val (.int p5), .val (.ref a4), .val (.int (1 : Int32)), .val (.ref b95), .val (.int (16 : Int32)), .val (.ref bm75), .val (.int (p2 &&& (31 : Int32))), .val (.int (p3 &&& (255 : Int32)).toUInt32.toUInt16.toUInt32.toInt32), .val (.int (p4 &&& (255 : Int32)).toUInt32.toUInt16.toUInt32.toInt32), .val (.int (p5 &&& (255 : Int32)).toUInt32.toUInt16.toUInt32.toInt32)]) rfl ?_
          exact kg)
        clear pr115
        have c117 := (Old.keep c109 K113 (allS gn101 all0))
        have c118 := (Nat.le_trans c110 K113.1)
        have c119 := (Nat.le_trans (Nat.le_trans (Nat.le_trans (Nat.le_trans hk4 K75.1) K92.1) E95.1) K113.1)
        exact ⟨T113, T113.heap, T4.vm, _, b95, tn113, _, tx92, (16 : Int32), bm75, _, Jvm.Stand.mono X113 (by decide) (by decide), N113, rfl, c117, c118, hS, c119, hZ, hown, cr114, E113, Fv113, Fc113, Vl113, hp92, (by rw [hlk92]; decide), pr116⟩
      ·
        have pr120 : ∀ tg, Steps pP.tables eE below (T4.setTop (mkF mM 65 #[.val (.int p1), .val (.int p2), .val (.int p3), .val (.int p4), .val (.int p5), .val (.ref a4), .val (.int (2 : Int32)), .unset, .val (.int (17 : Int32)), .unset, .unset, .unset, .unset, .unset] [(.int (17 : Int32))])) tg → Steps pP.tables eE below (s₁.setTop (entryFrame mM #[(.int p1), (.int p2), (.int p3), (.int p4), (.int p5)] maxLocals)) tg := fun tg kg => pr17 _ (by
          show Steps pP.tables eE below (T4.setTop (mkF mM 23 #[.val (.int p1), .val (.int p2), .val (.int p3), .val (.int p4), .val (.int p5), .val (.ref a4), .val (.int (2 : Int32)), .unset, .unset, .unset, .unset, .unset, .unset, .unset] [])) _
          refine XS.iload X4.here hx rfl (hb hby at_23) rfl ?_
          refine XS.bipush X4.here hx rfl (hb hby at_25) ?_
          refine XS.icmpYes X4.here hx rfl (pc0 := 27) (pc' := 36) rfl (hb hby at_27) rfl (feq (by decide)).2 (by decide) (by decide) ?_
          refine XS.iload X4.here hx rfl (hb hby at_36) rfl ?_
          refine XS.ifYes X4.here hx rfl (pc0 := 38) (pc' := 45) rfl (hb hby at_38) rfl ((if0 _ _).trans (feq (by decide)).2) (by decide) (by decide) ?_
          refine XS.iload X4.here hx rfl (hb hby at_45) rfl ?_
          show Steps pP.tables eE below (T4.setTop (mkF mM 47 #[.val (.int p1), .val (.int p2), .val (.int p3), .val (.int p4), .val (.int p5), .val (.ref a4), .val (.int (2 : Int32)), .unset, .unset, .unset, .unset, .unset, .unset, .unset] [(.int (2 : Int32))])) _
          refine XS.bipush X4.here hx rfl (hb hby at_47) ?_
          refine XS.icmpYes X4.here hx rfl (pc0 := 49) (pc' := 56) rfl (hb hby at_49) rfl (feq (by decide)).2 (by decide) (by decide) ?_
          refine XS.bipush X4.here hx rfl (hb hby at_56) ?_
          refine XS.iload X4.here hx rfl (hb hby at_58) rfl ?_
          refine XS.iadd X4.here hx rfl (hb hby at_60) rfl ?_
          refine XS.istore X4.here hx rfl (hb hby at_61) rfl (l' := #[.val (.int p1), .val (.int p2), .val (.int p3), .val (.int p4), .val (.int p5), .val (.ref a4), .val (.int (2 : Int32)), .unset, .val (.int (17 : Int32)), .unset, .unset, .unset, .unset, .unset]) rfl ?_
          show Steps pP.tables eE below (T4.setTop (mkF mM 63 #[.val (.int p1), .val (.int p2), .val (.int p3), .val (.int p4), .val (.int p5), .val (.ref a4), .val (.int (2 : Int32)), .unset, .val (.int (17 : Int32)), .unset, .unset, .unset, .unset, .unset] [])) _
          refine XS.iload X4.here hx rfl (hb hby at_63) rfl ?_
          exact kg)
        clear pr17
        have c121 := (Nat.le_trans Z0 E4.1)
        obtain ⟨_, _, ⟨T122, L122, kk122, nn122⟩, -, X122, ⟨Lc122, hQ122, l122, y122, z122⟩, st122⟩ := Jvm.LawKit.callS X4 hx (y := (⟨"com/example/tesserae/tesserae/dicom/TransferSyntaxForUidPinLaw", "make", "(I)[C"⟩ : MethodName)) hown (mvT hZ (hw _ (List.mem_of_getElem? (i := 8) rfl))) (mvT hZ (hw _ (List.mem_of_getElem? (i := 9) rfl))) (mvT hZ (hw _ (List.mem_of_getElem? (i := 10) rfl))) (mvT hZ (hw _ (List.mem_of_getElem? (i := 11) rfl))) (by decide) (backOf (W := 0) (rm117 l Z a0 hw [] h4 n0 c121) hZ (hw _ (List.mem_of_getElem? (i := 11) rfl)) (hw _ (List.mem_of_getElem? (i := 10) rfl)) (by decide) (by decide)) (g := (mkF mM 65 #[.val (.int p1), .val (.int p2), .val (.int p3), .val (.int p4), .val (.int p5), .val (.ref a4), .val (.int (2 : Int32)), .unset, .val (.int (17 : Int32)), .unset, .unset, .unset, .unset, .unset] [(.int (17 : Int32))])) rfl (by rw [hml]; rfl) (argsL := [(.int (17 : Int32))]) (rest := []) (lenOf pd_12 rfl) rfl (by show 2 * 0 + _ ≤ _; exact Nat.le_of_eq rfl) (hb hby at_65) (fun _ _ => ⟨rfl, e4, (by decide : 2 + 1 ≤ _), (by decide : 80 + 17 ≤ _)⟩)
        dsimp only [Pt.U, Pt.locs, Pt.cells, Pt.slots] at X122 l122 y122 z122 st122 hQ122
        subst l122 y122 z122
        obtain ⟨bm122, rfl, ge122, Nq122, K122, km122, V122⟩ := hQ122
        have N122 := Fr.app N0 Nq122
        have ne123 : a4 ≠ bm122 := Nat.ne_of_lt (Nat.lt_of_lt_of_le (Es4).lt ge122)
        have ne124 : b4 ≠ bm122 := Nat.ne_of_lt (Nat.lt_of_lt_of_le (V4).lt ge122)
        have gn125 : n0 ≤ bm122 := Nat.le_trans c121 ge122
        have c127 := (Keep.ext (Keep.refl h0 []) E4)
        have gs126 : h0.size ≤ bm122 := Nat.le_trans c127.1 ge122
        have c128 := (Old.ext O E4)
        have cr129 := CHr.trans cr14 (CHr.keep K122 sf0 cr14.1)
        have pr130 : ∀ tg, Steps pP.tables eE below (T122.setTop (mkF mM 68 #[.val (.int p1), .val (.int p2), .val (.int p3), .val (.int p4), .val (.int p5), .val (.ref a4), .val (.int (2 : Int32)), .unset, .val (.int (17 : Int32)), .unset, .unset, .unset, .unset, .unset] [(.ref bm122)])) tg → Steps pP.tables eE below (s₁.setTop (entryFrame mM #[(.int p1), (.int p2), (.int p3), (.int p4), (.int p5)] maxLocals)) tg := fun tg kg => pr120 _ (st122 _ kg)
        clear pr120 st122 X4 e4
        have c131 := (Exa.keep Es4 K122)
        have c132 := (Fld.keep Fc4 K122 nin0)
        have c133 := (Fld.keep Fv4 K122 nin0)
        have c134 := (Arv.keep V4 K122 nin0)
        have c135 := (Old.keep c128 K122 all0)
        have pr136 : ∀ tg, Steps pP.tables eE below (T122.setTop (mkF mM 113 #[.val (.int p1), .val (.int p2), .val (.int p3), .val (.int p4), .val (.int p5), .val (.ref a4), .val (.int (2 : Int32)), .unset, .val (.int (17 : Int32)), .val (.ref bm122), .val (.int (p2 &&& (31 : Int32))), .val (.int (p3 &&& (255 : Int32)).toUInt32.toUInt16.toUInt32.toInt32), .val (.int (p4 &&& (255 : Int32)).toUInt32.toUInt16.toUInt32.toInt32), .val (.int (p5 &&& (255 : Int32)).toUInt32.toUInt16.toUInt32.toInt32)] [(.int (p5 &&& (255 : Int32)).toUInt32.toUInt16.toUInt32.toInt32), (.int (p4 &&& (255 : Int32)).toUInt32.toUInt16.toUInt32.toInt32), (.int (p3 &&& (255 : Int32)).toUInt32.toUInt16.toUInt32.toInt32), (.int (p2 &&& (31 : Int32))), (.ref a4), (.ref bm122)])) tg → Steps pP.tables eE below (s₁.setTop (entryFrame mM #[(.int p1), (.int p2), (.int p3), (.int p4), (.int p5)] maxLocals)) tg := fun tg kg => pr130 _ (by
          show Steps pP.tables eE below (T122.setTop (mkF mM 68 #[.val (.int p1), .val (.int p2), .val (.int p3), .val (.int p4), .val (.int p5), .val (.ref a4), .val (.int (2 : Int32)), .unset, .val (.int (17 : Int32)), .unset, .unset, .unset, .unset, .unset] [(.ref bm122)])) _
          refine XS.astore X122.here hx rfl (hb hby at_68) rfl rfl (l' := #[.val (.int p1), .val (.int p2), .val (.int p3), .val (.int p4), .val (.int p5), .val (.ref a4), .val (.int (2 : Int32)), .unset, .val (.int (17 : Int32)), .val (.ref bm122), .unset, .unset, .unset, .unset]) rfl ?_
          refine XS.iloadN X122.here hx rfl (hb hby at_70) rfl ?_
          refine XS.bipush X122.here hx rfl (hb hby at_71) ?_
          refine XS.iand X122.here hx rfl (hb hby at_73) rfl ?_
          refine XS.istore X122.here hx rfl (hb hby at_74) rfl (l' := #[.val (.int p1), .val (.int p2), .val (.int p3), .val (.int p4), .val (.int p5), .val (.ref a4), .val (.int (2 : Int32)), .unset, .val (.int (17 : Int32)), .val (.ref bm122), .val (.int (p2 &&& (31 : Int32))), .unset, .unset, .unset]) rfl ?_
          refine XS.iloadN X122.here hx rfl (hb hby at_76) rfl ?_
          show Steps pP.tables eE below (T122.setTop (mkF mM 77 #[.val (.int p1), .val (.int p2), .val (.int p3), .val (.int p4), .val (.int p5), .val (.ref a4), .val (.int (2 : Int32)), .unset, .val (.int (17 : Int32)), .val (.ref bm122), .val (.int (p2 &&& (31 : Int32))), .unset, .unset, .unset] [(.int p3)])) _
          refine XS.sipush X122.here hx rfl (hb hby at_77) ?_
          refine XS.iand X122.here hx rfl (hb hby at_80) rfl ?_
          refine XS.i2c X122.here hx rfl (hb hby at_81) rfl ?_
          refine XS.istore X122.here hx rfl (hb hby at_82) rfl (l' := #[.val (.int p1), .val (.int p2), .val (.int p3), .val (.int p4), .val (.int p5), .val (.ref a4), .val (.int (2 : Int32)), .unset, .val (.int (17 : Int32)), .val (.ref bm122), .val (.int (p2 &&& (31 : Int32))), .val (.int (p3 &&& (255 : Int32)).toUInt32.toUInt16.toUInt32.toInt32), .unset, .unset]) rfl ?_
          refine XS.iloadN X122.here hx rfl (hb hby at_84) rfl ?_
          refine XS.sipush X122.here hx rfl (hb hby at_85) ?_
          show Steps pP.tables eE below (T122.setTop (mkF mM 88 #[.val (.int p1), .val (.int p2), .val (.int p3), .val (.int p4), .val (.int p5), .val (.ref a4), .val (.int (2 : Int32)), .unset, .val (.int (17 : Int32)), .val (.ref bm122), .val (.int (p2 &&& (31 : Int32))), .val (.int (p3 &&& (255 : Int32)).toUInt32.toUInt16.toUInt32.toInt32), .unset, .unset] [(.int (255 : Int32)), (.int p4)])) _
          refine XS.iand X122.here hx rfl (hb hby at_88) rfl ?_
          refine XS.i2c X122.here hx rfl (hb hby at_89) rfl ?_
          refine XS.istore X122.here hx rfl (hb hby at_90) rfl (l' := #[.val (.int p1), .val (.int p2), .val (.int p3), .val (.int p4), .val (.int p5), .val (.ref a4), .val (.int (2 : Int32)), .unset, .val (.int (17 : Int32)), .val (.ref bm122), .val (.int (p2 &&& (31 : Int32))), .val (.int (p3 &&& (255 : Int32)).toUInt32.toUInt16.toUInt32.toInt32), .val (.int (p4 &&& (255 : Int32)).toUInt32.toUInt16.toUInt32.toInt32), .unset]) rfl ?_
          refine XS.iload X122.here hx rfl (hb hby at_92) rfl ?_
          refine XS.sipush X122.here hx rfl (hb hby at_94) ?_
          refine XS.iand X122.here hx rfl (hb hby at_97) rfl ?_
          show Steps pP.tables eE below (T122.setTop (mkF mM 98 #[.val (.int p1), .val (.int p2), .val (.int p3), .val (.int p4), .val (.int p5), .val (.ref a4), .val (.int (2 : Int32)), .unset, .val (.int (17 : Int32)), .val (.ref bm122), .val (.int (p2 &&& (31 : Int32))), .val (.int (p3 &&& (255 : Int32)).toUInt32.toUInt16.toUInt32.toInt32), .val (.int (p4 &&& (255 : Int32)).toUInt32.toUInt16.toUInt32.toInt32), .unset] [(.int (p5 &&& (255 : Int32)))])) _
          refine XS.i2c X122.here hx rfl (hb hby at_98) rfl ?_
          refine XS.istore X122.here hx rfl (hb hby at_99) rfl (l' := #[.val (.int p1), .val (.int p2), .val (.int p3), .val (.int p4), .val (.int p5), .val (.ref a4), .val (.int (2 : Int32)), .unset, .val (.int (17 : Int32)), .val (.ref bm122), .val (.int (p2 &&& (31 : Int32))), .val (.int (p3 &&& (255 : Int32)).toUInt32.toUInt16.toUInt32.toInt32), .val (.int (p4 &&& (255 : Int32)).toUInt32.toUInt16.toUInt32.toInt32), .val (.int (p5 &&& (255 : Int32)).toUInt32.toUInt16.toUInt32.toInt32)]) rfl ?_
          refine XS.aload X122.here hx rfl (hb hby at_101) rfl rfl ?_
          refine XS.aload X122.here hx rfl (hb hby at_103) rfl rfl ?_
          refine XS.iload X122.here hx rfl (hb hby at_105) rfl ?_
          refine XS.iload X122.here hx rfl (hb hby at_107) rfl ?_
          show Steps pP.tables eE below (T122.setTop (mkF mM 109 #[.val (.int p1), .val (.int p2), .val (.int p3), .val (.int p4), .val (.int p5), .val (.ref a4), .val (.int (2 : Int32)), .unset, .val (.int (17 : Int32)), .val (.ref bm122), .val (.int (p2 &&& (31 : Int32))), .val (.int (p3 &&& (255 : Int32)).toUInt32.toUInt16.toUInt32.toInt32), .val (.int (p4 &&& (255 : Int32)).toUInt32.toUInt16.toUInt32.toInt32), .val (.int (p5 &&& (255 : Int32)).toUInt32.toUInt16.toUInt32.toInt32)] [(.int (p3 &&& (255 : Int32)).toUInt32.toUInt16.toUInt32.toInt32), (.int (p2 &&& (31 : Int32))), (.ref a4), (.ref bm122)])) _
          refine XS.iload X122.here hx rfl (hb hby at_109) rfl ?_
          refine XS.iload X122.here hx rfl (hb hby at_111) rfl ?_
          exact kg)
        clear pr130
        have c137 := (Nat.le_trans c121 K122.1)
        obtain ⟨Ls138, X138, N138⟩ := own_hide X122 N122
        clear X122 N122
        obtain ⟨_, _, ⟨T139, L139, kk139, nn139⟩, -, X139, ⟨Lc139, hQ139, l139, y139, z139⟩, st139⟩ := Jvm.LawKit.callS X138 hx (y := (⟨"com/example/tesserae/tesserae/dicom/TransferSyntaxForUidPinLaw", "fill", "([CLjava/lang/String;ICCC)V"⟩ : MethodName)) hown (mvT hZ (hw _ (List.mem_of_getElem? (i := 13) rfl))) (mvT hZ (hw _ (List.mem_of_getElem? (i := 14) rfl))) (mvT hZ (hw _ (List.mem_of_getElem? (i := 10) rfl))) (mvT hZ (hw _ (List.mem_of_getElem? (i := 15) rfl))) (by decide) (backOf (W := 0) (rm3 l Z a0 hw [] cs sf a4 b4 kc4 nv vs bm122 km122 (17 : Int32) ([(0 : Int32), (0 : Int32), (0 : Int32), (0 : Int32), (0 : Int32), (0 : Int32), (0 : Int32), (0 : Int32), (0 : Int32), (0 : Int32), (0 : Int32), (0 : Int32), (0 : Int32), (0 : Int32), (0 : Int32), (0 : Int32), (0 : Int32)] : List Int32) (p2 &&& (31 : Int32)) (p3 &&& (255 : Int32)).toUInt32.toUInt16.toUInt32.toInt32 (p4 &&& (255 : Int32)).toUInt32.toUInt16.toUInt32.toInt32 (p5 &&& (255 : Int32)).toUInt32.toUInt16.toUInt32.toInt32 T122.heap n0 c137 c135 S_cs hcs S_sf rsf c131 c132 c133 c134 hvs V122 rfl (by decide) (by decide) gn125 ne123 ne124 (own_b8 _) (own_b8 _) (own_b8 _)) hZ (hw _ (List.mem_of_getElem? (i := 15) rfl)) (hw _ (List.mem_of_getElem? (i := 10) rfl)) (by decide) (by decide)) (g := (mkF mM 113 #[.val (.int p1), .val (.int p2), .val (.int p3), .val (.int p4), .val (.int p5), .val (.ref a4), .val (.int (2 : Int32)), .unset, .val (.int (17 : Int32)), .val (.ref bm122), .val (.int (p2 &&& (31 : Int32))), .val (.int (p3 &&& (255 : Int32)).toUInt32.toUInt16.toUInt32.toInt32), .val (.int (p4 &&& (255 : Int32)).toUInt32.toUInt16.toUInt32.toInt32), .val (.int (p5 &&& (255 : Int32)).toUInt32.toUInt16.toUInt32.toInt32)] [(.int (p5 &&& (255 : Int32)).toUInt32.toUInt16.toUInt32.toInt32), (.int (p4 &&& (255 : Int32)).toUInt32.toUInt16.toUInt32.toInt32), (.int (p3 &&& (255 : Int32)).toUInt32.toUInt16.toUInt32.toInt32), (.int (p2 &&& (31 : Int32))), (.ref a4), (.ref bm122)])) rfl (by rw [hml]; rfl) (argsL := [(.ref bm122), (.ref a4), (.int (p2 &&& (31 : Int32))), (.int (p3 &&& (255 : Int32)).toUInt32.toUInt16.toUInt32.toInt32), (.int (p4 &&& (255 : Int32)).toUInt32.toUInt16.toUInt32.toInt32), (.int (p5 &&& (255 : Int32)).toUInt32.toUInt16.toUInt32.toInt32)]) (rest := []) (lenOf pd_13 rfl) rfl (by show 2 * 0 + _ ≤ _; exact Nat.le_of_eq rfl) (hb hby at_113) (fun _ _ => ⟨rfl, rfl, (by decide : 3 + 0 ≤ _), (by decide : 97 + 0 ≤ _)⟩)
        dsimp only [Pt.U, Pt.locs, Pt.cells, Pt.slots] at X139 l139 y139 z139 st139 hQ139
        subst l139 y139 z139
        obtain ⟨rfl, Nq139, K139, tx139, hl139, hp139, V139⟩ := hQ139
        have N139 := Fr.app N138 Nq139
        have cr140 := CHr.trans cr129 (CHr.keep K139 (sfS (Safe.arv hZ.alike V122 (by decide)) sf0) cr129.1)
        have pr141 : ∀ tg, Steps pP.tables eE below (T139.setTop (mkF mM 116 #[.val (.int p1), .val (.int p2), .val (.int p3), .val (.int p4), .val (.int p5), .val (.ref a4), .val (.int (2 : Int32)), .unset, .val (.int (17 : Int32)), .val (.ref bm122), .val (.int (p2 &&& (31 : Int32))), .val (.int (p3 &&& (255 : Int32)).toUInt32.toUInt16.toUInt32.toInt32), .val (.int (p4 &&& (255 : Int32)).toUInt32.toUInt16.toUInt32.toInt32), .val (.int (p5 &&& (255 : Int32)).toUInt32.toUInt16.toUInt32.toInt32)] [])) tg → Steps pP.tables eE below (s₁.setTop (entryFrame mM #[(.int p1), (.int p2), (.int p3), (.int p4), (.int p5)] maxLocals)) tg := fun tg kg => pr136 _ (st139 _ kg)
        clear pr136 st139 X138
        have hlk139 : tx139.length = 17 := hl139
        obtain ⟨T142, h142, X142, e142, E142, A142, D142, -, st142⟩ := newO X139 hx hZ hown (hw _ (List.mem_of_getElem? (i := 19) rfl)) (hw _ (List.mem_of_getElem? (i := 2) rfl)) (hw _ (List.mem_of_getElem? (i := 1) rfl)) rfl (g := (mkF mM 116 #[.val (.int p1), .val (.int p2), .val (.int p3), .val (.int p4), .val (.int p5), .val (.ref a4), .val (.int (2 : Int32)), .unset, .val (.int (17 : Int32)), .val (.ref bm122), .val (.int (p2 &&& (31 : Int32))), .val (.int (p3 &&& (255 : Int32)).toUInt32.toUInt16.toUInt32.toInt32), .val (.int (p4 &&& (255 : Int32)).toUInt32.toUInt16.toUInt32.toInt32), .val (.int (p5 &&& (255 : Int32)).toUInt32.toUInt16.toUInt32.toInt32)] [])) rfl (hb hby at_116) (by decide) (by decide)
        obtain ⟨b142, g142⟩ : ∃ z, z = (T139.heap).size := ⟨_, rfl⟩
        rw [← g142] at A142 D142 st142
        have c144 := (Exa.keep c131 K139)
        have ne143 : a4 ≠ b142 := Nat.ne_of_lt (Nat.lt_of_lt_of_le (c144).lt (Nat.le_of_eq g142.symm))
        have c146 := (Arv.keep c134 K139 (ninS ne124 nin0))
        have ne145 : b4 ≠ b142 := Nat.ne_of_lt (Nat.lt_of_lt_of_le (c146).lt (Nat.le_of_eq g142.symm))
        have ne147 : bm122 ≠ b142 := Nat.ne_of_lt (Nat.lt_of_lt_of_le (V139).lt (Nat.le_of_eq g142.symm))
        have c149 := (Nat.le_trans c137 K139.1)
        have gn148 : n0 ≤ b142 := Nat.le_trans c149 (Nat.le_of_eq g142.symm)
        have c151 := (Keep.trans (Keep.trans c127 K122 all0) K139 (allS (Or.inr gs126) all0))
        have gs150 : h0.size ≤ b142 := Nat.le_trans c151.1 (Nat.le_of_eq g142.symm)
        have c152 := (Old.keep c135 K139 (allS gn125 all0))
        have sf153_b142 : Safe Z consts_1 T4.vm _ b142 := Safe.ext E142 cr140.1 (Safe.new (Nat.le_of_eq g142.symm))
        have cr153 := CHr.trans cr140 (CHr.ext E142 cr140.1)
        have F142_value : Fld Z h142 b142 "java/lang/String" "value" "[B" .null := D142 (Or.inr (hw _ (List.mem_of_getElem? (i := 4) rfl))) (ty := (.array .byte)) (by decide)
        have F142_coder : Fld Z h142 b142 "java/lang/String" "coder" "B" (.int (0 : Int32)) := D142 (Or.inr (hw _ (List.mem_of_getElem? (i := 5) rfl))) (ty := .byte) (by decide)
        have pr154 : ∀ tg, Steps pP.tables eE below (T142.setTop (mkF mM 119 #[.val (.int p1), .val (.int p2), .val (.int p3), .val (.int p4), .val (.int p5), .val (.ref a4), .val (.int (2 : Int32)), .unset, .val (.int (17 : Int32)), .val (.ref bm122), .val (.int (p2 &&& (31 : Int32))), .val (.int (p3 &&& (255 : Int32)).toUInt32.toUInt16.toUInt32.toInt32), .val (.int (p4 &&& (255 : Int32)).toUInt32.toUInt16.toUInt32.toInt32), .val (.int (p5 &&& (255 : Int32)).toUInt32.toUInt16.toUInt32.toInt32)] [(.ref b142)])) tg → Steps pP.tables eE below (s₁.setTop (entryFrame mM #[(.int p1), (.int p2), (.int p3), (.int p4), (.int p5)] maxLocals)) tg := fun tg kg => pr141 _ (st142 _ kg)
        clear pr141 st142 X139
        have c155 := (Arv.ext V139 E142)
        have c156 := (Old.ext c152 E142)
        have c157 := (Nat.le_trans c149 E142.1)
        have pr158 : ∀ tg, Steps pP.tables eE below (T142.setTop (mkF mM 122 #[.val (.int p1), .val (.int p2), .val (.int p3), .val (.int p4), .val (.int p5), .val (.ref a4), .val (.int (2 : Int32)), .unset, .val (.int (17 : Int32)), .val (.ref bm122), .val (.int (p2 &&& (31 : Int32))), .val (.int (p3 &&& (255 : Int32)).toUInt32.toUInt16.toUInt32.toInt32), .val (.int (p4 &&& (255 : Int32)).toUInt32.toUInt16.toUInt32.toInt32), .val (.int (p5 &&& (255 : Int32)).toUInt32.toUInt16.toUInt32.toInt32)] [(.ref bm122), (.ref b142), (.ref b142)])) tg → Steps pP.tables eE below (s₁.setTop (entryFrame mM #[(.int p1), (.int p2), (.int p3), (.int p4), (.int p5)] maxLocals)) tg := fun tg kg => pr154 _ (by
          show Steps pP.tables eE below (T142.setTop (mkF mM 119 #[.val (.int p1), .val (.int p2), .val (.int p3), .val (.int p4), .val (.int p5), .val (.ref a4), .val (.int (2 : Int32)), .unset, .val (.int (17 : Int32)), .val (.ref bm122), .val (.int (p2 &&& (31 : Int32))), .val (.int (p3 &&& (255 : Int32)).toUInt32.toUInt16.toUInt32.toInt32), .val (.int (p4 &&& (255 : Int32)).toUInt32.toUInt16.toUInt32.toInt32), .val (.int (p5 &&& (255 : Int32)).toUInt32.toUInt16.toUInt32.toInt32)] [(.ref b142)])) _
          refine XS.dup X142.here hx rfl (hb hby at_119) rfl rfl ?_
          refine XS.aload X142.here hx rfl (hb hby at_120) rfl rfl ?_
          exact kg)
        clear pr154
        obtain ⟨Ls159, X159, N159⟩ := own_hide X142 N139
        clear X142 N139
        obtain ⟨_, _, ⟨T160, L160, kk160, nn160⟩, -, X160, ⟨Lc160, hQ160, l160, y160, z160⟩, st160⟩ := X159.specialBack hx (y := (⟨"java/lang/String", "<init>", "([C)V"⟩ : MethodName)) rfl hown (mvT hZ (hw _ (List.mem_of_getElem? (i := 20) rfl))) (mvT hZ (hw _ (List.mem_of_getElem? (i := 21) rfl))) (mvT hZ (hw _ (List.mem_of_getElem? (i := 22) rfl))) (by decide) (StrChars.Road.backV (W := 1) hZ (own_wB hw) (kI := 4) (hw _ (List.mem_of_getElem? (i := 2) rfl)) (cs := tx139) (bs := (tx139).map (fun c => c.toInt8.toInt32)) (n := 17) gn148 c157 A142 F142_value F142_coder c155 (Sta.ext (c156).2 S_cs) hcs hlk139 rfl (by decide) (by decide) hp139 rfl (by decide) (by decide)) (g := (mkF mM 122 #[.val (.int p1), .val (.int p2), .val (.int p3), .val (.int p4), .val (.int p5), .val (.ref a4), .val (.int (2 : Int32)), .unset, .val (.int (17 : Int32)), .val (.ref bm122), .val (.int (p2 &&& (31 : Int32))), .val (.int (p3 &&& (255 : Int32)).toUInt32.toUInt16.toUInt32.toInt32), .val (.int (p4 &&& (255 : Int32)).toUInt32.toUInt16.toUInt32.toInt32), .val (.int (p5 &&& (255 : Int32)).toUInt32.toUInt16.toUInt32.toInt32)] [(.ref bm122), (.ref b142), (.ref b142)])) rfl (by rw [hml]; rfl) (Steps.refl _) (a := b142) (argsL := [(.ref bm122)]) (rest := [(.ref b142)]) (lenOf pd_14 rfl) rfl (by show 2 * 0 + _ ≤ _; exact Nat.le_of_eq rfl) (hb hby at_122) (fun _ _ => ⟨rfl, e142, (by decide : 4 + 1 ≤ _), (by decide : 101 + 17 ≤ _)⟩)
        dsimp only [Pt.U, Pt.locs, Pt.cells, Pt.slots] at X160 l160 y160 z160 st160 hQ160
        subst l160 y160 z160
        obtain ⟨rfl, Nq160, K160, E160, Fc160, tn160, kt160, -, ge160, -, Fv160, V160⟩ := hQ160
        have N160 := Fr.app N159 Nq160
        have sf161_b142 := Safe.keep K160 (sfS sf153_b142 sf0) cr153.1 sf153_b142
        have cr161 := CHr.trans cr153 (CHr.keep K160 (sfS sf153_b142 sf0) cr153.1)
        have pr162 : ∀ tg, Steps pP.tables eE below (T160.setTop (mkF mM 125 #[.val (.int p1), .val (.int p2), .val (.int p3), .val (.int p4), .val (.int p5), .val (.ref a4), .val (.int (2 : Int32)), .unset, .val (.int (17 : Int32)), .val (.ref bm122), .val (.int (p2 &&& (31 : Int32))), .val (.int (p3 &&& (255 : Int32)).toUInt32.toUInt16.toUInt32.toInt32), .val (.int (p4 &&& (255 : Int32)).toUInt32.toUInt16.toUInt32.toInt32), .val (.int (p5 &&& (255 : Int32)).toUInt32.toUInt16.toUInt32.toInt32)] [(.ref b142)])) tg → Steps pP.tables eE below (s₁.setTop (entryFrame mM #[(.int p1), (.int p2), (.int p3), (.int p4), (.int p5)] maxLocals)) tg := fun tg kg => pr158 _ (st160.trans kg)
        clear pr158 st160 X159 e142
        have Vl160 : Arv Z T160.heap tn160 kt160 .byte (Int32.ofNat tx139.length) ((tx139.map StrChars.lo8).map Value.int) (.int (0 : Int32)) := by rw [hlk139]; exact V160
        have pr163 : ∀ tg, Steps pP.tables eE below (T160.setTop (mkF mM 127 #[.val (.int p1), .val (.int p2), .val (.int p3), .val (.int p4), .val (.int p5), .val (.ref a4), .val (.int (2 : Int32)), .val (.ref b142), .val (.int (17 : Int32)), .val (.ref bm122), .val (.int (p2 &&& (31 : Int32))), .val (.int (p3 &&& (255 : Int32)).toUInt32.toUInt16.toUInt32.toInt32), .val (.int (p4 &&& (255 : Int32)).toUInt32.toUInt16.toUInt32.toInt32), .val (.int (p5 &&& (255 : Int32)).toUInt32.toUInt16.toUInt32.toInt32)] [])) tg → Steps pP.tables eE below (s₁.setTop (entryFrame mM #[(.int p1), (.int p2), (.int p3), (.int p4), (.int p5)] maxLocals)) tg := fun tg kg => pr162 _ (by
          show Steps pP.tables eE below (T160.setTop (mkF mM 125 #[.val (.int p1), .val (.int p2), .val (.int p3), .val (.int p4), .val (.int p5), .val (.ref a4), .val (.int (2 : Int32)), .unset, .val (.int (17 : Int32)), .val (.ref bm122), .val (.int (p2 &&& (31 : Int32))), .val (.int (p3 &&& (255 : Int32)).toUInt32.toUInt16.toUInt32.toInt32), .val (.int (p4 &&& (255 : Int32)).toUInt32.toUInt16.toUInt32.toInt32), .val (.int (p5 &&& (255 : Int32)).toUInt32.toUInt16.toUInt32.toInt32)] [(.ref b142)])) _
          refine XS.astore X160.here hx rfl (hb hby at_125) rfl rfl (l' := #[.val (.int p1), .val (.int p2), .val (.int p3), .val (.int p4), .val (.int p5), .val (.ref a4), .val (.int (2 : Int32)), .val (.ref b142), .val (.int (17 : Int32)), .val (.ref bm122), .val (.int (p2 &&& (31 : Int32))), .val (.int (p3 &&& (255 : Int32)).toUInt32.toUInt16.toUInt32.toInt32), .val (.int (p4 &&& (255 : Int32)).toUInt32.toUInt16.toUInt32.toInt32), .val (.int (p5 &&& (255 : Int32)).toUInt32.toUInt16.toUInt32.toInt32)]) rfl ?_
          exact kg)
        clear pr162
        have c164 := (Old.keep c156 K160 (allS gn148 all0))
        have c165 := (Nat.le_trans c157 K160.1)
        have c166 := (Nat.le_trans (Nat.le_trans (Nat.le_trans (Nat.le_trans hk4 K122.1) K139.1) E142.1) K160.1)
        exact ⟨T160, T160.heap, T4.vm, _, b142, tn160, _, tx139, (17 : Int32), bm122, _, Jvm.Stand.mono X160 (by decide) (by decide), N160, rfl, c164, c165, hS, c166, hZ, hown, cr161, E160, Fv160, Fc160, Vl160, hp139, (by rw [hlk139]; decide), pr163⟩
      ·
        have pr167 : ∀ tg, Steps pP.tables eE below (T4.setTop (mkF mM 65 #[.val (.int p1), .val (.int p2), .val (.int p3), .val (.int p4), .val (.int p5), .val (.ref a4), .val (.int (3 : Int32)), .unset, .val (.int (18 : Int32)), .unset, .unset, .unset, .unset, .unset] [(.int (18 : Int32))])) tg → Steps pP.tables eE below (s₁.setTop (entryFrame mM #[(.int p1), (.int p2), (.int p3), (.int p4), (.int p5)] maxLocals)) tg := fun tg kg => pr17 _ (by
          show Steps pP.tables eE below (T4.setTop (mkF mM 23 #[.val (.int p1), .val (.int p2), .val (.int p3), .val (.int p4), .val (.int p5), .val (.ref a4), .val (.int (3 : Int32)), .unset, .unset, .unset, .unset, .unset, .unset, .unset] [])) _
          refine XS.iload X4.here hx rfl (hb hby at_23) rfl ?_
          refine XS.bipush X4.here hx rfl (hb hby at_25) ?_
          refine XS.icmpYes X4.here hx rfl (pc0 := 27) (pc' := 36) rfl (hb hby at_27) rfl (feq (by decide)).2 (by decide) (by decide) ?_
          refine XS.iload X4.here hx rfl (hb hby at_36) rfl ?_
          refine XS.ifYes X4.here hx rfl (pc0 := 38) (pc' := 45) rfl (hb hby at_38) rfl ((if0 _ _).trans (feq (by decide)).2) (by decide) (by decide) ?_
          refine XS.iload X4.here hx rfl (hb hby at_45) rfl ?_
          show Steps pP.tables eE below (T4.setTop (mkF mM 47 #[.val (.int p1), .val (.int p2), .val (.int p3), .val (.int p4), .val (.int p5), .val (.ref a4), .val (.int (3 : Int32)), .unset, .unset, .unset, .unset, .unset, .unset, .unset] [(.int (3 : Int32))])) _
          refine XS.bipush X4.here hx rfl (hb hby at_47) ?_
          refine XS.icmpYes X4.here hx rfl (pc0 := 49) (pc' := 56) rfl (hb hby at_49) rfl (feq (by decide)).2 (by decide) (by decide) ?_
          refine XS.bipush X4.here hx rfl (hb hby at_56) ?_
          refine XS.iload X4.here hx rfl (hb hby at_58) rfl ?_
          refine XS.iadd X4.here hx rfl (hb hby at_60) rfl ?_
          refine XS.istore X4.here hx rfl (hb hby at_61) rfl (l' := #[.val (.int p1), .val (.int p2), .val (.int p3), .val (.int p4), .val (.int p5), .val (.ref a4), .val (.int (3 : Int32)), .unset, .val (.int (18 : Int32)), .unset, .unset, .unset, .unset, .unset]) rfl ?_
          show Steps pP.tables eE below (T4.setTop (mkF mM 63 #[.val (.int p1), .val (.int p2), .val (.int p3), .val (.int p4), .val (.int p5), .val (.ref a4), .val (.int (3 : Int32)), .unset, .val (.int (18 : Int32)), .unset, .unset, .unset, .unset, .unset] [])) _
          refine XS.iload X4.here hx rfl (hb hby at_63) rfl ?_
          exact kg)
        clear pr17
        have c168 := (Nat.le_trans Z0 E4.1)
        obtain ⟨_, _, ⟨T169, L169, kk169, nn169⟩, -, X169, ⟨Lc169, hQ169, l169, y169, z169⟩, st169⟩ := Jvm.LawKit.callS X4 hx (y := (⟨"com/example/tesserae/tesserae/dicom/TransferSyntaxForUidPinLaw", "make", "(I)[C"⟩ : MethodName)) hown (mvT hZ (hw _ (List.mem_of_getElem? (i := 8) rfl))) (mvT hZ (hw _ (List.mem_of_getElem? (i := 9) rfl))) (mvT hZ (hw _ (List.mem_of_getElem? (i := 10) rfl))) (mvT hZ (hw _ (List.mem_of_getElem? (i := 11) rfl))) (by decide) (backOf (W := 0) (rm118 l Z a0 hw [] h4 n0 c168) hZ (hw _ (List.mem_of_getElem? (i := 11) rfl)) (hw _ (List.mem_of_getElem? (i := 10) rfl)) (by decide) (by decide)) (g := (mkF mM 65 #[.val (.int p1), .val (.int p2), .val (.int p3), .val (.int p4), .val (.int p5), .val (.ref a4), .val (.int (3 : Int32)), .unset, .val (.int (18 : Int32)), .unset, .unset, .unset, .unset, .unset] [(.int (18 : Int32))])) rfl (by rw [hml]; rfl) (argsL := [(.int (18 : Int32))]) (rest := []) (lenOf pd_12 rfl) rfl (by show 2 * 0 + _ ≤ _; exact Nat.le_of_eq rfl) (hb hby at_65) (fun _ _ => ⟨rfl, e4, (by decide : 2 + 1 ≤ _), (by decide : 80 + 18 ≤ _)⟩)
        dsimp only [Pt.U, Pt.locs, Pt.cells, Pt.slots] at X169 l169 y169 z169 st169 hQ169
        subst l169 y169 z169
        obtain ⟨bm169, rfl, ge169, Nq169, K169, km169, V169⟩ := hQ169
        have N169 := Fr.app N0 Nq169
        have ne170 : a4 ≠ bm169 := Nat.ne_of_lt (Nat.lt_of_lt_of_le (Es4).lt ge169)
        have ne171 : b4 ≠ bm169 := Nat.ne_of_lt (Nat.lt_of_lt_of_le (V4).lt ge169)
        have gn172 : n0 ≤ bm169 := Nat.le_trans c168 ge169
        have c174 := (Keep.ext (Keep.refl h0 []) E4)
        have gs173 : h0.size ≤ bm169 := Nat.le_trans c174.1 ge169
        have c175 := (Old.ext O E4)
        have cr176 := CHr.trans cr14 (CHr.keep K169 sf0 cr14.1)
        have pr177 : ∀ tg, Steps pP.tables eE below (T169.setTop (mkF mM 68 #[.val (.int p1), .val (.int p2), .val (.int p3), .val (.int p4), .val (.int p5), .val (.ref a4), .val (.int (3 : Int32)), .unset, .val (.int (18 : Int32)), .unset, .unset, .unset, .unset, .unset] [(.ref bm169)])) tg → Steps pP.tables eE below (s₁.setTop (entryFrame mM #[(.int p1), (.int p2), (.int p3), (.int p4), (.int p5)] maxLocals)) tg := fun tg kg => pr167 _ (st169 _ kg)
        clear pr167 st169 X4 e4
        have c178 := (Exa.keep Es4 K169)
        have c179 := (Fld.keep Fc4 K169 nin0)
        have c180 := (Fld.keep Fv4 K169 nin0)
        have c181 := (Arv.keep V4 K169 nin0)
        have c182 := (Old.keep c175 K169 all0)
        have pr183 : ∀ tg, Steps pP.tables eE below (T169.setTop (mkF mM 113 #[.val (.int p1), .val (.int p2), .val (.int p3), .val (.int p4), .val (.int p5), .val (.ref a4), .val (.int (3 : Int32)), .unset, .val (.int (18 : Int32)), .val (.ref bm169), .val (.int (p2 &&& (31 : Int32))), .val (.int (p3 &&& (255 : Int32)).toUInt32.toUInt16.toUInt32.toInt32), .val (.int (p4 &&& (255 : Int32)).toUInt32.toUInt16.toUInt32.toInt32), .val (.int (p5 &&& (255 : Int32)).toUInt32.toUInt16.toUInt32.toInt32)] [(.int (p5 &&& (255 : Int32)).toUInt32.toUInt16.toUInt32.toInt32), (.int (p4 &&& (255 : Int32)).toUInt32.toUInt16.toUInt32.toInt32), (.int (p3 &&& (255 : Int32)).toUInt32.toUInt16.toUInt32.toInt32), (.int (p2 &&& (31 : Int32))), (.ref a4), (.ref bm169)])) tg → Steps pP.tables eE below (s₁.setTop (entryFrame mM #[(.int p1), (.int p2), (.int p3), (.int p4), (.int p5)] maxLocals)) tg := fun tg kg => pr177 _ (by
          show Steps pP.tables eE below (T169.setTop (mkF mM 68 #[.val (.int p1), .val (.int p2), .val (.int p3), .val (.int p4), .val (.int p5), .val (.ref a4), .val (.int (3 : Int32)), .unset, .val (.int (18 : Int32)), .unset, .unset, .unset, .unset, .unset] [(.ref bm169)])) _
          refine XS.astore X169.here hx rfl (hb hby at_68) rfl rfl (l' := #[.val (.int p1), .val (.int p2), .val (.int p3), .val (.int p4), .val (.int p5), .val (.ref a4), .val (.int (3 : Int32)), .unset, .val (.int (18 : Int32)), .val (.ref bm169), .unset, .unset, .unset, .unset]) rfl ?_
          refine XS.iloadN X169.here hx rfl (hb hby at_70) rfl ?_
          refine XS.bipush X169.here hx rfl (hb hby at_71) ?_
          refine XS.iand X169.here hx rfl (hb hby at_73) rfl ?_
          refine XS.istore X169.here hx rfl (hb hby at_74) rfl (l' := #[.val (.int p1), .val (.int p2), .val (.int p3), .val (.int p4), .val (.int p5), .val (.ref a4), .val (.int (3 : Int32)), .unset, .val (.int (18 : Int32)), .val (.ref bm169), .val (.int (p2 &&& (31 : Int32))), .unset, .unset, .unset]) rfl ?_
          refine XS.iloadN X169.here hx rfl (hb hby at_76) rfl ?_
          show Steps pP.tables eE below (T169.setTop (mkF mM 77 #[.val (.int p1), .val (.int p2), .val (.int p3), .val (.int p4), .val (.int p5), .val (.ref a4), .val (.int (3 : Int32)), .unset, .val (.int (18 : Int32)), .val (.ref bm169), .val (.int (p2 &&& (31 : Int32))), .unset, .unset, .unset] [(.int p3)])) _
          refine XS.sipush X169.here hx rfl (hb hby at_77) ?_
          refine XS.iand X169.here hx rfl (hb hby at_80) rfl ?_
          refine XS.i2c X169.here hx rfl (hb hby at_81) rfl ?_
          refine XS.istore X169.here hx rfl (hb hby at_82) rfl (l' := #[.val (.int p1), .val (.int p2), .val (.int p3), .val (.int p4), .val (.int p5), .val (.ref a4), .val (.int (3 : Int32)), .unset, .val (.int (18 : Int32)), .val (.ref bm169), .val (.int (p2 &&& (31 : Int32))), .val (.int (p3 &&& (255 : Int32)).toUInt32.toUInt16.toUInt32.toInt32), .unset, .unset]) rfl ?_
          refine XS.iloadN X169.here hx rfl (hb hby at_84) rfl ?_
          refine XS.sipush X169.here hx rfl (hb hby at_85) ?_
          show Steps pP.tables eE below (T169.setTop (mkF mM 88 #[.val (.int p1), .val (.int p2), .val (.int p3), .val (.int p4), .val (.int p5), .val (.ref a4), .val (.int (3 : Int32)), .unset, .val (.int (18 : Int32)), .val (.ref bm169), .val (.int (p2 &&& (31 : Int32))), .val (.int (p3 &&& (255 : Int32)).toUInt32.toUInt16.toUInt32.toInt32), .unset, .unset] [(.int (255 : Int32)), (.int p4)])) _
          refine XS.iand X169.here hx rfl (hb hby at_88) rfl ?_
          refine XS.i2c X169.here hx rfl (hb hby at_89) rfl ?_
          refine XS.istore X169.here hx rfl (hb hby at_90) rfl (l' := #[.val (.int p1), .val (.int p2), .val (.int p3), .val (.int p4), .val (.int p5), .val (.ref a4), .val (.int (3 : Int32)), .unset, .val (.int (18 : Int32)), .val (.ref bm169), .val (.int (p2 &&& (31 : Int32))), .val (.int (p3 &&& (255 : Int32)).toUInt32.toUInt16.toUInt32.toInt32), .val (.int (p4 &&& (255 : Int32)).toUInt32.toUInt16.toUInt32.toInt32), .unset]) rfl ?_
          refine XS.iload X169.here hx rfl (hb hby at_92) rfl ?_
          refine XS.sipush X169.here hx rfl (hb hby at_94) ?_
          refine XS.iand X169.here hx rfl (hb hby at_97) rfl ?_
          show Steps pP.tables eE below (T169.setTop (mkF mM 98 #[.val (.int p1), .val (.int p2), .val (.int p3), .val (.int p4), .val (.int p5), .val (.ref a4), .val (.int (3 : Int32)), .unset, .val (.int (18 : Int32)), .val (.ref bm169), .val (.int (p2 &&& (31 : Int32))), .val (.int (p3 &&& (255 : Int32)).toUInt32.toUInt16.toUInt32.toInt32), .val (.int (p4 &&& (255 : Int32)).toUInt32.toUInt16.toUInt32.toInt32), .unset] [(.int (p5 &&& (255 : Int32)))])) _
          refine XS.i2c X169.here hx rfl (hb hby at_98) rfl ?_
          refine XS.istore X169.here hx rfl (hb hby at_99) rfl (l' := #[.val (.int p1), .val (.int p2), .val (.int p3), .val (.int p4), .val (.int p5), .val (.ref a4), .val (.int (3 : Int32)), .unset, .val (.int (18 : Int32)), .val (.ref bm169), .val (.int (p2 &&& (31 : Int32))), .val (.int (p3 &&& (255 : Int32)).toUInt32.toUInt16.toUInt32.toInt32), .val (.int (p4 &&& (255 : Int32)).toUInt32.toUInt16.toUInt32.toInt32), .val (.int (p5 &&& (255 : Int32)).toUInt32.toUInt16.toUInt32.toInt32)]) rfl ?_
          refine XS.aload X169.here hx rfl (hb hby at_101) rfl rfl ?_
          refine XS.aload X169.here hx rfl (hb hby at_103) rfl rfl ?_
          refine XS.iload X169.here hx rfl (hb hby at_105) rfl ?_
          refine XS.iload X169.here hx rfl (hb hby at_107) rfl ?_
          show Steps pP.tables eE below (T169.setTop (mkF mM 109 #[.val (.int p1), .val (.int p2), .val (.int p3), .val (.int p4), .val (.int p5), .val (.ref a4), .val (.int (3 : Int32)), .unset, .val (.int (18 : Int32)), .val (.ref bm169), .val (.int (p2 &&& (31 : Int32))), .val (.int (p3 &&& (255 : Int32)).toUInt32.toUInt16.toUInt32.toInt32), .val (.int (p4 &&& (255 : Int32)).toUInt32.toUInt16.toUInt32.toInt32), .val (.int (p5 &&& (255 : Int32)).toUInt32.toUInt16.toUInt32.toInt32)] [(.int (p3 &&& (255 : Int32)).toUInt32.toUInt16.toUInt32.toInt32), (.int (p2 &&& (31 : Int32))), (.ref a4), (.ref bm169)])) _
          refine XS.iload X169.here hx rfl (hb hby at_109) rfl ?_
          refine XS.iload X169.here hx rfl (hb hby at_111) rfl ?_
          exact kg)
        clear pr177
        have c184 := (Nat.le_trans c168 K169.1)
        obtain ⟨Ls185, X185, N185⟩ := own_hide X169 N169
        clear X169 N169
        obtain ⟨_, _, ⟨T186, L186, kk186, nn186⟩, -, X186, ⟨Lc186, hQ186, l186, y186, z186⟩, st186⟩ := Jvm.LawKit.callS X185 hx (y := (⟨"com/example/tesserae/tesserae/dicom/TransferSyntaxForUidPinLaw", "fill", "([CLjava/lang/String;ICCC)V"⟩ : MethodName)) hown (mvT hZ (hw _ (List.mem_of_getElem? (i := 13) rfl))) (mvT hZ (hw _ (List.mem_of_getElem? (i := 14) rfl))) (mvT hZ (hw _ (List.mem_of_getElem? (i := 10) rfl))) (mvT hZ (hw _ (List.mem_of_getElem? (i := 15) rfl))) (by decide) (backOf (W := 0) (rm3 l Z a0 hw [] cs sf a4 b4 kc4 nv vs bm169 km169 (18 : Int32) ([(0 : Int32), (0 : Int32), (0 : Int32), (0 : Int32), (0 : Int32), (0 : Int32), (0 : Int32), (0 : Int32), (0 : Int32), (0 : Int32), (0 : Int32), (0 : Int32), (0 : Int32), (0 : Int32), (0 : Int32), (0 : Int32), (0 : Int32), (0 : Int32)] : List Int32) (p2 &&& (31 : Int32)) (p3 &&& (255 : Int32)).toUInt32.toUInt16.toUInt32.toInt32 (p4 &&& (255 : Int32)).toUInt32.toUInt16.toUInt32.toInt32 (p5 &&& (255 : Int32)).toUInt32.toUInt16.toUInt32.toInt32 T169.heap n0 c184 c182 S_cs hcs S_sf rsf c178 c179 c180 c181 hvs V169 rfl (by decide) (by decide) gn172 ne170 ne171 (own_b8 _) (own_b8 _) (own_b8 _)) hZ (hw _ (List.mem_of_getElem? (i := 15) rfl)) (hw _ (List.mem_of_getElem? (i := 10) rfl)) (by decide) (by decide)) (g := (mkF mM 113 #[.val (.int p1), .val (.int p2), .val (.int p3), .val (.int p4), .val (.int p5), .val (.ref a4), .val (.int (3 : Int32)), .unset, .val (.int (18 : Int32)), .val (.ref bm169), .val (.int (p2 &&& (31 : Int32))), .val (.int (p3 &&& (255 : Int32)).toUInt32.toUInt16.toUInt32.toInt32), .val (.int (p4 &&& (255 : Int32)).toUInt32.toUInt16.toUInt32.toInt32), .val (.int (p5 &&& (255 : Int32)).toUInt32.toUInt16.toUInt32.toInt32)] [(.int (p5 &&& (255 : Int32)).toUInt32.toUInt16.toUInt32.toInt32), (.int (p4 &&& (255 : Int32)).toUInt32.toUInt16.toUInt32.toInt32), (.int (p3 &&& (255 : Int32)).toUInt32.toUInt16.toUInt32.toInt32), (.int (p2 &&& (31 : Int32))), (.ref a4), (.ref bm169)])) rfl (by rw [hml]; rfl) (argsL := [(.ref bm169), (.ref a4), (.int (p2 &&& (31 : Int32))), (.int (p3 &&& (255 : Int32)).toUInt32.toUInt16.toUInt32.toInt32), (.int (p4 &&& (255 : Int32)).toUInt32.toUInt16.toUInt32.toInt32), (.int (p5 &&& (255 : Int32)).toUInt32.toUInt16.toUInt32.toInt32)]) (rest := []) (lenOf pd_13 rfl) rfl (by show 2 * 0 + _ ≤ _; exact Nat.le_of_eq rfl) (hb hby at_113) (fun _ _ => ⟨rfl, rfl, (by decide : 3 + 0 ≤ _), (by decide : 98 + 0 ≤ _)⟩)
        dsimp only [Pt.U, Pt.locs, Pt.cells, Pt.slots] at X186 l186 y186 z186 st186 hQ186
        subst l186 y186 z186
        obtain ⟨rfl, Nq186, K186, tx186, hl186, hp186, V186⟩ := hQ186
        have N186 := Fr.app N185 Nq186
        have cr187 := CHr.trans cr176 (CHr.keep K186 (sfS (Safe.arv hZ.alike V169 (by decide)) sf0) cr176.1)
        have pr188 : ∀ tg, Steps pP.tables eE below (T186.setTop (mkF mM 116 #[.val (.int p1), .val (.int p2), .val (.int p3), .val (.int p4), .val (.int p5), .val (.ref a4), .val (.int (3 : Int32)), .unset, .val (.int (18 : Int32)), .val (.ref bm169), .val (.int (p2 &&& (31 : Int32))), .val (.int (p3 &&& (255 : Int32)).toUInt32.toUInt16.toUInt32.toInt32), .val (.int (p4 &&& (255 : Int32)).toUInt32.toUInt16.toUInt32.toInt32), .val (.int (p5 &&& (255 : Int32)).toUInt32.toUInt16.toUInt32.toInt32)] [])) tg → Steps pP.tables eE below (s₁.setTop (entryFrame mM #[(.int p1), (.int p2), (.int p3), (.int p4), (.int p5)] maxLocals)) tg := fun tg kg => pr183 _ (st186 _ kg)
        clear pr183 st186 X185
        have hlk186 : tx186.length = 18 := hl186
        obtain ⟨T189, h189, X189, e189, E189, A189, D189, -, st189⟩ := newO X186 hx hZ hown (hw _ (List.mem_of_getElem? (i := 19) rfl)) (hw _ (List.mem_of_getElem? (i := 2) rfl)) (hw _ (List.mem_of_getElem? (i := 1) rfl)) rfl (g := (mkF mM 116 #[.val (.int p1), .val (.int p2), .val (.int p3), .val (.int p4), .val (.int p5), .val (.ref a4), .val (.int (3 : Int32)), .unset, .val (.int (18 : Int32)), .val (.ref bm169), .val (.int (p2 &&& (31 : Int32))), .val (.int (p3 &&& (255 : Int32)).toUInt32.toUInt16.toUInt32.toInt32), .val (.int (p4 &&& (255 : Int32)).toUInt32.toUInt16.toUInt32.toInt32), .val (.int (p5 &&& (255 : Int32)).toUInt32.toUInt16.toUInt32.toInt32)] [])) rfl (hb hby at_116) (by decide) (by decide)
        obtain ⟨b189, g189⟩ : ∃ z, z = (T186.heap).size := ⟨_, rfl⟩
        rw [← g189] at A189 D189 st189
        have c191 := (Exa.keep c178 K186)
        have ne190 : a4 ≠ b189 := Nat.ne_of_lt (Nat.lt_of_lt_of_le (c191).lt (Nat.le_of_eq g189.symm))
        have c193 := (Arv.keep c181 K186 (ninS ne171 nin0))
        have ne192 : b4 ≠ b189 := Nat.ne_of_lt (Nat.lt_of_lt_of_le (c193).lt (Nat.le_of_eq g189.symm))
        have ne194 : bm169 ≠ b189 := Nat.ne_of_lt (Nat.lt_of_lt_of_le (V186).lt (Nat.le_of_eq g189.symm))
        have c196 := (Nat.le_trans c184 K186.1)
        have gn195 : n0 ≤ b189 := Nat.le_trans c196 (Nat.le_of_eq g189.symm)
        have c198 := (Keep.trans (Keep.trans c174 K169 all0) K186 (allS (Or.inr gs173) all0))
        have gs197 : h0.size ≤ b189 := Nat.le_trans c198.1 (Nat.le_of_eq g189.symm)
        have c199 := (Old.keep c182 K186 (allS gn172 all0))
        have sf200_b189 : Safe Z consts_1 T4.vm _ b189 := Safe.ext E189 cr187.1 (Safe.new (Nat.le_of_eq g189.symm))
        have cr200 := CHr.trans cr187 (CHr.ext E189 cr187.1)
        have F189_value : Fld Z h189 b189 "java/lang/String" "value" "[B" .null := D189 (Or.inr (hw _ (List.mem_of_getElem? (i := 4) rfl))) (ty := (.array .byte)) (by decide)
        have F189_coder : Fld Z h189 b189 "java/lang/String" "coder" "B" (.int (0 : Int32)) := D189 (Or.inr (hw _ (List.mem_of_getElem? (i := 5) rfl))) (ty := .byte) (by decide)
        have pr201 : ∀ tg, Steps pP.tables eE below (T189.setTop (mkF mM 119 #[.val (.int p1), .val (.int p2), .val (.int p3), .val (.int p4), .val (.int p5), .val (.ref a4), .val (.int (3 : Int32)), .unset, .val (.int (18 : Int32)), .val (.ref bm169), .val (.int (p2 &&& (31 : Int32))), .val (.int (p3 &&& (255 : Int32)).toUInt32.toUInt16.toUInt32.toInt32), .val (.int (p4 &&& (255 : Int32)).toUInt32.toUInt16.toUInt32.toInt32), .val (.int (p5 &&& (255 : Int32)).toUInt32.toUInt16.toUInt32.toInt32)] [(.ref b189)])) tg → Steps pP.tables eE below (s₁.setTop (entryFrame mM #[(.int p1), (.int p2), (.int p3), (.int p4), (.int p5)] maxLocals)) tg := fun tg kg => pr188 _ (st189 _ kg)
        clear pr188 st189 X186
        have c202 := (Arv.ext V186 E189)
        have c203 := (Old.ext c199 E189)
        have c204 := (Nat.le_trans c196 E189.1)
        have pr205 : ∀ tg, Steps pP.tables eE below (T189.setTop (mkF mM 122 #[.val (.int p1), .val (.int p2), .val (.int p3), .val (.int p4), .val (.int p5), .val (.ref a4), .val (.int (3 : Int32)), .unset, .val (.int (18 : Int32)), .val (.ref bm169), .val (.int (p2 &&& (31 : Int32))), .val (.int (p3 &&& (255 : Int32)).toUInt32.toUInt16.toUInt32.toInt32), .val (.int (p4 &&& (255 : Int32)).toUInt32.toUInt16.toUInt32.toInt32), .val (.int (p5 &&& (255 : Int32)).toUInt32.toUInt16.toUInt32.toInt32)] [(.ref bm169), (.ref b189), (.ref b189)])) tg → Steps pP.tables eE below (s₁.setTop (entryFrame mM #[(.int p1), (.int p2), (.int p3), (.int p4), (.int p5)] maxLocals)) tg := fun tg kg => pr201 _ (by
          show Steps pP.tables eE below (T189.setTop (mkF mM 119 #[.val (.int p1), .val (.int p2), .val (.int p3), .val (.int p4), .val (.int p5), .val (.ref a4), .val (.int (3 : Int32)), .unset, .val (.int (18 : Int32)), .val (.ref bm169), .val (.int (p2 &&& (31 : Int32))), .val (.int (p3 &&& (255 : Int32)).toUInt32.toUInt16.toUInt32.toInt32), .val (.int (p4 &&& (255 : Int32)).toUInt32.toUInt16.toUInt32.toInt32), .val (.int (p5 &&& (255 : Int32)).toUInt32.toUInt16.toUInt32.toInt32)] [(.ref b189)])) _
          refine XS.dup X189.here hx rfl (hb hby at_119) rfl rfl ?_
          refine XS.aload X189.here hx rfl (hb hby at_120) rfl rfl ?_
          exact kg)
        clear pr201
        obtain ⟨Ls206, X206, N206⟩ := own_hide X189 N186
        clear X189 N186
        obtain ⟨_, _, ⟨T207, L207, kk207, nn207⟩, -, X207, ⟨Lc207, hQ207, l207, y207, z207⟩, st207⟩ := X206.specialBack hx (y := (⟨"java/lang/String", "<init>", "([C)V"⟩ : MethodName)) rfl hown (mvT hZ (hw _ (List.mem_of_getElem? (i := 20) rfl))) (mvT hZ (hw _ (List.mem_of_getElem? (i := 21) rfl))) (mvT hZ (hw _ (List.mem_of_getElem? (i := 22) rfl))) (by decide) (StrChars.Road.backV (W := 1) hZ (own_wB hw) (kI := 4) (hw _ (List.mem_of_getElem? (i := 2) rfl)) (cs := tx186) (bs := (tx186).map (fun c => c.toInt8.toInt32)) (n := 18) gn195 c204 A189 F189_value F189_coder c202 (Sta.ext (c203).2 S_cs) hcs hlk186 rfl (by decide) (by decide) hp186 rfl (by decide) (by decide)) (g := (mkF mM 122 #[.val (.int p1), .val (.int p2), .val (.int p3), .val (.int p4), .val (.int p5), .val (.ref a4), .val (.int (3 : Int32)), .unset, .val (.int (18 : Int32)), .val (.ref bm169), .val (.int (p2 &&& (31 : Int32))), .val (.int (p3 &&& (255 : Int32)).toUInt32.toUInt16.toUInt32.toInt32), .val (.int (p4 &&& (255 : Int32)).toUInt32.toUInt16.toUInt32.toInt32), .val (.int (p5 &&& (255 : Int32)).toUInt32.toUInt16.toUInt32.toInt32)] [(.ref bm169), (.ref b189), (.ref b189)])) rfl (by rw [hml]; rfl) (Steps.refl _) (a := b189) (argsL := [(.ref bm169)]) (rest := [(.ref b189)]) (lenOf pd_14 rfl) rfl (by show 2 * 0 + _ ≤ _; exact Nat.le_of_eq rfl) (hb hby at_122) (fun _ _ => ⟨rfl, e189, (by decide : 4 + 1 ≤ _), (by decide : 102 + 18 ≤ _)⟩)
        dsimp only [Pt.U, Pt.locs, Pt.cells, Pt.slots] at X207 l207 y207 z207 st207 hQ207
        subst l207 y207 z207
        obtain ⟨rfl, Nq207, K207, E207, Fc207, tn207, kt207, -, ge207, -, Fv207, V207⟩ := hQ207
        have N207 := Fr.app N206 Nq207
        have sf208_b189 := Safe.keep K207 (sfS sf200_b189 sf0) cr200.1 sf200_b189
        have cr208 := CHr.trans cr200 (CHr.keep K207 (sfS sf200_b189 sf0) cr200.1)
        have pr209 : ∀ tg, Steps pP.tables eE below (T207.setTop (mkF mM 125 #[.val (.int p1), .val (.int p2), .val (.int p3), .val (.int p4), .val (.int p5), .val (.ref a4), .val (.int (3 : Int32)), .unset, .val (.int (18 : Int32)), .val (.ref bm169), .val (.int (p2 &&& (31 : Int32))), .val (.int (p3 &&& (255 : Int32)).toUInt32.toUInt16.toUInt32.toInt32), .val (.int (p4 &&& (255 : Int32)).toUInt32.toUInt16.toUInt32.toInt32), .val (.int (p5 &&& (255 : Int32)).toUInt32.toUInt16.toUInt32.toInt32)] [(.ref b189)])) tg → Steps pP.tables eE below (s₁.setTop (entryFrame mM #[(.int p1), (.int p2), (.int p3), (.int p4), (.int p5)] maxLocals)) tg := fun tg kg => pr205 _ (st207.trans kg)
        clear pr205 st207 X206 e189
        have Vl207 : Arv Z T207.heap tn207 kt207 .byte (Int32.ofNat tx186.length) ((tx186.map StrChars.lo8).map Value.int) (.int (0 : Int32)) := by rw [hlk186]; exact V207
        have pr210 : ∀ tg, Steps pP.tables eE below (T207.setTop (mkF mM 127 #[.val (.int p1), .val (.int p2), .val (.int p3), .val (.int p4), .val (.int p5), .val (.ref a4), .val (.int (3 : Int32)), .val (.ref b189), .val (.int (18 : Int32)), .val (.ref bm169), .val (.int (p2 &&& (31 : Int32))), .val (.int (p3 &&& (255 : Int32)).toUInt32.toUInt16.toUInt32.toInt32), .val (.int (p4 &&& (255 : Int32)).toUInt32.toUInt16.toUInt32.toInt32), .val (.int (p5 &&& (255 : Int32)).toUInt32.toUInt16.toUInt32.toInt32)] [])) tg → Steps pP.tables eE below (s₁.setTop (entryFrame mM #[(.int p1), (.int p2), (.int p3), (.int p4), (.int p5)] maxLocals)) tg := fun tg kg => pr209 _ (by
          show Steps pP.tables eE below (T207.setTop (mkF mM 125 #[.val (.int p1), .val (.int p2), .val (.int p3), .val (.int p4), .val (.int p5), .val (.ref a4), .val (.int (3 : Int32)), .unset, .val (.int (18 : Int32)), .val (.ref bm169), .val (.int (p2 &&& (31 : Int32))), .val (.int (p3 &&& (255 : Int32)).toUInt32.toUInt16.toUInt32.toInt32), .val (.int (p4 &&& (255 : Int32)).toUInt32.toUInt16.toUInt32.toInt32), .val (.int (p5 &&& (255 : Int32)).toUInt32.toUInt16.toUInt32.toInt32)] [(.ref b189)])) _
          refine XS.astore X207.here hx rfl (hb hby at_125) rfl rfl (l' := #[.val (.int p1), .val (.int p2), .val (.int p3), .val (.int p4), .val (.int p5), .val (.ref a4), .val (.int (3 : Int32)), .val (.ref b189), .val (.int (18 : Int32)), .val (.ref bm169), .val (.int (p2 &&& (31 : Int32))), .val (.int (p3 &&& (255 : Int32)).toUInt32.toUInt16.toUInt32.toInt32), .val (.int (p4 &&& (255 : Int32)).toUInt32.toUInt16.toUInt32.toInt32), .val (.int (p5 &&& (255 : Int32)).toUInt32.toUInt16.toUInt32.toInt32)]) rfl ?_
          exact kg)
        clear pr209
        have c211 := (Old.keep c203 K207 (allS gn195 all0))
        have c212 := (Nat.le_trans c204 K207.1)
        have c213 := (Nat.le_trans (Nat.le_trans (Nat.le_trans (Nat.le_trans hk4 K169.1) K186.1) E189.1) K207.1)
        exact ⟨T207, T207.heap, T4.vm, _, b189, tn207, _, tx186, (18 : Int32), bm169, _, Jvm.Stand.mono X207 (by decide) (by decide), N207, rfl, c211, c212, hS, c213, hZ, hown, cr208, E207, Fv207, Fc207, Vl207, hp186, (by rw [hlk186]; decide), pr210⟩
      ·
        have pr214 : ∀ tg, Steps pP.tables eE below (T4.setTop (mkF mM 65 #[.val (.int p1), .val (.int p2), .val (.int p3), .val (.int p4), .val (.int p5), .val (.ref a4), .val (.int (4 : Int32)), .unset, .val (.int (19 : Int32)), .unset, .unset, .unset, .unset, .unset] [(.int (19 : Int32))])) tg → Steps pP.tables eE below (s₁.setTop (entryFrame mM #[(.int p1), (.int p2), (.int p3), (.int p4), (.int p5)] maxLocals)) tg := fun tg kg => pr17 _ (by
          show Steps pP.tables eE below (T4.setTop (mkF mM 23 #[.val (.int p1), .val (.int p2), .val (.int p3), .val (.int p4), .val (.int p5), .val (.ref a4), .val (.int (4 : Int32)), .unset, .unset, .unset, .unset, .unset, .unset, .unset] [])) _
          refine XS.iload X4.here hx rfl (hb hby at_23) rfl ?_
          refine XS.bipush X4.here hx rfl (hb hby at_25) ?_
          refine XS.icmpYes X4.here hx rfl (pc0 := 27) (pc' := 36) rfl (hb hby at_27) rfl (feq (by decide)).2 (by decide) (by decide) ?_
          refine XS.iload X4.here hx rfl (hb hby at_36) rfl ?_
          refine XS.ifYes X4.here hx rfl (pc0 := 38) (pc' := 45) rfl (hb hby at_38) rfl ((if0 _ _).trans (feq (by decide)).2) (by decide) (by decide) ?_
          refine XS.iload X4.here hx rfl (hb hby at_45) rfl ?_
          show Steps pP.tables eE below (T4.setTop (mkF mM 47 #[.val (.int p1), .val (.int p2), .val (.int p3), .val (.int p4), .val (.int p5), .val (.ref a4), .val (.int (4 : Int32)), .unset, .unset, .unset, .unset, .unset, .unset, .unset] [(.int (4 : Int32))])) _
          refine XS.bipush X4.here hx rfl (hb hby at_47) ?_
          refine XS.icmpYes X4.here hx rfl (pc0 := 49) (pc' := 56) rfl (hb hby at_49) rfl (feq (by decide)).2 (by decide) (by decide) ?_
          refine XS.bipush X4.here hx rfl (hb hby at_56) ?_
          refine XS.iload X4.here hx rfl (hb hby at_58) rfl ?_
          refine XS.iadd X4.here hx rfl (hb hby at_60) rfl ?_
          refine XS.istore X4.here hx rfl (hb hby at_61) rfl (l' := #[.val (.int p1), .val (.int p2), .val (.int p3), .val (.int p4), .val (.int p5), .val (.ref a4), .val (.int (4 : Int32)), .unset, .val (.int (19 : Int32)), .unset, .unset, .unset, .unset, .unset]) rfl ?_
          show Steps pP.tables eE below (T4.setTop (mkF mM 63 #[.val (.int p1), .val (.int p2), .val (.int p3), .val (.int p4), .val (.int p5), .val (.ref a4), .val (.int (4 : Int32)), .unset, .val (.int (19 : Int32)), .unset, .unset, .unset, .unset, .unset] [])) _
          refine XS.iload X4.here hx rfl (hb hby at_63) rfl ?_
          exact kg)
        clear pr17
        have c215 := (Nat.le_trans Z0 E4.1)
        obtain ⟨_, _, ⟨T216, L216, kk216, nn216⟩, -, X216, ⟨Lc216, hQ216, l216, y216, z216⟩, st216⟩ := Jvm.LawKit.callS X4 hx (y := (⟨"com/example/tesserae/tesserae/dicom/TransferSyntaxForUidPinLaw", "make", "(I)[C"⟩ : MethodName)) hown (mvT hZ (hw _ (List.mem_of_getElem? (i := 8) rfl))) (mvT hZ (hw _ (List.mem_of_getElem? (i := 9) rfl))) (mvT hZ (hw _ (List.mem_of_getElem? (i := 10) rfl))) (mvT hZ (hw _ (List.mem_of_getElem? (i := 11) rfl))) (by decide) (backOf (W := 0) (rm119 l Z a0 hw [] h4 n0 c215) hZ (hw _ (List.mem_of_getElem? (i := 11) rfl)) (hw _ (List.mem_of_getElem? (i := 10) rfl)) (by decide) (by decide)) (g := (mkF mM 65 #[.val (.int p1), .val (.int p2), .val (.int p3), .val (.int p4), .val (.int p5), .val (.ref a4), .val (.int (4 : Int32)), .unset, .val (.int (19 : Int32)), .unset, .unset, .unset, .unset, .unset] [(.int (19 : Int32))])) rfl (by rw [hml]; rfl) (argsL := [(.int (19 : Int32))]) (rest := []) (lenOf pd_12 rfl) rfl (by show 2 * 0 + _ ≤ _; exact Nat.le_of_eq rfl) (hb hby at_65) (fun _ _ => ⟨rfl, e4, (by decide : 2 + 1 ≤ _), (by decide : 80 + 19 ≤ _)⟩)
        dsimp only [Pt.U, Pt.locs, Pt.cells, Pt.slots] at X216 l216 y216 z216 st216 hQ216
        subst l216 y216 z216
        obtain ⟨bm216, rfl, ge216, Nq216, K216, km216, V216⟩ := hQ216
        have N216 := Fr.app N0 Nq216
        have ne217 : a4 ≠ bm216 := Nat.ne_of_lt (Nat.lt_of_lt_of_le (Es4).lt ge216)
        have ne218 : b4 ≠ bm216 := Nat.ne_of_lt (Nat.lt_of_lt_of_le (V4).lt ge216)
        have gn219 : n0 ≤ bm216 := Nat.le_trans c215 ge216
        have c221 := (Keep.ext (Keep.refl h0 []) E4)
        have gs220 : h0.size ≤ bm216 := Nat.le_trans c221.1 ge216
        have c222 := (Old.ext O E4)
        have cr223 := CHr.trans cr14 (CHr.keep K216 sf0 cr14.1)
        have pr224 : ∀ tg, Steps pP.tables eE below (T216.setTop (mkF mM 68 #[.val (.int p1), .val (.int p2), .val (.int p3), .val (.int p4), .val (.int p5), .val (.ref a4), .val (.int (4 : Int32)), .unset, .val (.int (19 : Int32)), .unset, .unset, .unset, .unset, .unset] [(.ref bm216)])) tg → Steps pP.tables eE below (s₁.setTop (entryFrame mM #[(.int p1), (.int p2), (.int p3), (.int p4), (.int p5)] maxLocals)) tg := fun tg kg => pr214 _ (st216 _ kg)
        clear pr214 st216 X4 e4
        have c225 := (Exa.keep Es4 K216)
        have c226 := (Fld.keep Fc4 K216 nin0)
        have c227 := (Fld.keep Fv4 K216 nin0)
        have c228 := (Arv.keep V4 K216 nin0)
        have c229 := (Old.keep c222 K216 all0)
        have pr230 : ∀ tg, Steps pP.tables eE below (T216.setTop (mkF mM 113 #[.val (.int p1), .val (.int p2), .val (.int p3), .val (.int p4), .val (.int p5), .val (.ref a4), .val (.int (4 : Int32)), .unset, .val (.int (19 : Int32)), .val (.ref bm216), .val (.int (p2 &&& (31 : Int32))), .val (.int (p3 &&& (255 : Int32)).toUInt32.toUInt16.toUInt32.toInt32), .val (.int (p4 &&& (255 : Int32)).toUInt32.toUInt16.toUInt32.toInt32), .val (.int (p5 &&& (255 : Int32)).toUInt32.toUInt16.toUInt32.toInt32)] [(.int (p5 &&& (255 : Int32)).toUInt32.toUInt16.toUInt32.toInt32), (.int (p4 &&& (255 : Int32)).toUInt32.toUInt16.toUInt32.toInt32), (.int (p3 &&& (255 : Int32)).toUInt32.toUInt16.toUInt32.toInt32), (.int (p2 &&& (31 : Int32))), (.ref a4), (.ref bm216)])) tg → Steps pP.tables eE below (s₁.setTop (entryFrame mM #[(.int p1), (.int p2), (.int p3), (.int p4), (.int p5)] maxLocals)) tg := fun tg kg => pr224 _ (by
          show Steps pP.tables eE below (T216.setTop (mkF mM 68 #[.val (.int p1), .val (.int p2), .val (.int p3), .val (.int p4), .val (.int p5), .val (.ref a4), .val (.int (4 : Int32)), .unset, .val (.int (19 : Int32)), .unset, .unset, .unset, .unset, .unset] [(.ref bm216)])) _
          refine XS.astore X216.here hx rfl (hb hby at_68) rfl rfl (l' := #[.val (.int p1), .val (.int p2), .val (.int p3), .val (.int p4), .val (.int p5), .val (.ref a4), .val (.int (4 : Int32)), .unset, .val (.int (19 : Int32)), .val (.ref bm216), .unset, .unset, .unset, .unset]) rfl ?_
          refine XS.iloadN X216.here hx rfl (hb hby at_70) rfl ?_
          refine XS.bipush X216.here hx rfl (hb hby at_71) ?_
          refine XS.iand X216.here hx rfl (hb hby at_73) rfl ?_
          refine XS.istore X216.here hx rfl (hb hby at_74) rfl (l' := #[.val (.int p1), .val (.int p2), .val (.int p3), .val (.int p4), .val (.int p5), .val (.ref a4), .val (.int (4 : Int32)), .unset, .val (.int (19 : Int32)), .val (.ref bm216), .val (.int (p2 &&& (31 : Int32))), .unset, .unset, .unset]) rfl ?_
          refine XS.iloadN X216.here hx rfl (hb hby at_76) rfl ?_
          show Steps pP.tables eE below (T216.setTop (mkF mM 77 #[.val (.int p1), .val (.int p2), .val (.int p3), .val (.int p4), .val (.int p5), .val (.ref a4), .val (.int (4 : Int32)), .unset, .val (.int (19 : Int32)), .val (.ref bm216), .val (.int (p2 &&& (31 : Int32))), .unset, .unset, .unset] [(.int p3)])) _
          refine XS.sipush X216.here hx rfl (hb hby at_77) ?_
          refine XS.iand X216.here hx rfl (hb hby at_80) rfl ?_
          refine XS.i2c X216.here hx rfl (hb hby at_81) rfl ?_
          refine XS.istore X216.here hx rfl (hb hby at_82) rfl (l' := #[.val (.int p1), .val (.int p2), .val (.int p3), .val (.int p4), .val (.int p5), .val (.ref a4), .val (.int (4 : Int32)), .unset, .val (.int (19 : Int32)), .val (.ref bm216), .val (.int (p2 &&& (31 : Int32))), .val (.int (p3 &&& (255 : Int32)).toUInt32.toUInt16.toUInt32.toInt32), .unset, .unset]) rfl ?_
          refine XS.iloadN X216.here hx rfl (hb hby at_84) rfl ?_
          refine XS.sipush X216.here hx rfl (hb hby at_85) ?_
          show Steps pP.tables eE below (T216.setTop (mkF mM 88 #[.val (.int p1), .val (.int p2), .val (.int p3), .val (.int p4), .val (.int p5), .val (.ref a4), .val (.int (4 : Int32)), .unset, .val (.int (19 : Int32)), .val (.ref bm216), .val (.int (p2 &&& (31 : Int32))), .val (.int (p3 &&& (255 : Int32)).toUInt32.toUInt16.toUInt32.toInt32), .unset, .unset] [(.int (255 : Int32)), (.int p4)])) _
          refine XS.iand X216.here hx rfl (hb hby at_88) rfl ?_
          refine XS.i2c X216.here hx rfl (hb hby at_89) rfl ?_
          refine XS.istore X216.here hx rfl (hb hby at_90) rfl (l' := #[.val (.int p1), .val (.int p2), .val (.int p3), .val (.int p4), .val (.int p5), .val (.ref a4), .val (.int (4 : Int32)), .unset, .val (.int (19 : Int32)), .val (.ref bm216), .val (.int (p2 &&& (31 : Int32))), .val (.int (p3 &&& (255 : Int32)).toUInt32.toUInt16.toUInt32.toInt32), .val (.int (p4 &&& (255 : Int32)).toUInt32.toUInt16.toUInt32.toInt32), .unset]) rfl ?_
          refine XS.iload X216.here hx rfl (hb hby at_92) rfl ?_
          refine XS.sipush X216.here hx rfl (hb hby at_94) ?_
          refine XS.iand X216.here hx rfl (hb hby at_97) rfl ?_
          show Steps pP.tables eE below (T216.setTop (mkF mM 98 #[.val (.int p1), .val (.int p2), .val (.int p3), .val (.int p4), .val (.int p5), .val (.ref a4), .val (.int (4 : Int32)), .unset, .val (.int (19 : Int32)), .val (.ref bm216), .val (.int (p2 &&& (31 : Int32))), .val (.int (p3 &&& (255 : Int32)).toUInt32.toUInt16.toUInt32.toInt32), .val (.int (p4 &&& (255 : Int32)).toUInt32.toUInt16.toUInt32.toInt32), .unset] [(.int (p5 &&& (255 : Int32)))])) _
          refine XS.i2c X216.here hx rfl (hb hby at_98) rfl ?_
          refine XS.istore X216.here hx rfl (hb hby at_99) rfl (l' := #[.val (.int p1), .val (.int p2), .val (.int p3), .val (.int p4), .val (.int p5), .val (.ref a4), .val (.int (4 : Int32)), .unset, .val (.int (19 : Int32)), .val (.ref bm216), .val (.int (p2 &&& (31 : Int32))), .val (.int (p3 &&& (255 : Int32)).toUInt32.toUInt16.toUInt32.toInt32), .val (.int (p4 &&& (255 : Int32)).toUInt32.toUInt16.toUInt32.toInt32), .val (.int (p5 &&& (255 : Int32)).toUInt32.toUInt16.toUInt32.toInt32)]) rfl ?_
          refine XS.aload X216.here hx rfl (hb hby at_101) rfl rfl ?_
          refine XS.aload X216.here hx rfl (hb hby at_103) rfl rfl ?_
          refine XS.iload X216.here hx rfl (hb hby at_105) rfl ?_
          refine XS.iload X216.here hx rfl (hb hby at_107) rfl ?_
          show Steps pP.tables eE below (T216.setTop (mkF mM 109 #[.val (.int p1), .val (.int p2), .val (.int p3), .val (.int p4), .val (.int p5), .val (.ref a4), .val (.int (4 : Int32)), .unset, .val (.int (19 : Int32)), .val (.ref bm216), .val (.int (p2 &&& (31 : Int32))), .val (.int (p3 &&& (255 : Int32)).toUInt32.toUInt16.toUInt32.toInt32), .val (.int (p4 &&& (255 : Int32)).toUInt32.toUInt16.toUInt32.toInt32), .val (.int (p5 &&& (255 : Int32)).toUInt32.toUInt16.toUInt32.toInt32)] [(.int (p3 &&& (255 : Int32)).toUInt32.toUInt16.toUInt32.toInt32), (.int (p2 &&& (31 : Int32))), (.ref a4), (.ref bm216)])) _
          refine XS.iload X216.here hx rfl (hb hby at_109) rfl ?_
          refine XS.iload X216.here hx rfl (hb hby at_111) rfl ?_
          exact kg)
        clear pr224
        have c231 := (Nat.le_trans c215 K216.1)
        obtain ⟨Ls232, X232, N232⟩ := own_hide X216 N216
        clear X216 N216
        obtain ⟨_, _, ⟨T233, L233, kk233, nn233⟩, -, X233, ⟨Lc233, hQ233, l233, y233, z233⟩, st233⟩ := Jvm.LawKit.callS X232 hx (y := (⟨"com/example/tesserae/tesserae/dicom/TransferSyntaxForUidPinLaw", "fill", "([CLjava/lang/String;ICCC)V"⟩ : MethodName)) hown (mvT hZ (hw _ (List.mem_of_getElem? (i := 13) rfl))) (mvT hZ (hw _ (List.mem_of_getElem? (i := 14) rfl))) (mvT hZ (hw _ (List.mem_of_getElem? (i := 10) rfl))) (mvT hZ (hw _ (List.mem_of_getElem? (i := 15) rfl))) (by decide) (backOf (W := 0) (rm3 l Z a0 hw [] cs sf a4 b4 kc4 nv vs bm216 km216 (19 : Int32) ([(0 : Int32), (0 : Int32), (0 : Int32), (0 : Int32), (0 : Int32), (0 : Int32), (0 : Int32), (0 : Int32), (0 : Int32), (0 : Int32), (0 : Int32), (0 : Int32), (0 : Int32), (0 : Int32), (0 : Int32), (0 : Int32), (0 : Int32), (0 : Int32), (0 : Int32)] : List Int32) (p2 &&& (31 : Int32)) (p3 &&& (255 : Int32)).toUInt32.toUInt16.toUInt32.toInt32 (p4 &&& (255 : Int32)).toUInt32.toUInt16.toUInt32.toInt32 (p5 &&& (255 : Int32)).toUInt32.toUInt16.toUInt32.toInt32 T216.heap n0 c231 c229 S_cs hcs S_sf rsf c225 c226 c227 c228 hvs V216 rfl (by decide) (by decide) gn219 ne217 ne218 (own_b8 _) (own_b8 _) (own_b8 _)) hZ (hw _ (List.mem_of_getElem? (i := 15) rfl)) (hw _ (List.mem_of_getElem? (i := 10) rfl)) (by decide) (by decide)) (g := (mkF mM 113 #[.val (.int p1), .val (.int p2), .val (.int p3), .val (.int p4), .val (.int p5), .val (.ref a4), .val (.int (4 : Int32)), .unset, .val (.int (19 : Int32)), .val (.ref bm216), .val (.int (p2 &&& (31 : Int32))), .val (.int (p3 &&& (255 : Int32)).toUInt32.toUInt16.toUInt32.toInt32), .val (.int (p4 &&& (255 : Int32)).toUInt32.toUInt16.toUInt32.toInt32), .val (.int (p5 &&& (255 : Int32)).toUInt32.toUInt16.toUInt32.toInt32)] [(.int (p5 &&& (255 : Int32)).toUInt32.toUInt16.toUInt32.toInt32), (.int (p4 &&& (255 : Int32)).toUInt32.toUInt16.toUInt32.toInt32), (.int (p3 &&& (255 : Int32)).toUInt32.toUInt16.toUInt32.toInt32), (.int (p2 &&& (31 : Int32))), (.ref a4), (.ref bm216)])) rfl (by rw [hml]; rfl) (argsL := [(.ref bm216), (.ref a4), (.int (p2 &&& (31 : Int32))), (.int (p3 &&& (255 : Int32)).toUInt32.toUInt16.toUInt32.toInt32), (.int (p4 &&& (255 : Int32)).toUInt32.toUInt16.toUInt32.toInt32), (.int (p5 &&& (255 : Int32)).toUInt32.toUInt16.toUInt32.toInt32)]) (rest := []) (lenOf pd_13 rfl) rfl (by show 2 * 0 + _ ≤ _; exact Nat.le_of_eq rfl) (hb hby at_113) (fun _ _ => ⟨rfl, rfl, (by decide : 3 + 0 ≤ _), (by decide : 99 + 0 ≤ _)⟩)
        dsimp only [Pt.U, Pt.locs, Pt.cells, Pt.slots] at X233 l233 y233 z233 st233 hQ233
        subst l233 y233 z233
        obtain ⟨rfl, Nq233, K233, tx233, hl233, hp233, V233⟩ := hQ233
        have N233 := Fr.app N232 Nq233
        have cr234 := CHr.trans cr223 (CHr.keep K233 (sfS (Safe.arv hZ.alike V216 (by decide)) sf0) cr223.1)
        have pr235 : ∀ tg, Steps pP.tables eE below (T233.setTop (mkF mM 116 #[.val (.int p1), .val (.int p2), .val (.int p3), .val (.int p4), .val (.int p5), .val (.ref a4), .val (.int (4 : Int32)), .unset, .val (.int (19 : Int32)), .val (.ref bm216), .val (.int (p2 &&& (31 : Int32))), .val (.int (p3 &&& (255 : Int32)).toUInt32.toUInt16.toUInt32.toInt32), .val (.int (p4 &&& (255 : Int32)).toUInt32.toUInt16.toUInt32.toInt32), .val (.int (p5 &&& (255 : Int32)).toUInt32.toUInt16.toUInt32.toInt32)] [])) tg → Steps pP.tables eE below (s₁.setTop (entryFrame mM #[(.int p1), (.int p2), (.int p3), (.int p4), (.int p5)] maxLocals)) tg := fun tg kg => pr230 _ (st233 _ kg)
        clear pr230 st233 X232
        have hlk233 : tx233.length = 19 := hl233
        obtain ⟨T236, h236, X236, e236, E236, A236, D236, -, st236⟩ := newO X233 hx hZ hown (hw _ (List.mem_of_getElem? (i := 19) rfl)) (hw _ (List.mem_of_getElem? (i := 2) rfl)) (hw _ (List.mem_of_getElem? (i := 1) rfl)) rfl (g := (mkF mM 116 #[.val (.int p1), .val (.int p2), .val (.int p3), .val (.int p4), .val (.int p5), .val (.ref a4), .val (.int (4 : Int32)), .unset, .val (.int (19 : Int32)), .val (.ref bm216), .val (.int (p2 &&& (31 : Int32))), .val (.int (p3 &&& (255 : Int32)).toUInt32.toUInt16.toUInt32.toInt32), .val (.int (p4 &&& (255 : Int32)).toUInt32.toUInt16.toUInt32.toInt32), .val (.int (p5 &&& (255 : Int32)).toUInt32.toUInt16.toUInt32.toInt32)] [])) rfl (hb hby at_116) (by decide) (by decide)
        obtain ⟨b236, g236⟩ : ∃ z, z = (T233.heap).size := ⟨_, rfl⟩
        rw [← g236] at A236 D236 st236
        have c238 := (Exa.keep c225 K233)
        have ne237 : a4 ≠ b236 := Nat.ne_of_lt (Nat.lt_of_lt_of_le (c238).lt (Nat.le_of_eq g236.symm))
        have c240 := (Arv.keep c228 K233 (ninS ne218 nin0))
        have ne239 : b4 ≠ b236 := Nat.ne_of_lt (Nat.lt_of_lt_of_le (c240).lt (Nat.le_of_eq g236.symm))
        have ne241 : bm216 ≠ b236 := Nat.ne_of_lt (Nat.lt_of_lt_of_le (V233).lt (Nat.le_of_eq g236.symm))
        have c243 := (Nat.le_trans c231 K233.1)
        have gn242 : n0 ≤ b236 := Nat.le_trans c243 (Nat.le_of_eq g236.symm)
        have c245 := (Keep.trans (Keep.trans c221 K216 all0) K233 (allS (Or.inr gs220) all0))
        have gs244 : h0.size ≤ b236 := Nat.le_trans c245.1 (Nat.le_of_eq g236.symm)
        have c246 := (Old.keep c229 K233 (allS gn219 all0))
        have sf247_b236 : Safe Z consts_1 T4.vm _ b236 := Safe.ext E236 cr234.1 (Safe.new (Nat.le_of_eq g236.symm))
        have cr247 := CHr.trans cr234 (CHr.ext E236 cr234.1)
        have F236_value : Fld Z h236 b236 "java/lang/String" "value" "[B" .null := D236 (Or.inr (hw _ (List.mem_of_getElem? (i := 4) rfl))) (ty := (.array .byte)) (by decide)
        have F236_coder : Fld Z h236 b236 "java/lang/String" "coder" "B" (.int (0 : Int32)) := D236 (Or.inr (hw _ (List.mem_of_getElem? (i := 5) rfl))) (ty := .byte) (by decide)
        have pr248 : ∀ tg, Steps pP.tables eE below (T236.setTop (mkF mM 119 #[.val (.int p1), .val (.int p2), .val (.int p3), .val (.int p4), .val (.int p5), .val (.ref a4), .val (.int (4 : Int32)), .unset, .val (.int (19 : Int32)), .val (.ref bm216), .val (.int (p2 &&& (31 : Int32))), .val (.int (p3 &&& (255 : Int32)).toUInt32.toUInt16.toUInt32.toInt32), .val (.int (p4 &&& (255 : Int32)).toUInt32.toUInt16.toUInt32.toInt32), .val (.int (p5 &&& (255 : Int32)).toUInt32.toUInt16.toUInt32.toInt32)] [(.ref b236)])) tg → Steps pP.tables eE below (s₁.setTop (entryFrame mM #[(.int p1), (.int p2), (.int p3), (.int p4), (.int p5)] maxLocals)) tg := fun tg kg => pr235 _ (st236 _ kg)
        clear pr235 st236 X233
        have c249 := (Arv.ext V233 E236)
        have c250 := (Old.ext c246 E236)
        have c251 := (Nat.le_trans c243 E236.1)
        have pr252 : ∀ tg, Steps pP.tables eE below (T236.setTop (mkF mM 122 #[.val (.int p1), .val (.int p2), .val (.int p3), .val (.int p4), .val (.int p5), .val (.ref a4), .val (.int (4 : Int32)), .unset, .val (.int (19 : Int32)), .val (.ref bm216), .val (.int (p2 &&& (31 : Int32))), .val (.int (p3 &&& (255 : Int32)).toUInt32.toUInt16.toUInt32.toInt32), .val (.int (p4 &&& (255 : Int32)).toUInt32.toUInt16.toUInt32.toInt32), .val (.int (p5 &&& (255 : Int32)).toUInt32.toUInt16.toUInt32.toInt32)] [(.ref bm216), (.ref b236), (.ref b236)])) tg → Steps pP.tables eE below (s₁.setTop (entryFrame mM #[(.int p1), (.int p2), (.int p3), (.int p4), (.int p5)] maxLocals)) tg := fun tg kg => pr248 _ (by
          show Steps pP.tables eE below (T236.setTop (mkF mM 119 #[.val (.int p1), .val (.int p2), .val (.int p3), .val (.int p4), .val (.int p5), .val (.ref a4), .val (.int (4 : Int32)), .unset, .val (.int (19 : Int32)), .val (.ref bm216), .val (.int (p2 &&& (31 : Int32))), .val (.int (p3 &&& (255 : Int32)).toUInt32.toUInt16.toUInt32.toInt32), .val (.int (p4 &&& (255 : Int32)).toUInt32.toUInt16.toUInt32.toInt32), .val (.int (p5 &&& (255 : Int32)).toUInt32.toUInt16.toUInt32.toInt32)] [(.ref b236)])) _
          refine XS.dup X236.here hx rfl (hb hby at_119) rfl rfl ?_
          refine XS.aload X236.here hx rfl (hb hby at_120) rfl rfl ?_
          exact kg)
        clear pr248
        obtain ⟨Ls253, X253, N253⟩ := own_hide X236 N233
        clear X236 N233
        obtain ⟨_, _, ⟨T254, L254, kk254, nn254⟩, -, X254, ⟨Lc254, hQ254, l254, y254, z254⟩, st254⟩ := X253.specialBack hx (y := (⟨"java/lang/String", "<init>", "([C)V"⟩ : MethodName)) rfl hown (mvT hZ (hw _ (List.mem_of_getElem? (i := 20) rfl))) (mvT hZ (hw _ (List.mem_of_getElem? (i := 21) rfl))) (mvT hZ (hw _ (List.mem_of_getElem? (i := 22) rfl))) (by decide) (StrChars.Road.backV (W := 1) hZ (own_wB hw) (kI := 4) (hw _ (List.mem_of_getElem? (i := 2) rfl)) (cs := tx233) (bs := (tx233).map (fun c => c.toInt8.toInt32)) (n := 19) gn242 c251 A236 F236_value F236_coder c249 (Sta.ext (c250).2 S_cs) hcs hlk233 rfl (by decide) (by decide) hp233 rfl (by decide) (by decide)) (g := (mkF mM 122 #[.val (.int p1), .val (.int p2), .val (.int p3), .val (.int p4), .val (.int p5), .val (.ref a4), .val (.int (4 : Int32)), .unset, .val (.int (19 : Int32)), .val (.ref bm216), .val (.int (p2 &&& (31 : Int32))), .val (.int (p3 &&& (255 : Int32)).toUInt32.toUInt16.toUInt32.toInt32), .val (.int (p4 &&& (255 : Int32)).toUInt32.toUInt16.toUInt32.toInt32), .val (.int (p5 &&& (255 : Int32)).toUInt32.toUInt16.toUInt32.toInt32)] [(.ref bm216), (.ref b236), (.ref b236)])) rfl (by rw [hml]; rfl) (Steps.refl _) (a := b236) (argsL := [(.ref bm216)]) (rest := [(.ref b236)]) (lenOf pd_14 rfl) rfl (by show 2 * 0 + _ ≤ _; exact Nat.le_of_eq rfl) (hb hby at_122) (fun _ _ => ⟨rfl, e236, (by decide : 4 + 1 ≤ _), (by decide : 103 + 19 ≤ _)⟩)
        dsimp only [Pt.U, Pt.locs, Pt.cells, Pt.slots] at X254 l254 y254 z254 st254 hQ254
        subst l254 y254 z254
        obtain ⟨rfl, Nq254, K254, E254, Fc254, tn254, kt254, -, ge254, -, Fv254, V254⟩ := hQ254
        have N254 := Fr.app N253 Nq254
        have sf255_b236 := Safe.keep K254 (sfS sf247_b236 sf0) cr247.1 sf247_b236
        have cr255 := CHr.trans cr247 (CHr.keep K254 (sfS sf247_b236 sf0) cr247.1)
        have pr256 : ∀ tg, Steps pP.tables eE below (T254.setTop (mkF mM 125 #[.val (.int p1), .val (.int p2), .val (.int p3), .val (.int p4), .val (.int p5), .val (.ref a4), .val (.int (4 : Int32)), .unset, .val (.int (19 : Int32)), .val (.ref bm216), .val (.int (p2 &&& (31 : Int32))), .val (.int (p3 &&& (255 : Int32)).toUInt32.toUInt16.toUInt32.toInt32), .val (.int (p4 &&& (255 : Int32)).toUInt32.toUInt16.toUInt32.toInt32), .val (.int (p5 &&& (255 : Int32)).toUInt32.toUInt16.toUInt32.toInt32)] [(.ref b236)])) tg → Steps pP.tables eE below (s₁.setTop (entryFrame mM #[(.int p1), (.int p2), (.int p3), (.int p4), (.int p5)] maxLocals)) tg := fun tg kg => pr252 _ (st254.trans kg)
        clear pr252 st254 X253 e236
        have Vl254 : Arv Z T254.heap tn254 kt254 .byte (Int32.ofNat tx233.length) ((tx233.map StrChars.lo8).map Value.int) (.int (0 : Int32)) := by rw [hlk233]; exact V254
        have pr257 : ∀ tg, Steps pP.tables eE below (T254.setTop (mkF mM 127 #[.val (.int p1), .val (.int p2), .val (.int p3), .val (.int p4), .val (.int p5), .val (.ref a4), .val (.int (4 : Int32)), .val (.ref b236), .val (.int (19 : Int32)), .val (.ref bm216), .val (.int (p2 &&& (31 : Int32))), .val (.int (p3 &&& (255 : Int32)).toUInt32.toUInt16.toUInt32.toInt32), .val (.int (p4 &&& (255 : Int32)).toUInt32.toUInt16.toUInt32.toInt32), .val (.int (p5 &&& (255 : Int32)).toUInt32.toUInt16.toUInt32.toInt32)] [])) tg → Steps pP.tables eE below (s₁.setTop (entryFrame mM #[(.int p1), (.int p2), (.int p3), (.int p4), (.int p5)] maxLocals)) tg := fun tg kg => pr256 _ (by
          show Steps pP.tables eE below (T254.setTop (mkF mM 125 #[.val (.int p1), .val (.int p2), .val (.int p3), .val (.int p4), .val (.int p5), .val (.ref a4), .val (.int (4 : Int32)), .unset, .val (.int (19 : Int32)), .val (.ref bm216), .val (.int (p2 &&& (31 : Int32))), .val (.int (p3 &&& (255 : Int32)).toUInt32.toUInt16.toUInt32.toInt32), .val (.int (p4 &&& (255 : Int32)).toUInt32.toUInt16.toUInt32.toInt32), .val (.int (p5 &&& (255 : Int32)).toUInt32.toUInt16.toUInt32.toInt32)] [(.ref b236)])) _
          refine XS.astore X254.here hx rfl (hb hby at_125) rfl rfl (l' := #[.val (.int p1), .val (.int p2), .val (.int p3), .val (.int p4), .val (.int p5), .val (.ref a4), .val (.int (4 : Int32)), .val (.ref b236), .val (.int (19 : Int32)), .val (.ref bm216), .val (.int (p2 &&& (31 : Int32))), .val (.int (p3 &&& (255 : Int32)).toUInt32.toUInt16.toUInt32.toInt32), .val (.int (p4 &&& (255 : Int32)).toUInt32.toUInt16.toUInt32.toInt32), .val (.int (p5 &&& (255 : Int32)).toUInt32.toUInt16.toUInt32.toInt32)]) rfl ?_
          exact kg)
        clear pr256
        have c258 := (Old.keep c250 K254 (allS gn242 all0))
        have c259 := (Nat.le_trans c251 K254.1)
        have c260 := (Nat.le_trans (Nat.le_trans (Nat.le_trans (Nat.le_trans hk4 K216.1) K233.1) E236.1) K254.1)
        exact ⟨T254, T254.heap, T4.vm, _, b236, tn254, _, tx233, (19 : Int32), bm216, _, Jvm.Stand.mono X254 (by decide) (by decide), N254, rfl, c258, c259, hS, c260, hZ, hown, cr255, E254, Fv254, Fc254, Vl254, hp233, (by rw [hlk233]; decide), pr257⟩
      ·
        have pr261 : ∀ tg, Steps pP.tables eE below (T4.setTop (mkF mM 65 #[.val (.int p1), .val (.int p2), .val (.int p3), .val (.int p4), .val (.int p5), .val (.ref a4), .val (.int (5 : Int32)), .unset, .val (.int (20 : Int32)), .unset, .unset, .unset, .unset, .unset] [(.int (20 : Int32))])) tg → Steps pP.tables eE below (s₁.setTop (entryFrame mM #[(.int p1), (.int p2), (.int p3), (.int p4), (.int p5)] maxLocals)) tg := fun tg kg => pr17 _ (by
          show Steps pP.tables eE below (T4.setTop (mkF mM 23 #[.val (.int p1), .val (.int p2), .val (.int p3), .val (.int p4), .val (.int p5), .val (.ref a4), .val (.int (5 : Int32)), .unset, .unset, .unset, .unset, .unset, .unset, .unset] [])) _
          refine XS.iload X4.here hx rfl (hb hby at_23) rfl ?_
          refine XS.bipush X4.here hx rfl (hb hby at_25) ?_
          refine XS.icmpYes X4.here hx rfl (pc0 := 27) (pc' := 36) rfl (hb hby at_27) rfl (feq (by decide)).2 (by decide) (by decide) ?_
          refine XS.iload X4.here hx rfl (hb hby at_36) rfl ?_
          refine XS.ifYes X4.here hx rfl (pc0 := 38) (pc' := 45) rfl (hb hby at_38) rfl ((if0 _ _).trans (feq (by decide)).2) (by decide) (by decide) ?_
          refine XS.iload X4.here hx rfl (hb hby at_45) rfl ?_
          show Steps pP.tables eE below (T4.setTop (mkF mM 47 #[.val (.int p1), .val (.int p2), .val (.int p3), .val (.int p4), .val (.int p5), .val (.ref a4), .val (.int (5 : Int32)), .unset, .unset, .unset, .unset, .unset, .unset, .unset] [(.int (5 : Int32))])) _
          refine XS.bipush X4.here hx rfl (hb hby at_47) ?_
          refine XS.icmpYes X4.here hx rfl (pc0 := 49) (pc' := 56) rfl (hb hby at_49) rfl (feq (by decide)).2 (by decide) (by decide) ?_
          refine XS.bipush X4.here hx rfl (hb hby at_56) ?_
          refine XS.iload X4.here hx rfl (hb hby at_58) rfl ?_
          refine XS.iadd X4.here hx rfl (hb hby at_60) rfl ?_
          refine XS.istore X4.here hx rfl (hb hby at_61) rfl (l' := #[.val (.int p1), .val (.int p2), .val (.int p3), .val (.int p4), .val (.int p5), .val (.ref a4), .val (.int (5 : Int32)), .unset, .val (.int (20 : Int32)), .unset, .unset, .unset, .unset, .unset]) rfl ?_
          show Steps pP.tables eE below (T4.setTop (mkF mM 63 #[.val (.int p1), .val (.int p2), .val (.int p3), .val (.int p4), .val (.int p5), .val (.ref a4), .val (.int (5 : Int32)), .unset, .val (.int (20 : Int32)), .unset, .unset, .unset, .unset, .unset] [])) _
          refine XS.iload X4.here hx rfl (hb hby at_63) rfl ?_
          exact kg)
        clear pr17
        have c262 := (Nat.le_trans Z0 E4.1)
        obtain ⟨_, _, ⟨T263, L263, kk263, nn263⟩, -, X263, ⟨Lc263, hQ263, l263, y263, z263⟩, st263⟩ := Jvm.LawKit.callS X4 hx (y := (⟨"com/example/tesserae/tesserae/dicom/TransferSyntaxForUidPinLaw", "make", "(I)[C"⟩ : MethodName)) hown (mvT hZ (hw _ (List.mem_of_getElem? (i := 8) rfl))) (mvT hZ (hw _ (List.mem_of_getElem? (i := 9) rfl))) (mvT hZ (hw _ (List.mem_of_getElem? (i := 10) rfl))) (mvT hZ (hw _ (List.mem_of_getElem? (i := 11) rfl))) (by decide) (backOf (W := 0) (rm120 l Z a0 hw [] h4 n0 c262) hZ (hw _ (List.mem_of_getElem? (i := 11) rfl)) (hw _ (List.mem_of_getElem? (i := 10) rfl)) (by decide) (by decide)) (g := (mkF mM 65 #[.val (.int p1), .val (.int p2), .val (.int p3), .val (.int p4), .val (.int p5), .val (.ref a4), .val (.int (5 : Int32)), .unset, .val (.int (20 : Int32)), .unset, .unset, .unset, .unset, .unset] [(.int (20 : Int32))])) rfl (by rw [hml]; rfl) (argsL := [(.int (20 : Int32))]) (rest := []) (lenOf pd_12 rfl) rfl (by show 2 * 0 + _ ≤ _; exact Nat.le_of_eq rfl) (hb hby at_65) (fun _ _ => ⟨rfl, e4, (by decide : 2 + 1 ≤ _), (by decide : 80 + 20 ≤ _)⟩)
        dsimp only [Pt.U, Pt.locs, Pt.cells, Pt.slots] at X263 l263 y263 z263 st263 hQ263
        subst l263 y263 z263
        obtain ⟨bm263, rfl, ge263, Nq263, K263, km263, V263⟩ := hQ263
        have N263 := Fr.app N0 Nq263
        have ne264 : a4 ≠ bm263 := Nat.ne_of_lt (Nat.lt_of_lt_of_le (Es4).lt ge263)
        have ne265 : b4 ≠ bm263 := Nat.ne_of_lt (Nat.lt_of_lt_of_le (V4).lt ge263)
        have gn266 : n0 ≤ bm263 := Nat.le_trans c262 ge263
        have c268 := (Keep.ext (Keep.refl h0 []) E4)
        have gs267 : h0.size ≤ bm263 := Nat.le_trans c268.1 ge263
        have c269 := (Old.ext O E4)
        have cr270 := CHr.trans cr14 (CHr.keep K263 sf0 cr14.1)
        have pr271 : ∀ tg, Steps pP.tables eE below (T263.setTop (mkF mM 68 #[.val (.int p1), .val (.int p2), .val (.int p3), .val (.int p4), .val (.int p5), .val (.ref a4), .val (.int (5 : Int32)), .unset, .val (.int (20 : Int32)), .unset, .unset, .unset, .unset, .unset] [(.ref bm263)])) tg → Steps pP.tables eE below (s₁.setTop (entryFrame mM #[(.int p1), (.int p2), (.int p3), (.int p4), (.int p5)] maxLocals)) tg := fun tg kg => pr261 _ (st263 _ kg)
        clear pr261 st263 X4 e4
        have c272 := (Exa.keep Es4 K263)
        have c273 := (Fld.keep Fc4 K263 nin0)
        have c274 := (Fld.keep Fv4 K263 nin0)
        have c275 := (Arv.keep V4 K263 nin0)
        have c276 := (Old.keep c269 K263 all0)
        have pr277 : ∀ tg, Steps pP.tables eE below (T263.setTop (mkF mM 113 #[.val (.int p1), .val (.int p2), .val (.int p3), .val (.int p4), .val (.int p5), .val (.ref a4), .val (.int (5 : Int32)), .unset, .val (.int (20 : Int32)), .val (.ref bm263), .val (.int (p2 &&& (31 : Int32))), .val (.int (p3 &&& (255 : Int32)).toUInt32.toUInt16.toUInt32.toInt32), .val (.int (p4 &&& (255 : Int32)).toUInt32.toUInt16.toUInt32.toInt32), .val (.int (p5 &&& (255 : Int32)).toUInt32.toUInt16.toUInt32.toInt32)] [(.int (p5 &&& (255 : Int32)).toUInt32.toUInt16.toUInt32.toInt32), (.int (p4 &&& (255 : Int32)).toUInt32.toUInt16.toUInt32.toInt32), (.int (p3 &&& (255 : Int32)).toUInt32.toUInt16.toUInt32.toInt32), (.int (p2 &&& (31 : Int32))), (.ref a4), (.ref bm263)])) tg → Steps pP.tables eE below (s₁.setTop (entryFrame mM #[(.int p1), (.int p2), (.int p3), (.int p4), (.int p5)] maxLocals)) tg := fun tg kg => pr271 _ (by
          show Steps pP.tables eE below (T263.setTop (mkF mM 68 #[.val (.int p1), .val (.int p2), .val (.int p3), .val (.int p4), .val (.int p5), .val (.ref a4), .val (.int (5 : Int32)), .unset, .val (.int (20 : Int32)), .unset, .unset, .unset, .unset, .unset] [(.ref bm263)])) _
          refine XS.astore X263.here hx rfl (hb hby at_68) rfl rfl (l' := #[.val (.int p1), .val (.int p2), .val (.int p3), .val (.int p4), .val (.int p5), .val (.ref a4), .val (.int (5 : Int32)), .unset, .val (.int (20 : Int32)), .val (.ref bm263), .unset, .unset, .unset, .unset]) rfl ?_
          refine XS.iloadN X263.here hx rfl (hb hby at_70) rfl ?_
          refine XS.bipush X263.here hx rfl (hb hby at_71) ?_
          refine XS.iand X263.here hx rfl (hb hby at_73) rfl ?_
          refine XS.istore X263.here hx rfl (hb hby at_74) rfl (l' := #[.val (.int p1), .val (.int p2), .val (.int p3), .val (.int p4), .val (.int p5), .val (.ref a4), .val (.int (5 : Int32)), .unset, .val (.int (20 : Int32)), .val (.ref bm263), .val (.int (p2 &&& (31 : Int32))), .unset, .unset, .unset]) rfl ?_
          refine XS.iloadN X263.here hx rfl (hb hby at_76) rfl ?_
          show Steps pP.tables eE below (T263.setTop (mkF mM 77 #[.val (.int p1), .val (.int p2), .val (.int p3), .val (.int p4), .val (.int p5), .val (.ref a4), .val (.int (5 : Int32)), .unset, .val (.int (20 : Int32)), .val (.ref bm263), .val (.int (p2 &&& (31 : Int32))), .unset, .unset, .unset] [(.int p3)])) _
          refine XS.sipush X263.here hx rfl (hb hby at_77) ?_
          refine XS.iand X263.here hx rfl (hb hby at_80) rfl ?_
          refine XS.i2c X263.here hx rfl (hb hby at_81) rfl ?_
          refine XS.istore X263.here hx rfl (hb hby at_82) rfl (l' := #[.val (.int p1), .val (.int p2), .val (.int p3), .val (.int p4), .val (.int p5), .val (.ref a4), .val (.int (5 : Int32)), .unset, .val (.int (20 : Int32)), .val (.ref bm263), .val (.int (p2 &&& (31 : Int32))), .val (.int (p3 &&& (255 : Int32)).toUInt32.toUInt16.toUInt32.toInt32), .unset, .unset]) rfl ?_
          refine XS.iloadN X263.here hx rfl (hb hby at_84) rfl ?_
          refine XS.sipush X263.here hx rfl (hb hby at_85) ?_
          show Steps pP.tables eE below (T263.setTop (mkF mM 88 #[.val (.int p1), .val (.int p2), .val (.int p3), .val (.int p4), .val (.int p5), .val (.ref a4), .val (.int (5 : Int32)), .unset, .val (.int (20 : Int32)), .val (.ref bm263), .val (.int (p2 &&& (31 : Int32))), .val (.int (p3 &&& (255 : Int32)).toUInt32.toUInt16.toUInt32.toInt32), .unset, .unset] [(.int (255 : Int32)), (.int p4)])) _
          refine XS.iand X263.here hx rfl (hb hby at_88) rfl ?_
          refine XS.i2c X263.here hx rfl (hb hby at_89) rfl ?_
          refine XS.istore X263.here hx rfl (hb hby at_90) rfl (l' := #[.val (.int p1), .val (.int p2), .val (.int p3), .val (.int p4), .val (.int p5), .val (.ref a4), .val (.int (5 : Int32)), .unset, .val (.int (20 : Int32)), .val (.ref bm263), .val (.int (p2 &&& (31 : Int32))), .val (.int (p3 &&& (255 : Int32)).toUInt32.toUInt16.toUInt32.toInt32), .val (.int (p4 &&& (255 : Int32)).toUInt32.toUInt16.toUInt32.toInt32), .unset]) rfl ?_
          refine XS.iload X263.here hx rfl (hb hby at_92) rfl ?_
          refine XS.sipush X263.here hx rfl (hb hby at_94) ?_
          refine XS.iand X263.here hx rfl (hb hby at_97) rfl ?_
          show Steps pP.tables eE below (T263.setTop (mkF mM 98 #[.val (.int p1), .val (.int p2), .val (.int p3), .val (.int p4), .val (.int p5), .val (.ref a4), .val (.int (5 : Int32)), .unset, .val (.int (20 : Int32)), .val (.ref bm263), .val (.int (p2 &&& (31 : Int32))), .val (.int (p3 &&& (255 : Int32)).toUInt32.toUInt16.toUInt32.toInt32), .val (.int (p4 &&& (255 : Int32)).toUInt32.toUInt16.toUInt32.toInt32), .unset] [(.int (p5 &&& (255 : Int32)))])) _
          refine XS.i2c X263.here hx rfl (hb hby at_98) rfl ?_
          refine XS.istore X263.here hx rfl (hb hby at_99) rfl (l' := #[.val (.int p1), .val (.int p2), .val (.int p3), .val (.int p4), .val (.int p5), .val (.ref a4), .val (.int (5 : Int32)), .unset, .val (.int (20 : Int32)), .val (.ref bm263), .val (.int (p2 &&& (31 : Int32))), .val (.int (p3 &&& (255 : Int32)).toUInt32.toUInt16.toUInt32.toInt32), .val (.int (p4 &&& (255 : Int32)).toUInt32.toUInt16.toUInt32.toInt32), .val (.int (p5 &&& (255 : Int32)).toUInt32.toUInt16.toUInt32.toInt32)]) rfl ?_
          refine XS.aload X263.here hx rfl (hb hby at_101) rfl rfl ?_
          refine XS.aload X263.here hx rfl (hb hby at_103) rfl rfl ?_
          refine XS.iload X263.here hx rfl (hb hby at_105) rfl ?_
          refine XS.iload X263.here hx rfl (hb hby at_107) rfl ?_
          show Steps pP.tables eE below (T263.setTop (mkF mM 109 #[.val (.int p1), .val (.int p2), .val (.int p3), .val (.int p4), .val (.int p5), .val (.ref a4), .val (.int (5 : Int32)), .unset, .val (.int (20 : Int32)), .val (.ref bm263), .val (.int (p2 &&& (31 : Int32))), .val (.int (p3 &&& (255 : Int32)).toUInt32.toUInt16.toUInt32.toInt32), .val (.int (p4 &&& (255 : Int32)).toUInt32.toUInt16.toUInt32.toInt32), .val (.int (p5 &&& (255 : Int32)).toUInt32.toUInt16.toUInt32.toInt32)] [(.int (p3 &&& (255 : Int32)).toUInt32.toUInt16.toUInt32.toInt32), (.int (p2 &&& (31 : Int32))), (.ref a4), (.ref bm263)])) _
          refine XS.iload X263.here hx rfl (hb hby at_109) rfl ?_
          refine XS.iload X263.here hx rfl (hb hby at_111) rfl ?_
          exact kg)
        clear pr271
        have c278 := (Nat.le_trans c262 K263.1)
        obtain ⟨Ls279, X279, N279⟩ := own_hide X263 N263
        clear X263 N263
        obtain ⟨_, _, ⟨T280, L280, kk280, nn280⟩, -, X280, ⟨Lc280, hQ280, l280, y280, z280⟩, st280⟩ := Jvm.LawKit.callS X279 hx (y := (⟨"com/example/tesserae/tesserae/dicom/TransferSyntaxForUidPinLaw", "fill", "([CLjava/lang/String;ICCC)V"⟩ : MethodName)) hown (mvT hZ (hw _ (List.mem_of_getElem? (i := 13) rfl))) (mvT hZ (hw _ (List.mem_of_getElem? (i := 14) rfl))) (mvT hZ (hw _ (List.mem_of_getElem? (i := 10) rfl))) (mvT hZ (hw _ (List.mem_of_getElem? (i := 15) rfl))) (by decide) (backOf (W := 0) (rm3 l Z a0 hw [] cs sf a4 b4 kc4 nv vs bm263 km263 (20 : Int32) ([(0 : Int32), (0 : Int32), (0 : Int32), (0 : Int32), (0 : Int32), (0 : Int32), (0 : Int32), (0 : Int32), (0 : Int32), (0 : Int32), (0 : Int32), (0 : Int32), (0 : Int32), (0 : Int32), (0 : Int32), (0 : Int32), (0 : Int32), (0 : Int32), (0 : Int32), (0 : Int32)] : List Int32) (p2 &&& (31 : Int32)) (p3 &&& (255 : Int32)).toUInt32.toUInt16.toUInt32.toInt32 (p4 &&& (255 : Int32)).toUInt32.toUInt16.toUInt32.toInt32 (p5 &&& (255 : Int32)).toUInt32.toUInt16.toUInt32.toInt32 T263.heap n0 c278 c276 S_cs hcs S_sf rsf c272 c273 c274 c275 hvs V263 rfl (by decide) (by decide) gn266 ne264 ne265 (own_b8 _) (own_b8 _) (own_b8 _)) hZ (hw _ (List.mem_of_getElem? (i := 15) rfl)) (hw _ (List.mem_of_getElem? (i := 10) rfl)) (by decide) (by decide)) (g := (mkF mM 113 #[.val (.int p1), .val (.int p2), .val (.int p3), .val (.int p4), .val (.int p5), .val (.ref a4), .val (.int (5 : Int32)), .unset, .val (.int (20 : Int32)), .val (.ref bm263), .val (.int (p2 &&& (31 : Int32))), .val (.int (p3 &&& (255 : Int32)).toUInt32.toUInt16.toUInt32.toInt32), .val (.int (p4 &&& (255 : Int32)).toUInt32.toUInt16.toUInt32.toInt32), .val (.int (p5 &&& (255 : Int32)).toUInt32.toUInt16.toUInt32.toInt32)] [(.int (p5 &&& (255 : Int32)).toUInt32.toUInt16.toUInt32.toInt32), (.int (p4 &&& (255 : Int32)).toUInt32.toUInt16.toUInt32.toInt32), (.int (p3 &&& (255 : Int32)).toUInt32.toUInt16.toUInt32.toInt32), (.int (p2 &&& (31 : Int32))), (.ref a4), (.ref bm263)])) rfl (by rw [hml]; rfl) (argsL := [(.ref bm263), (.ref a4), (.int (p2 &&& (31 : Int32))), (.int (p3 &&& (255 : Int32)).toUInt32.toUInt16.toUInt32.toInt32), (.int (p4 &&& (255 : Int32)).toUInt32.toUInt16.toUInt32.toInt32), (.int (p5 &&& (255 : Int32)).toUInt32.toUInt16.toUInt32.toInt32)]) (rest := []) (lenOf pd_13 rfl) rfl (by show 2 * 0 + _ ≤ _; exact Nat.le_of_eq rfl) (hb hby at_113) (fun _ _ => ⟨rfl, rfl, (by decide : 3 + 0 ≤ _), (by decide : 100 + 0 ≤ _)⟩)
        dsimp only [Pt.U, Pt.locs, Pt.cells, Pt.slots] at X280 l280 y280 z280 st280 hQ280
        subst l280 y280 z280
        obtain ⟨rfl, Nq280, K280, tx280, hl280, hp280, V280⟩ := hQ280
        have N280 := Fr.app N279 Nq280
        have cr281 := CHr.trans cr270 (CHr.keep K280 (sfS (Safe.arv hZ.alike V263 (by decide)) sf0) cr270.1)
        have pr282 : ∀ tg, Steps pP.tables eE below (T280.setTop (mkF mM 116 #[.val (.int p1), .val (.int p2), .val (.int p3), .val (.int p4), .val (.int p5), .val (.ref a4), .val (.int (5 : Int32)), .unset, .val (.int (20 : Int32)), .val (.ref bm263), .val (.int (p2 &&& (31 : Int32))), .val (.int (p3 &&& (255 : Int32)).toUInt32.toUInt16.toUInt32.toInt32), .val (.int (p4 &&& (255 : Int32)).toUInt32.toUInt16.toUInt32.toInt32), .val (.int (p5 &&& (255 : Int32)).toUInt32.toUInt16.toUInt32.toInt32)] [])) tg → Steps pP.tables eE below (s₁.setTop (entryFrame mM #[(.int p1), (.int p2), (.int p3), (.int p4), (.int p5)] maxLocals)) tg := fun tg kg => pr277 _ (st280 _ kg)
        clear pr277 st280 X279
        have hlk280 : tx280.length = 20 := hl280
        obtain ⟨T283, h283, X283, e283, E283, A283, D283, -, st283⟩ := newO X280 hx hZ hown (hw _ (List.mem_of_getElem? (i := 19) rfl)) (hw _ (List.mem_of_getElem? (i := 2) rfl)) (hw _ (List.mem_of_getElem? (i := 1) rfl)) rfl (g := (mkF mM 116 #[.val (.int p1), .val (.int p2), .val (.int p3), .val (.int p4), .val (.int p5), .val (.ref a4), .val (.int (5 : Int32)), .unset, .val (.int (20 : Int32)), .val (.ref bm263), .val (.int (p2 &&& (31 : Int32))), .val (.int (p3 &&& (255 : Int32)).toUInt32.toUInt16.toUInt32.toInt32), .val (.int (p4 &&& (255 : Int32)).toUInt32.toUInt16.toUInt32.toInt32), .val (.int (p5 &&& (255 : Int32)).toUInt32.toUInt16.toUInt32.toInt32)] [])) rfl (hb hby at_116) (by decide) (by decide)
        obtain ⟨b283, g283⟩ : ∃ z, z = (T280.heap).size := ⟨_, rfl⟩
        rw [← g283] at A283 D283 st283
        have c285 := (Exa.keep c272 K280)
        have ne284 : a4 ≠ b283 := Nat.ne_of_lt (Nat.lt_of_lt_of_le (c285).lt (Nat.le_of_eq g283.symm))
        have c287 := (Arv.keep c275 K280 (ninS ne265 nin0))
        have ne286 : b4 ≠ b283 := Nat.ne_of_lt (Nat.lt_of_lt_of_le (c287).lt (Nat.le_of_eq g283.symm))
        have ne288 : bm263 ≠ b283 := Nat.ne_of_lt (Nat.lt_of_lt_of_le (V280).lt (Nat.le_of_eq g283.symm))
        have c290 := (Nat.le_trans c278 K280.1)
        have gn289 : n0 ≤ b283 := Nat.le_trans c290 (Nat.le_of_eq g283.symm)
        have c292 := (Keep.trans (Keep.trans c268 K263 all0) K280 (allS (Or.inr gs267) all0))
        have gs291 : h0.size ≤ b283 := Nat.le_trans c292.1 (Nat.le_of_eq g283.symm)
        have c293 := (Old.keep c276 K280 (allS gn266 all0))
        have sf294_b283 : Safe Z consts_1 T4.vm _ b283 := Safe.ext E283 cr281.1 (Safe.new (Nat.le_of_eq g283.symm))
        have cr294 := CHr.trans cr281 (CHr.ext E283 cr281.1)
        have F283_value : Fld Z h283 b283 "java/lang/String" "value" "[B" .null := D283 (Or.inr (hw _ (List.mem_of_getElem? (i := 4) rfl))) (ty := (.array .byte)) (by decide)
        have F283_coder : Fld Z h283 b283 "java/lang/String" "coder" "B" (.int (0 : Int32)) := D283 (Or.inr (hw _ (List.mem_of_getElem? (i := 5) rfl))) (ty := .byte) (by decide)
        have pr295 : ∀ tg, Steps pP.tables eE below (T283.setTop (mkF mM 119 #[.val (.int p1), .val (.int p2), .val (.int p3), .val (.int p4), .val (.int p5), .val (.ref a4), .val (.int (5 : Int32)), .unset, .val (.int (20 : Int32)), .val (.ref bm263), .val (.int (p2 &&& (31 : Int32))), .val (.int (p3 &&& (255 : Int32)).toUInt32.toUInt16.toUInt32.toInt32), .val (.int (p4 &&& (255 : Int32)).toUInt32.toUInt16.toUInt32.toInt32), .val (.int (p5 &&& (255 : Int32)).toUInt32.toUInt16.toUInt32.toInt32)] [(.ref b283)])) tg → Steps pP.tables eE below (s₁.setTop (entryFrame mM #[(.int p1), (.int p2), (.int p3), (.int p4), (.int p5)] maxLocals)) tg := fun tg kg => pr282 _ (st283 _ kg)
        clear pr282 st283 X280
        have c296 := (Arv.ext V280 E283)
        have c297 := (Old.ext c293 E283)
        have c298 := (Nat.le_trans c290 E283.1)
        have pr299 : ∀ tg, Steps pP.tables eE below (T283.setTop (mkF mM 122 #[.val (.int p1), .val (.int p2), .val (.int p3), .val (.int p4), .val (.int p5), .val (.ref a4), .val (.int (5 : Int32)), .unset, .val (.int (20 : Int32)), .val (.ref bm263), .val (.int (p2 &&& (31 : Int32))), .val (.int (p3 &&& (255 : Int32)).toUInt32.toUInt16.toUInt32.toInt32), .val (.int (p4 &&& (255 : Int32)).toUInt32.toUInt16.toUInt32.toInt32), .val (.int (p5 &&& (255 : Int32)).toUInt32.toUInt16.toUInt32.toInt32)] [(.ref bm263), (.ref b283), (.ref b283)])) tg → Steps pP.tables eE below (s₁.setTop (entryFrame mM #[(.int p1), (.int p2), (.int p3), (.int p4), (.int p5)] maxLocals)) tg := fun tg kg => pr295 _ (by
          show Steps pP.tables eE below (T283.setTop (mkF mM 119 #[.val (.int p1), .val (.int p2), .val (.int p3), .val (.int p4), .val (.int p5), .val (.ref a4), .val (.int (5 : Int32)), .unset, .val (.int (20 : Int32)), .val (.ref bm263), .val (.int (p2 &&& (31 : Int32))), .val (.int (p3 &&& (255 : Int32)).toUInt32.toUInt16.toUInt32.toInt32), .val (.int (p4 &&& (255 : Int32)).toUInt32.toUInt16.toUInt32.toInt32), .val (.int (p5 &&& (255 : Int32)).toUInt32.toUInt16.toUInt32.toInt32)] [(.ref b283)])) _
          refine XS.dup X283.here hx rfl (hb hby at_119) rfl rfl ?_
          refine XS.aload X283.here hx rfl (hb hby at_120) rfl rfl ?_
          exact kg)
        clear pr295
        obtain ⟨Ls300, X300, N300⟩ := own_hide X283 N280
        clear X283 N280
        obtain ⟨_, _, ⟨T301, L301, kk301, nn301⟩, -, X301, ⟨Lc301, hQ301, l301, y301, z301⟩, st301⟩ := X300.specialBack hx (y := (⟨"java/lang/String", "<init>", "([C)V"⟩ : MethodName)) rfl hown (mvT hZ (hw _ (List.mem_of_getElem? (i := 20) rfl))) (mvT hZ (hw _ (List.mem_of_getElem? (i := 21) rfl))) (mvT hZ (hw _ (List.mem_of_getElem? (i := 22) rfl))) (by decide) (StrChars.Road.backV (W := 1) hZ (own_wB hw) (kI := 4) (hw _ (List.mem_of_getElem? (i := 2) rfl)) (cs := tx280) (bs := (tx280).map (fun c => c.toInt8.toInt32)) (n := 20) gn289 c298 A283 F283_value F283_coder c296 (Sta.ext (c297).2 S_cs) hcs hlk280 rfl (by decide) (by decide) hp280 rfl (by decide) (by decide)) (g := (mkF mM 122 #[.val (.int p1), .val (.int p2), .val (.int p3), .val (.int p4), .val (.int p5), .val (.ref a4), .val (.int (5 : Int32)), .unset, .val (.int (20 : Int32)), .val (.ref bm263), .val (.int (p2 &&& (31 : Int32))), .val (.int (p3 &&& (255 : Int32)).toUInt32.toUInt16.toUInt32.toInt32), .val (.int (p4 &&& (255 : Int32)).toUInt32.toUInt16.toUInt32.toInt32), .val (.int (p5 &&& (255 : Int32)).toUInt32.toUInt16.toUInt32.toInt32)] [(.ref bm263), (.ref b283), (.ref b283)])) rfl (by rw [hml]; rfl) (Steps.refl _) (a := b283) (argsL := [(.ref bm263)]) (rest := [(.ref b283)]) (lenOf pd_14 rfl) rfl (by show 2 * 0 + _ ≤ _; exact Nat.le_of_eq rfl) (hb hby at_122) (fun _ _ => ⟨rfl, e283, (by decide : 4 + 1 ≤ _), (by decide : 104 + 20 ≤ _)⟩)
        dsimp only [Pt.U, Pt.locs, Pt.cells, Pt.slots] at X301 l301 y301 z301 st301 hQ301
        subst l301 y301 z301
        obtain ⟨rfl, Nq301, K301, E301, Fc301, tn301, kt301, -, ge301, -, Fv301, V301⟩ := hQ301
        have N301 := Fr.app N300 Nq301
        have sf302_b283 := Safe.keep K301 (sfS sf294_b283 sf0) cr294.1 sf294_b283
        have cr302 := CHr.trans cr294 (CHr.keep K301 (sfS sf294_b283 sf0) cr294.1)
        have pr303 : ∀ tg, Steps pP.tables eE below (T301.setTop (mkF mM 125 #[.val (.int p1), .val (.int p2), .val (.int p3), .val (.int p4), .val (.int p5), .val (.ref a4), .val (.int (5 : Int32)), .unset, .val (.int (20 : Int32)), .val (.ref bm263), .val (.int (p2 &&& (31 : Int32))), .val (.int (p3 &&& (255 : Int32)).toUInt32.toUInt16.toUInt32.toInt32), .val (.int (p4 &&& (255 : Int32)).toUInt32.toUInt16.toUInt32.toInt32), .val (.int (p5 &&& (255 : Int32)).toUInt32.toUInt16.toUInt32.toInt32)] [(.ref b283)])) tg → Steps pP.tables eE below (s₁.setTop (entryFrame mM #[(.int p1), (.int p2), (.int p3), (.int p4), (.int p5)] maxLocals)) tg := fun tg kg => pr299 _ (st301.trans kg)
        clear pr299 st301 X300 e283
        have Vl301 : Arv Z T301.heap tn301 kt301 .byte (Int32.ofNat tx280.length) ((tx280.map StrChars.lo8).map Value.int) (.int (0 : Int32)) := by rw [hlk280]; exact V301
        have pr304 : ∀ tg, Steps pP.tables eE below (T301.setTop (mkF mM 127 #[.val (.int p1), .val (.int p2), .val (.int p3), .val (.int p4), .val (.int p5), .val (.ref a4), .val (.int (5 : Int32)), .val (.ref b283), .val (.int (20 : Int32)), .val (.ref bm263), .val (.int (p2 &&& (31 : Int32))), .val (.int (p3 &&& (255 : Int32)).toUInt32.toUInt16.toUInt32.toInt32), .val (.int (p4 &&& (255 : Int32)).toUInt32.toUInt16.toUInt32.toInt32), .val (.int (p5 &&& (255 : Int32)).toUInt32.toUInt16.toUInt32.toInt32)] [])) tg → Steps pP.tables eE below (s₁.setTop (entryFrame mM #[(.int p1), (.int p2), (.int p3), (.int p4), (.int p5)] maxLocals)) tg := fun tg kg => pr303 _ (by
          show Steps pP.tables eE below (T301.setTop (mkF mM 125 #[.val (.int p1), .val (.int p2), .val (.int p3), .val (.int p4), .val (.int p5), .val (.ref a4), .val (.int (5 : Int32)), .unset, .val (.int (20 : Int32)), .val (.ref bm263), .val (.int (p2 &&& (31 : Int32))), .val (.int (p3 &&& (255 : Int32)).toUInt32.toUInt16.toUInt32.toInt32), .val (.int (p4 &&& (255 : Int32)).toUInt32.toUInt16.toUInt32.toInt32), .val (.int (p5 &&& (255 : Int32)).toUInt32.toUInt16.toUInt32.toInt32)] [(.ref b283)])) _
          refine XS.astore X301.here hx rfl (hb hby at_125) rfl rfl (l' := #[.val (.int p1), .val (.int p2), .val (.int p3), .val (.int p4), .val (.int p5), .val (.ref a4), .val (.int (5 : Int32)), .val (.ref b283), .val (.int (20 : Int32)), .val (.ref bm263), .val (.int (p2 &&& (31 : Int32))), .val (.int (p3 &&& (255 : Int32)).toUInt32.toUInt16.toUInt32.toInt32), .val (.int (p4 &&& (255 : Int32)).toUInt32.toUInt16.toUInt32.toInt32), .val (.int (p5 &&& (255 : Int32)).toUInt32.toUInt16.toUInt32.toInt32)]) rfl ?_
          exact kg)
        clear pr303
        have c305 := (Old.keep c297 K301 (allS gn289 all0))
        have c306 := (Nat.le_trans c298 K301.1)
        have c307 := (Nat.le_trans (Nat.le_trans (Nat.le_trans (Nat.le_trans hk4 K263.1) K280.1) E283.1) K301.1)
        exact ⟨T301, T301.heap, T4.vm, _, b283, tn301, _, tx280, (20 : Int32), bm263, _, Jvm.Stand.mono X301 (by decide) (by decide), N301, rfl, c305, c306, hS, c307, hZ, hown, cr302, E301, Fv301, Fc301, Vl301, hp280, (by rw [hlk280]; decide), pr304⟩
      ·
        have pr308 : ∀ tg, Steps pP.tables eE below (T4.setTop (mkF mM 65 #[.val (.int p1), .val (.int p2), .val (.int p3), .val (.int p4), .val (.int p5), .val (.ref a4), .val (.int (6 : Int32)), .unset, .val (.int (1 : Int32)), .unset, .unset, .unset, .unset, .unset] [(.int (1 : Int32))])) tg → Steps pP.tables eE below (s₁.setTop (entryFrame mM #[(.int p1), (.int p2), (.int p3), (.int p4), (.int p5)] maxLocals)) tg := fun tg kg => pr17 _ (by
          show Steps pP.tables eE below (T4.setTop (mkF mM 23 #[.val (.int p1), .val (.int p2), .val (.int p3), .val (.int p4), .val (.int p5), .val (.ref a4), .val (.int (6 : Int32)), .unset, .unset, .unset, .unset, .unset, .unset, .unset] [])) _
          refine XS.iload X4.here hx rfl (hb hby at_23) rfl ?_
          refine XS.bipush X4.here hx rfl (hb hby at_25) ?_
          refine XS.icmpYes X4.here hx rfl (pc0 := 27) (pc' := 36) rfl (hb hby at_27) rfl (feq (by decide)).2 (by decide) (by decide) ?_
          refine XS.iload X4.here hx rfl (hb hby at_36) rfl ?_
          refine XS.ifYes X4.here hx rfl (pc0 := 38) (pc' := 45) rfl (hb hby at_38) rfl ((if0 _ _).trans (feq (by decide)).2) (by decide) (by decide) ?_
          refine XS.iload X4.here hx rfl (hb hby at_45) rfl ?_
          show Steps pP.tables eE below (T4.setTop (mkF mM 47 #[.val (.int p1), .val (.int p2), .val (.int p3), .val (.int p4), .val (.int p5), .val (.ref a4), .val (.int (6 : Int32)), .unset, .unset, .unset, .unset, .unset, .unset, .unset] [(.int (6 : Int32))])) _
          refine XS.bipush X4.here hx rfl (hb hby at_47) ?_
          refine XS.icmpNo X4.here hx rfl (hb hby at_49) rfl (teq (by decide)).2 ?_
          refine XS.iconst X4.here hx rfl (hb hby at_52) ?_
          refine XS.goto X4.here hx rfl (pc0 := 53) (pc' := 61) rfl (hb hby at_53) (by decide) (by decide) ?_
          refine XS.istore X4.here hx rfl (hb hby at_61) rfl (l' := #[.val (.int p1), .val (.int p2), .val (.int p3), .val (.int p4), .val (.int p5), .val (.ref a4), .val (.int (6 : Int32)), .unset, .val (.int (1 : Int32)), .unset, .unset, .unset, .unset, .unset]) rfl ?_
          refine XS.iload X4.here hx rfl (hb hby at_63) rfl ?_
          exact kg)
        clear pr17
        have c309 := (Nat.le_trans Z0 E4.1)
        obtain ⟨_, _, ⟨T310, L310, kk310, nn310⟩, -, X310, ⟨Lc310, hQ310, l310, y310, z310⟩, st310⟩ := Jvm.LawKit.callS X4 hx (y := (⟨"com/example/tesserae/tesserae/dicom/TransferSyntaxForUidPinLaw", "make", "(I)[C"⟩ : MethodName)) hown (mvT hZ (hw _ (List.mem_of_getElem? (i := 8) rfl))) (mvT hZ (hw _ (List.mem_of_getElem? (i := 9) rfl))) (mvT hZ (hw _ (List.mem_of_getElem? (i := 10) rfl))) (mvT hZ (hw _ (List.mem_of_getElem? (i := 11) rfl))) (by decide) (backOf (W := 0) (rm11 l Z a0 hw [] h4 n0 c309) hZ (hw _ (List.mem_of_getElem? (i := 11) rfl)) (hw _ (List.mem_of_getElem? (i := 10) rfl)) (by decide) (by decide)) (g := (mkF mM 65 #[.val (.int p1), .val (.int p2), .val (.int p3), .val (.int p4), .val (.int p5), .val (.ref a4), .val (.int (6 : Int32)), .unset, .val (.int (1 : Int32)), .unset, .unset, .unset, .unset, .unset] [(.int (1 : Int32))])) rfl (by rw [hml]; rfl) (argsL := [(.int (1 : Int32))]) (rest := []) (lenOf pd_12 rfl) rfl (by show 2 * 0 + _ ≤ _; exact Nat.le_of_eq rfl) (hb hby at_65) (fun _ _ => ⟨rfl, e4, (by decide : 2 + 1 ≤ _), (by decide : 80 + 1 ≤ _)⟩)
        dsimp only [Pt.U, Pt.locs, Pt.cells, Pt.slots] at X310 l310 y310 z310 st310 hQ310
        subst l310 y310 z310
        obtain ⟨bm310, rfl, ge310, Nq310, K310, km310, V310⟩ := hQ310
        have N310 := Fr.app N0 Nq310
        have ne311 : a4 ≠ bm310 := Nat.ne_of_lt (Nat.lt_of_lt_of_le (Es4).lt ge310)
        have ne312 : b4 ≠ bm310 := Nat.ne_of_lt (Nat.lt_of_lt_of_le (V4).lt ge310)
        have gn313 : n0 ≤ bm310 := Nat.le_trans c309 ge310
        have c315 := (Keep.ext (Keep.refl h0 []) E4)
        have gs314 : h0.size ≤ bm310 := Nat.le_trans c315.1 ge310
        have c316 := (Old.ext O E4)
        have cr317 := CHr.trans cr14 (CHr.keep K310 sf0 cr14.1)
        have pr318 : ∀ tg, Steps pP.tables eE below (T310.setTop (mkF mM 68 #[.val (.int p1), .val (.int p2), .val (.int p3), .val (.int p4), .val (.int p5), .val (.ref a4), .val (.int (6 : Int32)), .unset, .val (.int (1 : Int32)), .unset, .unset, .unset, .unset, .unset] [(.ref bm310)])) tg → Steps pP.tables eE below (s₁.setTop (entryFrame mM #[(.int p1), (.int p2), (.int p3), (.int p4), (.int p5)] maxLocals)) tg := fun tg kg => pr308 _ (st310 _ kg)
        clear pr308 st310 X4 e4
        have c319 := (Exa.keep Es4 K310)
        have c320 := (Fld.keep Fc4 K310 nin0)
        have c321 := (Fld.keep Fv4 K310 nin0)
        have c322 := (Arv.keep V4 K310 nin0)
        have c323 := (Old.keep c316 K310 all0)
        have pr324 : ∀ tg, Steps pP.tables eE below (T310.setTop (mkF mM 113 #[.val (.int p1), .val (.int p2), .val (.int p3), .val (.int p4), .val (.int p5), .val (.ref a4), .val (.int (6 : Int32)), .unset, .val (.int (1 : Int32)), .val (.ref bm310), .val (.int (p2 &&& (31 : Int32))), .val (.int (p3 &&& (255 : Int32)).toUInt32.toUInt16.toUInt32.toInt32), .val (.int (p4 &&& (255 : Int32)).toUInt32.toUInt16.toUInt32.toInt32), .val (.int (p5 &&& (255 : Int32)).toUInt32.toUInt16.toUInt32.toInt32)] [(.int (p5 &&& (255 : Int32)).toUInt32.toUInt16.toUInt32.toInt32), (.int (p4 &&& (255 : Int32)).toUInt32.toUInt16.toUInt32.toInt32), (.int (p3 &&& (255 : Int32)).toUInt32.toUInt16.toUInt32.toInt32), (.int (p2 &&& (31 : Int32))), (.ref a4), (.ref bm310)])) tg → Steps pP.tables eE below (s₁.setTop (entryFrame mM #[(.int p1), (.int p2), (.int p3), (.int p4), (.int p5)] maxLocals)) tg := fun tg kg => pr318 _ (by
          show Steps pP.tables eE below (T310.setTop (mkF mM 68 #[.val (.int p1), .val (.int p2), .val (.int p3), .val (.int p4), .val (.int p5), .val (.ref a4), .val (.int (6 : Int32)), .unset, .val (.int (1 : Int32)), .unset, .unset, .unset, .unset, .unset] [(.ref bm310)])) _
          refine XS.astore X310.here hx rfl (hb hby at_68) rfl rfl (l' := #[.val (.int p1), .val (.int p2), .val (.int p3), .val (.int p4), .val (.int p5), .val (.ref a4), .val (.int (6 : Int32)), .unset, .val (.int (1 : Int32)), .val (.ref bm310), .unset, .unset, .unset, .unset]) rfl ?_
          refine XS.iloadN X310.here hx rfl (hb hby at_70) rfl ?_
          refine XS.bipush X310.here hx rfl (hb hby at_71) ?_
          refine XS.iand X310.here hx rfl (hb hby at_73) rfl ?_
          refine XS.istore X310.here hx rfl (hb hby at_74) rfl (l' := #[.val (.int p1), .val (.int p2), .val (.int p3), .val (.int p4), .val (.int p5), .val (.ref a4), .val (.int (6 : Int32)), .unset, .val (.int (1 : Int32)), .val (.ref bm310), .val (.int (p2 &&& (31 : Int32))), .unset, .unset, .unset]) rfl ?_
          refine XS.iloadN X310.here hx rfl (hb hby at_76) rfl ?_
          show Steps pP.tables eE below (T310.setTop (mkF mM 77 #[.val (.int p1), .val (.int p2), .val (.int p3), .val (.int p4), .val (.int p5), .val (.ref a4), .val (.int (6 : Int32)), .unset, .val (.int (1 : Int32)), .val (.ref bm310), .val (.int (p2 &&& (31 : Int32))), .unset, .unset, .unset] [(.int p3)])) _
          refine XS.sipush X310.here hx rfl (hb hby at_77) ?_
          refine XS.iand X310.here hx rfl (hb hby at_80) rfl ?_
          refine XS.i2c X310.here hx rfl (hb hby at_81) rfl ?_
          refine XS.istore X310.here hx rfl (hb hby at_82) rfl (l' := #[.val (.int p1), .val (.int p2), .val (.int p3), .val (.int p4), .val (.int p5), .val (.ref a4), .val (.int (6 : Int32)), .unset, .val (.int (1 : Int32)), .val (.ref bm310), .val (.int (p2 &&& (31 : Int32))), .val (.int (p3 &&& (255 : Int32)).toUInt32.toUInt16.toUInt32.toInt32), .unset, .unset]) rfl ?_
          refine XS.iloadN X310.here hx rfl (hb hby at_84) rfl ?_
          refine XS.sipush X310.here hx rfl (hb hby at_85) ?_
          show Steps pP.tables eE below (T310.setTop (mkF mM 88 #[.val (.int p1), .val (.int p2), .val (.int p3), .val (.int p4), .val (.int p5), .val (.ref a4), .val (.int (6 : Int32)), .unset, .val (.int (1 : Int32)), .val (.ref bm310), .val (.int (p2 &&& (31 : Int32))), .val (.int (p3 &&& (255 : Int32)).toUInt32.toUInt16.toUInt32.toInt32), .unset, .unset] [(.int (255 : Int32)), (.int p4)])) _
          refine XS.iand X310.here hx rfl (hb hby at_88) rfl ?_
          refine XS.i2c X310.here hx rfl (hb hby at_89) rfl ?_
          refine XS.istore X310.here hx rfl (hb hby at_90) rfl (l' := #[.val (.int p1), .val (.int p2), .val (.int p3), .val (.int p4), .val (.int p5), .val (.ref a4), .val (.int (6 : Int32)), .unset, .val (.int (1 : Int32)), .val (.ref bm310), .val (.int (p2 &&& (31 : Int32))), .val (.int (p3 &&& (255 : Int32)).toUInt32.toUInt16.toUInt32.toInt32), .val (.int (p4 &&& (255 : Int32)).toUInt32.toUInt16.toUInt32.toInt32), .unset]) rfl ?_
          refine XS.iload X310.here hx rfl (hb hby at_92) rfl ?_
          refine XS.sipush X310.here hx rfl (hb hby at_94) ?_
          refine XS.iand X310.here hx rfl (hb hby at_97) rfl ?_
          show Steps pP.tables eE below (T310.setTop (mkF mM 98 #[.val (.int p1), .val (.int p2), .val (.int p3), .val (.int p4), .val (.int p5), .val (.ref a4), .val (.int (6 : Int32)), .unset, .val (.int (1 : Int32)), .val (.ref bm310), .val (.int (p2 &&& (31 : Int32))), .val (.int (p3 &&& (255 : Int32)).toUInt32.toUInt16.toUInt32.toInt32), .val (.int (p4 &&& (255 : Int32)).toUInt32.toUInt16.toUInt32.toInt32), .unset] [(.int (p5 &&& (255 : Int32)))])) _
          refine XS.i2c X310.here hx rfl (hb hby at_98) rfl ?_
          refine XS.istore X310.here hx rfl (hb hby at_99) rfl (l' := #[.val (.int p1), .val (.int p2), .val (.int p3), .val (.int p4), .val (.int p5), .val (.ref a4), .val (.int (6 : Int32)), .unset, .val (.int (1 : Int32)), .val (.ref bm310), .val (.int (p2 &&& (31 : Int32))), .val (.int (p3 &&& (255 : Int32)).toUInt32.toUInt16.toUInt32.toInt32), .val (.int (p4 &&& (255 : Int32)).toUInt32.toUInt16.toUInt32.toInt32), .val (.int (p5 &&& (255 : Int32)).toUInt32.toUInt16.toUInt32.toInt32)]) rfl ?_
          refine XS.aload X310.here hx rfl (hb hby at_101) rfl rfl ?_
          refine XS.aload X310.here hx rfl (hb hby at_103) rfl rfl ?_
          refine XS.iload X310.here hx rfl (hb hby at_105) rfl ?_
          refine XS.iload X310.here hx rfl (hb hby at_107) rfl ?_
          show Steps pP.tables eE below (T310.setTop (mkF mM 109 #[.val (.int p1), .val (.int p2), .val (.int p3), .val (.int p4), .val (.int p5), .val (.ref a4), .val (.int (6 : Int32)), .unset, .val (.int (1 : Int32)), .val (.ref bm310), .val (.int (p2 &&& (31 : Int32))), .val (.int (p3 &&& (255 : Int32)).toUInt32.toUInt16.toUInt32.toInt32), .val (.int (p4 &&& (255 : Int32)).toUInt32.toUInt16.toUInt32.toInt32), .val (.int (p5 &&& (255 : Int32)).toUInt32.toUInt16.toUInt32.toInt32)] [(.int (p3 &&& (255 : Int32)).toUInt32.toUInt16.toUInt32.toInt32), (.int (p2 &&& (31 : Int32))), (.ref a4), (.ref bm310)])) _
          refine XS.iload X310.here hx rfl (hb hby at_109) rfl ?_
          refine XS.iload X310.here hx rfl (hb hby at_111) rfl ?_
          exact kg)
        clear pr318
        have c325 := (Nat.le_trans c309 K310.1)
        obtain ⟨Ls326, X326, N326⟩ := own_hide X310 N310
        clear X310 N310
        obtain ⟨_, _, ⟨T327, L327, kk327, nn327⟩, -, X327, ⟨Lc327, hQ327, l327, y327, z327⟩, st327⟩ := Jvm.LawKit.callS X326 hx (y := (⟨"com/example/tesserae/tesserae/dicom/TransferSyntaxForUidPinLaw", "fill", "([CLjava/lang/String;ICCC)V"⟩ : MethodName)) hown (mvT hZ (hw _ (List.mem_of_getElem? (i := 13) rfl))) (mvT hZ (hw _ (List.mem_of_getElem? (i := 14) rfl))) (mvT hZ (hw _ (List.mem_of_getElem? (i := 10) rfl))) (mvT hZ (hw _ (List.mem_of_getElem? (i := 15) rfl))) (by decide) (backOf (W := 0) (rm3 l Z a0 hw [] cs sf a4 b4 kc4 nv vs bm310 km310 (1 : Int32) ([(0 : Int32)] : List Int32) (p2 &&& (31 : Int32)) (p3 &&& (255 : Int32)).toUInt32.toUInt16.toUInt32.toInt32 (p4 &&& (255 : Int32)).toUInt32.toUInt16.toUInt32.toInt32 (p5 &&& (255 : Int32)).toUInt32.toUInt16.toUInt32.toInt32 T310.heap n0 c325 c323 S_cs hcs S_sf rsf c319 c320 c321 c322 hvs V310 rfl (by decide) (by decide) gn313 ne311 ne312 (own_b8 _) (own_b8 _) (own_b8 _)) hZ (hw _ (List.mem_of_getElem? (i := 15) rfl)) (hw _ (List.mem_of_getElem? (i := 10) rfl)) (by decide) (by decide)) (g := (mkF mM 113 #[.val (.int p1), .val (.int p2), .val (.int p3), .val (.int p4), .val (.int p5), .val (.ref a4), .val (.int (6 : Int32)), .unset, .val (.int (1 : Int32)), .val (.ref bm310), .val (.int (p2 &&& (31 : Int32))), .val (.int (p3 &&& (255 : Int32)).toUInt32.toUInt16.toUInt32.toInt32), .val (.int (p4 &&& (255 : Int32)).toUInt32.toUInt16.toUInt32.toInt32), .val (.int (p5 &&& (255 : Int32)).toUInt32.toUInt16.toUInt32.toInt32)] [(.int (p5 &&& (255 : Int32)).toUInt32.toUInt16.toUInt32.toInt32), (.int (p4 &&& (255 : Int32)).toUInt32.toUInt16.toUInt32.toInt32), (.int (p3 &&& (255 : Int32)).toUInt32.toUInt16.toUInt32.toInt32), (.int (p2 &&& (31 : Int32))), (.ref a4), (.ref bm310)])) rfl (by rw [hml]; rfl) (argsL := [(.ref bm310), (.ref a4), (.int (p2 &&& (31 : Int32))), (.int (p3 &&& (255 : Int32)).toUInt32.toUInt16.toUInt32.toInt32), (.int (p4 &&& (255 : Int32)).toUInt32.toUInt16.toUInt32.toInt32), (.int (p5 &&& (255 : Int32)).toUInt32.toUInt16.toUInt32.toInt32)]) (rest := []) (lenOf pd_13 rfl) rfl (by show 2 * 0 + _ ≤ _; exact Nat.le_of_eq rfl) (hb hby at_113) (fun _ _ => ⟨rfl, rfl, (by decide : 3 + 0 ≤ _), (by decide : 81 + 0 ≤ _)⟩)
        dsimp only [Pt.U, Pt.locs, Pt.cells, Pt.slots] at X327 l327 y327 z327 st327 hQ327
        subst l327 y327 z327
        obtain ⟨rfl, Nq327, K327, tx327, hl327, hp327, V327⟩ := hQ327
        have N327 := Fr.app N326 Nq327
        have cr328 := CHr.trans cr317 (CHr.keep K327 (sfS (Safe.arv hZ.alike V310 (by decide)) sf0) cr317.1)
        have pr329 : ∀ tg, Steps pP.tables eE below (T327.setTop (mkF mM 116 #[.val (.int p1), .val (.int p2), .val (.int p3), .val (.int p4), .val (.int p5), .val (.ref a4), .val (.int (6 : Int32)), .unset, .val (.int (1 : Int32)), .val (.ref bm310), .val (.int (p2 &&& (31 : Int32))), .val (.int (p3 &&& (255 : Int32)).toUInt32.toUInt16.toUInt32.toInt32), .val (.int (p4 &&& (255 : Int32)).toUInt32.toUInt16.toUInt32.toInt32), .val (.int (p5 &&& (255 : Int32)).toUInt32.toUInt16.toUInt32.toInt32)] [])) tg → Steps pP.tables eE below (s₁.setTop (entryFrame mM #[(.int p1), (.int p2), (.int p3), (.int p4), (.int p5)] maxLocals)) tg := fun tg kg => pr324 _ (st327 _ kg)
        clear pr324 st327 X326
        have hlk327 : tx327.length = 1 := hl327
        obtain ⟨T330, h330, X330, e330, E330, A330, D330, -, st330⟩ := newO X327 hx hZ hown (hw _ (List.mem_of_getElem? (i := 19) rfl)) (hw _ (List.mem_of_getElem? (i := 2) rfl)) (hw _ (List.mem_of_getElem? (i := 1) rfl)) rfl (g := (mkF mM 116 #[.val (.int p1), .val (.int p2), .val (.int p3), .val (.int p4), .val (.int p5), .val (.ref a4), .val (.int (6 : Int32)), .unset, .val (.int (1 : Int32)), .val (.ref bm310), .val (.int (p2 &&& (31 : Int32))), .val (.int (p3 &&& (255 : Int32)).toUInt32.toUInt16.toUInt32.toInt32), .val (.int (p4 &&& (255 : Int32)).toUInt32.toUInt16.toUInt32.toInt32), .val (.int (p5 &&& (255 : Int32)).toUInt32.toUInt16.toUInt32.toInt32)] [])) rfl (hb hby at_116) (by decide) (by decide)
        obtain ⟨b330, g330⟩ : ∃ z, z = (T327.heap).size := ⟨_, rfl⟩
        rw [← g330] at A330 D330 st330
        have c332 := (Exa.keep c319 K327)
        have ne331 : a4 ≠ b330 := Nat.ne_of_lt (Nat.lt_of_lt_of_le (c332).lt (Nat.le_of_eq g330.symm))
        have c334 := (Arv.keep c322 K327 (ninS ne312 nin0))
        have ne333 : b4 ≠ b330 := Nat.ne_of_lt (Nat.lt_of_lt_of_le (c334).lt (Nat.le_of_eq g330.symm))
        have ne335 : bm310 ≠ b330 := Nat.ne_of_lt (Nat.lt_of_lt_of_le (V327).lt (Nat.le_of_eq g330.symm))
        have c337 := (Nat.le_trans c325 K327.1)
        have gn336 : n0 ≤ b330 := Nat.le_trans c337 (Nat.le_of_eq g330.symm)
        have c339 := (Keep.trans (Keep.trans c315 K310 all0) K327 (allS (Or.inr gs314) all0))
        have gs338 : h0.size ≤ b330 := Nat.le_trans c339.1 (Nat.le_of_eq g330.symm)
        have c340 := (Old.keep c323 K327 (allS gn313 all0))
        have sf341_b330 : Safe Z consts_1 T4.vm _ b330 := Safe.ext E330 cr328.1 (Safe.new (Nat.le_of_eq g330.symm))
        have cr341 := CHr.trans cr328 (CHr.ext E330 cr328.1)
        have F330_value : Fld Z h330 b330 "java/lang/String" "value" "[B" .null := D330 (Or.inr (hw _ (List.mem_of_getElem? (i := 4) rfl))) (ty := (.array .byte)) (by decide)
        have F330_coder : Fld Z h330 b330 "java/lang/String" "coder" "B" (.int (0 : Int32)) := D330 (Or.inr (hw _ (List.mem_of_getElem? (i := 5) rfl))) (ty := .byte) (by decide)
        have pr342 : ∀ tg, Steps pP.tables eE below (T330.setTop (mkF mM 119 #[.val (.int p1), .val (.int p2), .val (.int p3), .val (.int p4), .val (.int p5), .val (.ref a4), .val (.int (6 : Int32)), .unset, .val (.int (1 : Int32)), .val (.ref bm310), .val (.int (p2 &&& (31 : Int32))), .val (.int (p3 &&& (255 : Int32)).toUInt32.toUInt16.toUInt32.toInt32), .val (.int (p4 &&& (255 : Int32)).toUInt32.toUInt16.toUInt32.toInt32), .val (.int (p5 &&& (255 : Int32)).toUInt32.toUInt16.toUInt32.toInt32)] [(.ref b330)])) tg → Steps pP.tables eE below (s₁.setTop (entryFrame mM #[(.int p1), (.int p2), (.int p3), (.int p4), (.int p5)] maxLocals)) tg := fun tg kg => pr329 _ (st330 _ kg)
        clear pr329 st330 X327
        have c343 := (Arv.ext V327 E330)
        have c344 := (Old.ext c340 E330)
        have c345 := (Nat.le_trans c337 E330.1)
        have pr346 : ∀ tg, Steps pP.tables eE below (T330.setTop (mkF mM 122 #[.val (.int p1), .val (.int p2), .val (.int p3), .val (.int p4), .val (.int p5), .val (.ref a4), .val (.int (6 : Int32)), .unset, .val (.int (1 : Int32)), .val (.ref bm310), .val (.int (p2 &&& (31 : Int32))), .val (.int (p3 &&& (255 : Int32)).toUInt32.toUInt16.toUInt32.toInt32), .val (.int (p4 &&& (255 : Int32)).toUInt32.toUInt16.toUInt32.toInt32), .val (.int (p5 &&& (255 : Int32)).toUInt32.toUInt16.toUInt32.toInt32)] [(.ref bm310), (.ref b330), (.ref b330)])) tg → Steps pP.tables eE below (s₁.setTop (entryFrame mM #[(.int p1), (.int p2), (.int p3), (.int p4), (.int p5)] maxLocals)) tg := fun tg kg => pr342 _ (by
          show Steps pP.tables eE below (T330.setTop (mkF mM 119 #[.val (.int p1), .val (.int p2), .val (.int p3), .val (.int p4), .val (.int p5), .val (.ref a4), .val (.int (6 : Int32)), .unset, .val (.int (1 : Int32)), .val (.ref bm310), .val (.int (p2 &&& (31 : Int32))), .val (.int (p3 &&& (255 : Int32)).toUInt32.toUInt16.toUInt32.toInt32), .val (.int (p4 &&& (255 : Int32)).toUInt32.toUInt16.toUInt32.toInt32), .val (.int (p5 &&& (255 : Int32)).toUInt32.toUInt16.toUInt32.toInt32)] [(.ref b330)])) _
          refine XS.dup X330.here hx rfl (hb hby at_119) rfl rfl ?_
          refine XS.aload X330.here hx rfl (hb hby at_120) rfl rfl ?_
          exact kg)
        clear pr342
        obtain ⟨Ls347, X347, N347⟩ := own_hide X330 N327
        clear X330 N327
        obtain ⟨_, _, ⟨T348, L348, kk348, nn348⟩, -, X348, ⟨Lc348, hQ348, l348, y348, z348⟩, st348⟩ := X347.specialBack hx (y := (⟨"java/lang/String", "<init>", "([C)V"⟩ : MethodName)) rfl hown (mvT hZ (hw _ (List.mem_of_getElem? (i := 20) rfl))) (mvT hZ (hw _ (List.mem_of_getElem? (i := 21) rfl))) (mvT hZ (hw _ (List.mem_of_getElem? (i := 22) rfl))) (by decide) (StrChars.Road.backV (W := 1) hZ (own_wB hw) (kI := 4) (hw _ (List.mem_of_getElem? (i := 2) rfl)) (cs := tx327) (bs := (tx327).map (fun c => c.toInt8.toInt32)) (n := 1) gn336 c345 A330 F330_value F330_coder c343 (Sta.ext (c344).2 S_cs) hcs hlk327 rfl (by decide) (by decide) hp327 rfl (by decide) (by decide)) (g := (mkF mM 122 #[.val (.int p1), .val (.int p2), .val (.int p3), .val (.int p4), .val (.int p5), .val (.ref a4), .val (.int (6 : Int32)), .unset, .val (.int (1 : Int32)), .val (.ref bm310), .val (.int (p2 &&& (31 : Int32))), .val (.int (p3 &&& (255 : Int32)).toUInt32.toUInt16.toUInt32.toInt32), .val (.int (p4 &&& (255 : Int32)).toUInt32.toUInt16.toUInt32.toInt32), .val (.int (p5 &&& (255 : Int32)).toUInt32.toUInt16.toUInt32.toInt32)] [(.ref bm310), (.ref b330), (.ref b330)])) rfl (by rw [hml]; rfl) (Steps.refl _) (a := b330) (argsL := [(.ref bm310)]) (rest := [(.ref b330)]) (lenOf pd_14 rfl) rfl (by show 2 * 0 + _ ≤ _; exact Nat.le_of_eq rfl) (hb hby at_122) (fun _ _ => ⟨rfl, e330, (by decide : 4 + 1 ≤ _), (by decide : 85 + 1 ≤ _)⟩)
        dsimp only [Pt.U, Pt.locs, Pt.cells, Pt.slots] at X348 l348 y348 z348 st348 hQ348
        subst l348 y348 z348
        obtain ⟨rfl, Nq348, K348, E348, Fc348, tn348, kt348, -, ge348, -, Fv348, V348⟩ := hQ348
        have N348 := Fr.app N347 Nq348
        have sf349_b330 := Safe.keep K348 (sfS sf341_b330 sf0) cr341.1 sf341_b330
        have cr349 := CHr.trans cr341 (CHr.keep K348 (sfS sf341_b330 sf0) cr341.1)
        have pr350 : ∀ tg, Steps pP.tables eE below (T348.setTop (mkF mM 125 #[.val (.int p1), .val (.int p2), .val (.int p3), .val (.int p4), .val (.int p5), .val (.ref a4), .val (.int (6 : Int32)), .unset, .val (.int (1 : Int32)), .val (.ref bm310), .val (.int (p2 &&& (31 : Int32))), .val (.int (p3 &&& (255 : Int32)).toUInt32.toUInt16.toUInt32.toInt32), .val (.int (p4 &&& (255 : Int32)).toUInt32.toUInt16.toUInt32.toInt32), .val (.int (p5 &&& (255 : Int32)).toUInt32.toUInt16.toUInt32.toInt32)] [(.ref b330)])) tg → Steps pP.tables eE below (s₁.setTop (entryFrame mM #[(.int p1), (.int p2), (.int p3), (.int p4), (.int p5)] maxLocals)) tg := fun tg kg => pr346 _ (st348.trans kg)
        clear pr346 st348 X347 e330
        have Vl348 : Arv Z T348.heap tn348 kt348 .byte (Int32.ofNat tx327.length) ((tx327.map StrChars.lo8).map Value.int) (.int (0 : Int32)) := by rw [hlk327]; exact V348
        have pr351 : ∀ tg, Steps pP.tables eE below (T348.setTop (mkF mM 127 #[.val (.int p1), .val (.int p2), .val (.int p3), .val (.int p4), .val (.int p5), .val (.ref a4), .val (.int (6 : Int32)), .val (.ref b330), .val (.int (1 : Int32)), .val (.ref bm310), .val (.int (p2 &&& (31 : Int32))), .val (.int (p3 &&& (255 : Int32)).toUInt32.toUInt16.toUInt32.toInt32), .val (.int (p4 &&& (255 : Int32)).toUInt32.toUInt16.toUInt32.toInt32), .val (.int (p5 &&& (255 : Int32)).toUInt32.toUInt16.toUInt32.toInt32)] [])) tg → Steps pP.tables eE below (s₁.setTop (entryFrame mM #[(.int p1), (.int p2), (.int p3), (.int p4), (.int p5)] maxLocals)) tg := fun tg kg => pr350 _ (by
          show Steps pP.tables eE below (T348.setTop (mkF mM 125 #[.val (.int p1), .val (.int p2), .val (.int p3), .val (.int p4), .val (.int p5), .val (.ref a4), .val (.int (6 : Int32)), .unset, .val (.int (1 : Int32)), .val (.ref bm310), .val (.int (p2 &&& (31 : Int32))), .val (.int (p3 &&& (255 : Int32)).toUInt32.toUInt16.toUInt32.toInt32), .val (.int (p4 &&& (255 : Int32)).toUInt32.toUInt16.toUInt32.toInt32), .val (.int (p5 &&& (255 : Int32)).toUInt32.toUInt16.toUInt32.toInt32)] [(.ref b330)])) _
          refine XS.astore X348.here hx rfl (hb hby at_125) rfl rfl (l' := #[.val (.int p1), .val (.int p2), .val (.int p3), .val (.int p4), .val (.int p5), .val (.ref a4), .val (.int (6 : Int32)), .val (.ref b330), .val (.int (1 : Int32)), .val (.ref bm310), .val (.int (p2 &&& (31 : Int32))), .val (.int (p3 &&& (255 : Int32)).toUInt32.toUInt16.toUInt32.toInt32), .val (.int (p4 &&& (255 : Int32)).toUInt32.toUInt16.toUInt32.toInt32), .val (.int (p5 &&& (255 : Int32)).toUInt32.toUInt16.toUInt32.toInt32)]) rfl ?_
          exact kg)
        clear pr350
        have c352 := (Old.keep c344 K348 (allS gn336 all0))
        have c353 := (Nat.le_trans c345 K348.1)
        have c354 := (Nat.le_trans (Nat.le_trans (Nat.le_trans (Nat.le_trans hk4 K310.1) K327.1) E330.1) K348.1)
        exact ⟨T348, T348.heap, T4.vm, _, b330, tn348, _, tx327, (1 : Int32), bm310, _, Jvm.Stand.mono X348 (by decide) (by decide), N348, rfl, c352, c353, hS, c354, hZ, hown, cr349, E348, Fv348, Fc348, Vl348, hp327, (by rw [hlk327]; decide), pr351⟩
      ·
        exact absurd rfl hz7
    have pr355 : ∀ tg, Steps pP.tables eE below (T26.setTop (mkF mM 129 #[.val (.int p1), .val (.int p2), .val (.int p3), .val (.int p4), .val (.int p5), .val (.ref a4), .val (.int z16), .val (.ref xx26), .val (.int nn26), .val (.ref yy26), .val (.int (p2 &&& (31 : Int32))), .val (.int (p3 &&& (255 : Int32)).toUInt32.toUInt16.toUInt32.toInt32), .val (.int (p4 &&& (255 : Int32)).toUInt32.toUInt16.toUInt32.toInt32), .val (.int (p5 &&& (255 : Int32)).toUInt32.toUInt16.toUInt32.toInt32)] [(.ref xx26)])) tg → Steps pP.tables eE below (s₁.setTop (entryFrame mM #[(.int p1), (.int p2), (.int p3), (.int p4), (.int p5)] maxLocals)) tg := fun tg kg => st26 _ (by
      show Steps pP.tables eE below (T26.setTop (mkF mM 127 #[.val (.int p1), .val (.int p2), .val (.int p3), .val (.int p4), .val (.int p5), .val (.ref a4), .val (.int z16), .val (.ref xx26), .val (.int nn26), .val (.ref yy26), .val (.int (p2 &&& (31 : Int32))), .val (.int (p3 &&& (255 : Int32)).toUInt32.toUInt16.toUInt32.toInt32), .val (.int (p4 &&& (255 : Int32)).toUInt32.toUInt16.toUInt32.toInt32), .val (.int (p5 &&& (255 : Int32)).toUInt32.toUInt16.toUInt32.toInt32)] [])) _
      refine XS.aload X26.here hx rfl (hb hby at_127) rfl rfl ?_
      exact kg)
    clear st26
    by_cases hu1 : tx26 = ([(49 : Int32), (46 : Int32), (50 : Int32), (46 : Int32), (56 : Int32), (52 : Int32), (48 : Int32), (46 : Int32), (49 : Int32), (48 : Int32), (48 : Int32), (48 : Int32), (56 : Int32), (46 : Int32), (49 : Int32), (46 : Int32), (50 : Int32)] : List Int32)
    ·
      obtain ⟨_, _, ⟨T356, L356, kk356, nn356⟩, -, X356, ⟨Lc356, hQ356, l356, y356, z356⟩, st356⟩ := Jvm.LawKit.callS X26 hx (y := (⟨"com/example/tesserae/tesserae/dicom/TransferSyntax", "forUid", "(Ljava/lang/String;)Lcom/example/tesserae/tesserae/dicom/TransferSyntax;"⟩ : MethodName)) hown (mvT hZ (hw _ (List.mem_of_getElem? (i := 33) rfl))) (mvT hZ (hw _ (List.mem_of_getElem? (i := 34) rfl))) (mvT hZ (hw _ (List.mem_of_getElem? (i := 35) rfl))) (mvT hZ (hw _ (List.mem_of_getElem? (i := 36) rfl))) (by decide) (backOf (W := 0) (rm50 l Z a0 hw [] cs al kal a_IMPLICIT_VR_LITTLE_ENDIAN t_IMPLICIT_VR_LITTLE_ENDIAN u_IMPLICIT_VR_LITTLE_ENDIAN k_IMPLICIT_VR_LITTLE_ENDIAN a_EXPLICIT_VR_LITTLE_ENDIAN t_EXPLICIT_VR_LITTLE_ENDIAN u_EXPLICIT_VR_LITTLE_ENDIAN k_EXPLICIT_VR_LITTLE_ENDIAN xx26 tt26 kt26 tx26 h26 n0 Zz26 O26 S_cs hcs S_ALL E_ALL V_ALL S_IMPLICIT_VR_LITTLE_ENDIAN E_IMPLICIT_VR_LITTLE_ENDIAN F_IMPLICIT_VR_LITTLE_ENDIAN Et_IMPLICIT_VR_LITTLE_ENDIAN Fc_IMPLICIT_VR_LITTLE_ENDIAN Fv_IMPLICIT_VR_LITTLE_ENDIAN Vt_IMPLICIT_VR_LITTLE_ENDIAN S_EXPLICIT_VR_LITTLE_ENDIAN E_EXPLICIT_VR_LITTLE_ENDIAN F_EXPLICIT_VR_LITTLE_ENDIAN Et_EXPLICIT_VR_LITTLE_ENDIAN Fc_EXPLICIT_VR_LITTLE_ENDIAN Fv_EXPLICIT_VR_LITTLE_ENDIAN Vt_EXPLICIT_VR_LITTLE_ENDIAN E26 Fv26 Fc26 V26 hp26 hl26 hu1) hZ (hw _ (List.mem_of_getElem? (i := 36) rfl)) (hw _ (List.mem_of_getElem? (i := 35) rfl)) (by decide) (by decide)) (g := (mkF mM 129 #[.val (.int p1), .val (.int p2), .val (.int p3), .val (.int p4), .val (.int p5), .val (.ref a4), .val (.int z16), .val (.ref xx26), .val (.int nn26), .val (.ref yy26), .val (.int (p2 &&& (31 : Int32))), .val (.int (p3 &&& (255 : Int32)).toUInt32.toUInt16.toUInt32.toInt32), .val (.int (p4 &&& (255 : Int32)).toUInt32.toUInt16.toUInt32.toInt32), .val (.int (p5 &&& (255 : Int32)).toUInt32.toUInt16.toUInt32.toInt32)] [(.ref xx26)])) rfl (by rw [hml]; rfl) (argsL := [(.ref xx26)]) (rest := []) (lenOf pd_11 rfl) rfl (by show 2 * 0 + _ ≤ _; exact Nat.le_of_eq rfl) (hb hby at_129) (fun _ _ => ⟨rfl, e26, (by decide : 8 + 1 ≤ _), (by decide : 124 + 2 ≤ _)⟩)
      dsimp only [Pt.U, Pt.locs, Pt.cells, Pt.slots] at X356 l356 y356 z356 st356 hQ356
      subst l356 y356 z356
      obtain ⟨rfl, Nq356, K356⟩ := hQ356
      have N356 := Fr.app N26 Nq356
      have cr357 := CHr.trans cr26 (CHr.keep K356 sf0 cr26.1)
      have pr358 : ∀ tg, Steps pP.tables eE below (T356.setTop (mkF mM 132 #[.val (.int p1), .val (.int p2), .val (.int p3), .val (.int p4), .val (.int p5), .val (.ref a4), .val (.int z16), .val (.ref xx26), .val (.int nn26), .val (.ref yy26), .val (.int (p2 &&& (31 : Int32))), .val (.int (p3 &&& (255 : Int32)).toUInt32.toUInt16.toUInt32.toInt32), .val (.int (p4 &&& (255 : Int32)).toUInt32.toUInt16.toUInt32.toInt32), .val (.int (p5 &&& (255 : Int32)).toUInt32.toUInt16.toUInt32.toInt32)] [(.ref a_IMPLICIT_VR_LITTLE_ENDIAN)])) tg → Steps pP.tables eE below (s₁.setTop (entryFrame mM #[(.int p1), (.int p2), (.int p3), (.int p4), (.int p5)] maxLocals)) tg := fun tg kg => pr355 _ (st356 _ kg)
      clear pr355 st356 X26 e26
      have c359 := (Nat.le_trans hk26 K356.1)
      have pr360 : ∀ tg, Steps pP.tables eE below (T356.setTop (mkF mM 144 #[.val (.int p1), .val (.int p2), .val (.int p3), .val (.int p4), .val (.int p5), .val (.ref a4), .val (.int z16), .val (.ref xx26), .val (.ref a_IMPLICIT_VR_LITTLE_ENDIAN), .val .null, .val (.int (p2 &&& (31 : Int32))), .val (.int (p3 &&& (255 : Int32)).toUInt32.toUInt16.toUInt32.toInt32), .val (.int (p4 &&& (255 : Int32)).toUInt32.toUInt16.toUInt32.toInt32), .val (.int (p5 &&& (255 : Int32)).toUInt32.toUInt16.toUInt32.toInt32)] [(.ref xx26)])) tg → Steps pP.tables eE below (s₁.setTop (entryFrame mM #[(.int p1), (.int p2), (.int p3), (.int p4), (.int p5)] maxLocals)) tg := fun tg kg => pr358 _ (by
        show Steps pP.tables eE below (T356.setTop (mkF mM 132 #[.val (.int p1), .val (.int p2), .val (.int p3), .val (.int p4), .val (.int p5), .val (.ref a4), .val (.int z16), .val (.ref xx26), .val (.int nn26), .val (.ref yy26), .val (.int (p2 &&& (31 : Int32))), .val (.int (p3 &&& (255 : Int32)).toUInt32.toUInt16.toUInt32.toInt32), .val (.int (p4 &&& (255 : Int32)).toUInt32.toUInt16.toUInt32.toInt32), .val (.int (p5 &&& (255 : Int32)).toUInt32.toUInt16.toUInt32.toInt32)] [(.ref a_IMPLICIT_VR_LITTLE_ENDIAN)])) _
        refine XS.astore X356.here hx rfl (hb hby at_132) rfl rfl (l' := #[.val (.int p1), .val (.int p2), .val (.int p3), .val (.int p4), .val (.int p5), .val (.ref a4), .val (.int z16), .val (.ref xx26), .val (.ref a_IMPLICIT_VR_LITTLE_ENDIAN), .val (.ref yy26), .val (.int (p2 &&& (31 : Int32))), .val (.int (p3 &&& (255 : Int32)).toUInt32.toUInt16.toUInt32.toInt32), .val (.int (p4 &&& (255 : Int32)).toUInt32.toUInt16.toUInt32.toInt32), .val (.int (p5 &&& (255 : Int32)).toUInt32.toUInt16.toUInt32.toInt32)]) rfl ?_
        refine XS.aconstNull X356.here hx rfl (hb hby at_134) ?_
        refine XS.astore X356.here hx rfl (hb hby at_135) rfl rfl (l' := #[.val (.int p1), .val (.int p2), .val (.int p3), .val (.int p4), .val (.int p5), .val (.ref a4), .val (.int z16), .val (.ref xx26), .val (.ref a_IMPLICIT_VR_LITTLE_ENDIAN), .val .null, .val (.int (p2 &&& (31 : Int32))), .val (.int (p3 &&& (255 : Int32)).toUInt32.toUInt16.toUInt32.toInt32), .val (.int (p4 &&& (255 : Int32)).toUInt32.toUInt16.toUInt32.toInt32), .val (.int (p5 &&& (255 : Int32)).toUInt32.toUInt16.toUInt32.toInt32)]) rfl ?_
        refine XS.aload X356.here hx rfl (hb hby at_137) rfl rfl ?_
        refine XS.ifnullNo X356.here hx rfl (hb hby at_139) rfl ?_
        refine XS.aload X356.here hx rfl (hb hby at_142) rfl rfl ?_
        exact kg)
      clear pr358
      obtain ⟨a361, T361, h361, kk361, b361, kc361, X361, e361, E361, hS, hk361, hZ, hown, Es361, Fc361, Fv361, V361, la361, lb361, A361, -, hn361, st361⟩ := ldcCH (s := sS) (vm0 := vm26) (EL := consts_1) X356 hx hZ hown (hw _ (List.mem_of_getElem? (i := 0) rfl)) wS rfl hS c359 hEW (List.mem_of_getElem? (i := 0) rfl) cr357.1 (vs := [(.int (49 : Int32)), (.int (46 : Int32)), (.int (50 : Int32)), (.int (46 : Int32)), (.int (56 : Int32)), (.int (52 : Int32)), (.int (48 : Int32)), (.int (46 : Int32)), (.int (49 : Int32)), (.int (48 : Int32)), (.int (48 : Int32)), (.int (48 : Int32)), (.int (56 : Int32)), (.int (46 : Int32)), (.int (49 : Int32)), (.int (46 : Int32)), (.int (50 : Int32))]) (z := (17 : Int32)) ⟨by decide, rfl⟩ (by decide) rfl (g := (mkF mM 144 #[.val (.int p1), .val (.int p2), .val (.int p3), .val (.int p4), .val (.int p5), .val (.ref a4), .val (.int z16), .val (.ref xx26), .val (.ref a_IMPLICIT_VR_LITTLE_ENDIAN), .val .null, .val (.int (p2 &&& (31 : Int32))), .val (.int (p3 &&& (255 : Int32)).toUInt32.toUInt16.toUInt32.toInt32), .val (.int (p4 &&& (255 : Int32)).toUInt32.toUInt16.toUInt32.toInt32), .val (.int (p5 &&& (255 : Int32)).toUInt32.toUInt16.toUInt32.toInt32)] [(.ref xx26)])) rfl (hb hby at_144) (n := 68) (by decide) (by decide) (by decide) (by decide)
      have cr362 := CHr.trans cr357 A361
      have pr363 : ∀ tg, Steps pP.tables eE below (T361.setTop (mkF mM 146 #[.val (.int p1), .val (.int p2), .val (.int p3), .val (.int p4), .val (.int p5), .val (.ref a4), .val (.int z16), .val (.ref xx26), .val (.ref a_IMPLICIT_VR_LITTLE_ENDIAN), .val .null, .val (.int (p2 &&& (31 : Int32))), .val (.int (p3 &&& (255 : Int32)).toUInt32.toUInt16.toUInt32.toInt32), .val (.int (p4 &&& (255 : Int32)).toUInt32.toUInt16.toUInt32.toInt32), .val (.int (p5 &&& (255 : Int32)).toUInt32.toUInt16.toUInt32.toInt32)] [(.ref a361), (.ref xx26)])) tg → Steps pP.tables eE below (s₁.setTop (entryFrame mM #[(.int p1), (.int p2), (.int p3), (.int p4), (.int p5)] maxLocals)) tg := fun tg kg => pr360 _ (st361 _ kg)
      clear pr360 st361 X356
      have c364 := (Exa.ext E361 (Exa.keep E26 K356))
      have c365 := (Fld.ext E361 (Fld.keep Fv26 K356 nin0))
      have c366 := (Fld.ext E361 (Fld.keep Fc26 K356 nin0))
      have c367 := (Arv.ext (Arv.keep V26 K356 nin0) E361)
      have c368 := (Old.ext (Old.keep O26 K356 all0) E361)
      have c369 := (Nat.le_trans (Nat.le_trans Zz26 K356.1) E361.1)
      obtain ⟨Ls370, X370, N370⟩ := own_hide X361 N356
      clear X361 N356
      obtain ⟨cq371, kq371, qa371, qb371, qc371⟩ := isOf hZ e361 c364
      obtain ⟨vq371, _, ⟨T371, L371, kk371, nn371⟩, -, X371, ⟨Lc371, hQ371, l371, y371, z371⟩, st371⟩ := X370.virtualBack hx (y := (⟨"java/lang/String", "equals", "(Ljava/lang/Object;)Z"⟩ : MethodName)) (z := (⟨"java/lang/String", "equals", "(Ljava/lang/Object;)Z"⟩ : MethodName)) hown (mvT hZ (hw _ (List.mem_of_getElem? (i := 67) rfl))) (mvT hZ (hw _ (List.mem_of_getElem? (i := 57) rfl))) (notFace_of_selects (args := #[]) (mvT hZ (hw _ (List.mem_of_getElem? (i := 59) rfl)))) (mvT hZ (hw _ (List.mem_of_getElem? (i := 59) rfl))) (mvT hZ (hw _ (List.mem_of_getElem? (i := 58) rfl))) (by decide) (StrChars.Road.eqW (W := 0) hZ (own_wE hw) (kI := 4) (hw _ (List.mem_of_getElem? (i := 2) rfl)) (cs := tx26) c364 c365 c366 c367 (StrChars.Road.codOf (n := tx26.length) rfl (fun c hc => (hp26 c hc).2)) (own_up hp26) hl26 (ds := ([(49 : Int32), (46 : Int32), (50 : Int32), (46 : Int32), (56 : Int32), (52 : Int32), (48 : Int32), (46 : Int32), (49 : Int32), (48 : Int32), (48 : Int32), (48 : Int32), (56 : Int32), (46 : Int32), (49 : Int32), (46 : Int32), (50 : Int32)] : List Int32)) Es361 Fv361 Fc361 V361 own_cod_t0 own_bd_t0 (Nat.le_of_ble_eq_true rfl) (Sta.ext (c368).2 S_cs) hcs (by decide) (by decide)) qa371 qc371 (g := (mkF mM 146 #[.val (.int p1), .val (.int p2), .val (.int p3), .val (.int p4), .val (.int p5), .val (.ref a4), .val (.int z16), .val (.ref xx26), .val (.ref a_IMPLICIT_VR_LITTLE_ENDIAN), .val .null, .val (.int (p2 &&& (31 : Int32))), .val (.int (p3 &&& (255 : Int32)).toUInt32.toUInt16.toUInt32.toInt32), .val (.int (p4 &&& (255 : Int32)).toUInt32.toUInt16.toUInt32.toInt32), .val (.int (p5 &&& (255 : Int32)).toUInt32.toUInt16.toUInt32.toInt32)] [(.ref a361), (.ref xx26)])) rfl (by rw [hml]; rfl) (Steps.refl _) (argsL := [(.ref a361)]) (rest := []) (lenOf pd_10 rfl) rfl (by show 2 * 0 + _ ≤ _; exact Nat.le_of_eq rfl) (hb hby at_146) (fun _ _ => ⟨rfl, e361, (by decide : 11 + 0 ≤ _), (by decide : 198 + 0 ≤ _)⟩)
      dsimp only [Pt.U, Pt.locs, Pt.cells, Pt.slots] at X371 l371 y371 z371 st371 hQ371
      subst l371 y371 z371
      obtain ⟨hq371, hL371, e371⟩ := hQ371
      subst hL371
      obtain ⟨r371, hv371, hr371⟩ : ∃ r : Int32, vq371 = some (.int r) ∧ r = (if tx26 = ([(49 : Int32), (46 : Int32), (50 : Int32), (46 : Int32), (56 : Int32), (52 : Int32), (48 : Int32), (46 : Int32), (49 : Int32), (48 : Int32), (48 : Int32), (48 : Int32), (56 : Int32), (46 : Int32), (49 : Int32), (46 : Int32), (50 : Int32)] : List Int32) then (1 : Int32) else (0 : Int32)) := hq371.elim (fun q => ⟨1, q.1, (if_pos q.2).symm⟩) (fun q => ⟨0, q.1, (if_neg q.2).symm⟩)
      subst hv371
      have N371 := Fr.app N370 (Fr.nil n0)
      have pr372 : ∀ tg, Steps pP.tables eE below (T371.setTop (mkF mM 149 #[.val (.int p1), .val (.int p2), .val (.int p3), .val (.int p4), .val (.int p5), .val (.ref a4), .val (.int z16), .val (.ref xx26), .val (.ref a_IMPLICIT_VR_LITTLE_ENDIAN), .val .null, .val (.int (p2 &&& (31 : Int32))), .val (.int (p3 &&& (255 : Int32)).toUInt32.toUInt16.toUInt32.toInt32), .val (.int (p4 &&& (255 : Int32)).toUInt32.toUInt16.toUInt32.toInt32), .val (.int (p5 &&& (255 : Int32)).toUInt32.toUInt16.toUInt32.toInt32)] [(.int r371)])) tg → Steps pP.tables eE below (s₁.setTop (entryFrame mM #[(.int p1), (.int p2), (.int p3), (.int p4), (.int p5)] maxLocals)) tg := fun tg kg => pr363 _ (st371.trans kg)
      clear pr363 st371 X370 e361
      rw [if_pos hu1] at hr371
      subst hr371
      have pr373 : ∀ tg, Steps pP.tables eE below (T371.setTop (mkF mM 152 #[.val (.int p1), .val (.int p2), .val (.int p3), .val (.int p4), .val (.int p5), .val (.ref a4), .val (.int z16), .val (.ref xx26), .val (.ref a_IMPLICIT_VR_LITTLE_ENDIAN), .val .null, .val (.int (p2 &&& (31 : Int32))), .val (.int (p3 &&& (255 : Int32)).toUInt32.toUInt16.toUInt32.toInt32), .val (.int (p4 &&& (255 : Int32)).toUInt32.toUInt16.toUInt32.toInt32), .val (.int (p5 &&& (255 : Int32)).toUInt32.toUInt16.toUInt32.toInt32)] [])) tg → Steps pP.tables eE below (s₁.setTop (entryFrame mM #[(.int p1), (.int p2), (.int p3), (.int p4), (.int p5)] maxLocals)) tg := fun tg kg => pr372 _ (by
        show Steps pP.tables eE below (T371.setTop (mkF mM 149 #[.val (.int p1), .val (.int p2), .val (.int p3), .val (.int p4), .val (.int p5), .val (.ref a4), .val (.int z16), .val (.ref xx26), .val (.ref a_IMPLICIT_VR_LITTLE_ENDIAN), .val .null, .val (.int (p2 &&& (31 : Int32))), .val (.int (p3 &&& (255 : Int32)).toUInt32.toUInt16.toUInt32.toInt32), .val (.int (p4 &&& (255 : Int32)).toUInt32.toUInt16.toUInt32.toInt32), .val (.int (p5 &&& (255 : Int32)).toUInt32.toUInt16.toUInt32.toInt32)] [(.int (1 : Int32))])) _
        refine XS.ifNo X371.here hx rfl (hb hby at_149) rfl ((if0 _ _).trans (feq (by decide)).1) ?_
        exact kg)
      clear pr372
      obtain ⟨T374, X374, e374, st374⟩ := getS2 X371 hx hZ hown (host := "") (Or.inl (hw _ (List.mem_of_getElem? (i := 110) rfl))) Via.refl e371 (Sta.ext (c368).2 S_IMPLICIT_VR_LITTLE_ENDIAN) (g := (mkF mM 152 #[.val (.int p1), .val (.int p2), .val (.int p3), .val (.int p4), .val (.int p5), .val (.ref a4), .val (.int z16), .val (.ref xx26), .val (.ref a_IMPLICIT_VR_LITTLE_ENDIAN), .val .null, .val (.int (p2 &&& (31 : Int32))), .val (.int (p3 &&& (255 : Int32)).toUInt32.toUInt16.toUInt32.toInt32), .val (.int (p4 &&& (255 : Int32)).toUInt32.toUInt16.toUInt32.toInt32), .val (.int (p5 &&& (255 : Int32)).toUInt32.toUInt16.toUInt32.toInt32)] [])) rfl (hb hby at_152)
      have pr375 : ∀ tg, Steps pP.tables eE below (T374.setTop (mkF mM 155 #[.val (.int p1), .val (.int p2), .val (.int p3), .val (.int p4), .val (.int p5), .val (.ref a4), .val (.int z16), .val (.ref xx26), .val (.ref a_IMPLICIT_VR_LITTLE_ENDIAN), .val .null, .val (.int (p2 &&& (31 : Int32))), .val (.int (p3 &&& (255 : Int32)).toUInt32.toUInt16.toUInt32.toInt32), .val (.int (p4 &&& (255 : Int32)).toUInt32.toUInt16.toUInt32.toInt32), .val (.int (p5 &&& (255 : Int32)).toUInt32.toUInt16.toUInt32.toInt32)] [(.ref a_IMPLICIT_VR_LITTLE_ENDIAN)])) tg → Steps pP.tables eE below (s₁.setTop (entryFrame mM #[(.int p1), (.int p2), (.int p3), (.int p4), (.int p5)] maxLocals)) tg := fun tg kg => pr373 _ (st374 _ kg)
      clear pr373 st374 X371 e371
      have pr376 : ∀ tg, Steps pP.tables eE below (T374.setTop (mkF mM 187 #[.val (.int p1), .val (.int p2), .val (.int p3), .val (.int p4), .val (.int p5), .val (.ref a4), .val (.int z16), .val (.ref xx26), .val (.ref a_IMPLICIT_VR_LITTLE_ENDIAN), .val (.ref a_IMPLICIT_VR_LITTLE_ENDIAN), .val (.int (p2 &&& (31 : Int32))), .val (.int (p3 &&& (255 : Int32)).toUInt32.toUInt16.toUInt32.toInt32), .val (.int (p4 &&& (255 : Int32)).toUInt32.toUInt16.toUInt32.toInt32), .val (.int (p5 &&& (255 : Int32)).toUInt32.toUInt16.toUInt32.toInt32)] [(.int (1 : Int32))])) tg → Steps pP.tables eE below (s₁.setTop (entryFrame mM #[(.int p1), (.int p2), (.int p3), (.int p4), (.int p5)] maxLocals)) tg := fun tg kg => pr375 _ (by
        show Steps pP.tables eE below (T374.setTop (mkF mM 155 #[.val (.int p1), .val (.int p2), .val (.int p3), .val (.int p4), .val (.int p5), .val (.ref a4), .val (.int z16), .val (.ref xx26), .val (.ref a_IMPLICIT_VR_LITTLE_ENDIAN), .val .null, .val (.int (p2 &&& (31 : Int32))), .val (.int (p3 &&& (255 : Int32)).toUInt32.toUInt16.toUInt32.toInt32), .val (.int (p4 &&& (255 : Int32)).toUInt32.toUInt16.toUInt32.toInt32), .val (.int (p5 &&& (255 : Int32)).toUInt32.toUInt16.toUInt32.toInt32)] [(.ref a_IMPLICIT_VR_LITTLE_ENDIAN)])) _
        refine XS.astore X374.here hx rfl (hb hby at_155) rfl rfl (l' := #[.val (.int p1), .val (.int p2), .val (.int p3), .val (.int p4), .val (.int p5), .val (.ref a4), .val (.int z16), .val (.ref xx26), .val (.ref a_IMPLICIT_VR_LITTLE_ENDIAN), .val (.ref a_IMPLICIT_VR_LITTLE_ENDIAN), .val (.int (p2 &&& (31 : Int32))), .val (.int (p3 &&& (255 : Int32)).toUInt32.toUInt16.toUInt32.toInt32), .val (.int (p4 &&& (255 : Int32)).toUInt32.toUInt16.toUInt32.toInt32), .val (.int (p5 &&& (255 : Int32)).toUInt32.toUInt16.toUInt32.toInt32)]) rfl ?_
        refine XS.goto X374.here hx rfl (pc0 := 157) (pc' := 175) rfl (hb hby at_157) (by decide) (by decide) ?_
        refine XS.aload X374.here hx rfl (hb hby at_175) rfl rfl ?_
        refine XS.aload X374.here hx rfl (hb hby at_177) rfl rfl ?_
        show Steps pP.tables eE below (T374.setTop (mkF mM 179 #[.val (.int p1), .val (.int p2), .val (.int p3), .val (.int p4), .val (.int p5), .val (.ref a4), .val (.int z16), .val (.ref xx26), .val (.ref a_IMPLICIT_VR_LITTLE_ENDIAN), .val (.ref a_IMPLICIT_VR_LITTLE_ENDIAN), .val (.int (p2 &&& (31 : Int32))), .val (.int (p3 &&& (255 : Int32)).toUInt32.toUInt16.toUInt32.toInt32), .val (.int (p4 &&& (255 : Int32)).toUInt32.toUInt16.toUInt32.toInt32), .val (.int (p5 &&& (255 : Int32)).toUInt32.toUInt16.toUInt32.toInt32)] [(.ref a_IMPLICIT_VR_LITTLE_ENDIAN), (.ref a_IMPLICIT_VR_LITTLE_ENDIAN)])) _
        refine Jvm.RoadKit.acmp (g := (mkF mM 179 #[.val (.int p1), .val (.int p2), .val (.int p3), .val (.int p4), .val (.int p5), .val (.ref a4), .val (.int z16), .val (.ref xx26), .val (.ref a_IMPLICIT_VR_LITTLE_ENDIAN), .val (.ref a_IMPLICIT_VR_LITTLE_ENDIAN), .val (.int (p2 &&& (31 : Int32))), .val (.int (p3 &&& (255 : Int32)).toUInt32.toUInt16.toUInt32.toInt32), .val (.int (p4 &&& (255 : Int32)).toUInt32.toUInt16.toUInt32.toInt32), .val (.int (p5 &&& (255 : Int32)).toUInt32.toUInt16.toUInt32.toInt32)] [(.ref a_IMPLICIT_VR_LITTLE_ENDIAN), (.ref a_IMPLICIT_VR_LITTLE_ENDIAN)])) X374 hx rfl rfl rfl (pc0 := 179) (pc' := 182) (same := true) rfl (hb hby at_179) rfl (decide_eq_true rfl) (by decide) (by decide) ?_
        show Steps pP.tables eE below (T374.setTop (mkF mM 182 #[.val (.int p1), .val (.int p2), .val (.int p3), .val (.int p4), .val (.int p5), .val (.ref a4), .val (.int z16), .val (.ref xx26), .val (.ref a_IMPLICIT_VR_LITTLE_ENDIAN), .val (.ref a_IMPLICIT_VR_LITTLE_ENDIAN), .val (.int (p2 &&& (31 : Int32))), .val (.int (p3 &&& (255 : Int32)).toUInt32.toUInt16.toUInt32.toInt32), .val (.int (p4 &&& (255 : Int32)).toUInt32.toUInt16.toUInt32.toInt32), .val (.int (p5 &&& (255 : Int32)).toUInt32.toUInt16.toUInt32.toInt32)] [])) _
        refine XS.iconst X374.here hx rfl (hb hby at_182) ?_
        refine XS.goto X374.here hx rfl (pc0 := 183) (pc' := 187) rfl (hb hby at_183) (by decide) (by decide) ?_
        exact kg)
      clear pr375
      obtain ⟨fs, hr, hrun, hended, hW⟩ := Jvm.Stand.leaveW (s := sS) (vm₁ := T361.vm) X374 hS (Nat.le_trans hk361 (Nat.le_of_eq (congrArg Array.size e374.symm))) (v := some (.int (1 : Int32))) (fun h => by rw [Bd.returns] at h; cases h)
      refine ⟨_, _, pr376 _ (retOut X374 hx (t := .boolean) Bd.returns rfl (Or.inl ⟨rfl, Or.inr (Or.inl rfl), _, rfl⟩) (hb hby at_187) hr), hrun, hended, _, _, rfl, ?_, hW.1, hW.2.1, hW.2.2.1, hW.2.2.2.mono (by decide) (by decide)⟩
      show Q0 Z p1 p2 p3 p4 p5 cs sf al kal a_IMPLICIT_VR_LITTLE_ENDIAN t_IMPLICIT_VR_LITTLE_ENDIAN u_IMPLICIT_VR_LITTLE_ENDIAN k_IMPLICIT_VR_LITTLE_ENDIAN a_EXPLICIT_VR_LITTLE_ENDIAN t_EXPLICIT_VR_LITTLE_ENDIAN u_EXPLICIT_VR_LITTLE_ENDIAN k_EXPLICIT_VR_LITTLE_ENDIAN h0 n0 _ T374.heap _
      rw [e374]
      exact ⟨rfl, N371⟩
    ·
      by_cases hu2 : tx26 = ([(49 : Int32), (46 : Int32), (50 : Int32), (46 : Int32), (56 : Int32), (52 : Int32), (48 : Int32), (46 : Int32), (49 : Int32), (48 : Int32), (48 : Int32), (48 : Int32), (56 : Int32), (46 : Int32), (49 : Int32), (46 : Int32), (50 : Int32), (46 : Int32), (49 : Int32)] : List Int32)
      ·
        obtain ⟨_, _, ⟨T377, L377, kk377, nn377⟩, -, X377, ⟨Lc377, hQ377, l377, y377, z377⟩, st377⟩ := Jvm.LawKit.callS X26 hx (y := (⟨"com/example/tesserae/tesserae/dicom/TransferSyntax", "forUid", "(Ljava/lang/String;)Lcom/example/tesserae/tesserae/dicom/TransferSyntax;"⟩ : MethodName)) hown (mvT hZ (hw _ (List.mem_of_getElem? (i := 33) rfl))) (mvT hZ (hw _ (List.mem_of_getElem? (i := 34) rfl))) (mvT hZ (hw _ (List.mem_of_getElem? (i := 35) rfl))) (mvT hZ (hw _ (List.mem_of_getElem? (i := 36) rfl))) (by decide) (backOf (W := 0) (rm51 l Z a0 hw [] cs al kal a_IMPLICIT_VR_LITTLE_ENDIAN t_IMPLICIT_VR_LITTLE_ENDIAN u_IMPLICIT_VR_LITTLE_ENDIAN k_IMPLICIT_VR_LITTLE_ENDIAN a_EXPLICIT_VR_LITTLE_ENDIAN t_EXPLICIT_VR_LITTLE_ENDIAN u_EXPLICIT_VR_LITTLE_ENDIAN k_EXPLICIT_VR_LITTLE_ENDIAN xx26 tt26 kt26 tx26 h26 n0 Zz26 O26 S_cs hcs S_ALL E_ALL V_ALL S_IMPLICIT_VR_LITTLE_ENDIAN E_IMPLICIT_VR_LITTLE_ENDIAN F_IMPLICIT_VR_LITTLE_ENDIAN Et_IMPLICIT_VR_LITTLE_ENDIAN Fc_IMPLICIT_VR_LITTLE_ENDIAN Fv_IMPLICIT_VR_LITTLE_ENDIAN Vt_IMPLICIT_VR_LITTLE_ENDIAN S_EXPLICIT_VR_LITTLE_ENDIAN E_EXPLICIT_VR_LITTLE_ENDIAN F_EXPLICIT_VR_LITTLE_ENDIAN Et_EXPLICIT_VR_LITTLE_ENDIAN Fc_EXPLICIT_VR_LITTLE_ENDIAN Fv_EXPLICIT_VR_LITTLE_ENDIAN Vt_EXPLICIT_VR_LITTLE_ENDIAN E26 Fv26 Fc26 V26 hp26 hl26 hu1 hu2) hZ (hw _ (List.mem_of_getElem? (i := 36) rfl)) (hw _ (List.mem_of_getElem? (i := 35) rfl)) (by decide) (by decide)) (g := (mkF mM 129 #[.val (.int p1), .val (.int p2), .val (.int p3), .val (.int p4), .val (.int p5), .val (.ref a4), .val (.int z16), .val (.ref xx26), .val (.int nn26), .val (.ref yy26), .val (.int (p2 &&& (31 : Int32))), .val (.int (p3 &&& (255 : Int32)).toUInt32.toUInt16.toUInt32.toInt32), .val (.int (p4 &&& (255 : Int32)).toUInt32.toUInt16.toUInt32.toInt32), .val (.int (p5 &&& (255 : Int32)).toUInt32.toUInt16.toUInt32.toInt32)] [(.ref xx26)])) rfl (by rw [hml]; rfl) (argsL := [(.ref xx26)]) (rest := []) (lenOf pd_11 rfl) rfl (by show 2 * 0 + _ ≤ _; exact Nat.le_of_eq rfl) (hb hby at_129) (fun _ _ => ⟨rfl, e26, (by decide : 8 + 1 ≤ _), (by decide : 124 + 2 ≤ _)⟩)
        dsimp only [Pt.U, Pt.locs, Pt.cells, Pt.slots] at X377 l377 y377 z377 st377 hQ377
        subst l377 y377 z377
        obtain ⟨rfl, Nq377, K377⟩ := hQ377
        have N377 := Fr.app N26 Nq377
        have cr378 := CHr.trans cr26 (CHr.keep K377 sf0 cr26.1)
        have pr379 : ∀ tg, Steps pP.tables eE below (T377.setTop (mkF mM 132 #[.val (.int p1), .val (.int p2), .val (.int p3), .val (.int p4), .val (.int p5), .val (.ref a4), .val (.int z16), .val (.ref xx26), .val (.int nn26), .val (.ref yy26), .val (.int (p2 &&& (31 : Int32))), .val (.int (p3 &&& (255 : Int32)).toUInt32.toUInt16.toUInt32.toInt32), .val (.int (p4 &&& (255 : Int32)).toUInt32.toUInt16.toUInt32.toInt32), .val (.int (p5 &&& (255 : Int32)).toUInt32.toUInt16.toUInt32.toInt32)] [(.ref a_EXPLICIT_VR_LITTLE_ENDIAN)])) tg → Steps pP.tables eE below (s₁.setTop (entryFrame mM #[(.int p1), (.int p2), (.int p3), (.int p4), (.int p5)] maxLocals)) tg := fun tg kg => pr355 _ (st377 _ kg)
        clear pr355 st377 X26 e26
        have c380 := (Nat.le_trans hk26 K377.1)
        have pr381 : ∀ tg, Steps pP.tables eE below (T377.setTop (mkF mM 144 #[.val (.int p1), .val (.int p2), .val (.int p3), .val (.int p4), .val (.int p5), .val (.ref a4), .val (.int z16), .val (.ref xx26), .val (.ref a_EXPLICIT_VR_LITTLE_ENDIAN), .val .null, .val (.int (p2 &&& (31 : Int32))), .val (.int (p3 &&& (255 : Int32)).toUInt32.toUInt16.toUInt32.toInt32), .val (.int (p4 &&& (255 : Int32)).toUInt32.toUInt16.toUInt32.toInt32), .val (.int (p5 &&& (255 : Int32)).toUInt32.toUInt16.toUInt32.toInt32)] [(.ref xx26)])) tg → Steps pP.tables eE below (s₁.setTop (entryFrame mM #[(.int p1), (.int p2), (.int p3), (.int p4), (.int p5)] maxLocals)) tg := fun tg kg => pr379 _ (by
          show Steps pP.tables eE below (T377.setTop (mkF mM 132 #[.val (.int p1), .val (.int p2), .val (.int p3), .val (.int p4), .val (.int p5), .val (.ref a4), .val (.int z16), .val (.ref xx26), .val (.int nn26), .val (.ref yy26), .val (.int (p2 &&& (31 : Int32))), .val (.int (p3 &&& (255 : Int32)).toUInt32.toUInt16.toUInt32.toInt32), .val (.int (p4 &&& (255 : Int32)).toUInt32.toUInt16.toUInt32.toInt32), .val (.int (p5 &&& (255 : Int32)).toUInt32.toUInt16.toUInt32.toInt32)] [(.ref a_EXPLICIT_VR_LITTLE_ENDIAN)])) _
          refine XS.astore X377.here hx rfl (hb hby at_132) rfl rfl (l' := #[.val (.int p1), .val (.int p2), .val (.int p3), .val (.int p4), .val (.int p5), .val (.ref a4), .val (.int z16), .val (.ref xx26), .val (.ref a_EXPLICIT_VR_LITTLE_ENDIAN), .val (.ref yy26), .val (.int (p2 &&& (31 : Int32))), .val (.int (p3 &&& (255 : Int32)).toUInt32.toUInt16.toUInt32.toInt32), .val (.int (p4 &&& (255 : Int32)).toUInt32.toUInt16.toUInt32.toInt32), .val (.int (p5 &&& (255 : Int32)).toUInt32.toUInt16.toUInt32.toInt32)]) rfl ?_
          refine XS.aconstNull X377.here hx rfl (hb hby at_134) ?_
          refine XS.astore X377.here hx rfl (hb hby at_135) rfl rfl (l' := #[.val (.int p1), .val (.int p2), .val (.int p3), .val (.int p4), .val (.int p5), .val (.ref a4), .val (.int z16), .val (.ref xx26), .val (.ref a_EXPLICIT_VR_LITTLE_ENDIAN), .val .null, .val (.int (p2 &&& (31 : Int32))), .val (.int (p3 &&& (255 : Int32)).toUInt32.toUInt16.toUInt32.toInt32), .val (.int (p4 &&& (255 : Int32)).toUInt32.toUInt16.toUInt32.toInt32), .val (.int (p5 &&& (255 : Int32)).toUInt32.toUInt16.toUInt32.toInt32)]) rfl ?_
          refine XS.aload X377.here hx rfl (hb hby at_137) rfl rfl ?_
          refine XS.ifnullNo X377.here hx rfl (hb hby at_139) rfl ?_
          refine XS.aload X377.here hx rfl (hb hby at_142) rfl rfl ?_
          exact kg)
        clear pr379
        obtain ⟨a382, T382, h382, kk382, b382, kc382, X382, e382, E382, hS, hk382, hZ, hown, Es382, Fc382, Fv382, V382, la382, lb382, A382, -, hn382, st382⟩ := ldcCH (s := sS) (vm0 := vm26) (EL := consts_1) X377 hx hZ hown (hw _ (List.mem_of_getElem? (i := 0) rfl)) wS rfl hS c380 hEW (List.mem_of_getElem? (i := 0) rfl) cr378.1 (vs := [(.int (49 : Int32)), (.int (46 : Int32)), (.int (50 : Int32)), (.int (46 : Int32)), (.int (56 : Int32)), (.int (52 : Int32)), (.int (48 : Int32)), (.int (46 : Int32)), (.int (49 : Int32)), (.int (48 : Int32)), (.int (48 : Int32)), (.int (48 : Int32)), (.int (56 : Int32)), (.int (46 : Int32)), (.int (49 : Int32)), (.int (46 : Int32)), (.int (50 : Int32))]) (z := (17 : Int32)) ⟨by decide, rfl⟩ (by decide) rfl (g := (mkF mM 144 #[.val (.int p1), .val (.int p2), .val (.int p3), .val (.int p4), .val (.int p5), .val (.ref a4), .val (.int z16), .val (.ref xx26), .val (.ref a_EXPLICIT_VR_LITTLE_ENDIAN), .val .null, .val (.int (p2 &&& (31 : Int32))), .val (.int (p3 &&& (255 : Int32)).toUInt32.toUInt16.toUInt32.toInt32), .val (.int (p4 &&& (255 : Int32)).toUInt32.toUInt16.toUInt32.toInt32), .val (.int (p5 &&& (255 : Int32)).toUInt32.toUInt16.toUInt32.toInt32)] [(.ref xx26)])) rfl (hb hby at_144) (n := 68) (by decide) (by decide) (by decide) (by decide)
        have cr383 := CHr.trans cr378 A382
        have pr384 : ∀ tg, Steps pP.tables eE below (T382.setTop (mkF mM 146 #[.val (.int p1), .val (.int p2), .val (.int p3), .val (.int p4), .val (.int p5), .val (.ref a4), .val (.int z16), .val (.ref xx26), .val (.ref a_EXPLICIT_VR_LITTLE_ENDIAN), .val .null, .val (.int (p2 &&& (31 : Int32))), .val (.int (p3 &&& (255 : Int32)).toUInt32.toUInt16.toUInt32.toInt32), .val (.int (p4 &&& (255 : Int32)).toUInt32.toUInt16.toUInt32.toInt32), .val (.int (p5 &&& (255 : Int32)).toUInt32.toUInt16.toUInt32.toInt32)] [(.ref a382), (.ref xx26)])) tg → Steps pP.tables eE below (s₁.setTop (entryFrame mM #[(.int p1), (.int p2), (.int p3), (.int p4), (.int p5)] maxLocals)) tg := fun tg kg => pr381 _ (st382 _ kg)
        clear pr381 st382 X377
        have c385 := (Exa.ext E382 (Exa.keep E26 K377))
        have c386 := (Fld.ext E382 (Fld.keep Fv26 K377 nin0))
        have c387 := (Fld.ext E382 (Fld.keep Fc26 K377 nin0))
        have c388 := (Arv.ext (Arv.keep V26 K377 nin0) E382)
        have c389 := (Old.ext (Old.keep O26 K377 all0) E382)
        have c390 := (Nat.le_trans (Nat.le_trans Zz26 K377.1) E382.1)
        obtain ⟨Ls391, X391, N391⟩ := own_hide X382 N377
        clear X382 N377
        obtain ⟨cq392, kq392, qa392, qb392, qc392⟩ := isOf hZ e382 c385
        obtain ⟨vq392, _, ⟨T392, L392, kk392, nn392⟩, -, X392, ⟨Lc392, hQ392, l392, y392, z392⟩, st392⟩ := X391.virtualBack hx (y := (⟨"java/lang/String", "equals", "(Ljava/lang/Object;)Z"⟩ : MethodName)) (z := (⟨"java/lang/String", "equals", "(Ljava/lang/Object;)Z"⟩ : MethodName)) hown (mvT hZ (hw _ (List.mem_of_getElem? (i := 67) rfl))) (mvT hZ (hw _ (List.mem_of_getElem? (i := 57) rfl))) (notFace_of_selects (args := #[]) (mvT hZ (hw _ (List.mem_of_getElem? (i := 59) rfl)))) (mvT hZ (hw _ (List.mem_of_getElem? (i := 59) rfl))) (mvT hZ (hw _ (List.mem_of_getElem? (i := 58) rfl))) (by decide) (StrChars.Road.eqW (W := 0) hZ (own_wE hw) (kI := 4) (hw _ (List.mem_of_getElem? (i := 2) rfl)) (cs := tx26) c385 c386 c387 c388 (StrChars.Road.codOf (n := tx26.length) rfl (fun c hc => (hp26 c hc).2)) (own_up hp26) hl26 (ds := ([(49 : Int32), (46 : Int32), (50 : Int32), (46 : Int32), (56 : Int32), (52 : Int32), (48 : Int32), (46 : Int32), (49 : Int32), (48 : Int32), (48 : Int32), (48 : Int32), (56 : Int32), (46 : Int32), (49 : Int32), (46 : Int32), (50 : Int32)] : List Int32)) Es382 Fv382 Fc382 V382 own_cod_t0 own_bd_t0 (Nat.le_of_ble_eq_true rfl) (Sta.ext (c389).2 S_cs) hcs (by decide) (by decide)) qa392 qc392 (g := (mkF mM 146 #[.val (.int p1), .val (.int p2), .val (.int p3), .val (.int p4), .val (.int p5), .val (.ref a4), .val (.int z16), .val (.ref xx26), .val (.ref a_EXPLICIT_VR_LITTLE_ENDIAN), .val .null, .val (.int (p2 &&& (31 : Int32))), .val (.int (p3 &&& (255 : Int32)).toUInt32.toUInt16.toUInt32.toInt32), .val (.int (p4 &&& (255 : Int32)).toUInt32.toUInt16.toUInt32.toInt32), .val (.int (p5 &&& (255 : Int32)).toUInt32.toUInt16.toUInt32.toInt32)] [(.ref a382), (.ref xx26)])) rfl (by rw [hml]; rfl) (Steps.refl _) (argsL := [(.ref a382)]) (rest := []) (lenOf pd_10 rfl) rfl (by show 2 * 0 + _ ≤ _; exact Nat.le_of_eq rfl) (hb hby at_146) (fun _ _ => ⟨rfl, e382, (by decide : 11 + 0 ≤ _), (by decide : 198 + 0 ≤ _)⟩)
        dsimp only [Pt.U, Pt.locs, Pt.cells, Pt.slots] at X392 l392 y392 z392 st392 hQ392
        subst l392 y392 z392
        obtain ⟨hq392, hL392, e392⟩ := hQ392
        subst hL392
        obtain ⟨r392, hv392, hr392⟩ : ∃ r : Int32, vq392 = some (.int r) ∧ r = (if tx26 = ([(49 : Int32), (46 : Int32), (50 : Int32), (46 : Int32), (56 : Int32), (52 : Int32), (48 : Int32), (46 : Int32), (49 : Int32), (48 : Int32), (48 : Int32), (48 : Int32), (56 : Int32), (46 : Int32), (49 : Int32), (46 : Int32), (50 : Int32)] : List Int32) then (1 : Int32) else (0 : Int32)) := hq392.elim (fun q => ⟨1, q.1, (if_pos q.2).symm⟩) (fun q => ⟨0, q.1, (if_neg q.2).symm⟩)
        subst hv392
        have N392 := Fr.app N391 (Fr.nil n0)
        have pr393 : ∀ tg, Steps pP.tables eE below (T392.setTop (mkF mM 149 #[.val (.int p1), .val (.int p2), .val (.int p3), .val (.int p4), .val (.int p5), .val (.ref a4), .val (.int z16), .val (.ref xx26), .val (.ref a_EXPLICIT_VR_LITTLE_ENDIAN), .val .null, .val (.int (p2 &&& (31 : Int32))), .val (.int (p3 &&& (255 : Int32)).toUInt32.toUInt16.toUInt32.toInt32), .val (.int (p4 &&& (255 : Int32)).toUInt32.toUInt16.toUInt32.toInt32), .val (.int (p5 &&& (255 : Int32)).toUInt32.toUInt16.toUInt32.toInt32)] [(.int r392)])) tg → Steps pP.tables eE below (s₁.setTop (entryFrame mM #[(.int p1), (.int p2), (.int p3), (.int p4), (.int p5)] maxLocals)) tg := fun tg kg => pr384 _ (st392.trans kg)
        clear pr384 st392 X391 e382
        rw [if_neg hu1] at hr392
        subst hr392
        have pr394 : ∀ tg, Steps pP.tables eE below (T392.setTop (mkF mM 162 #[.val (.int p1), .val (.int p2), .val (.int p3), .val (.int p4), .val (.int p5), .val (.ref a4), .val (.int z16), .val (.ref xx26), .val (.ref a_EXPLICIT_VR_LITTLE_ENDIAN), .val .null, .val (.int (p2 &&& (31 : Int32))), .val (.int (p3 &&& (255 : Int32)).toUInt32.toUInt16.toUInt32.toInt32), .val (.int (p4 &&& (255 : Int32)).toUInt32.toUInt16.toUInt32.toInt32), .val (.int (p5 &&& (255 : Int32)).toUInt32.toUInt16.toUInt32.toInt32)] [(.ref xx26)])) tg → Steps pP.tables eE below (s₁.setTop (entryFrame mM #[(.int p1), (.int p2), (.int p3), (.int p4), (.int p5)] maxLocals)) tg := fun tg kg => pr393 _ (by
          show Steps pP.tables eE below (T392.setTop (mkF mM 149 #[.val (.int p1), .val (.int p2), .val (.int p3), .val (.int p4), .val (.int p5), .val (.ref a4), .val (.int z16), .val (.ref xx26), .val (.ref a_EXPLICIT_VR_LITTLE_ENDIAN), .val .null, .val (.int (p2 &&& (31 : Int32))), .val (.int (p3 &&& (255 : Int32)).toUInt32.toUInt16.toUInt32.toInt32), .val (.int (p4 &&& (255 : Int32)).toUInt32.toUInt16.toUInt32.toInt32), .val (.int (p5 &&& (255 : Int32)).toUInt32.toUInt16.toUInt32.toInt32)] [(.int (0 : Int32))])) _
          refine XS.ifYes X392.here hx rfl (pc0 := 149) (pc' := 160) rfl (hb hby at_149) rfl ((if0 _ _).trans (teq (by decide)).1) (by decide) (by decide) ?_
          refine XS.aload X392.here hx rfl (hb hby at_160) rfl rfl ?_
          exact kg)
        clear pr393
        obtain ⟨a395, T395, h395, kk395, b395, kc395, X395, e395, E395, hS, hk395, hZ, hown, Es395, Fc395, Fv395, V395, la395, lb395, A395, -, hn395, st395⟩ := ldcCH (s := sS) (vm0 := T382.vm) (EL := consts_1) X392 hx hZ hown (hw _ (List.mem_of_getElem? (i := 68) rfl)) wS e392 hS hk382 hEW (List.mem_of_getElem? (i := 1) rfl) cr383.1 (vs := [(.int (49 : Int32)), (.int (46 : Int32)), (.int (50 : Int32)), (.int (46 : Int32)), (.int (56 : Int32)), (.int (52 : Int32)), (.int (48 : Int32)), (.int (46 : Int32)), (.int (49 : Int32)), (.int (48 : Int32)), (.int (48 : Int32)), (.int (48 : Int32)), (.int (56 : Int32)), (.int (46 : Int32)), (.int (49 : Int32)), (.int (46 : Int32)), (.int (50 : Int32)), (.int (46 : Int32)), (.int (49 : Int32))]) (z := (19 : Int32)) ⟨by decide, rfl⟩ (by decide) rfl (g := (mkF mM 162 #[.val (.int p1), .val (.int p2), .val (.int p3), .val (.int p4), .val (.int p5), .val (.ref a4), .val (.int z16), .val (.ref xx26), .val (.ref a_EXPLICIT_VR_LITTLE_ENDIAN), .val .null, .val (.int (p2 &&& (31 : Int32))), .val (.int (p3 &&& (255 : Int32)).toUInt32.toUInt16.toUInt32.toInt32), .val (.int (p4 &&& (255 : Int32)).toUInt32.toUInt16.toUInt32.toInt32), .val (.int (p5 &&& (255 : Int32)).toUInt32.toUInt16.toUInt32.toInt32)] [(.ref xx26)])) rfl (hb hby at_162) (n := 76) (by decide) (by decide) (by decide) (by decide)
        have cr396 := CHr.trans cr383 A395
        have pr397 : ∀ tg, Steps pP.tables eE below (T395.setTop (mkF mM 164 #[.val (.int p1), .val (.int p2), .val (.int p3), .val (.int p4), .val (.int p5), .val (.ref a4), .val (.int z16), .val (.ref xx26), .val (.ref a_EXPLICIT_VR_LITTLE_ENDIAN), .val .null, .val (.int (p2 &&& (31 : Int32))), .val (.int (p3 &&& (255 : Int32)).toUInt32.toUInt16.toUInt32.toInt32), .val (.int (p4 &&& (255 : Int32)).toUInt32.toUInt16.toUInt32.toInt32), .val (.int (p5 &&& (255 : Int32)).toUInt32.toUInt16.toUInt32.toInt32)] [(.ref a395), (.ref xx26)])) tg → Steps pP.tables eE below (s₁.setTop (entryFrame mM #[(.int p1), (.int p2), (.int p3), (.int p4), (.int p5)] maxLocals)) tg := fun tg kg => pr394 _ (st395 _ kg)
        clear pr394 st395 X392 e392
        have c398 := (Exa.ext E395 c385)
        have c399 := (Fld.ext E395 c386)
        have c400 := (Fld.ext E395 c387)
        have c401 := (Arv.ext c388 E395)
        have c402 := (Old.ext c389 E395)
        have c403 := (Nat.le_trans c390 E395.1)
        obtain ⟨Ls404, X404, N404⟩ := own_hide X395 N392
        clear X395 N392
        obtain ⟨cq405, kq405, qa405, qb405, qc405⟩ := isOf hZ e395 c398
        obtain ⟨vq405, _, ⟨T405, L405, kk405, nn405⟩, -, X405, ⟨Lc405, hQ405, l405, y405, z405⟩, st405⟩ := X404.virtualBack hx (y := (⟨"java/lang/String", "equals", "(Ljava/lang/Object;)Z"⟩ : MethodName)) (z := (⟨"java/lang/String", "equals", "(Ljava/lang/Object;)Z"⟩ : MethodName)) hown (mvT hZ (hw _ (List.mem_of_getElem? (i := 67) rfl))) (mvT hZ (hw _ (List.mem_of_getElem? (i := 57) rfl))) (notFace_of_selects (args := #[]) (mvT hZ (hw _ (List.mem_of_getElem? (i := 59) rfl)))) (mvT hZ (hw _ (List.mem_of_getElem? (i := 59) rfl))) (mvT hZ (hw _ (List.mem_of_getElem? (i := 58) rfl))) (by decide) (StrChars.Road.eqW (W := 0) hZ (own_wE hw) (kI := 4) (hw _ (List.mem_of_getElem? (i := 2) rfl)) (cs := tx26) c398 c399 c400 c401 (StrChars.Road.codOf (n := tx26.length) rfl (fun c hc => (hp26 c hc).2)) (own_up hp26) hl26 (ds := ([(49 : Int32), (46 : Int32), (50 : Int32), (46 : Int32), (56 : Int32), (52 : Int32), (48 : Int32), (46 : Int32), (49 : Int32), (48 : Int32), (48 : Int32), (48 : Int32), (56 : Int32), (46 : Int32), (49 : Int32), (46 : Int32), (50 : Int32), (46 : Int32), (49 : Int32)] : List Int32)) Es395 Fv395 Fc395 V395 own_cod_t1 own_bd_t1 (Nat.le_of_ble_eq_true rfl) (Sta.ext (c402).2 S_cs) hcs (by decide) (by decide)) qa405 qc405 (g := (mkF mM 164 #[.val (.int p1), .val (.int p2), .val (.int p3), .val (.int p4), .val (.int p5), .val (.ref a4), .val (.int z16), .val (.ref xx26), .val (.ref a_EXPLICIT_VR_LITTLE_ENDIAN), .val .null, .val (.int (p2 &&& (31 : Int32))), .val (.int (p3 &&& (255 : Int32)).toUInt32.toUInt16.toUInt32.toInt32), .val (.int (p4 &&& (255 : Int32)).toUInt32.toUInt16.toUInt32.toInt32), .val (.int (p5 &&& (255 : Int32)).toUInt32.toUInt16.toUInt32.toInt32)] [(.ref a395), (.ref xx26)])) rfl (by rw [hml]; rfl) (Steps.refl _) (argsL := [(.ref a395)]) (rest := []) (lenOf pd_10 rfl) rfl (by show 2 * 0 + _ ≤ _; exact Nat.le_of_eq rfl) (hb hby at_164) (fun _ _ => ⟨rfl, e395, (by decide : 13 + 0 ≤ _), (by decide : 278 + 0 ≤ _)⟩)
        dsimp only [Pt.U, Pt.locs, Pt.cells, Pt.slots] at X405 l405 y405 z405 st405 hQ405
        subst l405 y405 z405
        obtain ⟨hq405, hL405, e405⟩ := hQ405
        subst hL405
        obtain ⟨r405, hv405, hr405⟩ : ∃ r : Int32, vq405 = some (.int r) ∧ r = (if tx26 = ([(49 : Int32), (46 : Int32), (50 : Int32), (46 : Int32), (56 : Int32), (52 : Int32), (48 : Int32), (46 : Int32), (49 : Int32), (48 : Int32), (48 : Int32), (48 : Int32), (56 : Int32), (46 : Int32), (49 : Int32), (46 : Int32), (50 : Int32), (46 : Int32), (49 : Int32)] : List Int32) then (1 : Int32) else (0 : Int32)) := hq405.elim (fun q => ⟨1, q.1, (if_pos q.2).symm⟩) (fun q => ⟨0, q.1, (if_neg q.2).symm⟩)
        subst hv405
        have N405 := Fr.app N404 (Fr.nil n0)
        have pr406 : ∀ tg, Steps pP.tables eE below (T405.setTop (mkF mM 167 #[.val (.int p1), .val (.int p2), .val (.int p3), .val (.int p4), .val (.int p5), .val (.ref a4), .val (.int z16), .val (.ref xx26), .val (.ref a_EXPLICIT_VR_LITTLE_ENDIAN), .val .null, .val (.int (p2 &&& (31 : Int32))), .val (.int (p3 &&& (255 : Int32)).toUInt32.toUInt16.toUInt32.toInt32), .val (.int (p4 &&& (255 : Int32)).toUInt32.toUInt16.toUInt32.toInt32), .val (.int (p5 &&& (255 : Int32)).toUInt32.toUInt16.toUInt32.toInt32)] [(.int r405)])) tg → Steps pP.tables eE below (s₁.setTop (entryFrame mM #[(.int p1), (.int p2), (.int p3), (.int p4), (.int p5)] maxLocals)) tg := fun tg kg => pr397 _ (st405.trans kg)
        clear pr397 st405 X404 e395
        rw [if_pos hu2] at hr405
        subst hr405
        have pr407 : ∀ tg, Steps pP.tables eE below (T405.setTop (mkF mM 170 #[.val (.int p1), .val (.int p2), .val (.int p3), .val (.int p4), .val (.int p5), .val (.ref a4), .val (.int z16), .val (.ref xx26), .val (.ref a_EXPLICIT_VR_LITTLE_ENDIAN), .val .null, .val (.int (p2 &&& (31 : Int32))), .val (.int (p3 &&& (255 : Int32)).toUInt32.toUInt16.toUInt32.toInt32), .val (.int (p4 &&& (255 : Int32)).toUInt32.toUInt16.toUInt32.toInt32), .val (.int (p5 &&& (255 : Int32)).toUInt32.toUInt16.toUInt32.toInt32)] [])) tg → Steps pP.tables eE below (s₁.setTop (entryFrame mM #[(.int p1), (.int p2), (.int p3), (.int p4), (.int p5)] maxLocals)) tg := fun tg kg => pr406 _ (by
          show Steps pP.tables eE below (T405.setTop (mkF mM 167 #[.val (.int p1), .val (.int p2), .val (.int p3), .val (.int p4), .val (.int p5), .val (.ref a4), .val (.int z16), .val (.ref xx26), .val (.ref a_EXPLICIT_VR_LITTLE_ENDIAN), .val .null, .val (.int (p2 &&& (31 : Int32))), .val (.int (p3 &&& (255 : Int32)).toUInt32.toUInt16.toUInt32.toInt32), .val (.int (p4 &&& (255 : Int32)).toUInt32.toUInt16.toUInt32.toInt32), .val (.int (p5 &&& (255 : Int32)).toUInt32.toUInt16.toUInt32.toInt32)] [(.int (1 : Int32))])) _
          refine XS.ifNo X405.here hx rfl (hb hby at_167) rfl ((if0 _ _).trans (feq (by decide)).1) ?_
          exact kg)
        clear pr406
        obtain ⟨T408, X408, e408, st408⟩ := getS2 X405 hx hZ hown (host := "") (Or.inl (hw _ (List.mem_of_getElem? (i := 111) rfl))) Via.refl e405 (Sta.ext (c402).2 S_EXPLICIT_VR_LITTLE_ENDIAN) (g := (mkF mM 170 #[.val (.int p1), .val (.int p2), .val (.int p3), .val (.int p4), .val (.int p5), .val (.ref a4), .val (.int z16), .val (.ref xx26), .val (.ref a_EXPLICIT_VR_LITTLE_ENDIAN), .val .null, .val (.int (p2 &&& (31 : Int32))), .val (.int (p3 &&& (255 : Int32)).toUInt32.toUInt16.toUInt32.toInt32), .val (.int (p4 &&& (255 : Int32)).toUInt32.toUInt16.toUInt32.toInt32), .val (.int (p5 &&& (255 : Int32)).toUInt32.toUInt16.toUInt32.toInt32)] [])) rfl (hb hby at_170)
        have pr409 : ∀ tg, Steps pP.tables eE below (T408.setTop (mkF mM 173 #[.val (.int p1), .val (.int p2), .val (.int p3), .val (.int p4), .val (.int p5), .val (.ref a4), .val (.int z16), .val (.ref xx26), .val (.ref a_EXPLICIT_VR_LITTLE_ENDIAN), .val .null, .val (.int (p2 &&& (31 : Int32))), .val (.int (p3 &&& (255 : Int32)).toUInt32.toUInt16.toUInt32.toInt32), .val (.int (p4 &&& (255 : Int32)).toUInt32.toUInt16.toUInt32.toInt32), .val (.int (p5 &&& (255 : Int32)).toUInt32.toUInt16.toUInt32.toInt32)] [(.ref a_EXPLICIT_VR_LITTLE_ENDIAN)])) tg → Steps pP.tables eE below (s₁.setTop (entryFrame mM #[(.int p1), (.int p2), (.int p3), (.int p4), (.int p5)] maxLocals)) tg := fun tg kg => pr407 _ (st408 _ kg)
        clear pr407 st408 X405 e405
        have pr410 : ∀ tg, Steps pP.tables eE below (T408.setTop (mkF mM 187 #[.val (.int p1), .val (.int p2), .val (.int p3), .val (.int p4), .val (.int p5), .val (.ref a4), .val (.int z16), .val (.ref xx26), .val (.ref a_EXPLICIT_VR_LITTLE_ENDIAN), .val (.ref a_EXPLICIT_VR_LITTLE_ENDIAN), .val (.int (p2 &&& (31 : Int32))), .val (.int (p3 &&& (255 : Int32)).toUInt32.toUInt16.toUInt32.toInt32), .val (.int (p4 &&& (255 : Int32)).toUInt32.toUInt16.toUInt32.toInt32), .val (.int (p5 &&& (255 : Int32)).toUInt32.toUInt16.toUInt32.toInt32)] [(.int (1 : Int32))])) tg → Steps pP.tables eE below (s₁.setTop (entryFrame mM #[(.int p1), (.int p2), (.int p3), (.int p4), (.int p5)] maxLocals)) tg := fun tg kg => pr409 _ (by
          show Steps pP.tables eE below (T408.setTop (mkF mM 173 #[.val (.int p1), .val (.int p2), .val (.int p3), .val (.int p4), .val (.int p5), .val (.ref a4), .val (.int z16), .val (.ref xx26), .val (.ref a_EXPLICIT_VR_LITTLE_ENDIAN), .val .null, .val (.int (p2 &&& (31 : Int32))), .val (.int (p3 &&& (255 : Int32)).toUInt32.toUInt16.toUInt32.toInt32), .val (.int (p4 &&& (255 : Int32)).toUInt32.toUInt16.toUInt32.toInt32), .val (.int (p5 &&& (255 : Int32)).toUInt32.toUInt16.toUInt32.toInt32)] [(.ref a_EXPLICIT_VR_LITTLE_ENDIAN)])) _
          refine XS.astore X408.here hx rfl (hb hby at_173) rfl rfl (l' := #[.val (.int p1), .val (.int p2), .val (.int p3), .val (.int p4), .val (.int p5), .val (.ref a4), .val (.int z16), .val (.ref xx26), .val (.ref a_EXPLICIT_VR_LITTLE_ENDIAN), .val (.ref a_EXPLICIT_VR_LITTLE_ENDIAN), .val (.int (p2 &&& (31 : Int32))), .val (.int (p3 &&& (255 : Int32)).toUInt32.toUInt16.toUInt32.toInt32), .val (.int (p4 &&& (255 : Int32)).toUInt32.toUInt16.toUInt32.toInt32), .val (.int (p5 &&& (255 : Int32)).toUInt32.toUInt16.toUInt32.toInt32)]) rfl ?_
          refine XS.aload X408.here hx rfl (hb hby at_175) rfl rfl ?_
          refine XS.aload X408.here hx rfl (hb hby at_177) rfl rfl ?_
          show Steps pP.tables eE below (T408.setTop (mkF mM 179 #[.val (.int p1), .val (.int p2), .val (.int p3), .val (.int p4), .val (.int p5), .val (.ref a4), .val (.int z16), .val (.ref xx26), .val (.ref a_EXPLICIT_VR_LITTLE_ENDIAN), .val (.ref a_EXPLICIT_VR_LITTLE_ENDIAN), .val (.int (p2 &&& (31 : Int32))), .val (.int (p3 &&& (255 : Int32)).toUInt32.toUInt16.toUInt32.toInt32), .val (.int (p4 &&& (255 : Int32)).toUInt32.toUInt16.toUInt32.toInt32), .val (.int (p5 &&& (255 : Int32)).toUInt32.toUInt16.toUInt32.toInt32)] [(.ref a_EXPLICIT_VR_LITTLE_ENDIAN), (.ref a_EXPLICIT_VR_LITTLE_ENDIAN)])) _
          refine Jvm.RoadKit.acmp (g := (mkF mM 179 #[.val (.int p1), .val (.int p2), .val (.int p3), .val (.int p4), .val (.int p5), .val (.ref a4), .val (.int z16), .val (.ref xx26), .val (.ref a_EXPLICIT_VR_LITTLE_ENDIAN), .val (.ref a_EXPLICIT_VR_LITTLE_ENDIAN), .val (.int (p2 &&& (31 : Int32))), .val (.int (p3 &&& (255 : Int32)).toUInt32.toUInt16.toUInt32.toInt32), .val (.int (p4 &&& (255 : Int32)).toUInt32.toUInt16.toUInt32.toInt32), .val (.int (p5 &&& (255 : Int32)).toUInt32.toUInt16.toUInt32.toInt32)] [(.ref a_EXPLICIT_VR_LITTLE_ENDIAN), (.ref a_EXPLICIT_VR_LITTLE_ENDIAN)])) X408 hx rfl rfl rfl (pc0 := 179) (pc' := 182) (same := true) rfl (hb hby at_179) rfl (decide_eq_true rfl) (by decide) (by decide) ?_
          show Steps pP.tables eE below (T408.setTop (mkF mM 182 #[.val (.int p1), .val (.int p2), .val (.int p3), .val (.int p4), .val (.int p5), .val (.ref a4), .val (.int z16), .val (.ref xx26), .val (.ref a_EXPLICIT_VR_LITTLE_ENDIAN), .val (.ref a_EXPLICIT_VR_LITTLE_ENDIAN), .val (.int (p2 &&& (31 : Int32))), .val (.int (p3 &&& (255 : Int32)).toUInt32.toUInt16.toUInt32.toInt32), .val (.int (p4 &&& (255 : Int32)).toUInt32.toUInt16.toUInt32.toInt32), .val (.int (p5 &&& (255 : Int32)).toUInt32.toUInt16.toUInt32.toInt32)] [])) _
          refine XS.iconst X408.here hx rfl (hb hby at_182) ?_
          refine XS.goto X408.here hx rfl (pc0 := 183) (pc' := 187) rfl (hb hby at_183) (by decide) (by decide) ?_
          exact kg)
        clear pr409
        obtain ⟨fs, hr, hrun, hended, hW⟩ := Jvm.Stand.leaveW (s := sS) (vm₁ := T395.vm) X408 hS (Nat.le_trans hk395 (Nat.le_of_eq (congrArg Array.size e408.symm))) (v := some (.int (1 : Int32))) (fun h => by rw [Bd.returns] at h; cases h)
        refine ⟨_, _, pr410 _ (retOut X408 hx (t := .boolean) Bd.returns rfl (Or.inl ⟨rfl, Or.inr (Or.inl rfl), _, rfl⟩) (hb hby at_187) hr), hrun, hended, _, _, rfl, ?_, hW.1, hW.2.1, hW.2.2.1, hW.2.2.2.mono (by decide) (by decide)⟩
        show Q0 Z p1 p2 p3 p4 p5 cs sf al kal a_IMPLICIT_VR_LITTLE_ENDIAN t_IMPLICIT_VR_LITTLE_ENDIAN u_IMPLICIT_VR_LITTLE_ENDIAN k_IMPLICIT_VR_LITTLE_ENDIAN a_EXPLICIT_VR_LITTLE_ENDIAN t_EXPLICIT_VR_LITTLE_ENDIAN u_EXPLICIT_VR_LITTLE_ENDIAN k_EXPLICIT_VR_LITTLE_ENDIAN h0 n0 _ T408.heap _
        rw [e408]
        exact ⟨rfl, N405⟩
      ·
        obtain ⟨_, _, ⟨T411, L411, kk411, nn411⟩, -, X411, ⟨Lc411, hQ411, l411, y411, z411⟩, st411⟩ := Jvm.LawKit.callS X26 hx (y := (⟨"com/example/tesserae/tesserae/dicom/TransferSyntax", "forUid", "(Ljava/lang/String;)Lcom/example/tesserae/tesserae/dicom/TransferSyntax;"⟩ : MethodName)) hown (mvT hZ (hw _ (List.mem_of_getElem? (i := 33) rfl))) (mvT hZ (hw _ (List.mem_of_getElem? (i := 34) rfl))) (mvT hZ (hw _ (List.mem_of_getElem? (i := 35) rfl))) (mvT hZ (hw _ (List.mem_of_getElem? (i := 36) rfl))) (by decide) (backOf (W := 0) (rm52 l Z a0 hw [] cs al kal a_IMPLICIT_VR_LITTLE_ENDIAN t_IMPLICIT_VR_LITTLE_ENDIAN u_IMPLICIT_VR_LITTLE_ENDIAN k_IMPLICIT_VR_LITTLE_ENDIAN a_EXPLICIT_VR_LITTLE_ENDIAN t_EXPLICIT_VR_LITTLE_ENDIAN u_EXPLICIT_VR_LITTLE_ENDIAN k_EXPLICIT_VR_LITTLE_ENDIAN xx26 tt26 kt26 tx26 h26 n0 Zz26 O26 S_cs hcs S_ALL E_ALL V_ALL S_IMPLICIT_VR_LITTLE_ENDIAN E_IMPLICIT_VR_LITTLE_ENDIAN F_IMPLICIT_VR_LITTLE_ENDIAN Et_IMPLICIT_VR_LITTLE_ENDIAN Fc_IMPLICIT_VR_LITTLE_ENDIAN Fv_IMPLICIT_VR_LITTLE_ENDIAN Vt_IMPLICIT_VR_LITTLE_ENDIAN S_EXPLICIT_VR_LITTLE_ENDIAN E_EXPLICIT_VR_LITTLE_ENDIAN F_EXPLICIT_VR_LITTLE_ENDIAN Et_EXPLICIT_VR_LITTLE_ENDIAN Fc_EXPLICIT_VR_LITTLE_ENDIAN Fv_EXPLICIT_VR_LITTLE_ENDIAN Vt_EXPLICIT_VR_LITTLE_ENDIAN E26 Fv26 Fc26 V26 hp26 hl26 hu1 hu2) hZ (hw _ (List.mem_of_getElem? (i := 36) rfl)) (hw _ (List.mem_of_getElem? (i := 35) rfl)) (by decide) (by decide)) (g := (mkF mM 129 #[.val (.int p1), .val (.int p2), .val (.int p3), .val (.int p4), .val (.int p5), .val (.ref a4), .val (.int z16), .val (.ref xx26), .val (.int nn26), .val (.ref yy26), .val (.int (p2 &&& (31 : Int32))), .val (.int (p3 &&& (255 : Int32)).toUInt32.toUInt16.toUInt32.toInt32), .val (.int (p4 &&& (255 : Int32)).toUInt32.toUInt16.toUInt32.toInt32), .val (.int (p5 &&& (255 : Int32)).toUInt32.toUInt16.toUInt32.toInt32)] [(.ref xx26)])) rfl (by rw [hml]; rfl) (argsL := [(.ref xx26)]) (rest := []) (lenOf pd_11 rfl) rfl (by show 2 * 0 + _ ≤ _; exact Nat.le_of_eq rfl) (hb hby at_129) (fun _ _ => ⟨rfl, e26, (by decide : 8 + 1 ≤ _), (by decide : 124 + 2 ≤ _)⟩)
        dsimp only [Pt.U, Pt.locs, Pt.cells, Pt.slots] at X411 l411 y411 z411 st411 hQ411
        subst l411 y411 z411
        obtain ⟨rfl, Nq411, K411⟩ := hQ411
        have N411 := Fr.app N26 Nq411
        have cr412 := CHr.trans cr26 (CHr.keep K411 sf0 cr26.1)
        have pr413 : ∀ tg, Steps pP.tables eE below (T411.setTop (mkF mM 132 #[.val (.int p1), .val (.int p2), .val (.int p3), .val (.int p4), .val (.int p5), .val (.ref a4), .val (.int z16), .val (.ref xx26), .val (.int nn26), .val (.ref yy26), .val (.int (p2 &&& (31 : Int32))), .val (.int (p3 &&& (255 : Int32)).toUInt32.toUInt16.toUInt32.toInt32), .val (.int (p4 &&& (255 : Int32)).toUInt32.toUInt16.toUInt32.toInt32), .val (.int (p5 &&& (255 : Int32)).toUInt32.toUInt16.toUInt32.toInt32)] [.null])) tg → Steps pP.tables eE below (s₁.setTop (entryFrame mM #[(.int p1), (.int p2), (.int p3), (.int p4), (.int p5)] maxLocals)) tg := fun tg kg => pr355 _ (st411 _ kg)
        clear pr355 st411 X26 e26
        have c414 := (Nat.le_trans hk26 K411.1)
        have pr415 : ∀ tg, Steps pP.tables eE below (T411.setTop (mkF mM 144 #[.val (.int p1), .val (.int p2), .val (.int p3), .val (.int p4), .val (.int p5), .val (.ref a4), .val (.int z16), .val (.ref xx26), .val .null, .val .null, .val (.int (p2 &&& (31 : Int32))), .val (.int (p3 &&& (255 : Int32)).toUInt32.toUInt16.toUInt32.toInt32), .val (.int (p4 &&& (255 : Int32)).toUInt32.toUInt16.toUInt32.toInt32), .val (.int (p5 &&& (255 : Int32)).toUInt32.toUInt16.toUInt32.toInt32)] [(.ref xx26)])) tg → Steps pP.tables eE below (s₁.setTop (entryFrame mM #[(.int p1), (.int p2), (.int p3), (.int p4), (.int p5)] maxLocals)) tg := fun tg kg => pr413 _ (by
          show Steps pP.tables eE below (T411.setTop (mkF mM 132 #[.val (.int p1), .val (.int p2), .val (.int p3), .val (.int p4), .val (.int p5), .val (.ref a4), .val (.int z16), .val (.ref xx26), .val (.int nn26), .val (.ref yy26), .val (.int (p2 &&& (31 : Int32))), .val (.int (p3 &&& (255 : Int32)).toUInt32.toUInt16.toUInt32.toInt32), .val (.int (p4 &&& (255 : Int32)).toUInt32.toUInt16.toUInt32.toInt32), .val (.int (p5 &&& (255 : Int32)).toUInt32.toUInt16.toUInt32.toInt32)] [.null])) _
          refine XS.astore X411.here hx rfl (hb hby at_132) rfl rfl (l' := #[.val (.int p1), .val (.int p2), .val (.int p3), .val (.int p4), .val (.int p5), .val (.ref a4), .val (.int z16), .val (.ref xx26), .val .null, .val (.ref yy26), .val (.int (p2 &&& (31 : Int32))), .val (.int (p3 &&& (255 : Int32)).toUInt32.toUInt16.toUInt32.toInt32), .val (.int (p4 &&& (255 : Int32)).toUInt32.toUInt16.toUInt32.toInt32), .val (.int (p5 &&& (255 : Int32)).toUInt32.toUInt16.toUInt32.toInt32)]) rfl ?_
          refine XS.aconstNull X411.here hx rfl (hb hby at_134) ?_
          refine XS.astore X411.here hx rfl (hb hby at_135) rfl rfl (l' := #[.val (.int p1), .val (.int p2), .val (.int p3), .val (.int p4), .val (.int p5), .val (.ref a4), .val (.int z16), .val (.ref xx26), .val .null, .val .null, .val (.int (p2 &&& (31 : Int32))), .val (.int (p3 &&& (255 : Int32)).toUInt32.toUInt16.toUInt32.toInt32), .val (.int (p4 &&& (255 : Int32)).toUInt32.toUInt16.toUInt32.toInt32), .val (.int (p5 &&& (255 : Int32)).toUInt32.toUInt16.toUInt32.toInt32)]) rfl ?_
          refine XS.aload X411.here hx rfl (hb hby at_137) rfl rfl ?_
          refine XS.ifnullNo X411.here hx rfl (hb hby at_139) rfl ?_
          refine XS.aload X411.here hx rfl (hb hby at_142) rfl rfl ?_
          exact kg)
        clear pr413
        obtain ⟨a416, T416, h416, kk416, b416, kc416, X416, e416, E416, hS, hk416, hZ, hown, Es416, Fc416, Fv416, V416, la416, lb416, A416, -, hn416, st416⟩ := ldcCH (s := sS) (vm0 := vm26) (EL := consts_1) X411 hx hZ hown (hw _ (List.mem_of_getElem? (i := 0) rfl)) wS rfl hS c414 hEW (List.mem_of_getElem? (i := 0) rfl) cr412.1 (vs := [(.int (49 : Int32)), (.int (46 : Int32)), (.int (50 : Int32)), (.int (46 : Int32)), (.int (56 : Int32)), (.int (52 : Int32)), (.int (48 : Int32)), (.int (46 : Int32)), (.int (49 : Int32)), (.int (48 : Int32)), (.int (48 : Int32)), (.int (48 : Int32)), (.int (56 : Int32)), (.int (46 : Int32)), (.int (49 : Int32)), (.int (46 : Int32)), (.int (50 : Int32))]) (z := (17 : Int32)) ⟨by decide, rfl⟩ (by decide) rfl (g := (mkF mM 144 #[.val (.int p1), .val (.int p2), .val (.int p3), .val (.int p4), .val (.int p5), .val (.ref a4), .val (.int z16), .val (.ref xx26), .val .null, .val .null, .val (.int (p2 &&& (31 : Int32))), .val (.int (p3 &&& (255 : Int32)).toUInt32.toUInt16.toUInt32.toInt32), .val (.int (p4 &&& (255 : Int32)).toUInt32.toUInt16.toUInt32.toInt32), .val (.int (p5 &&& (255 : Int32)).toUInt32.toUInt16.toUInt32.toInt32)] [(.ref xx26)])) rfl (hb hby at_144) (n := 68) (by decide) (by decide) (by decide) (by decide)
        have cr417 := CHr.trans cr412 A416
        have pr418 : ∀ tg, Steps pP.tables eE below (T416.setTop (mkF mM 146 #[.val (.int p1), .val (.int p2), .val (.int p3), .val (.int p4), .val (.int p5), .val (.ref a4), .val (.int z16), .val (.ref xx26), .val .null, .val .null, .val (.int (p2 &&& (31 : Int32))), .val (.int (p3 &&& (255 : Int32)).toUInt32.toUInt16.toUInt32.toInt32), .val (.int (p4 &&& (255 : Int32)).toUInt32.toUInt16.toUInt32.toInt32), .val (.int (p5 &&& (255 : Int32)).toUInt32.toUInt16.toUInt32.toInt32)] [(.ref a416), (.ref xx26)])) tg → Steps pP.tables eE below (s₁.setTop (entryFrame mM #[(.int p1), (.int p2), (.int p3), (.int p4), (.int p5)] maxLocals)) tg := fun tg kg => pr415 _ (st416 _ kg)
        clear pr415 st416 X411
        have c419 := (Exa.ext E416 (Exa.keep E26 K411))
        have c420 := (Fld.ext E416 (Fld.keep Fv26 K411 nin0))
        have c421 := (Fld.ext E416 (Fld.keep Fc26 K411 nin0))
        have c422 := (Arv.ext (Arv.keep V26 K411 nin0) E416)
        have c423 := (Old.ext (Old.keep O26 K411 all0) E416)
        have c424 := (Nat.le_trans (Nat.le_trans Zz26 K411.1) E416.1)
        obtain ⟨Ls425, X425, N425⟩ := own_hide X416 N411
        clear X416 N411
        obtain ⟨cq426, kq426, qa426, qb426, qc426⟩ := isOf hZ e416 c419
        obtain ⟨vq426, _, ⟨T426, L426, kk426, nn426⟩, -, X426, ⟨Lc426, hQ426, l426, y426, z426⟩, st426⟩ := X425.virtualBack hx (y := (⟨"java/lang/String", "equals", "(Ljava/lang/Object;)Z"⟩ : MethodName)) (z := (⟨"java/lang/String", "equals", "(Ljava/lang/Object;)Z"⟩ : MethodName)) hown (mvT hZ (hw _ (List.mem_of_getElem? (i := 67) rfl))) (mvT hZ (hw _ (List.mem_of_getElem? (i := 57) rfl))) (notFace_of_selects (args := #[]) (mvT hZ (hw _ (List.mem_of_getElem? (i := 59) rfl)))) (mvT hZ (hw _ (List.mem_of_getElem? (i := 59) rfl))) (mvT hZ (hw _ (List.mem_of_getElem? (i := 58) rfl))) (by decide) (StrChars.Road.eqW (W := 0) hZ (own_wE hw) (kI := 4) (hw _ (List.mem_of_getElem? (i := 2) rfl)) (cs := tx26) c419 c420 c421 c422 (StrChars.Road.codOf (n := tx26.length) rfl (fun c hc => (hp26 c hc).2)) (own_up hp26) hl26 (ds := ([(49 : Int32), (46 : Int32), (50 : Int32), (46 : Int32), (56 : Int32), (52 : Int32), (48 : Int32), (46 : Int32), (49 : Int32), (48 : Int32), (48 : Int32), (48 : Int32), (56 : Int32), (46 : Int32), (49 : Int32), (46 : Int32), (50 : Int32)] : List Int32)) Es416 Fv416 Fc416 V416 own_cod_t0 own_bd_t0 (Nat.le_of_ble_eq_true rfl) (Sta.ext (c423).2 S_cs) hcs (by decide) (by decide)) qa426 qc426 (g := (mkF mM 146 #[.val (.int p1), .val (.int p2), .val (.int p3), .val (.int p4), .val (.int p5), .val (.ref a4), .val (.int z16), .val (.ref xx26), .val .null, .val .null, .val (.int (p2 &&& (31 : Int32))), .val (.int (p3 &&& (255 : Int32)).toUInt32.toUInt16.toUInt32.toInt32), .val (.int (p4 &&& (255 : Int32)).toUInt32.toUInt16.toUInt32.toInt32), .val (.int (p5 &&& (255 : Int32)).toUInt32.toUInt16.toUInt32.toInt32)] [(.ref a416), (.ref xx26)])) rfl (by rw [hml]; rfl) (Steps.refl _) (argsL := [(.ref a416)]) (rest := []) (lenOf pd_10 rfl) rfl (by show 2 * 0 + _ ≤ _; exact Nat.le_of_eq rfl) (hb hby at_146) (fun _ _ => ⟨rfl, e416, (by decide : 11 + 0 ≤ _), (by decide : 198 + 0 ≤ _)⟩)
        dsimp only [Pt.U, Pt.locs, Pt.cells, Pt.slots] at X426 l426 y426 z426 st426 hQ426
        subst l426 y426 z426
        obtain ⟨hq426, hL426, e426⟩ := hQ426
        subst hL426
        obtain ⟨r426, hv426, hr426⟩ : ∃ r : Int32, vq426 = some (.int r) ∧ r = (if tx26 = ([(49 : Int32), (46 : Int32), (50 : Int32), (46 : Int32), (56 : Int32), (52 : Int32), (48 : Int32), (46 : Int32), (49 : Int32), (48 : Int32), (48 : Int32), (48 : Int32), (56 : Int32), (46 : Int32), (49 : Int32), (46 : Int32), (50 : Int32)] : List Int32) then (1 : Int32) else (0 : Int32)) := hq426.elim (fun q => ⟨1, q.1, (if_pos q.2).symm⟩) (fun q => ⟨0, q.1, (if_neg q.2).symm⟩)
        subst hv426
        have N426 := Fr.app N425 (Fr.nil n0)
        have pr427 : ∀ tg, Steps pP.tables eE below (T426.setTop (mkF mM 149 #[.val (.int p1), .val (.int p2), .val (.int p3), .val (.int p4), .val (.int p5), .val (.ref a4), .val (.int z16), .val (.ref xx26), .val .null, .val .null, .val (.int (p2 &&& (31 : Int32))), .val (.int (p3 &&& (255 : Int32)).toUInt32.toUInt16.toUInt32.toInt32), .val (.int (p4 &&& (255 : Int32)).toUInt32.toUInt16.toUInt32.toInt32), .val (.int (p5 &&& (255 : Int32)).toUInt32.toUInt16.toUInt32.toInt32)] [(.int r426)])) tg → Steps pP.tables eE below (s₁.setTop (entryFrame mM #[(.int p1), (.int p2), (.int p3), (.int p4), (.int p5)] maxLocals)) tg := fun tg kg => pr418 _ (st426.trans kg)
        clear pr418 st426 X425 e416
        rw [if_neg hu1] at hr426
        subst hr426
        have pr428 : ∀ tg, Steps pP.tables eE below (T426.setTop (mkF mM 162 #[.val (.int p1), .val (.int p2), .val (.int p3), .val (.int p4), .val (.int p5), .val (.ref a4), .val (.int z16), .val (.ref xx26), .val .null, .val .null, .val (.int (p2 &&& (31 : Int32))), .val (.int (p3 &&& (255 : Int32)).toUInt32.toUInt16.toUInt32.toInt32), .val (.int (p4 &&& (255 : Int32)).toUInt32.toUInt16.toUInt32.toInt32), .val (.int (p5 &&& (255 : Int32)).toUInt32.toUInt16.toUInt32.toInt32)] [(.ref xx26)])) tg → Steps pP.tables eE below (s₁.setTop (entryFrame mM #[(.int p1), (.int p2), (.int p3), (.int p4), (.int p5)] maxLocals)) tg := fun tg kg => pr427 _ (by
          show Steps pP.tables eE below (T426.setTop (mkF mM 149 #[.val (.int p1), .val (.int p2), .val (.int p3), .val (.int p4), .val (.int p5), .val (.ref a4), .val (.int z16), .val (.ref xx26), .val .null, .val .null, .val (.int (p2 &&& (31 : Int32))), .val (.int (p3 &&& (255 : Int32)).toUInt32.toUInt16.toUInt32.toInt32), .val (.int (p4 &&& (255 : Int32)).toUInt32.toUInt16.toUInt32.toInt32), .val (.int (p5 &&& (255 : Int32)).toUInt32.toUInt16.toUInt32.toInt32)] [(.int (0 : Int32))])) _
          refine XS.ifYes X426.here hx rfl (pc0 := 149) (pc' := 160) rfl (hb hby at_149) rfl ((if0 _ _).trans (teq (by decide)).1) (by decide) (by decide) ?_
          refine XS.aload X426.here hx rfl (hb hby at_160) rfl rfl ?_
          exact kg)
        clear pr427
        obtain ⟨a429, T429, h429, kk429, b429, kc429, X429, e429, E429, hS, hk429, hZ, hown, Es429, Fc429, Fv429, V429, la429, lb429, A429, -, hn429, st429⟩ := ldcCH (s := sS) (vm0 := T416.vm) (EL := consts_1) X426 hx hZ hown (hw _ (List.mem_of_getElem? (i := 68) rfl)) wS e426 hS hk416 hEW (List.mem_of_getElem? (i := 1) rfl) cr417.1 (vs := [(.int (49 : Int32)), (.int (46 : Int32)), (.int (50 : Int32)), (.int (46 : Int32)), (.int (56 : Int32)), (.int (52 : Int32)), (.int (48 : Int32)), (.int (46 : Int32)), (.int (49 : Int32)), (.int (48 : Int32)), (.int (48 : Int32)), (.int (48 : Int32)), (.int (56 : Int32)), (.int (46 : Int32)), (.int (49 : Int32)), (.int (46 : Int32)), (.int (50 : Int32)), (.int (46 : Int32)), (.int (49 : Int32))]) (z := (19 : Int32)) ⟨by decide, rfl⟩ (by decide) rfl (g := (mkF mM 162 #[.val (.int p1), .val (.int p2), .val (.int p3), .val (.int p4), .val (.int p5), .val (.ref a4), .val (.int z16), .val (.ref xx26), .val .null, .val .null, .val (.int (p2 &&& (31 : Int32))), .val (.int (p3 &&& (255 : Int32)).toUInt32.toUInt16.toUInt32.toInt32), .val (.int (p4 &&& (255 : Int32)).toUInt32.toUInt16.toUInt32.toInt32), .val (.int (p5 &&& (255 : Int32)).toUInt32.toUInt16.toUInt32.toInt32)] [(.ref xx26)])) rfl (hb hby at_162) (n := 76) (by decide) (by decide) (by decide) (by decide)
        have cr430 := CHr.trans cr417 A429
        have pr431 : ∀ tg, Steps pP.tables eE below (T429.setTop (mkF mM 164 #[.val (.int p1), .val (.int p2), .val (.int p3), .val (.int p4), .val (.int p5), .val (.ref a4), .val (.int z16), .val (.ref xx26), .val .null, .val .null, .val (.int (p2 &&& (31 : Int32))), .val (.int (p3 &&& (255 : Int32)).toUInt32.toUInt16.toUInt32.toInt32), .val (.int (p4 &&& (255 : Int32)).toUInt32.toUInt16.toUInt32.toInt32), .val (.int (p5 &&& (255 : Int32)).toUInt32.toUInt16.toUInt32.toInt32)] [(.ref a429), (.ref xx26)])) tg → Steps pP.tables eE below (s₁.setTop (entryFrame mM #[(.int p1), (.int p2), (.int p3), (.int p4), (.int p5)] maxLocals)) tg := fun tg kg => pr428 _ (st429 _ kg)
        clear pr428 st429 X426 e426
        have c432 := (Exa.ext E429 c419)
        have c433 := (Fld.ext E429 c420)
        have c434 := (Fld.ext E429 c421)
        have c435 := (Arv.ext c422 E429)
        have c436 := (Old.ext c423 E429)
        have c437 := (Nat.le_trans c424 E429.1)
        obtain ⟨Ls438, X438, N438⟩ := own_hide X429 N426
        clear X429 N426
        obtain ⟨cq439, kq439, qa439, qb439, qc439⟩ := isOf hZ e429 c432
        obtain ⟨vq439, _, ⟨T439, L439, kk439, nn439⟩, -, X439, ⟨Lc439, hQ439, l439, y439, z439⟩, st439⟩ := X438.virtualBack hx (y := (⟨"java/lang/String", "equals", "(Ljava/lang/Object;)Z"⟩ : MethodName)) (z := (⟨"java/lang/String", "equals", "(Ljava/lang/Object;)Z"⟩ : MethodName)) hown (mvT hZ (hw _ (List.mem_of_getElem? (i := 67) rfl))) (mvT hZ (hw _ (List.mem_of_getElem? (i := 57) rfl))) (notFace_of_selects (args := #[]) (mvT hZ (hw _ (List.mem_of_getElem? (i := 59) rfl)))) (mvT hZ (hw _ (List.mem_of_getElem? (i := 59) rfl))) (mvT hZ (hw _ (List.mem_of_getElem? (i := 58) rfl))) (by decide) (StrChars.Road.eqW (W := 0) hZ (own_wE hw) (kI := 4) (hw _ (List.mem_of_getElem? (i := 2) rfl)) (cs := tx26) c432 c433 c434 c435 (StrChars.Road.codOf (n := tx26.length) rfl (fun c hc => (hp26 c hc).2)) (own_up hp26) hl26 (ds := ([(49 : Int32), (46 : Int32), (50 : Int32), (46 : Int32), (56 : Int32), (52 : Int32), (48 : Int32), (46 : Int32), (49 : Int32), (48 : Int32), (48 : Int32), (48 : Int32), (56 : Int32), (46 : Int32), (49 : Int32), (46 : Int32), (50 : Int32), (46 : Int32), (49 : Int32)] : List Int32)) Es429 Fv429 Fc429 V429 own_cod_t1 own_bd_t1 (Nat.le_of_ble_eq_true rfl) (Sta.ext (c436).2 S_cs) hcs (by decide) (by decide)) qa439 qc439 (g := (mkF mM 164 #[.val (.int p1), .val (.int p2), .val (.int p3), .val (.int p4), .val (.int p5), .val (.ref a4), .val (.int z16), .val (.ref xx26), .val .null, .val .null, .val (.int (p2 &&& (31 : Int32))), .val (.int (p3 &&& (255 : Int32)).toUInt32.toUInt16.toUInt32.toInt32), .val (.int (p4 &&& (255 : Int32)).toUInt32.toUInt16.toUInt32.toInt32), .val (.int (p5 &&& (255 : Int32)).toUInt32.toUInt16.toUInt32.toInt32)] [(.ref a429), (.ref xx26)])) rfl (by rw [hml]; rfl) (Steps.refl _) (argsL := [(.ref a429)]) (rest := []) (lenOf pd_10 rfl) rfl (by show 2 * 0 + _ ≤ _; exact Nat.le_of_eq rfl) (hb hby at_164) (fun _ _ => ⟨rfl, e429, (by decide : 13 + 0 ≤ _), (by decide : 278 + 0 ≤ _)⟩)
        dsimp only [Pt.U, Pt.locs, Pt.cells, Pt.slots] at X439 l439 y439 z439 st439 hQ439
        subst l439 y439 z439
        obtain ⟨hq439, hL439, e439⟩ := hQ439
        subst hL439
        obtain ⟨r439, hv439, hr439⟩ : ∃ r : Int32, vq439 = some (.int r) ∧ r = (if tx26 = ([(49 : Int32), (46 : Int32), (50 : Int32), (46 : Int32), (56 : Int32), (52 : Int32), (48 : Int32), (46 : Int32), (49 : Int32), (48 : Int32), (48 : Int32), (48 : Int32), (56 : Int32), (46 : Int32), (49 : Int32), (46 : Int32), (50 : Int32), (46 : Int32), (49 : Int32)] : List Int32) then (1 : Int32) else (0 : Int32)) := hq439.elim (fun q => ⟨1, q.1, (if_pos q.2).symm⟩) (fun q => ⟨0, q.1, (if_neg q.2).symm⟩)
        subst hv439
        have N439 := Fr.app N438 (Fr.nil n0)
        have pr440 : ∀ tg, Steps pP.tables eE below (T439.setTop (mkF mM 167 #[.val (.int p1), .val (.int p2), .val (.int p3), .val (.int p4), .val (.int p5), .val (.ref a4), .val (.int z16), .val (.ref xx26), .val .null, .val .null, .val (.int (p2 &&& (31 : Int32))), .val (.int (p3 &&& (255 : Int32)).toUInt32.toUInt16.toUInt32.toInt32), .val (.int (p4 &&& (255 : Int32)).toUInt32.toUInt16.toUInt32.toInt32), .val (.int (p5 &&& (255 : Int32)).toUInt32.toUInt16.toUInt32.toInt32)] [(.int r439)])) tg → Steps pP.tables eE below (s₁.setTop (entryFrame mM #[(.int p1), (.int p2), (.int p3), (.int p4), (.int p5)] maxLocals)) tg := fun tg kg => pr431 _ (st439.trans kg)
        clear pr431 st439 X438 e429
        rw [if_neg hu2] at hr439
        subst hr439
        have pr441 : ∀ tg, Steps pP.tables eE below (T439.setTop (mkF mM 187 #[.val (.int p1), .val (.int p2), .val (.int p3), .val (.int p4), .val (.int p5), .val (.ref a4), .val (.int z16), .val (.ref xx26), .val .null, .val .null, .val (.int (p2 &&& (31 : Int32))), .val (.int (p3 &&& (255 : Int32)).toUInt32.toUInt16.toUInt32.toInt32), .val (.int (p4 &&& (255 : Int32)).toUInt32.toUInt16.toUInt32.toInt32), .val (.int (p5 &&& (255 : Int32)).toUInt32.toUInt16.toUInt32.toInt32)] [(.int (1 : Int32))])) tg → Steps pP.tables eE below (s₁.setTop (entryFrame mM #[(.int p1), (.int p2), (.int p3), (.int p4), (.int p5)] maxLocals)) tg := fun tg kg => pr440 _ (by
          show Steps pP.tables eE below (T439.setTop (mkF mM 167 #[.val (.int p1), .val (.int p2), .val (.int p3), .val (.int p4), .val (.int p5), .val (.ref a4), .val (.int z16), .val (.ref xx26), .val .null, .val .null, .val (.int (p2 &&& (31 : Int32))), .val (.int (p3 &&& (255 : Int32)).toUInt32.toUInt16.toUInt32.toInt32), .val (.int (p4 &&& (255 : Int32)).toUInt32.toUInt16.toUInt32.toInt32), .val (.int (p5 &&& (255 : Int32)).toUInt32.toUInt16.toUInt32.toInt32)] [(.int (0 : Int32))])) _
          refine XS.ifYes X439.here hx rfl (pc0 := 167) (pc' := 175) rfl (hb hby at_167) rfl ((if0 _ _).trans (teq (by decide)).1) (by decide) (by decide) ?_
          refine XS.aload X439.here hx rfl (hb hby at_175) rfl rfl ?_
          refine XS.aload X439.here hx rfl (hb hby at_177) rfl rfl ?_
          show Steps pP.tables eE below (T439.setTop (mkF mM 179 #[.val (.int p1), .val (.int p2), .val (.int p3), .val (.int p4), .val (.int p5), .val (.ref a4), .val (.int z16), .val (.ref xx26), .val .null, .val .null, .val (.int (p2 &&& (31 : Int32))), .val (.int (p3 &&& (255 : Int32)).toUInt32.toUInt16.toUInt32.toInt32), .val (.int (p4 &&& (255 : Int32)).toUInt32.toUInt16.toUInt32.toInt32), .val (.int (p5 &&& (255 : Int32)).toUInt32.toUInt16.toUInt32.toInt32)] [.null, .null])) _
          refine Jvm.RoadKit.acmp (g := (mkF mM 179 #[.val (.int p1), .val (.int p2), .val (.int p3), .val (.int p4), .val (.int p5), .val (.ref a4), .val (.int z16), .val (.ref xx26), .val .null, .val .null, .val (.int (p2 &&& (31 : Int32))), .val (.int (p3 &&& (255 : Int32)).toUInt32.toUInt16.toUInt32.toInt32), .val (.int (p4 &&& (255 : Int32)).toUInt32.toUInt16.toUInt32.toInt32), .val (.int (p5 &&& (255 : Int32)).toUInt32.toUInt16.toUInt32.toInt32)] [.null, .null])) X439 hx rfl rfl rfl (pc0 := 179) (pc' := 182) (same := true) rfl (hb hby at_179) rfl (decide_eq_true rfl) (by decide) (by decide) ?_
          show Steps pP.tables eE below (T439.setTop (mkF mM 182 #[.val (.int p1), .val (.int p2), .val (.int p3), .val (.int p4), .val (.int p5), .val (.ref a4), .val (.int z16), .val (.ref xx26), .val .null, .val .null, .val (.int (p2 &&& (31 : Int32))), .val (.int (p3 &&& (255 : Int32)).toUInt32.toUInt16.toUInt32.toInt32), .val (.int (p4 &&& (255 : Int32)).toUInt32.toUInt16.toUInt32.toInt32), .val (.int (p5 &&& (255 : Int32)).toUInt32.toUInt16.toUInt32.toInt32)] [])) _
          refine XS.iconst X439.here hx rfl (hb hby at_182) ?_
          refine XS.goto X439.here hx rfl (pc0 := 183) (pc' := 187) rfl (hb hby at_183) (by decide) (by decide) ?_
          exact kg)
        clear pr440
        obtain ⟨fs, hr, hrun, hended, hW⟩ := Jvm.Stand.leaveW (s := sS) (vm₁ := T429.vm) X439 hS (Nat.le_trans hk429 (Nat.le_of_eq (congrArg Array.size e439.symm))) (v := some (.int (1 : Int32))) (fun h => by rw [Bd.returns] at h; cases h)
        refine ⟨_, _, pr441 _ (retOut X439 hx (t := .boolean) Bd.returns rfl (Or.inl ⟨rfl, Or.inr (Or.inl rfl), _, rfl⟩) (hb hby at_187) hr), hrun, hended, _, _, rfl, ?_, hW.1, hW.2.1, hW.2.2.1, hW.2.2.2.mono (by decide) (by decide)⟩
        show Q0 Z p1 p2 p3 p4 p5 cs sf al kal a_IMPLICIT_VR_LITTLE_ENDIAN t_IMPLICIT_VR_LITTLE_ENDIAN u_IMPLICIT_VR_LITTLE_ENDIAN k_IMPLICIT_VR_LITTLE_ENDIAN a_EXPLICIT_VR_LITTLE_ENDIAN t_EXPLICIT_VR_LITTLE_ENDIAN u_EXPLICIT_VR_LITTLE_ENDIAN k_EXPLICIT_VR_LITTLE_ENDIAN h0 n0 _ T439.heap _
        rw [e439]
        exact ⟨rfl, N439⟩
set_option maxRecDepth 65536 in
set_option maxHeartbeats 40000000 in
theorem comes_1 {Post : Tables → Env → Array Value → State → Outcome → State → Prop} (hpost : ∀ tb e args s v u, (limb_1_1.after args s (.returned v) u = true ∧ limb_1_2.after args s (.returned v) u = true ∧ True) → ReturnedEndW s (.returned v) u (Jvm.fieldLocs frame_1_writes args s ++ Jvm.arrayLocs frame_1_arrays args s ++ Jvm.staticLocs frame_1_statics s) 24 3264 → Post tb e args s (.returned v) u) :
    ArmFor flags0 classFile x code maxLocals ret World_1 tables_1 room_1 Calls_1 rest_1 Pre_1 Post := by
  intro l hfl _ _ p e ha hc hk s m args below hf hA hF happ hP
  obtain ⟨hcalls, hrest, hpre⟩ := hP
  obtain ⟨-, -, -, hnamed, -, -, -, hat⟩ := (Spec.applies_iff hf).mp happ
  obtain ⟨hg, hn⟩ := and_e (Cond.before_iff.mp (show (Jvm.Cond.and given_1 narrow_1).before args s = true from hpre))
  obtain ⟨n1, n2⟩ := and_e hg
  obtain ⟨n3, n4⟩ := and_e n2
  obtain ⟨n5, n6⟩ := and_e n4
  obtain ⟨n7, n8⟩ := and_e n6
  obtain ⟨n9, n10⟩ := and_e n8
  obtain ⟨w0, w1, w2, w3, w4, rfl⟩ : ∃ w0 w1 w2 w3 w4 : Value, args = #[w0, w1, w2, w3, w4] := by
    have hs : args.size = 5 := by simpa [Cond.value, given_1] using n1
    obtain ⟨L⟩ := args
    match L, hs with
    | [w0, w1, w2, w3, w4], _ => exact ⟨w0, w1, w2, w3, w4, rfl⟩
  have hw := fun d (hd : d ∈ tables_1) => atoms_spec (ws := Jvm.Cond.code x code maxLocals ret :: tables_1) hat d (List.mem_cons_of_mem _ hd)
  have hfit : Fit s := fun {y c} hc i hi => by
    obtain ⟨ha, rfl⟩ := Array.getElem?_eq_some_iff.mp hc
    have q := List.all_eq_true.mp ((Array.all_eq_true_iff_forall_mem.mp hF) _ (Array.getElem_mem ha)) i (List.mem_range.mpr hi)
    simpa [Array.getElem?_eq_getElem hi] using q
  obtain ⟨hsets, hown0⟩ := atoms_of _ (rest_1_c_eq ▸ (show rest_1_c.before _ s = true from hrest))
  have hr0 := Cond.before_iff.mp hown0
  obtain ⟨i0, ei0⟩ := is_v n3
  obtain rfl : w0 = (.int i0) := Option.some.inj ei0
  obtain ⟨i1, ei1⟩ := is_v n5
  obtain rfl : w1 = (.int i1) := Option.some.inj ei1
  obtain ⟨i2, ei2⟩ := is_v n7
  obtain rfl : w2 = (.int i2) := Option.some.inj ei2
  obtain ⟨i3, ei3⟩ := is_v n9
  obtain rfl : w3 = (.int i3) := Option.some.inj ei3
  obtain ⟨i4, ei4⟩ := is_v n10
  obtain rfl : w4 = (.int i4) := Option.some.inj ei4
  obtain ⟨n11, n12⟩ := and_e hn
  obtain ⟨n13, n14⟩ := and_e n12
  obtain ⟨n15, n16⟩ := and_e n14
  obtain ⟨n17, n18⟩ := and_e n16
  obtain ⟨n19, n20⟩ := and_e n18
  obtain ⟨n21, n22⟩ := and_e n20
  obtain ⟨n23, n24⟩ := and_e n22
  obtain ⟨n25, n26⟩ := and_e n24
  obtain ⟨n27, n28⟩ := and_e n26
  obtain ⟨n29, n30⟩ := and_e n28
  obtain ⟨n31, n32⟩ := and_e n30
  obtain ⟨n33, n34⟩ := and_e n32
  obtain ⟨n35, n36⟩ := and_e n34
  obtain ⟨n37, n38⟩ := and_e n36
  obtain ⟨n39, n40⟩ := and_e n38
  obtain ⟨n41, n42⟩ := and_e n40
  obtain ⟨n43, n44⟩ := and_e n42
  obtain ⟨n45, n46⟩ := and_e n44
  obtain ⟨n47, n48⟩ := and_e n46
  obtain ⟨n49, n50⟩ := and_e n48
  obtain ⟨n51, n52⟩ := and_e n50
  obtain ⟨n53, n54⟩ := and_e n52
  obtain ⟨n55, n56⟩ := and_e n54
  obtain ⟨n57, n58⟩ := and_e n56
  obtain ⟨n59, n60⟩ := and_e n58
  obtain ⟨n61, n62⟩ := and_e n60
  obtain ⟨n63, n64⟩ := and_e n62
  obtain ⟨n65, n66⟩ := and_e n64
  obtain ⟨n67, n68⟩ := and_e n66
  obtain ⟨n69, n70⟩ := and_e n68
  obtain ⟨n71, n72⟩ := and_e n70
  obtain ⟨n73, n74⟩ := and_e n72
  obtain ⟨n75, n76⟩ := and_e n74
  obtain ⟨n77, n78⟩ := and_e n76
  obtain ⟨n79, n80⟩ := and_e n78
  obtain ⟨n81, n82⟩ := and_e n80
  obtain ⟨n83, n84⟩ := and_e n82
  obtain ⟨n85, n86⟩ := and_e n84
  obtain ⟨n87, n88⟩ := and_e n86
  obtain ⟨n89, n90⟩ := and_e n88
  obtain ⟨n91, n92⟩ := and_e n90
  obtain ⟨n93, n94⟩ := and_e n92
  obtain ⟨n95, n96⟩ := and_e n94
  obtain ⟨n97, n98⟩ := and_e n96
  obtain ⟨n99, n100⟩ := and_e n98
  obtain ⟨n101, n102⟩ := and_e n100
  obtain ⟨n103, n104⟩ := and_e n102
  obtain ⟨n105, n106⟩ := and_e n104
  obtain ⟨n107, n108⟩ := and_e n106
  obtain ⟨n109, n110⟩ := and_e n108
  obtain ⟨a__VALUES, ea__VALUES⟩ := exa_v n13
  have S__VALUES : Sta s s.heap "com/example/tesserae/tesserae/dicom/TransferSyntax" "$VALUES" "[Lcom/example/tesserae/tesserae/dicom/TransferSyntax;" (.ref a__VALUES) := Sta.start ea__VALUES (Or.inl (hw _ (List.mem_of_getElem? (i := 51) rfl)))
  have E__VALUES : Exa s s.heap a__VALUES "[Lcom/example/tesserae/tesserae/dicom/TransferSyntax;" := Exa.start ea__VALUES n13
  obtain ⟨a_IMPLICIT_VR_LITTLE_ENDIAN, ea_IMPLICIT_VR_LITTLE_ENDIAN⟩ := exa_v n17
  have S_IMPLICIT_VR_LITTLE_ENDIAN : Sta s s.heap "com/example/tesserae/tesserae/dicom/TransferSyntax" "IMPLICIT_VR_LITTLE_ENDIAN" "Lcom/example/tesserae/tesserae/dicom/TransferSyntax;" (.ref a_IMPLICIT_VR_LITTLE_ENDIAN) := Sta.start ea_IMPLICIT_VR_LITTLE_ENDIAN (Or.inr ⟨(hw _ (List.mem_of_getElem? (i := 35) rfl)), (hw _ (List.mem_of_getElem? (i := 49) rfl))⟩)
  have E_IMPLICIT_VR_LITTLE_ENDIAN : Exa s s.heap a_IMPLICIT_VR_LITTLE_ENDIAN "com/example/tesserae/tesserae/dicom/TransferSyntax" := Exa.start ea_IMPLICIT_VR_LITTLE_ENDIAN n17
  obtain ⟨a_EXPLICIT_VR_LITTLE_ENDIAN, ea_EXPLICIT_VR_LITTLE_ENDIAN⟩ := exa_v n21
  have S_EXPLICIT_VR_LITTLE_ENDIAN : Sta s s.heap "com/example/tesserae/tesserae/dicom/TransferSyntax" "EXPLICIT_VR_LITTLE_ENDIAN" "Lcom/example/tesserae/tesserae/dicom/TransferSyntax;" (.ref a_EXPLICIT_VR_LITTLE_ENDIAN) := Sta.start ea_EXPLICIT_VR_LITTLE_ENDIAN (Or.inr ⟨(hw _ (List.mem_of_getElem? (i := 35) rfl)), (hw _ (List.mem_of_getElem? (i := 50) rfl))⟩)
  have E_EXPLICIT_VR_LITTLE_ENDIAN : Exa s s.heap a_EXPLICIT_VR_LITTLE_ENDIAN "com/example/tesserae/tesserae/dicom/TransferSyntax" := Exa.start ea_EXPLICIT_VR_LITTLE_ENDIAN n21
  obtain ⟨cs, ecs⟩ := is_v (Cond.before_iff.mp (hsets _ (List.mem_of_getElem? (i := 1) rfl)))
  have S_cs : Sta s s.heap "java/lang/String" "COMPACT_STRINGS" "Z" (.int cs) := Sta.start ecs (Or.inl (hsets _ (List.mem_of_getElem? (i := 0) rfl)))
  have hcw0 := (hsets _ (List.mem_of_getElem? (i := 2) rfl))
  have hcs : ¬ (cs = (0 : Int32)) := gotF (Cond.eq_ints ecs (Term.int_eval (0))) (not_v (Cond.before_iff.mp hcw0))
  obtain ⟨sf, esf, rsf⟩ := isR_v (Cond.before_iff.mp (hsets _ (List.mem_of_getElem? (i := 8) rfl)))
  have S_sf : Sta s s.heap "jdk/internal/util/Preconditions" "SIOOBE_FORMATTER" "Ljava/util/function/BiFunction;" sf := Sta.start esf (Or.inl (hsets _ (List.mem_of_getElem? (i := 7) rfl)))
  obtain ⟨al, eal⟩ := arr_v n11
  have S_ALL : Sta s s.heap "com/example/tesserae/tesserae/dicom/TransferSyntax" "$VALUES" "[Lcom/example/tesserae/tesserae/dicom/TransferSyntax;" (.ref al) := Sta.start eal (Or.inl (hw _ (List.mem_of_getElem? (i := 51) rfl)))
  obtain ⟨cal, Aal⟩ := Arr.start eal n11
  obtain ⟨hl1, hl2⟩ := own_len eal Aal (eqv_i (Term.int_eval (2)) n15)
  have hv0 : cal.slots[0]? = some (.ref a_IMPLICIT_VR_LITTLE_ENDIAN) := (elem_in (own_eqr ea_IMPLICIT_VR_LITTLE_ENDIAN n19) eal (Term.int_eval (0)) Aal.1).2
  have hv1 : cal.slots[1]? = some (.ref a_EXPLICIT_VR_LITTLE_ENDIAN) := (elem_in (own_eqr ea_EXPLICIT_VR_LITTLE_ENDIAN n23) eal (Term.int_eval (1)) Aal.1).2
  have V_ALL : Arv s s.heap al cal.cls (.object "com/example/tesserae/tesserae/dicom/TransferSyntax") (2 : Int32) [(.ref a_IMPLICIT_VR_LITTLE_ENDIAN), (.ref a_EXPLICIT_VR_LITTLE_ENDIAN)] .null := Arv.start hfit Aal hl1 hl2 (by decide) rfl ⟨hv0, hv1, trivial⟩
  obtain ⟨t_IMPLICIT_VR_LITTLE_ENDIAN, et_IMPLICIT_VR_LITTLE_ENDIAN⟩ := exa_v n25
  have F_IMPLICIT_VR_LITTLE_ENDIAN : Fld s s.heap a_IMPLICIT_VR_LITTLE_ENDIAN "com/example/tesserae/tesserae/dicom/TransferSyntax" "uid" "Ljava/lang/String;" (.ref t_IMPLICIT_VR_LITTLE_ENDIAN) := Fld.start ((fld_at ea_IMPLICIT_VR_LITTLE_ENDIAN).symm.trans et_IMPLICIT_VR_LITTLE_ENDIAN)
  have Et_IMPLICIT_VR_LITTLE_ENDIAN : Exa s s.heap t_IMPLICIT_VR_LITTLE_ENDIAN "java/lang/String" := Exa.start et_IMPLICIT_VR_LITTLE_ENDIAN n25
  have Fc_IMPLICIT_VR_LITTLE_ENDIAN : Fld s s.heap t_IMPLICIT_VR_LITTLE_ENDIAN "java/lang/String" "coder" "B" (.int (0 : Int32)) := Fld.start ((fld_at et_IMPLICIT_VR_LITTLE_ENDIAN).symm.trans (eqv_i (Term.int_eval (0)) n27))
  obtain ⟨u_IMPLICIT_VR_LITTLE_ENDIAN, eu_IMPLICIT_VR_LITTLE_ENDIAN⟩ := arr_v n29
  have Fv_IMPLICIT_VR_LITTLE_ENDIAN : Fld s s.heap t_IMPLICIT_VR_LITTLE_ENDIAN "java/lang/String" "value" "[B" (.ref u_IMPLICIT_VR_LITTLE_ENDIAN) := Fld.start ((fld_at et_IMPLICIT_VR_LITTLE_ENDIAN).symm.trans eu_IMPLICIT_VR_LITTLE_ENDIAN)
  obtain ⟨cu_IMPLICIT_VR_LITTLE_ENDIAN, Au_IMPLICIT_VR_LITTLE_ENDIAN⟩ := Arr.start eu_IMPLICIT_VR_LITTLE_ENDIAN n29
  obtain ⟨lu1_IMPLICIT_VR_LITTLE_ENDIAN, lu2_IMPLICIT_VR_LITTLE_ENDIAN⟩ := own_len eu_IMPLICIT_VR_LITTLE_ENDIAN Au_IMPLICIT_VR_LITTLE_ENDIAN (eqv_i (Term.int_eval (17)) n31)
  have hu0_IMPLICIT_VR_LITTLE_ENDIAN : cu_IMPLICIT_VR_LITTLE_ENDIAN.slots[0]? = some (.int (49 : Int32)) := (elem_in (eqv_i (Term.int_eval (49)) n41) eu_IMPLICIT_VR_LITTLE_ENDIAN (Term.int_eval (0)) Au_IMPLICIT_VR_LITTLE_ENDIAN.1).2
  have hu1_IMPLICIT_VR_LITTLE_ENDIAN : cu_IMPLICIT_VR_LITTLE_ENDIAN.slots[1]? = some (.int (46 : Int32)) := (elem_in (eqv_i (Term.int_eval (46)) n43) eu_IMPLICIT_VR_LITTLE_ENDIAN (Term.int_eval (1)) Au_IMPLICIT_VR_LITTLE_ENDIAN.1).2
  have hu2_IMPLICIT_VR_LITTLE_ENDIAN : cu_IMPLICIT_VR_LITTLE_ENDIAN.slots[2]? = some (.int (50 : Int32)) := (elem_in (eqv_i (Term.int_eval (50)) n45) eu_IMPLICIT_VR_LITTLE_ENDIAN (Term.int_eval (2)) Au_IMPLICIT_VR_LITTLE_ENDIAN.1).2
  have hu3_IMPLICIT_VR_LITTLE_ENDIAN : cu_IMPLICIT_VR_LITTLE_ENDIAN.slots[3]? = some (.int (46 : Int32)) := (elem_in (eqv_i (Term.int_eval (46)) n47) eu_IMPLICIT_VR_LITTLE_ENDIAN (Term.int_eval (3)) Au_IMPLICIT_VR_LITTLE_ENDIAN.1).2
  have hu4_IMPLICIT_VR_LITTLE_ENDIAN : cu_IMPLICIT_VR_LITTLE_ENDIAN.slots[4]? = some (.int (56 : Int32)) := (elem_in (eqv_i (Term.int_eval (56)) n49) eu_IMPLICIT_VR_LITTLE_ENDIAN (Term.int_eval (4)) Au_IMPLICIT_VR_LITTLE_ENDIAN.1).2
  have hu5_IMPLICIT_VR_LITTLE_ENDIAN : cu_IMPLICIT_VR_LITTLE_ENDIAN.slots[5]? = some (.int (52 : Int32)) := (elem_in (eqv_i (Term.int_eval (52)) n51) eu_IMPLICIT_VR_LITTLE_ENDIAN (Term.int_eval (5)) Au_IMPLICIT_VR_LITTLE_ENDIAN.1).2
  have hu6_IMPLICIT_VR_LITTLE_ENDIAN : cu_IMPLICIT_VR_LITTLE_ENDIAN.slots[6]? = some (.int (48 : Int32)) := (elem_in (eqv_i (Term.int_eval (48)) n53) eu_IMPLICIT_VR_LITTLE_ENDIAN (Term.int_eval (6)) Au_IMPLICIT_VR_LITTLE_ENDIAN.1).2
  have hu7_IMPLICIT_VR_LITTLE_ENDIAN : cu_IMPLICIT_VR_LITTLE_ENDIAN.slots[7]? = some (.int (46 : Int32)) := (elem_in (eqv_i (Term.int_eval (46)) n55) eu_IMPLICIT_VR_LITTLE_ENDIAN (Term.int_eval (7)) Au_IMPLICIT_VR_LITTLE_ENDIAN.1).2
  have hu8_IMPLICIT_VR_LITTLE_ENDIAN : cu_IMPLICIT_VR_LITTLE_ENDIAN.slots[8]? = some (.int (49 : Int32)) := (elem_in (eqv_i (Term.int_eval (49)) n57) eu_IMPLICIT_VR_LITTLE_ENDIAN (Term.int_eval (8)) Au_IMPLICIT_VR_LITTLE_ENDIAN.1).2
  have hu9_IMPLICIT_VR_LITTLE_ENDIAN : cu_IMPLICIT_VR_LITTLE_ENDIAN.slots[9]? = some (.int (48 : Int32)) := (elem_in (eqv_i (Term.int_eval (48)) n59) eu_IMPLICIT_VR_LITTLE_ENDIAN (Term.int_eval (9)) Au_IMPLICIT_VR_LITTLE_ENDIAN.1).2
  have hu10_IMPLICIT_VR_LITTLE_ENDIAN : cu_IMPLICIT_VR_LITTLE_ENDIAN.slots[10]? = some (.int (48 : Int32)) := (elem_in (eqv_i (Term.int_eval (48)) n61) eu_IMPLICIT_VR_LITTLE_ENDIAN (Term.int_eval (10)) Au_IMPLICIT_VR_LITTLE_ENDIAN.1).2
  have hu11_IMPLICIT_VR_LITTLE_ENDIAN : cu_IMPLICIT_VR_LITTLE_ENDIAN.slots[11]? = some (.int (48 : Int32)) := (elem_in (eqv_i (Term.int_eval (48)) n63) eu_IMPLICIT_VR_LITTLE_ENDIAN (Term.int_eval (11)) Au_IMPLICIT_VR_LITTLE_ENDIAN.1).2
  have hu12_IMPLICIT_VR_LITTLE_ENDIAN : cu_IMPLICIT_VR_LITTLE_ENDIAN.slots[12]? = some (.int (56 : Int32)) := (elem_in (eqv_i (Term.int_eval (56)) n65) eu_IMPLICIT_VR_LITTLE_ENDIAN (Term.int_eval (12)) Au_IMPLICIT_VR_LITTLE_ENDIAN.1).2
  have hu13_IMPLICIT_VR_LITTLE_ENDIAN : cu_IMPLICIT_VR_LITTLE_ENDIAN.slots[13]? = some (.int (46 : Int32)) := (elem_in (eqv_i (Term.int_eval (46)) n67) eu_IMPLICIT_VR_LITTLE_ENDIAN (Term.int_eval (13)) Au_IMPLICIT_VR_LITTLE_ENDIAN.1).2
  have hu14_IMPLICIT_VR_LITTLE_ENDIAN : cu_IMPLICIT_VR_LITTLE_ENDIAN.slots[14]? = some (.int (49 : Int32)) := (elem_in (eqv_i (Term.int_eval (49)) n69) eu_IMPLICIT_VR_LITTLE_ENDIAN (Term.int_eval (14)) Au_IMPLICIT_VR_LITTLE_ENDIAN.1).2
  have hu15_IMPLICIT_VR_LITTLE_ENDIAN : cu_IMPLICIT_VR_LITTLE_ENDIAN.slots[15]? = some (.int (46 : Int32)) := (elem_in (eqv_i (Term.int_eval (46)) n71) eu_IMPLICIT_VR_LITTLE_ENDIAN (Term.int_eval (15)) Au_IMPLICIT_VR_LITTLE_ENDIAN.1).2
  have hu16_IMPLICIT_VR_LITTLE_ENDIAN : cu_IMPLICIT_VR_LITTLE_ENDIAN.slots[16]? = some (.int (50 : Int32)) := (elem_in (eqv_i (Term.int_eval (50)) n73) eu_IMPLICIT_VR_LITTLE_ENDIAN (Term.int_eval (16)) Au_IMPLICIT_VR_LITTLE_ENDIAN.1).2
  have Vt_IMPLICIT_VR_LITTLE_ENDIAN : Arv s s.heap u_IMPLICIT_VR_LITTLE_ENDIAN cu_IMPLICIT_VR_LITTLE_ENDIAN.cls .byte (17 : Int32) [(.int (49 : Int32)), (.int (46 : Int32)), (.int (50 : Int32)), (.int (46 : Int32)), (.int (56 : Int32)), (.int (52 : Int32)), (.int (48 : Int32)), (.int (46 : Int32)), (.int (49 : Int32)), (.int (48 : Int32)), (.int (48 : Int32)), (.int (48 : Int32)), (.int (56 : Int32)), (.int (46 : Int32)), (.int (49 : Int32)), (.int (46 : Int32)), (.int (50 : Int32))] (.int (0 : Int32)) := Arv.start hfit Au_IMPLICIT_VR_LITTLE_ENDIAN lu1_IMPLICIT_VR_LITTLE_ENDIAN lu2_IMPLICIT_VR_LITTLE_ENDIAN (by decide) rfl ⟨hu0_IMPLICIT_VR_LITTLE_ENDIAN, hu1_IMPLICIT_VR_LITTLE_ENDIAN, hu2_IMPLICIT_VR_LITTLE_ENDIAN, hu3_IMPLICIT_VR_LITTLE_ENDIAN, hu4_IMPLICIT_VR_LITTLE_ENDIAN, hu5_IMPLICIT_VR_LITTLE_ENDIAN, hu6_IMPLICIT_VR_LITTLE_ENDIAN, hu7_IMPLICIT_VR_LITTLE_ENDIAN, hu8_IMPLICIT_VR_LITTLE_ENDIAN, hu9_IMPLICIT_VR_LITTLE_ENDIAN, hu10_IMPLICIT_VR_LITTLE_ENDIAN, hu11_IMPLICIT_VR_LITTLE_ENDIAN, hu12_IMPLICIT_VR_LITTLE_ENDIAN, hu13_IMPLICIT_VR_LITTLE_ENDIAN, hu14_IMPLICIT_VR_LITTLE_ENDIAN, hu15_IMPLICIT_VR_LITTLE_ENDIAN, hu16_IMPLICIT_VR_LITTLE_ENDIAN, trivial⟩
  obtain ⟨t_EXPLICIT_VR_LITTLE_ENDIAN, et_EXPLICIT_VR_LITTLE_ENDIAN⟩ := exa_v n33
  have F_EXPLICIT_VR_LITTLE_ENDIAN : Fld s s.heap a_EXPLICIT_VR_LITTLE_ENDIAN "com/example/tesserae/tesserae/dicom/TransferSyntax" "uid" "Ljava/lang/String;" (.ref t_EXPLICIT_VR_LITTLE_ENDIAN) := Fld.start ((fld_at ea_EXPLICIT_VR_LITTLE_ENDIAN).symm.trans et_EXPLICIT_VR_LITTLE_ENDIAN)
  have Et_EXPLICIT_VR_LITTLE_ENDIAN : Exa s s.heap t_EXPLICIT_VR_LITTLE_ENDIAN "java/lang/String" := Exa.start et_EXPLICIT_VR_LITTLE_ENDIAN n33
  have Fc_EXPLICIT_VR_LITTLE_ENDIAN : Fld s s.heap t_EXPLICIT_VR_LITTLE_ENDIAN "java/lang/String" "coder" "B" (.int (0 : Int32)) := Fld.start ((fld_at et_EXPLICIT_VR_LITTLE_ENDIAN).symm.trans (eqv_i (Term.int_eval (0)) n35))
  obtain ⟨u_EXPLICIT_VR_LITTLE_ENDIAN, eu_EXPLICIT_VR_LITTLE_ENDIAN⟩ := arr_v n37
  have Fv_EXPLICIT_VR_LITTLE_ENDIAN : Fld s s.heap t_EXPLICIT_VR_LITTLE_ENDIAN "java/lang/String" "value" "[B" (.ref u_EXPLICIT_VR_LITTLE_ENDIAN) := Fld.start ((fld_at et_EXPLICIT_VR_LITTLE_ENDIAN).symm.trans eu_EXPLICIT_VR_LITTLE_ENDIAN)
  obtain ⟨cu_EXPLICIT_VR_LITTLE_ENDIAN, Au_EXPLICIT_VR_LITTLE_ENDIAN⟩ := Arr.start eu_EXPLICIT_VR_LITTLE_ENDIAN n37
  obtain ⟨lu1_EXPLICIT_VR_LITTLE_ENDIAN, lu2_EXPLICIT_VR_LITTLE_ENDIAN⟩ := own_len eu_EXPLICIT_VR_LITTLE_ENDIAN Au_EXPLICIT_VR_LITTLE_ENDIAN (eqv_i (Term.int_eval (19)) n39)
  have hu0_EXPLICIT_VR_LITTLE_ENDIAN : cu_EXPLICIT_VR_LITTLE_ENDIAN.slots[0]? = some (.int (49 : Int32)) := (elem_in (eqv_i (Term.int_eval (49)) n75) eu_EXPLICIT_VR_LITTLE_ENDIAN (Term.int_eval (0)) Au_EXPLICIT_VR_LITTLE_ENDIAN.1).2
  have hu1_EXPLICIT_VR_LITTLE_ENDIAN : cu_EXPLICIT_VR_LITTLE_ENDIAN.slots[1]? = some (.int (46 : Int32)) := (elem_in (eqv_i (Term.int_eval (46)) n77) eu_EXPLICIT_VR_LITTLE_ENDIAN (Term.int_eval (1)) Au_EXPLICIT_VR_LITTLE_ENDIAN.1).2
  have hu2_EXPLICIT_VR_LITTLE_ENDIAN : cu_EXPLICIT_VR_LITTLE_ENDIAN.slots[2]? = some (.int (50 : Int32)) := (elem_in (eqv_i (Term.int_eval (50)) n79) eu_EXPLICIT_VR_LITTLE_ENDIAN (Term.int_eval (2)) Au_EXPLICIT_VR_LITTLE_ENDIAN.1).2
  have hu3_EXPLICIT_VR_LITTLE_ENDIAN : cu_EXPLICIT_VR_LITTLE_ENDIAN.slots[3]? = some (.int (46 : Int32)) := (elem_in (eqv_i (Term.int_eval (46)) n81) eu_EXPLICIT_VR_LITTLE_ENDIAN (Term.int_eval (3)) Au_EXPLICIT_VR_LITTLE_ENDIAN.1).2
  have hu4_EXPLICIT_VR_LITTLE_ENDIAN : cu_EXPLICIT_VR_LITTLE_ENDIAN.slots[4]? = some (.int (56 : Int32)) := (elem_in (eqv_i (Term.int_eval (56)) n83) eu_EXPLICIT_VR_LITTLE_ENDIAN (Term.int_eval (4)) Au_EXPLICIT_VR_LITTLE_ENDIAN.1).2
  have hu5_EXPLICIT_VR_LITTLE_ENDIAN : cu_EXPLICIT_VR_LITTLE_ENDIAN.slots[5]? = some (.int (52 : Int32)) := (elem_in (eqv_i (Term.int_eval (52)) n85) eu_EXPLICIT_VR_LITTLE_ENDIAN (Term.int_eval (5)) Au_EXPLICIT_VR_LITTLE_ENDIAN.1).2
  have hu6_EXPLICIT_VR_LITTLE_ENDIAN : cu_EXPLICIT_VR_LITTLE_ENDIAN.slots[6]? = some (.int (48 : Int32)) := (elem_in (eqv_i (Term.int_eval (48)) n87) eu_EXPLICIT_VR_LITTLE_ENDIAN (Term.int_eval (6)) Au_EXPLICIT_VR_LITTLE_ENDIAN.1).2
  have hu7_EXPLICIT_VR_LITTLE_ENDIAN : cu_EXPLICIT_VR_LITTLE_ENDIAN.slots[7]? = some (.int (46 : Int32)) := (elem_in (eqv_i (Term.int_eval (46)) n89) eu_EXPLICIT_VR_LITTLE_ENDIAN (Term.int_eval (7)) Au_EXPLICIT_VR_LITTLE_ENDIAN.1).2
  have hu8_EXPLICIT_VR_LITTLE_ENDIAN : cu_EXPLICIT_VR_LITTLE_ENDIAN.slots[8]? = some (.int (49 : Int32)) := (elem_in (eqv_i (Term.int_eval (49)) n91) eu_EXPLICIT_VR_LITTLE_ENDIAN (Term.int_eval (8)) Au_EXPLICIT_VR_LITTLE_ENDIAN.1).2
  have hu9_EXPLICIT_VR_LITTLE_ENDIAN : cu_EXPLICIT_VR_LITTLE_ENDIAN.slots[9]? = some (.int (48 : Int32)) := (elem_in (eqv_i (Term.int_eval (48)) n93) eu_EXPLICIT_VR_LITTLE_ENDIAN (Term.int_eval (9)) Au_EXPLICIT_VR_LITTLE_ENDIAN.1).2
  have hu10_EXPLICIT_VR_LITTLE_ENDIAN : cu_EXPLICIT_VR_LITTLE_ENDIAN.slots[10]? = some (.int (48 : Int32)) := (elem_in (eqv_i (Term.int_eval (48)) n95) eu_EXPLICIT_VR_LITTLE_ENDIAN (Term.int_eval (10)) Au_EXPLICIT_VR_LITTLE_ENDIAN.1).2
  have hu11_EXPLICIT_VR_LITTLE_ENDIAN : cu_EXPLICIT_VR_LITTLE_ENDIAN.slots[11]? = some (.int (48 : Int32)) := (elem_in (eqv_i (Term.int_eval (48)) n97) eu_EXPLICIT_VR_LITTLE_ENDIAN (Term.int_eval (11)) Au_EXPLICIT_VR_LITTLE_ENDIAN.1).2
  have hu12_EXPLICIT_VR_LITTLE_ENDIAN : cu_EXPLICIT_VR_LITTLE_ENDIAN.slots[12]? = some (.int (56 : Int32)) := (elem_in (eqv_i (Term.int_eval (56)) n99) eu_EXPLICIT_VR_LITTLE_ENDIAN (Term.int_eval (12)) Au_EXPLICIT_VR_LITTLE_ENDIAN.1).2
  have hu13_EXPLICIT_VR_LITTLE_ENDIAN : cu_EXPLICIT_VR_LITTLE_ENDIAN.slots[13]? = some (.int (46 : Int32)) := (elem_in (eqv_i (Term.int_eval (46)) n101) eu_EXPLICIT_VR_LITTLE_ENDIAN (Term.int_eval (13)) Au_EXPLICIT_VR_LITTLE_ENDIAN.1).2
  have hu14_EXPLICIT_VR_LITTLE_ENDIAN : cu_EXPLICIT_VR_LITTLE_ENDIAN.slots[14]? = some (.int (49 : Int32)) := (elem_in (eqv_i (Term.int_eval (49)) n103) eu_EXPLICIT_VR_LITTLE_ENDIAN (Term.int_eval (14)) Au_EXPLICIT_VR_LITTLE_ENDIAN.1).2
  have hu15_EXPLICIT_VR_LITTLE_ENDIAN : cu_EXPLICIT_VR_LITTLE_ENDIAN.slots[15]? = some (.int (46 : Int32)) := (elem_in (eqv_i (Term.int_eval (46)) n105) eu_EXPLICIT_VR_LITTLE_ENDIAN (Term.int_eval (15)) Au_EXPLICIT_VR_LITTLE_ENDIAN.1).2
  have hu16_EXPLICIT_VR_LITTLE_ENDIAN : cu_EXPLICIT_VR_LITTLE_ENDIAN.slots[16]? = some (.int (50 : Int32)) := (elem_in (eqv_i (Term.int_eval (50)) n107) eu_EXPLICIT_VR_LITTLE_ENDIAN (Term.int_eval (16)) Au_EXPLICIT_VR_LITTLE_ENDIAN.1).2
  have hu17_EXPLICIT_VR_LITTLE_ENDIAN : cu_EXPLICIT_VR_LITTLE_ENDIAN.slots[17]? = some (.int (46 : Int32)) := (elem_in (eqv_i (Term.int_eval (46)) n109) eu_EXPLICIT_VR_LITTLE_ENDIAN (Term.int_eval (17)) Au_EXPLICIT_VR_LITTLE_ENDIAN.1).2
  have hu18_EXPLICIT_VR_LITTLE_ENDIAN : cu_EXPLICIT_VR_LITTLE_ENDIAN.slots[18]? = some (.int (49 : Int32)) := (elem_in (eqv_i (Term.int_eval (49)) n110) eu_EXPLICIT_VR_LITTLE_ENDIAN (Term.int_eval (18)) Au_EXPLICIT_VR_LITTLE_ENDIAN.1).2
  have Vt_EXPLICIT_VR_LITTLE_ENDIAN : Arv s s.heap u_EXPLICIT_VR_LITTLE_ENDIAN cu_EXPLICIT_VR_LITTLE_ENDIAN.cls .byte (19 : Int32) [(.int (49 : Int32)), (.int (46 : Int32)), (.int (50 : Int32)), (.int (46 : Int32)), (.int (56 : Int32)), (.int (52 : Int32)), (.int (48 : Int32)), (.int (46 : Int32)), (.int (49 : Int32)), (.int (48 : Int32)), (.int (48 : Int32)), (.int (48 : Int32)), (.int (56 : Int32)), (.int (46 : Int32)), (.int (49 : Int32)), (.int (46 : Int32)), (.int (50 : Int32)), (.int (46 : Int32)), (.int (49 : Int32))] (.int (0 : Int32)) := Arv.start hfit Au_EXPLICIT_VR_LITTLE_ENDIAN lu1_EXPLICIT_VR_LITTLE_ENDIAN lu2_EXPLICIT_VR_LITTLE_ENDIAN (by decide) rfl ⟨hu0_EXPLICIT_VR_LITTLE_ENDIAN, hu1_EXPLICIT_VR_LITTLE_ENDIAN, hu2_EXPLICIT_VR_LITTLE_ENDIAN, hu3_EXPLICIT_VR_LITTLE_ENDIAN, hu4_EXPLICIT_VR_LITTLE_ENDIAN, hu5_EXPLICIT_VR_LITTLE_ENDIAN, hu6_EXPLICIT_VR_LITTLE_ENDIAN, hu7_EXPLICIT_VR_LITTLE_ENDIAN, hu8_EXPLICIT_VR_LITTLE_ENDIAN, hu9_EXPLICIT_VR_LITTLE_ENDIAN, hu10_EXPLICIT_VR_LITTLE_ENDIAN, hu11_EXPLICIT_VR_LITTLE_ENDIAN, hu12_EXPLICIT_VR_LITTLE_ENDIAN, hu13_EXPLICIT_VR_LITTLE_ENDIAN, hu14_EXPLICIT_VR_LITTLE_ENDIAN, hu15_EXPLICIT_VR_LITTLE_ENDIAN, hu16_EXPLICIT_VR_LITTLE_ENDIAN, hu17_EXPLICIT_VR_LITTLE_ENDIAN, hu18_EXPLICIT_VR_LITTLE_ENDIAN, trivial⟩
  have E_ALL : Exa s s.heap al "[Lcom/example/tesserae/tesserae/dicom/TransferSyntax;" := Exa.start eal n13
  obtain ⟨n, o, h1, h2, h3, _, L, rfl, ⟨rfl, N⟩, hq⟩ := rm0 l s _ hw tables_1 i0 i1 i2 i3 i4 cs sf al cal.cls a_IMPLICIT_VR_LITTLE_ENDIAN t_IMPLICIT_VR_LITTLE_ENDIAN u_IMPLICIT_VR_LITTLE_ENDIAN cu_IMPLICIT_VR_LITTLE_ENDIAN.cls a_EXPLICIT_VR_LITTLE_ENDIAN t_EXPLICIT_VR_LITTLE_ENDIAN u_EXPLICIT_VR_LITTLE_ENDIAN cu_EXPLICIT_VR_LITTLE_ENDIAN.cls s.heap s.heap.size (Nat.le_refl _) (Old.start s) hcalls.1 hcw0 S_cs hcs S_sf rsf S_ALL E_ALL V_ALL S_IMPLICIT_VR_LITTLE_ENDIAN E_IMPLICIT_VR_LITTLE_ENDIAN F_IMPLICIT_VR_LITTLE_ENDIAN Et_IMPLICIT_VR_LITTLE_ENDIAN Fc_IMPLICIT_VR_LITTLE_ENDIAN Fv_IMPLICIT_VR_LITTLE_ENDIAN Vt_IMPLICIT_VR_LITTLE_ENDIAN S_EXPLICIT_VR_LITTLE_ENDIAN E_EXPLICIT_VR_LITTLE_ENDIAN F_EXPLICIT_VR_LITTLE_ENDIAN Et_EXPLICIT_VR_LITTLE_ENDIAN Fc_EXPLICIT_VR_LITTLE_ENDIAN Fv_EXPLICIT_VR_LITTLE_ENDIAN Vt_EXPLICIT_VR_LITTLE_ENDIAN p e ha hc hk s m _ below hf ((Spec.applies_iff_loose hf).mp happ).1 ⟨rfl, rfl, rfl⟩ trivial
  refine ⟨n, _, h1, h2, h3, hpost _ _ _ _ _ _ ⟨Cond.after_iff.mpr rfl, Cond.after_iff.mpr (eq_i res_at (Term.int_eval (1)) rfl), trivial⟩ ⟨hq.1, hq.2.1, hq.2.2.1, (hq.2.2.2.sift fun y hy => Or.inr (N y hy)).mono (by decide) (by decide)⟩⟩
theorem main_1_1 : Claimed_1_1 := comes_1 fun _ _ _ _ _ _ h hF => ⟨h.1, hF⟩
theorem main_1_2 : Claimed_1_2 := comes_1 fun _ _ _ _ _ _ h hF => ⟨h.2.1, hF⟩
end Jvm.Pilot.@@N@@
namespace Jvm.Pilot.@@N@@
open Jvm Jvm.ClassFile Sem Op Lib Jvm.Free Jvm.Stand Jvm.Pilot.@@N@@.Jvm.D
/-! MADE BY PROGRAM (witnessworld.py) out of the Statement's table words and the real class files: 22 classes; the members and pool entries that the words name. The judged class is class 1, her method 1. -/
namespace start1
open Jvm.ClassFile
def u (s : String) : CpInfo := .utf8 (stringToUtf16 s)
/-- a pool by its gaps: so many unusable entries, then the entry; so many at the end -/
def gap : Nat → List CpInfo → List CpInfo
  | 0, r => r
  | n + 1, r => .unusable :: gap n r
def poolList (es : List (Nat × CpInfo)) (last : Nat) : List CpInfo := es.foldr (fun e r => gap e.1 (e.2 :: r)) (gap last [])
def pool (es : List (Nat × CpInfo)) (last : Nat) : Array CpInfo := ⟨poolList es last⟩
def fileOf (pool : Array CpInfo) (this : Nat) (attrs : Array Attribute := #[]) (ms : Array MethodInfo := #[]) (fl : Nat := 33) (sup : Nat := 0) (ifs : Array Nat := #[]) (fds : Array FieldInfo := #[]) : ClassFile where
  minorVersion := 0
  majorVersion := 65
  constantPool := pool
  accessFlags := fl
  thisClass := this
  superClass := sup
  interfaces := ifs
  fields := fds
  methods := ms
  attributes := attrs
def plain (name : String) (sup : Option ClassId) : Class where
  name := name
  kind := .ordinary
  loader := none
  accessFlags := 33
  super := sup
  interfaces := #[]
  cf := none
  fields := #[]
  methods := #[]
  instanceTypes := #[]
  staticTypes := #[]
  resolved := #[]
  callSites := []
  init := .initialized
  statics := none
  mirror := none

def pool0 : Array CpInfo := pool [(5, u "<init>"), (0, u "()V"), (1, .class_ 10), (1, u "java/lang/Object"), (85, u "clone"), (0, u "()Ljava/lang/Object;")] 26

def k0c0 : Code := { maxStack := 0, maxLocals := 1, code := object_method_1_code, exceptionTable := #[], attributes := #[] }
def k0m0 : Method := { name := "<init>", desc := "()V", sig := { parameters := [], returnType := none }, accessFlags := 1, code := some k0c0 }
def k0m1 : Method := { name := "clone", desc := "()Ljava/lang/Object;", sig := { parameters := [], returnType := some (.object "java/lang/Object") }, accessFlags := 260, code := none }
/-- java/lang/Object -/
def k0 : Class := { plain "java/lang/Object" none with
  accessFlags := 33
  interfaces := #[]
  cf := some (fileOf pool0 8 #[] #[{ accessFlags := 1, nameIndex := 5, descriptorIndex := 6, attributes := #[] }, { accessFlags := 260, nameIndex := 96, descriptorIndex := 97, attributes := #[] }] 33 0 #[] #[])
  fields := #[]
  methods := #[k0m0, k0m1]
  instanceTypes := #[]
  staticTypes := #[]
  resolved := Array.replicate 124 none
  statics := none }

def pool1 : Array CpInfo := pool [(2, .class_ 4), (1, u "java/lang/Object"), (0, u "<init>"), (0, u "()V"), (0, .string 8), (0, u "1.2.840.10008.1.2"), (0, .string 10), (0, u "1.2.840.10008.1.2.1"), (0, .methodref 12 13), (0, .class_ 14), (0, .nameAndType 15 16), (0, u "com/example/tesserae/tesserae/dicom/TransferSyntaxForUidPinLaw"), (0, u "make"), (0, u "(I)[C"), (0, .methodref 12 18), (0, .nameAndType 19 20), (0, u "fill"), (0, u "([CLjava/lang/String;ICCC)V"), (0, .class_ 22), (0, u "java/lang/String"), (0, .methodref 21 24), (0, .nameAndType 5 25), (0, u "([C)V"), (0, .methodref 27 28), (0, .class_ 29), (0, .nameAndType 30 31), (0, u "com/example/tesserae/tesserae/dicom/TransferSyntax"), (0, u "forUid"), (0, u "(Ljava/lang/String;)Lcom/example/tesserae/tesserae/dicom/TransferSyntax;"), (0, .methodref 21 33), (0, .nameAndType 34 35), (0, u "equals"), (0, u "(Ljava/lang/Object;)Z"), (0, .fieldref 27 37), (0, .nameAndType 38 39), (0, u "IMPLICIT_VR_LITTLE_ENDIAN"), (0, u "Lcom/example/tesserae/tesserae/dicom/TransferSyntax;"), (0, .fieldref 27 41), (0, .nameAndType 42 39), (0, u "EXPLICIT_VR_LITTLE_ENDIAN"), (0, .methodref 12 44), (0, .nameAndType 45 46), (0, u "set"), (0, u "([CILjava/lang/String;ICCC)V"), (0, .methodref 21 48), (0, .nameAndType 49 50), (0, u "length"), (0, u "()I"), (0, .methodref 21 52), (0, .nameAndType 53 54), (0, u "charAt"), (0, u "(I)C"), (2, u "law"), (0, u "(IIIII)Z")] 3

def k1m0 : Method := { name := "<init>", desc := "()V", sig := { parameters := [], returnType := none }, accessFlags := 1, code := none }
def k1c1 : Code := { maxStack := 6, maxLocals := 14, code := code, exceptionTable := #[], attributes := #[] }
def k1m1 : Method := { name := "law", desc := "(IIIII)Z", sig := { parameters := [.int, .int, .int, .int, .int], returnType := some .boolean }, accessFlags := 9, code := some k1c1 }
def k1c2 : Code := { maxStack := 2, maxLocals := 1, code := method_3_code, exceptionTable := #[], attributes := #[] }
def k1m2 : Method := { name := "make", desc := "(I)[C", sig := { parameters := [.int], returnType := some (.array .char) }, accessFlags := 10, code := some k1c2 }
def k1c3 : Code := { maxStack := 7, maxLocals := 6, code := method_4_code, exceptionTable := #[], attributes := #[] }
def k1m3 : Method := { name := "fill", desc := "([CLjava/lang/String;ICCC)V", sig := { parameters := [(.array .char), (.object "java/lang/String"), .int, .char, .char, .char], returnType := none }, accessFlags := 10, code := some k1c3 }
def k1c4 : Code := { maxStack := 4, maxLocals := 7, code := method_5_code, exceptionTable := #[], attributes := #[] }
def k1m4 : Method := { name := "set", desc := "([CILjava/lang/String;ICCC)V", sig := { parameters := [(.array .char), .int, (.object "java/lang/String"), .int, .char, .char, .char], returnType := none }, accessFlags := 10, code := some k1c4 }
/-- com/example/tesserae/tesserae/dicom/TransferSyntaxForUidPinLaw -/
def k1 : Class := { plain "com/example/tesserae/tesserae/dicom/TransferSyntaxForUidPinLaw" (some 0) with
  accessFlags := 49
  interfaces := #[]
  cf := some (fileOf pool1 12 #[] #[{ accessFlags := 1, nameIndex := 5, descriptorIndex := 6, attributes := #[] }, { accessFlags := 9, nameIndex := 57, descriptorIndex := 58, attributes := #[] }, { accessFlags := 10, nameIndex := 15, descriptorIndex := 16, attributes := #[] }, { accessFlags := 10, nameIndex := 19, descriptorIndex := 20, attributes := #[] }, { accessFlags := 10, nameIndex := 45, descriptorIndex := 46, attributes := #[] }] 49 2 #[] #[])
  fields := #[]
  methods := #[k1m0, k1m1, k1m2, k1m3, k1m4]
  instanceTypes := #[]
  staticTypes := #[]
  resolved := Array.replicate 62 none
  statics := none }

def pool2 : Array CpInfo := pool [(1, .class_ 2), (0, u "java/io/Serializable"), (0, .class_ 4), (0, u "java/lang/Object")] 2

/-- java/io/Serializable -/
def k2 : Class := { plain "java/io/Serializable" (some 0) with
  accessFlags := 1537
  interfaces := #[]
  cf := some (fileOf pool2 1 #[] #[] 1537 3 #[] #[])
  fields := #[]
  methods := #[]
  instanceTypes := #[]
  staticTypes := #[]
  resolved := Array.replicate 7 none
  statics := none }

def pool3 : Array CpInfo := pool [(1, .class_ 2), (0, u "java/lang/Comparable"), (0, .class_ 4), (0, u "java/lang/Object")] 7

/-- java/lang/Comparable -/
def k3 : Class := { plain "java/lang/Comparable" (some 0) with
  accessFlags := 1537
  interfaces := #[]
  cf := some (fileOf pool3 1 #[] #[] 1537 3 #[] #[])
  fields := #[]
  methods := #[]
  instanceTypes := #[]
  staticTypes := #[]
  resolved := Array.replicate 12 none
  statics := none }

def pool4 : Array CpInfo := pool [(2, .class_ 4), (1, u "java/lang/CharSequence"), (42, .class_ 48), (0, u "java/lang/CharSequence$1CodePointIterator"), (10, .class_ 60), (0, u "java/lang/CharSequence$1CharIterator"), (5, .class_ 67), (0, u "java/lang/Object")] 63

/-- java/lang/CharSequence -/
def k4 : Class := { plain "java/lang/CharSequence" (some 0) with
  accessFlags := 1537
  interfaces := #[]
  cf := some (fileOf pool4 2 #[.nestMembers #[47, 59]] #[] 1537 66 #[] #[])
  fields := #[]
  methods := #[]
  instanceTypes := #[]
  staticTypes := #[]
  resolved := Array.replicate 131 none
  statics := none }

def pool5 : Array CpInfo := pool [(1, .class_ 2), (0, u "java/lang/constant/Constable"), (0, .class_ 4), (0, u "java/lang/Object")] 6

/-- java/lang/constant/Constable -/
def k5 : Class := { plain "java/lang/constant/Constable" (some 0) with
  accessFlags := 1537
  interfaces := #[]
  cf := some (fileOf pool5 1 #[] #[] 1537 3 #[] #[])
  fields := #[]
  methods := #[]
  instanceTypes := #[]
  staticTypes := #[]
  resolved := Array.replicate 11 none
  statics := none }

def pool6 : Array CpInfo := pool [(1, .class_ 2), (0, u "java/lang/constant/ConstantDesc"), (0, .class_ 4), (0, u "java/lang/Object")] 32

/-- java/lang/constant/ConstantDesc -/
def k6 : Class := { plain "java/lang/constant/ConstantDesc" (some 0) with
  accessFlags := 1537
  interfaces := #[]
  cf := some (fileOf pool6 1 #[] #[] 1537 3 #[] #[])
  fields := #[]
  methods := #[]
  instanceTypes := #[]
  staticTypes := #[]
  resolved := Array.replicate 37 none
  statics := none }

def pool7 : Array CpInfo := pool [(1, .methodref 2 3), (0, .class_ 4), (0, .nameAndType 5 6), (0, u "java/lang/Object"), (0, u "<init>"), (0, u "()V"), (0, .string 8), (0, u ""), (0, .fieldref 10 11), (0, .class_ 12), (0, .nameAndType 13 14), (0, u "java/lang/String"), (0, u "value"), (0, u "[B"), (0, .fieldref 10 16), (0, .nameAndType 17 18), (0, u "coder"), (0, u "B"), (2, u "hash"), (0, u "I"), (2, u "hashIsZero"), (0, u "Z"), (0, .methodref 10 28), (0, .nameAndType 5 29), (0, u "([CIILjava/lang/Void;)V"), (8, .fieldref 10 39), (0, .nameAndType 40 26), (0, u "COMPACT_STRINGS"), (1, .class_ 44), (1, u "java/lang/StringUTF16"), (0, u "compress"), (1, .methodref 42 48), (0, .nameAndType 49 50), (0, u "coderFromArrayLen"), (0, u "([BI)B"), (56, .class_ 109), (1, u "java/lang/StringLatin1"), (32, u "()Z"), (34, .methodref 42 178), (0, .nameAndType 45 179), (0, u "([CII)[B"), (154, u "()I"), (0, .methodref 10 336), (0, .nameAndType 17 337), (0, u "()B"), (25, u "([BI)C"), (27, u "(II)V"), (35, u "(I)C"), (64, .methodref 10 493), (0, .nameAndType 494 142), (0, u "isLatin1"), (0, .methodref 107 496), (0, .nameAndType 497 363), (0, u "charAt"), (3, u "checkIndex"), (5, u "length"), (33, .methodref 107 542), (0, .nameAndType 543 544), (0, u "equals"), (0, u "([B[B)Z"), (28, u "(Ljava/lang/Object;)Z"), (1, .class_ 576), (0, u "java/lang/CharSequence"), (22, u "CASE_INSENSITIVE_ORDER"), (0, u "Ljava/util/Comparator;"), (409, u "([C)V"), (42, .fieldref 1054 1055), (0, .class_ 1056), (0, .nameAndType 1057 1058), (0, u "jdk/internal/util/Preconditions"), (0, u "SIOOBE_FORMATTER"), (0, u "Ljava/util/function/BiFunction;"), (0, .methodref 1054 1060), (0, .nameAndType 501 1061), (0, u "(IILjava/util/function/BiFunction;)I"), (39, u "serialPersistentFields"), (0, u "[Ljava/io/ObjectStreamField;"), (0, .class_ 1104), (0, u "java/lang/String$CaseInsensitiveComparator"), (1, .class_ 1107), (0, u "java/io/Serializable"), (0, .class_ 1109), (0, u "java/lang/Comparable"), (0, .class_ 1111), (0, u "java/lang/constant/Constable"), (0, .class_ 1113), (0, u "java/lang/constant/ConstantDesc"), (2, u "serialVersionUID"), (0, u "J"), (3, u "REPL"), (0, u "C"), (2, u "LATIN1"), (1, u "UTF16")] 323

def k7m0 : Method := { name := "<init>", desc := "()V", sig := { parameters := [], returnType := none }, accessFlags := 1, code := none }
def k7c1 : Code := { maxStack := 5, maxLocals := 2, code := jdk_42_method_3_code, exceptionTable := #[], attributes := #[] }
def k7m1 : Method := { name := "<init>", desc := "([C)V", sig := { parameters := [(.array .char)], returnType := none }, accessFlags := 1, code := some k7c1 }
def k7c2 : Code := { maxStack := 2, maxLocals := 1, code := jdk_42_method_54_code, exceptionTable := #[], attributes := #[] }
def k7m2 : Method := { name := "length", desc := "()I", sig := { parameters := [], returnType := some .int }, accessFlags := 1, code := some k7c2 }
def k7c3 : Code := { maxStack := 2, maxLocals := 2, code := jdk_42_method_56_code, exceptionTable := #[], attributes := #[] }
def k7m3 : Method := { name := "charAt", desc := "(I)C", sig := { parameters := [.int], returnType := some .char }, accessFlags := 1, code := some k7c3 }
def k7c4 : Code := { maxStack := 2, maxLocals := 3, code := jdk_42_method_66_code, exceptionTable := #[], attributes := #[] }
def k7m4 : Method := { name := "equals", desc := "(Ljava/lang/Object;)Z", sig := { parameters := [(.object "java/lang/Object")], returnType := some .boolean }, accessFlags := 1, code := some k7c4 }
def k7c5 : Code := { maxStack := 4, maxLocals := 6, code := jdk_42_method_149_code, exceptionTable := #[], attributes := #[] }
def k7m5 : Method := { name := "<init>", desc := "([CIILjava/lang/Void;)V", sig := { parameters := [(.array .char), .int, .int, (.object "java/lang/Void")], returnType := none }, accessFlags := 2, code := some k7c5 }
def k7c6 : Code := { maxStack := 1, maxLocals := 1, code := jdk_42_method_152_code, exceptionTable := #[], attributes := #[] }
def k7m6 : Method := { name := "coder", desc := "()B", sig := { parameters := [], returnType := some .byte }, accessFlags := 0, code := some k7c6 }
def k7c7 : Code := { maxStack := 1, maxLocals := 1, code := jdk_42_method_154_code, exceptionTable := #[], attributes := #[] }
def k7m7 : Method := { name := "isLatin1", desc := "()Z", sig := { parameters := [], returnType := some .boolean }, accessFlags := 0, code := some k7c7 }
def k7c8 : Code := { maxStack := 3, maxLocals := 2, code := jdk_42_method_155_code, exceptionTable := #[], attributes := #[] }
def k7m8 : Method := { name := "checkIndex", desc := "(II)V", sig := { parameters := [.int, .int], returnType := none }, accessFlags := 8, code := some k7c8 }
/-- java/lang/String -/
def k7 : Class := { plain "java/lang/String" (some 0) with
  accessFlags := 49
  interfaces := #[2, 3, 4, 5, 6]
  cf := some (fileOf pool7 10 #[.nestMembers #[1103]] #[{ accessFlags := 1, nameIndex := 5, descriptorIndex := 6, attributes := #[] }, { accessFlags := 1, nameIndex := 5, descriptorIndex := 1010, attributes := #[] }, { accessFlags := 1, nameIndex := 507, descriptorIndex := 334, attributes := #[] }, { accessFlags := 1, nameIndex := 497, descriptorIndex := 427, attributes := #[] }, { accessFlags := 1, nameIndex := 543, descriptorIndex := 573, attributes := #[] }, { accessFlags := 2, nameIndex := 5, descriptorIndex := 29, attributes := #[] }, { accessFlags := 0, nameIndex := 17, descriptorIndex := 337, attributes := #[] }, { accessFlags := 0, nameIndex := 494, descriptorIndex := 142, attributes := #[] }, { accessFlags := 8, nameIndex := 501, descriptorIndex := 391, attributes := #[] }] 49 2 #[1106, 1108, 575, 1110, 1112] #[{ accessFlags := 18, nameIndex := 13, descriptorIndex := 14, attributes := #[] }, { accessFlags := 18, nameIndex := 17, descriptorIndex := 18, attributes := #[] }, { accessFlags := 2, nameIndex := 21, descriptorIndex := 22, attributes := #[] }, { accessFlags := 2, nameIndex := 25, descriptorIndex := 26, attributes := #[] }, { accessFlags := 26, nameIndex := 1116, descriptorIndex := 1117, attributes := #[] }, { accessFlags := 24, nameIndex := 40, descriptorIndex := 26, attributes := #[] }, { accessFlags := 26, nameIndex := 1101, descriptorIndex := 1102, attributes := #[] }, { accessFlags := 26, nameIndex := 1121, descriptorIndex := 1122, attributes := #[] }, { accessFlags := 25, nameIndex := 599, descriptorIndex := 600, attributes := #[] }, { accessFlags := 24, nameIndex := 1125, descriptorIndex := 18, attributes := #[] }, { accessFlags := 24, nameIndex := 1127, descriptorIndex := 18, attributes := #[] }])
  fields := #[{ name := "value", type := (.array .byte), accessFlags := 18, slot := 0, constantValue := 0 }, { name := "coder", type := .byte, accessFlags := 18, slot := 1, constantValue := 0 }, { name := "hash", type := .int, accessFlags := 2, slot := 2, constantValue := 0 }, { name := "hashIsZero", type := .boolean, accessFlags := 2, slot := 3, constantValue := 0 }, { name := "serialVersionUID", type := .long, accessFlags := 26, slot := 0, constantValue := 0 }, { name := "COMPACT_STRINGS", type := .boolean, accessFlags := 24, slot := 1, constantValue := 0 }, { name := "serialPersistentFields", type := (.array (.object "java/io/ObjectStreamField")), accessFlags := 26, slot := 2, constantValue := 0 }, { name := "REPL", type := .char, accessFlags := 26, slot := 3, constantValue := 0 }, { name := "CASE_INSENSITIVE_ORDER", type := (.object "java/util/Comparator"), accessFlags := 25, slot := 4, constantValue := 0 }, { name := "LATIN1", type := .byte, accessFlags := 24, slot := 5, constantValue := 0 }, { name := "UTF16", type := .byte, accessFlags := 24, slot := 6, constantValue := 0 }]
  methods := #[k7m0, k7m1, k7m2, k7m3, k7m4, k7m5, k7m6, k7m7, k7m8]
  instanceTypes := #[(.array .byte), .byte, .int, .boolean]
  staticTypes := #[.long, .boolean, (.array (.object "java/io/ObjectStreamField")), .char, (.object "java/util/Comparator"), .byte, .byte]
  resolved := Array.replicate 1451 none
  statics := some 0 }

def pool8 : Array CpInfo := pool [(2, .class_ 4), (1, u "java/lang/Enum"), (0, u "name"), (0, u "Ljava/lang/String;"), (2, u "ordinal"), (0, u "I"), (1, .class_ 14), (1, u "java/lang/Object"), (4, u "hash"), (86, .class_ 108), (1, u "java/lang/Enum$EnumDesc"), (2, .class_ 112), (0, u "java/lang/constant/Constable"), (0, .class_ 114), (0, u "java/lang/Comparable"), (0, .class_ 116), (0, u "java/io/Serializable")] 87

/-- java/lang/Enum -/
def k8 : Class := { plain "java/lang/Enum" (some 0) with
  accessFlags := 1057
  interfaces := #[5, 3, 2]
  cf := some (fileOf pool8 2 #[.nestMembers #[106]] #[] 1057 12 #[111, 113, 115] #[{ accessFlags := 18, nameIndex := 5, descriptorIndex := 6, attributes := #[] }, { accessFlags := 18, nameIndex := 9, descriptorIndex := 10, attributes := #[] }, { accessFlags := 2, nameIndex := 19, descriptorIndex := 10, attributes := #[] }])
  fields := #[{ name := "name", type := (.object "java/lang/String"), accessFlags := 18, slot := 0, constantValue := 0 }, { name := "ordinal", type := .int, accessFlags := 18, slot := 1, constantValue := 0 }, { name := "hash", type := .int, accessFlags := 2, slot := 2, constantValue := 0 }]
  methods := #[]
  instanceTypes := #[(.object "java/lang/String"), .int, .int]
  staticTypes := #[]
  resolved := Array.replicate 204 none
  statics := none }

def pool9 : Array CpInfo := pool [(1, .class_ 2), (0, u "com/example/tesserae/tesserae/dicom/TransferSyntax"), (2, u "IMPLICIT_VR_LITTLE_ENDIAN"), (0, u "Lcom/example/tesserae/tesserae/dicom/TransferSyntax;"), (2, u "EXPLICIT_VR_LITTLE_ENDIAN"), (0, .fieldref 1 11), (0, .nameAndType 12 13), (0, u "$VALUES"), (0, u "[Lcom/example/tesserae/tesserae/dicom/TransferSyntax;"), (0, .methodref 15 16), (0, .class_ 13), (0, .nameAndType 17 18), (0, u "clone"), (0, u "()Ljava/lang/Object;"), (1, .class_ 22), (1, u "java/lang/Enum"), (6, .fieldref 1 30), (0, .nameAndType 31 32), (0, u "uid"), (0, u "Ljava/lang/String;"), (2, u "explicitVr"), (0, u "Z"), (0, .methodref 1 38), (0, .nameAndType 39 40), (0, u "values"), (0, u "()[Lcom/example/tesserae/tesserae/dicom/TransferSyntax;"), (0, .methodref 42 43), (0, .class_ 44), (0, .nameAndType 45 46), (0, u "java/lang/String"), (0, u "equals"), (0, u "(Ljava/lang/Object;)Z"), (16, u "(Ljava/lang/String;)Lcom/example/tesserae/tesserae/dicom/TransferSyntax;"), (3, u "forUid")] 10

def k9c0 : Code := { maxStack := 1, maxLocals := 0, code := prog_9_method_1_code, exceptionTable := #[], attributes := #[] }
def k9m0 : Method := { name := "values", desc := "()[Lcom/example/tesserae/tesserae/dicom/TransferSyntax;", sig := { parameters := [], returnType := some (.array (.object "com/example/tesserae/tesserae/dicom/TransferSyntax")) }, accessFlags := 9, code := some k9c0 }
def k9c1 : Code := { maxStack := 2, maxLocals := 5, code := prog_9_method_4_code, exceptionTable := #[], attributes := #[] }
def k9m1 : Method := { name := "forUid", desc := "(Ljava/lang/String;)Lcom/example/tesserae/tesserae/dicom/TransferSyntax;", sig := { parameters := [(.object "java/lang/String")], returnType := some (.object "com/example/tesserae/tesserae/dicom/TransferSyntax") }, accessFlags := 8, code := some k9c1 }
/-- com/example/tesserae/tesserae/dicom/TransferSyntax -/
def k9 : Class := { plain "com/example/tesserae/tesserae/dicom/TransferSyntax" (some 8) with
  accessFlags := 16432
  interfaces := #[]
  cf := some (fileOf pool9 1 #[] #[{ accessFlags := 9, nameIndex := 39, descriptorIndex := 40, attributes := #[] }, { accessFlags := 8, nameIndex := 67, descriptorIndex := 63, attributes := #[] }] 16432 20 #[] #[{ accessFlags := 16409, nameIndex := 5, descriptorIndex := 6, attributes := #[] }, { accessFlags := 16409, nameIndex := 9, descriptorIndex := 6, attributes := #[] }, { accessFlags := 18, nameIndex := 31, descriptorIndex := 32, attributes := #[] }, { accessFlags := 18, nameIndex := 35, descriptorIndex := 36, attributes := #[] }, { accessFlags := 4122, nameIndex := 12, descriptorIndex := 13, attributes := #[] }])
  fields := #[{ name := "IMPLICIT_VR_LITTLE_ENDIAN", type := (.object "com/example/tesserae/tesserae/dicom/TransferSyntax"), accessFlags := 16409, slot := 0, constantValue := 0 }, { name := "EXPLICIT_VR_LITTLE_ENDIAN", type := (.object "com/example/tesserae/tesserae/dicom/TransferSyntax"), accessFlags := 16409, slot := 1, constantValue := 0 }, { name := "uid", type := (.object "java/lang/String"), accessFlags := 18, slot := 3, constantValue := 0 }, { name := "explicitVr", type := .boolean, accessFlags := 18, slot := 4, constantValue := 0 }, { name := "$VALUES", type := (.array (.object "com/example/tesserae/tesserae/dicom/TransferSyntax")), accessFlags := 4122, slot := 2, constantValue := 0 }]
  methods := #[k9m0, k9m1]
  instanceTypes := #[(.object "java/lang/String"), .int, .int, (.object "java/lang/String"), .boolean]
  staticTypes := #[(.object "com/example/tesserae/tesserae/dicom/TransferSyntax"), (.object "com/example/tesserae/tesserae/dicom/TransferSyntax"), (.array (.object "com/example/tesserae/tesserae/dicom/TransferSyntax"))]
  resolved := Array.replicate 78 none
  statics := some 1 }

def pool10 : Array CpInfo := pool [(1, .class_ 2), (0, u "java/lang/Cloneable"), (0, .class_ 4), (0, u "java/lang/Object")] 2

/-- java/lang/Cloneable -/
def k10 : Class := { plain "java/lang/Cloneable" (some 0) with
  accessFlags := 1537
  interfaces := #[]
  cf := some (fileOf pool10 1 #[] #[] 1537 3 #[] #[])
  fields := #[]
  methods := #[]
  instanceTypes := #[]
  staticTypes := #[]
  resolved := Array.replicate 7 none
  statics := none }

def pool11 : Array CpInfo := pool [(1, .class_ 2), (0, u "java/lang/String"), (1, .class_ 6), (1, u "java/lang/Object"), (0, u "<init>"), (0, u "()V"), (0, .methodref 1 10), (0, .nameAndType 11 12), (0, u "checkIndex"), (0, u "(II)V"), (1, .class_ 16), (1, u "java/lang/StringLatin1"), (36, u "([BI)C"), (67, u "$assertionsDisabled"), (0, u "Z"), (98, .class_ 223), (1, u "java/lang/StringLatin1$LinesSpliterator"), (28, u "charAt"), (28, u "equals"), (0, u "([B[B)Z"), (107, .class_ 391), (0, u "java/lang/StringLatin1$CharsSpliterator")] 3

def k11m0 : Method := { name := "<init>", desc := "()V", sig := { parameters := [], returnType := none }, accessFlags := 0, code := none }
def k11c1 : Code := { maxStack := 2, maxLocals := 2, code := jdk_43_method_2_code, exceptionTable := #[], attributes := #[] }
def k11m1 : Method := { name := "charAt", desc := "([BI)C", sig := { parameters := [(.array .byte), .int], returnType := some .char }, accessFlags := 9, code := some k11c1 }
def k11c2 : Code := { maxStack := 3, maxLocals := 3, code := jdk_43_method_13_code, exceptionTable := #[], attributes := #[] }
def k11m2 : Method := { name := "equals", desc := "([B[B)Z", sig := { parameters := [(.array .byte), (.array .byte)], returnType := some .boolean }, accessFlags := 9, code := some k11c2 }
/-- java/lang/StringLatin1 -/
def k11 : Class := { plain "java/lang/StringLatin1" (some 0) with
  accessFlags := 48
  interfaces := #[]
  cf := some (fileOf pool11 14 #[.nestMembers #[390, 221]] #[{ accessFlags := 0, nameIndex := 7, descriptorIndex := 8, attributes := #[] }, { accessFlags := 9, nameIndex := 252, descriptorIndex := 53, attributes := #[] }, { accessFlags := 9, nameIndex := 281, descriptorIndex := 282, attributes := #[] }] 48 4 #[] #[{ accessFlags := 4120, nameIndex := 121, descriptorIndex := 122, attributes := #[] }])
  fields := #[{ name := "$assertionsDisabled", type := .boolean, accessFlags := 4120, slot := 0, constantValue := 0 }]
  methods := #[k11m0, k11m1, k11m2]
  instanceTypes := #[]
  staticTypes := #[.boolean]
  resolved := Array.replicate 395 none
  statics := none }

def pool12 : Array CpInfo := pool [(2, .class_ 4), (1, u "java/lang/Object"), (0, u "<init>"), (0, u "()V"), (17, .class_ 26), (1, u "jdk/internal/util/Preconditions"), (6, u "checkIndex"), (21, .class_ 56), (0, u "jdk/internal/util/Preconditions$4"), (57, .class_ 115), (0, u "jdk/internal/util/Preconditions$1"), (7, u "SIOOBE_FORMATTER"), (0, u "Ljava/util/function/BiFunction;"), (0, .class_ 126), (0, u "jdk/internal/util/Preconditions$2"), (3, u "AIOOBE_FORMATTER"), (0, .class_ 132), (0, u "jdk/internal/util/Preconditions$3"), (3, u "IOOBE_FORMATTER"), (41, u "(IILjava/util/function/BiFunction;)I")] 15

def k12m0 : Method := { name := "<init>", desc := "()V", sig := { parameters := [], returnType := none }, accessFlags := 1, code := none }
def k12c1 : Code := { maxStack := 3, maxLocals := 3, code := jdk_41_method_11_code, exceptionTable := #[], attributes := #[] }
def k12m1 : Method := { name := "checkIndex", desc := "(IILjava/util/function/BiFunction;)I", sig := { parameters := [.int, .int, (.object "java/util/function/BiFunction")], returnType := some .int }, accessFlags := 9, code := some k12c1 }
/-- jdk/internal/util/Preconditions -/
def k12 : Class := { plain "jdk/internal/util/Preconditions" (some 0) with
  accessFlags := 33
  interfaces := #[]
  cf := some (fileOf pool12 24 #[.nestMembers #[55, 131, 125, 114]] #[{ accessFlags := 1, nameIndex := 5, descriptorIndex := 6, attributes := #[] }, { accessFlags := 9, nameIndex := 33, descriptorIndex := 178, attributes := #[] }] 33 2 #[] #[{ accessFlags := 25, nameIndex := 123, descriptorIndex := 124, attributes := #[] }, { accessFlags := 25, nameIndex := 130, descriptorIndex := 124, attributes := #[] }, { accessFlags := 25, nameIndex := 136, descriptorIndex := 124, attributes := #[] }])
  fields := #[{ name := "SIOOBE_FORMATTER", type := (.object "java/util/function/BiFunction"), accessFlags := 25, slot := 0, constantValue := 0 }, { name := "AIOOBE_FORMATTER", type := (.object "java/util/function/BiFunction"), accessFlags := 25, slot := 1, constantValue := 0 }, { name := "IOOBE_FORMATTER", type := (.object "java/util/function/BiFunction"), accessFlags := 25, slot := 2, constantValue := 0 }]
  methods := #[k12m0, k12m1]
  instanceTypes := #[]
  staticTypes := #[(.object "java/util/function/BiFunction"), (.object "java/util/function/BiFunction"), (.object "java/util/function/BiFunction")]
  resolved := Array.replicate 194 none
  statics := some 2 }

def pool13 : Array CpInfo := pool [(6, .class_ 8), (1, u "java/lang/Object"), (0, u "<init>"), (0, u "()V"), (1, .class_ 14), (1, u "java/lang/StringUTF16"), (31, u "$assertionsDisabled"), (0, u "Z"), (13, u "HI_BYTE_SHIFT"), (0, u "I"), (2, u "LO_BYTE_SHIFT"), (49, .methodref 12 116), (0, .nameAndType 117 118), (0, u "compress"), (0, u "([CI[BII)I"), (3, u "([CII)[B"), (138, u "coderFromArrayLen"), (0, u "([BI)B"), (106, .class_ 371), (1, u "java/lang/StringUTF16$LinesSpliterator"), (58, u "MAX_LENGTH"), (196, .class_ 628), (0, u "java/lang/StringUTF16$CodePointsSpliterator"), (0, .class_ 630), (0, u "java/lang/StringUTF16$CharsSpliterator")] 4

def k13m0 : Method := { name := "<init>", desc := "()V", sig := { parameters := [], returnType := none }, accessFlags := 0, code := none }
def k13c1 : Code := { maxStack := 2, maxLocals := 2, code := jdk_52_method_15_code, exceptionTable := #[], attributes := #[] }
def k13m1 : Method := { name := "coderFromArrayLen", desc := "([BI)B", sig := { parameters := [(.array .byte), .int], returnType := some .byte }, accessFlags := 8, code := some k13c1 }
def k13c2 : Code := { maxStack := 5, maxLocals := 6, code := jdk_52_method_16_code, exceptionTable := #[], attributes := #[] }
def k13m2 : Method := { name := "compress", desc := "([CII)[B", sig := { parameters := [(.array .char), .int, .int], returnType := some (.array .byte) }, accessFlags := 9, code := some k13c2 }
def k13c3 : Code := { maxStack := 3, maxLocals := 7, code := jdk_52_method_21_code, exceptionTable := #[], attributes := #[] }
def k13m3 : Method := { name := "compress", desc := "([CI[BII)I", sig := { parameters := [(.array .char), .int, (.array .byte), .int, .int], returnType := some .int }, accessFlags := 9, code := some k13c3 }
/-- java/lang/StringUTF16 -/
def k13 : Class := { plain "java/lang/StringUTF16" (some 0) with
  accessFlags := 48
  interfaces := #[]
  cf := some (fileOf pool13 12 #[.nestMembers #[627, 629, 369]] #[{ accessFlags := 0, nameIndex := 9, descriptorIndex := 10, attributes := #[] }, { accessFlags := 8, nameIndex := 261, descriptorIndex := 262, attributes := #[] }, { accessFlags := 9, nameIndex := 117, descriptorIndex := 122, attributes := #[] }, { accessFlags := 9, nameIndex := 117, descriptorIndex := 118, attributes := #[] }] 48 6 #[] #[{ accessFlags := 26, nameIndex := 61, descriptorIndex := 62, attributes := #[] }, { accessFlags := 26, nameIndex := 65, descriptorIndex := 62, attributes := #[] }, { accessFlags := 24, nameIndex := 430, descriptorIndex := 62, attributes := #[] }, { accessFlags := 4120, nameIndex := 46, descriptorIndex := 47, attributes := #[] }])
  fields := #[{ name := "HI_BYTE_SHIFT", type := .int, accessFlags := 26, slot := 0, constantValue := 0 }, { name := "LO_BYTE_SHIFT", type := .int, accessFlags := 26, slot := 1, constantValue := 0 }, { name := "MAX_LENGTH", type := .int, accessFlags := 24, slot := 2, constantValue := 0 }, { name := "$assertionsDisabled", type := .boolean, accessFlags := 4120, slot := 3, constantValue := 0 }]
  methods := #[k13m0, k13m1, k13m2, k13m3]
  instanceTypes := #[]
  staticTypes := #[.int, .int, .int, .boolean]
  resolved := Array.replicate 635 none
  statics := none }

def pool14 : Array CpInfo := pool [(9, u "<init>"), (6, .class_ 18), (1, u "java/lang/Object"), (0, u "()V"), (1, .class_ 23), (1, u "jdk/internal/util/ArraysSupport"), (0, u "LOG2_ARRAY_LONG_INDEX_SCALE"), (0, u "I"), (2, u "U"), (0, u "Ljdk/internal/misc/Unsafe;"), (8, u "BIG_ENDIAN"), (0, u "Z"), (8, u "LOG2_BYTE_BIT_SIZE"), (4, u "LOG2_ARRAY_INT_INDEX_SCALE"), (54, u "JLA"), (0, u "Ljdk/internal/access/JavaLangAccess;"), (11, u "LOG2_ARRAY_BOOLEAN_INDEX_SCALE"), (9, u "LOG2_ARRAY_BYTE_INDEX_SCALE"), (5, u "LOG2_ARRAY_CHAR_INDEX_SCALE"), (5, u "LOG2_ARRAY_SHORT_INDEX_SCALE"), (18, u "LOG2_ARRAY_FLOAT_INDEX_SCALE"), (24, u "LOG2_ARRAY_DOUBLE_INDEX_SCALE"), (89, u "T_BOOLEAN"), (2, u "T_CHAR"), (1, u "T_FLOAT"), (1, u "T_DOUBLE"), (1, u "T_BYTE"), (1, u "T_SHORT"), (1, u "T_INT"), (1, u "T_LONG"), (1, u "SOFT_MAX_ARRAY_LENGTH")] 83

def k14m0 : Method := { name := "<init>", desc := "()V", sig := { parameters := [], returnType := none }, accessFlags := 2, code := none }
/-- jdk/internal/util/ArraysSupport -/
def k14 : Class := { plain "jdk/internal/util/ArraysSupport" (some 0) with
  accessFlags := 33
  interfaces := #[]
  cf := some (fileOf pool14 21 #[] #[{ accessFlags := 2, nameIndex := 9, descriptorIndex := 19, attributes := #[] }] 33 16 #[] #[{ accessFlags := 24, nameIndex := 28, descriptorIndex := 29, attributes := #[] }, { accessFlags := 26, nameIndex := 38, descriptorIndex := 39, attributes := #[] }, { accessFlags := 25, nameIndex := 121, descriptorIndex := 25, attributes := #[] }, { accessFlags := 25, nameIndex := 131, descriptorIndex := 25, attributes := #[] }, { accessFlags := 25, nameIndex := 137, descriptorIndex := 25, attributes := #[] }, { accessFlags := 25, nameIndex := 143, descriptorIndex := 25, attributes := #[] }, { accessFlags := 25, nameIndex := 53, descriptorIndex := 25, attributes := #[] }, { accessFlags := 25, nameIndex := 24, descriptorIndex := 25, attributes := #[] }, { accessFlags := 25, nameIndex := 162, descriptorIndex := 25, attributes := #[] }, { accessFlags := 25, nameIndex := 187, descriptorIndex := 25, attributes := #[] }, { accessFlags := 26, nameIndex := 48, descriptorIndex := 25, attributes := #[] }, { accessFlags := 25, nameIndex := 277, descriptorIndex := 25, attributes := #[] }, { accessFlags := 25, nameIndex := 280, descriptorIndex := 25, attributes := #[] }, { accessFlags := 25, nameIndex := 282, descriptorIndex := 25, attributes := #[] }, { accessFlags := 25, nameIndex := 284, descriptorIndex := 25, attributes := #[] }, { accessFlags := 25, nameIndex := 286, descriptorIndex := 25, attributes := #[] }, { accessFlags := 25, nameIndex := 288, descriptorIndex := 25, attributes := #[] }, { accessFlags := 25, nameIndex := 290, descriptorIndex := 25, attributes := #[] }, { accessFlags := 25, nameIndex := 292, descriptorIndex := 25, attributes := #[] }, { accessFlags := 26, nameIndex := 108, descriptorIndex := 109, attributes := #[] }, { accessFlags := 25, nameIndex := 294, descriptorIndex := 25, attributes := #[] }])
  fields := #[{ name := "U", type := (.object "jdk/internal/misc/Unsafe"), accessFlags := 24, slot := 0, constantValue := 0 }, { name := "BIG_ENDIAN", type := .boolean, accessFlags := 26, slot := 1, constantValue := 0 }, { name := "LOG2_ARRAY_BOOLEAN_INDEX_SCALE", type := .int, accessFlags := 25, slot := 2, constantValue := 0 }, { name := "LOG2_ARRAY_BYTE_INDEX_SCALE", type := .int, accessFlags := 25, slot := 3, constantValue := 0 }, { name := "LOG2_ARRAY_CHAR_INDEX_SCALE", type := .int, accessFlags := 25, slot := 4, constantValue := 0 }, { name := "LOG2_ARRAY_SHORT_INDEX_SCALE", type := .int, accessFlags := 25, slot := 5, constantValue := 0 }, { name := "LOG2_ARRAY_INT_INDEX_SCALE", type := .int, accessFlags := 25, slot := 6, constantValue := 0 }, { name := "LOG2_ARRAY_LONG_INDEX_SCALE", type := .int, accessFlags := 25, slot := 7, constantValue := 0 }, { name := "LOG2_ARRAY_FLOAT_INDEX_SCALE", type := .int, accessFlags := 25, slot := 8, constantValue := 0 }, { name := "LOG2_ARRAY_DOUBLE_INDEX_SCALE", type := .int, accessFlags := 25, slot := 9, constantValue := 0 }, { name := "LOG2_BYTE_BIT_SIZE", type := .int, accessFlags := 26, slot := 10, constantValue := 0 }, { name := "T_BOOLEAN", type := .int, accessFlags := 25, slot := 11, constantValue := 0 }, { name := "T_CHAR", type := .int, accessFlags := 25, slot := 12, constantValue := 0 }, { name := "T_FLOAT", type := .int, accessFlags := 25, slot := 13, constantValue := 0 }, { name := "T_DOUBLE", type := .int, accessFlags := 25, slot := 14, constantValue := 0 }, { name := "T_BYTE", type := .int, accessFlags := 25, slot := 15, constantValue := 0 }, { name := "T_SHORT", type := .int, accessFlags := 25, slot := 16, constantValue := 0 }, { name := "T_INT", type := .int, accessFlags := 25, slot := 17, constantValue := 0 }, { name := "T_LONG", type := .int, accessFlags := 25, slot := 18, constantValue := 0 }, { name := "JLA", type := (.object "jdk/internal/access/JavaLangAccess"), accessFlags := 26, slot := 19, constantValue := 0 }, { name := "SOFT_MAX_ARRAY_LENGTH", type := .int, accessFlags := 25, slot := 20, constantValue := 0 }]
  methods := #[k14m0]
  instanceTypes := #[]
  staticTypes := #[(.object "jdk/internal/misc/Unsafe"), .boolean, .int, .int, .int, .int, .int, .int, .int, .int, .int, .int, .int, .int, .int, .int, .int, .int, .int, (.object "jdk/internal/access/JavaLangAccess"), .int]
  resolved := Array.replicate 378 none
  statics := none }

/-- the primitive byte -/
def k15 : Class := { plain "byte" none with kind := .primitive 'B', accessFlags := 0x411 }
/-- [B -/
def k16 : Class := { plain "[B" (some 0) with kind := .array 15 .byte, interfaces := #[10, 2], accessFlags := 1041 }

/-- the primitive char -/
def k17 : Class := { plain "char" none with kind := .primitive 'C', accessFlags := 0x411 }
/-- [C -/
def k18 : Class := { plain "[C" (some 0) with kind := .array 17 .char, interfaces := #[10, 2], accessFlags := 1041 }

/-- the primitive int -/
def k19 : Class := { plain "int" none with kind := .primitive 'I', accessFlags := 0x411 }
/-- [I -/
def k20 : Class := { plain "[I" (some 0) with kind := .array 19 .int, interfaces := #[10, 2], accessFlags := 1041 }

/-- [Lcom/example/tesserae/tesserae/dicom/TransferSyntax; -/
def k21 : Class := { plain "[Lcom/example/tesserae/tesserae/dicom/TransferSyntax;" (some 0) with kind := .array 9 (.object "com/example/tesserae/tesserae/dicom/TransferSyntax"), interfaces := #[10, 2], accessFlags := 1041 }

def heap : Heap := #[{ cls := 7, slots := #[.long 0, .int 1, .null, .int 0, .null, .int 0, .int 0], vm := .statics 7 },
  { cls := 9, slots := #[.ref 4, .ref 5, .ref 3], vm := .statics 9 },
  { cls := 12, slots := #[.null, .null, .null], vm := .statics 12 },
  { cls := 21, slots := #[.ref 4, .ref 5], vm := .none },
  { cls := 9, slots := #[.null, .int 0, .int 0, .ref 6, .int 0], vm := .none },
  { cls := 9, slots := #[.null, .int 0, .int 0, .ref 7, .int 0], vm := .none },
  { cls := 7, slots := #[.ref 8, .int 0, .int 0, .int 0], vm := .none },
  { cls := 7, slots := #[.ref 9, .int 0, .int 0, .int 0], vm := .none },
  { cls := 16, slots := #[.int 49, .int 46, .int 50, .int 46, .int 56, .int 52, .int 48, .int 46, .int 49, .int 48, .int 48, .int 48, .int 56, .int 46, .int 49, .int 46, .int 50], vm := .none },
  { cls := 16, slots := #[.int 49, .int 46, .int 50, .int 46, .int 56, .int 52, .int 48, .int 46, .int 49, .int 48, .int 48, .int 48, .int 56, .int 46, .int 49, .int 46, .int 50, .int 46, .int 49], vm := .none }]
def classes : Array Class := #[k0, k1, k2, k3, k4, k5, k6, k7, k8, k9, k10, k11, k12, k13, k14, k15, k16, k17, k18, k19, k20, k21]
def interned : List (Array UInt16 × Addr) := []
def slotsUsed : Nat := 69
def theMethod : MethodId := ⟨1, 1⟩
def args0 : Array Value := #[.int 5, .int 9, .int 3, .int 4, .int 7]
def aboutOver (below : List Frame) : State where
  vm := { classes := classes, interned := interned.toArray }
  heap := heap
  slotsUsed := slotsUsed
  threads := #[{ frames := .invoking theMethod args0 :: below }]
def below0 : List Frame := [.native { method := ⟨0, 0⟩, args := #[] }]
def about1 : State := aboutOver below0
def p0 : Program := .bare "" "" ""
def e0 : Env := launch0.env 0 0 0
theorem w_frames : about1.frames = Frame.invoking theMethod args0 :: below0 := rfl
set_option maxRecDepth 65536 in
theorem w_args : argsFit about1.vm theMethod args0 = true := by decide +kernel
set_option maxRecDepth 65536 in
theorem w_heap : heapFits about1 = true := by decide +kernel
set_option maxRecDepth 65536 in
theorem w_runnable : about1.curStatus? = some .runnable := by decide +kernel
set_option maxRecDepth 65536 in
theorem w_alone : about1.alone = true := by decide +kernel
set_option maxRecDepth 65536 in
theorem w_named : about1.methodNamed? x = some theMethod := by decide +kernel
set_option maxRecDepth 65536 in
theorem w_hears : about1.hears theMethod below0 = true := by decide +kernel
set_option maxRecDepth 65536 in
theorem w_ripe : about1.ripe theMethod args0 below0 = true := by decide +kernel
theorem w_running : about1.status = .running := rfl
set_option maxRecDepth 65536 in
theorem w_room : about1.hasRoom e0.platform room_1 = true :=
  launch0.hasRoom_least _ room_1 (by decide +kernel) (by decide +kernel) (by decide +kernel) (by decide +kernel) (by decide +kernel) (by decide +kernel)
theorem allAtoms_all (ts : List Jvm.Cond) (a : Array Jvm.Value) (st : Jvm.State) : (allAtoms ts).before a st = ts.all (fun c => c.before a st) := by
  induction ts with
  | nil => rfl
  | cons c t ih =>
    show (Jvm.Cond.and c (allAtoms t)).before a st = _
    rw [Jvm.Cond.before_and, ih, List.all_cons]
def words1 : List Jvm.Cond := Jvm.Cond.code x code maxLocals ret :: tables_1
/-- a 'code' word, met by the world's own term for the bytes: nothing is compared byte by byte -/
theorem code_word {y : MethodName} {bytes : ByteArray} {mx : Nat} {rt : Option FieldType} {a : Array Value} {s : State} {m : MethodId} {meth : Method} {c : Code} (h1 : s.methodNamed? y = some m) (h2 : s.vm.method? m = some meth) (h3 : meth.code = some c) (h4 : c.code = bytes)
    (h5 : (c.maxLocals == mx && c.exceptionTable.isEmpty && decide (c.maxStack ≤ mostOperands) && decide (meth.sig.returnType = rt) && !meth.locks && decide (parseMethodDescriptor y.desc = some meth.sig)) = true) : (Jvm.Cond.code y bytes mx rt).before a s = true := by
  simp only [Bool.and_eq_true, beq_iff_eq, Bool.not_eq_true', decide_eq_true_eq] at h5
  obtain ⟨⟨⟨⟨⟨g1, g2⟩, g3⟩, g4⟩, g5⟩, g6⟩ := h5
  simp [Cond.before, Cond.holds, Cond.value, h1, h2, h3, h4, g1, g2, g3, g4, g5, g6]
def isCode : Jvm.Cond → Bool
  | .code _ _ _ _ => true
  | _ => false
theorem all_split {L : List Jvm.Cond} {P : Jvm.Cond → Bool} (h1 : L.all (fun c => isCode c || P c) = true) (h2 : ∀ c ∈ L.filter isCode, P c = true) : L.all P = true := by
  refine List.all_eq_true.mpr fun c hc => ?_
  have h := List.all_eq_true.mp h1 c hc
  rcases Bool.eq_false_or_eq_true (isCode c) with hi | hi
  · exact h2 c (List.mem_filter.mpr ⟨hc, hi⟩)
  · simpa [hi] using h
set_option maxRecDepth 65536 in
theorem w_c0 : (Jvm.Cond.code x code maxLocals ret).before args0 about1 = true := code_word (m := ⟨1, 1⟩) (meth := k1m1) (c := k1c1) (by decide +kernel) rfl rfl rfl (by decide +kernel)
set_option maxRecDepth 65536 in
theorem w_c1 : (Jvm.Cond.code ({ cls := "com/example/tesserae/tesserae/dicom/TransferSyntaxForUidPinLaw", name := "make", desc := "(I)[C" } : Jvm.MethodName) method_3_code (1 : Nat) (Option.some (Jvm.ClassFile.FieldType.array Jvm.ClassFile.FieldType.char))).before args0 about1 = true := code_word (m := ⟨1, 2⟩) (meth := k1m2) (c := k1c2) (by decide +kernel) rfl rfl rfl (by decide +kernel)
set_option maxRecDepth 65536 in
theorem w_c2 : (Jvm.Cond.code ({ cls := "com/example/tesserae/tesserae/dicom/TransferSyntaxForUidPinLaw", name := "fill", desc := "([CLjava/lang/String;ICCC)V" } : Jvm.MethodName) method_4_code (6 : Nat) (Option.none : Option Jvm.ClassFile.FieldType)).before args0 about1 = true := code_word (m := ⟨1, 3⟩) (meth := k1m3) (c := k1c3) (by decide +kernel) rfl rfl rfl (by decide +kernel)
set_option maxRecDepth 65536 in
theorem w_c3 : (Jvm.Cond.code ({ cls := "com/example/tesserae/tesserae/dicom/TransferSyntaxForUidPinLaw", name := "set", desc := "([CILjava/lang/String;ICCC)V" } : Jvm.MethodName) method_5_code (7 : Nat) (Option.none : Option Jvm.ClassFile.FieldType)).before args0 about1 = true := code_word (m := ⟨1, 4⟩) (meth := k1m4) (c := k1c4) (by decide +kernel) rfl rfl rfl (by decide +kernel)
set_option maxRecDepth 65536 in
theorem w_c4 : (Jvm.Cond.code ({ cls := "java/lang/String", name := "<init>", desc := "([C)V" } : Jvm.MethodName) jdk_42_method_3_code (2 : Nat) (Option.none : Option Jvm.ClassFile.FieldType)).before args0 about1 = true := code_word (m := ⟨7, 1⟩) (meth := k7m1) (c := k7c1) (by decide +kernel) rfl rfl rfl (by decide +kernel)
set_option maxRecDepth 65536 in
theorem w_c5 : (Jvm.Cond.code ({ cls := "java/lang/String", name := "<init>", desc := "([CIILjava/lang/Void;)V" } : Jvm.MethodName) jdk_42_method_149_code (6 : Nat) (Option.none : Option Jvm.ClassFile.FieldType)).before args0 about1 = true := code_word (m := ⟨7, 5⟩) (meth := k7m5) (c := k7c5) (by decide +kernel) rfl rfl rfl (by decide +kernel)
set_option maxRecDepth 65536 in
theorem w_c6 : (Jvm.Cond.code ({ cls := "java/lang/Object", name := "<init>", desc := "()V" } : Jvm.MethodName) object_method_1_code (1 : Nat) (Option.none : Option Jvm.ClassFile.FieldType)).before args0 about1 = true := code_word (m := ⟨0, 0⟩) (meth := k0m0) (c := k0c0) (by decide +kernel) rfl rfl rfl (by decide +kernel)
set_option maxRecDepth 65536 in
theorem w_c7 : (Jvm.Cond.code ({ cls := "com/example/tesserae/tesserae/dicom/TransferSyntax", name := "forUid", desc := "(Ljava/lang/String;)Lcom/example/tesserae/tesserae/dicom/TransferSyntax;" } : Jvm.MethodName) prog_9_method_4_code (5 : Nat) (Option.some (Jvm.ClassFile.FieldType.object "com/example/tesserae/tesserae/dicom/TransferSyntax"))).before args0 about1 = true := code_word (m := ⟨9, 1⟩) (meth := k9m1) (c := k9c1) (by decide +kernel) rfl rfl rfl (by decide +kernel)
set_option maxRecDepth 65536 in
theorem w_c8 : (Jvm.Cond.code ({ cls := "com/example/tesserae/tesserae/dicom/TransferSyntax", name := "values", desc := "()[Lcom/example/tesserae/tesserae/dicom/TransferSyntax;" } : Jvm.MethodName) prog_9_method_1_code (0 : Nat) (Option.some (Jvm.ClassFile.FieldType.array (Jvm.ClassFile.FieldType.object "com/example/tesserae/tesserae/dicom/TransferSyntax")))).before args0 about1 = true := code_word (m := ⟨9, 0⟩) (meth := k9m0) (c := k9c0) (by decide +kernel) rfl rfl rfl (by decide +kernel)
set_option maxRecDepth 65536 in
theorem w_c9 : (Jvm.Cond.code ({ cls := "java/lang/String", name := "equals", desc := "(Ljava/lang/Object;)Z" } : Jvm.MethodName) jdk_42_method_66_code (3 : Nat) (Option.some Jvm.ClassFile.FieldType.boolean)).before args0 about1 = true := code_word (m := ⟨7, 4⟩) (meth := k7m4) (c := k7c4) (by decide +kernel) rfl rfl rfl (by decide +kernel)
set_option maxRecDepth 65536 in
theorem w_c10 : (Jvm.Cond.code ({ cls := "java/lang/StringLatin1", name := "equals", desc := "([B[B)Z" } : Jvm.MethodName) jdk_43_method_13_code (3 : Nat) (Option.some Jvm.ClassFile.FieldType.boolean)).before args0 about1 = true := code_word (m := ⟨11, 2⟩) (meth := k11m2) (c := k11c2) (by decide +kernel) rfl rfl rfl (by decide +kernel)
set_option maxRecDepth 65536 in
theorem w_c11 : (Jvm.Cond.code ({ cls := "java/lang/String", name := "length", desc := "()I" } : Jvm.MethodName) jdk_42_method_54_code (1 : Nat) (Option.some Jvm.ClassFile.FieldType.int)).before args0 about1 = true := code_word (m := ⟨7, 2⟩) (meth := k7m2) (c := k7c2) (by decide +kernel) rfl rfl rfl (by decide +kernel)
set_option maxRecDepth 65536 in
theorem w_c12 : (Jvm.Cond.code ({ cls := "java/lang/String", name := "coder", desc := "()B" } : Jvm.MethodName) jdk_42_method_152_code (1 : Nat) (Option.some Jvm.ClassFile.FieldType.byte)).before args0 about1 = true := code_word (m := ⟨7, 6⟩) (meth := k7m6) (c := k7c6) (by decide +kernel) rfl rfl rfl (by decide +kernel)
set_option maxRecDepth 65536 in
theorem w_c13 : (Jvm.Cond.code ({ cls := "java/lang/String", name := "charAt", desc := "(I)C" } : Jvm.MethodName) jdk_42_method_56_code (2 : Nat) (Option.some Jvm.ClassFile.FieldType.char)).before args0 about1 = true := code_word (m := ⟨7, 3⟩) (meth := k7m3) (c := k7c3) (by decide +kernel) rfl rfl rfl (by decide +kernel)
set_option maxRecDepth 65536 in
theorem w_c14 : (Jvm.Cond.code ({ cls := "java/lang/String", name := "isLatin1", desc := "()Z" } : Jvm.MethodName) jdk_42_method_154_code (1 : Nat) (Option.some Jvm.ClassFile.FieldType.boolean)).before args0 about1 = true := code_word (m := ⟨7, 7⟩) (meth := k7m7) (c := k7c7) (by decide +kernel) rfl rfl rfl (by decide +kernel)
set_option maxRecDepth 65536 in
theorem w_c15 : (Jvm.Cond.code ({ cls := "java/lang/StringLatin1", name := "charAt", desc := "([BI)C" } : Jvm.MethodName) jdk_43_method_2_code (2 : Nat) (Option.some Jvm.ClassFile.FieldType.char)).before args0 about1 = true := code_word (m := ⟨11, 1⟩) (meth := k11m1) (c := k11c1) (by decide +kernel) rfl rfl rfl (by decide +kernel)
set_option maxRecDepth 65536 in
theorem w_c16 : (Jvm.Cond.code ({ cls := "java/lang/String", name := "checkIndex", desc := "(II)V" } : Jvm.MethodName) jdk_42_method_155_code (2 : Nat) (Option.none : Option Jvm.ClassFile.FieldType)).before args0 about1 = true := code_word (m := ⟨7, 8⟩) (meth := k7m8) (c := k7c8) (by decide +kernel) rfl rfl rfl (by decide +kernel)
set_option maxRecDepth 65536 in
theorem w_c17 : (Jvm.Cond.code ({ cls := "jdk/internal/util/Preconditions", name := "checkIndex", desc := "(IILjava/util/function/BiFunction;)I" } : Jvm.MethodName) jdk_41_method_11_code (3 : Nat) (Option.some Jvm.ClassFile.FieldType.int)).before args0 about1 = true := code_word (m := ⟨12, 1⟩) (meth := k12m1) (c := k12c1) (by decide +kernel) rfl rfl rfl (by decide +kernel)
set_option maxRecDepth 65536 in
theorem w_c18 : (Jvm.Cond.code ({ cls := "java/lang/StringUTF16", name := "compress", desc := "([CII)[B" } : Jvm.MethodName) jdk_52_method_16_code (6 : Nat) (Option.some (Jvm.ClassFile.FieldType.array Jvm.ClassFile.FieldType.byte))).before args0 about1 = true := code_word (m := ⟨13, 2⟩) (meth := k13m2) (c := k13c2) (by decide +kernel) rfl rfl rfl (by decide +kernel)
set_option maxRecDepth 65536 in
theorem w_c19 : (Jvm.Cond.code ({ cls := "java/lang/StringUTF16", name := "compress", desc := "([CI[BII)I" } : Jvm.MethodName) jdk_52_method_21_code (7 : Nat) (Option.some Jvm.ClassFile.FieldType.int)).before args0 about1 = true := code_word (m := ⟨13, 3⟩) (meth := k13m3) (c := k13c3) (by decide +kernel) rfl rfl rfl (by decide +kernel)
set_option maxRecDepth 65536 in
theorem w_c20 : (Jvm.Cond.code ({ cls := "java/lang/StringUTF16", name := "coderFromArrayLen", desc := "([BI)B" } : Jvm.MethodName) jdk_52_method_15_code (2 : Nat) (Option.some Jvm.ClassFile.FieldType.byte)).before args0 about1 = true := code_word (m := ⟨13, 1⟩) (meth := k13m1) (c := k13c1) (by decide +kernel) rfl rfl rfl (by decide +kernel)
def codes1 : List Jvm.Cond := [Jvm.Cond.code x code maxLocals ret, Jvm.Cond.code ({ cls := "com/example/tesserae/tesserae/dicom/TransferSyntaxForUidPinLaw", name := "make", desc := "(I)[C" } : Jvm.MethodName) method_3_code (1 : Nat) (Option.some (Jvm.ClassFile.FieldType.array Jvm.ClassFile.FieldType.char)), Jvm.Cond.code ({ cls := "com/example/tesserae/tesserae/dicom/TransferSyntaxForUidPinLaw", name := "fill", desc := "([CLjava/lang/String;ICCC)V" } : Jvm.MethodName) method_4_code (6 : Nat) (Option.none : Option Jvm.ClassFile.FieldType), Jvm.Cond.code ({ cls := "com/example/tesserae/tesserae/dicom/TransferSyntaxForUidPinLaw", name := "set", desc := "([CILjava/lang/String;ICCC)V" } : Jvm.MethodName) method_5_code (7 : Nat) (Option.none : Option Jvm.ClassFile.FieldType), Jvm.Cond.code ({ cls := "java/lang/String", name := "<init>", desc := "([C)V" } : Jvm.MethodName) jdk_42_method_3_code (2 : Nat) (Option.none : Option Jvm.ClassFile.FieldType), Jvm.Cond.code ({ cls := "java/lang/String", name := "<init>", desc := "([CIILjava/lang/Void;)V" } : Jvm.MethodName) jdk_42_method_149_code (6 : Nat) (Option.none : Option Jvm.ClassFile.FieldType), Jvm.Cond.code ({ cls := "java/lang/Object", name := "<init>", desc := "()V" } : Jvm.MethodName) object_method_1_code (1 : Nat) (Option.none : Option Jvm.ClassFile.FieldType), Jvm.Cond.code ({ cls := "com/example/tesserae/tesserae/dicom/TransferSyntax", name := "forUid", desc := "(Ljava/lang/String;)Lcom/example/tesserae/tesserae/dicom/TransferSyntax;" } : Jvm.MethodName) prog_9_method_4_code (5 : Nat) (Option.some (Jvm.ClassFile.FieldType.object "com/example/tesserae/tesserae/dicom/TransferSyntax")), Jvm.Cond.code ({ cls := "com/example/tesserae/tesserae/dicom/TransferSyntax", name := "values", desc := "()[Lcom/example/tesserae/tesserae/dicom/TransferSyntax;" } : Jvm.MethodName) prog_9_method_1_code (0 : Nat) (Option.some (Jvm.ClassFile.FieldType.array (Jvm.ClassFile.FieldType.object "com/example/tesserae/tesserae/dicom/TransferSyntax"))), Jvm.Cond.code ({ cls := "java/lang/String", name := "equals", desc := "(Ljava/lang/Object;)Z" } : Jvm.MethodName) jdk_42_method_66_code (3 : Nat) (Option.some Jvm.ClassFile.FieldType.boolean), Jvm.Cond.code ({ cls := "java/lang/StringLatin1", name := "equals", desc := "([B[B)Z" } : Jvm.MethodName) jdk_43_method_13_code (3 : Nat) (Option.some Jvm.ClassFile.FieldType.boolean), Jvm.Cond.code ({ cls := "java/lang/String", name := "length", desc := "()I" } : Jvm.MethodName) jdk_42_method_54_code (1 : Nat) (Option.some Jvm.ClassFile.FieldType.int), Jvm.Cond.code ({ cls := "java/lang/String", name := "coder", desc := "()B" } : Jvm.MethodName) jdk_42_method_152_code (1 : Nat) (Option.some Jvm.ClassFile.FieldType.byte), Jvm.Cond.code ({ cls := "java/lang/String", name := "charAt", desc := "(I)C" } : Jvm.MethodName) jdk_42_method_56_code (2 : Nat) (Option.some Jvm.ClassFile.FieldType.char), Jvm.Cond.code ({ cls := "java/lang/String", name := "isLatin1", desc := "()Z" } : Jvm.MethodName) jdk_42_method_154_code (1 : Nat) (Option.some Jvm.ClassFile.FieldType.boolean), Jvm.Cond.code ({ cls := "java/lang/StringLatin1", name := "charAt", desc := "([BI)C" } : Jvm.MethodName) jdk_43_method_2_code (2 : Nat) (Option.some Jvm.ClassFile.FieldType.char), Jvm.Cond.code ({ cls := "java/lang/String", name := "checkIndex", desc := "(II)V" } : Jvm.MethodName) jdk_42_method_155_code (2 : Nat) (Option.none : Option Jvm.ClassFile.FieldType), Jvm.Cond.code ({ cls := "jdk/internal/util/Preconditions", name := "checkIndex", desc := "(IILjava/util/function/BiFunction;)I" } : Jvm.MethodName) jdk_41_method_11_code (3 : Nat) (Option.some Jvm.ClassFile.FieldType.int), Jvm.Cond.code ({ cls := "java/lang/StringUTF16", name := "compress", desc := "([CII)[B" } : Jvm.MethodName) jdk_52_method_16_code (6 : Nat) (Option.some (Jvm.ClassFile.FieldType.array Jvm.ClassFile.FieldType.byte)), Jvm.Cond.code ({ cls := "java/lang/StringUTF16", name := "compress", desc := "([CI[BII)I" } : Jvm.MethodName) jdk_52_method_21_code (7 : Nat) (Option.some Jvm.ClassFile.FieldType.int), Jvm.Cond.code ({ cls := "java/lang/StringUTF16", name := "coderFromArrayLen", desc := "([BI)B" } : Jvm.MethodName) jdk_52_method_15_code (2 : Nat) (Option.some Jvm.ClassFile.FieldType.byte)]
set_option maxRecDepth 65536 in
theorem codes_eq : words1.filter isCode = codes1 := rfl
theorem w_codes : ∀ c ∈ words1.filter isCode, c.before args0 about1 = true := by
  rw [codes_eq]
  intro c hc
  simp only [codes1, List.mem_cons, List.not_mem_nil, or_false] at hc
  rcases hc with rfl | rfl | rfl | rfl | rfl | rfl | rfl | rfl | rfl | rfl | rfl | rfl | rfl | rfl | rfl | rfl | rfl | rfl | rfl | rfl | rfl
  · exact w_c0
  · exact w_c1
  · exact w_c2
  · exact w_c3
  · exact w_c4
  · exact w_c5
  · exact w_c6
  · exact w_c7
  · exact w_c8
  · exact w_c9
  · exact w_c10
  · exact w_c11
  · exact w_c12
  · exact w_c13
  · exact w_c14
  · exact w_c15
  · exact w_c16
  · exact w_c17
  · exact w_c18
  · exact w_c19
  · exact w_c20
set_option maxRecDepth 65536 in
theorem w_t1 : (words1.take 24).all (fun c => isCode c || c.before args0 about1) = true := by decide +kernel
set_option maxRecDepth 65536 in
theorem w_t2 : ((words1.drop 24).take 24).all (fun c => isCode c || c.before args0 about1) = true := by decide +kernel
set_option maxRecDepth 65536 in
theorem w_t3 : (((words1.drop 24).drop 24).take 24).all (fun c => isCode c || c.before args0 about1) = true := by decide +kernel
set_option maxRecDepth 65536 in
theorem w_t4 : ((((words1.drop 24).drop 24).drop 24).take 24).all (fun c => isCode c || c.before args0 about1) = true := by decide +kernel
set_option maxRecDepth 65536 in
theorem w_t5 : ((((words1.drop 24).drop 24).drop 24).drop 24).all (fun c => isCode c || c.before args0 about1) = true := by decide +kernel
theorem w_tables : (allAtoms (Jvm.Cond.code x code maxLocals ret :: tables_1)).before args0 about1 = true := by
  rw [allAtoms_all]
  show words1.all (fun c => c.before args0 about1) = true
  refine all_split ?_ w_codes
  rw [← List.take_append_drop 24 words1, List.all_append, w_t1, ← List.take_append_drop 24 (words1.drop 24), List.all_append, w_t2, ← List.take_append_drop 24 ((words1.drop 24).drop 24), List.all_append, w_t3, ← List.take_append_drop 24 (((words1.drop 24).drop 24).drop 24), List.all_append, w_t4, w_t5]
  rfl
set_option maxRecDepth 65536 in
theorem w_rest : rest_1_c.before args0 about1 = true := by decide +kernel
set_option maxRecDepth 65536 in
theorem w_case : (Jvm.Cond.and given_1 narrow_1).before args0 about1 = true := by decide +kernel
set_option maxRecDepth 65536 in
theorem w_consts : constsHeld consts_1 about1 := Jvm.Lit.constsHeldB_iff.mp (by decide +kernel)
theorem w_applies : (headSpec (Jvm.Cond.code x code maxLocals ret :: tables_1) room_1).applies x e0.platform about1 = true :=
  (Spec.applies_iff w_frames).mpr ⟨w_running, w_runnable, w_alone, w_named, w_hears, w_ripe, w_room, w_tables⟩
theorem atStart : AtStart classFile x code maxLocals ret World_1 tables_1 room_1 Calls_1 rest_1 Pre_1 launch0 p0 e0 about1 theMethod args0 below0 :=
  ⟨lists_1, trivial, launch0.admits_env _ _ _, launch0.least_env, fairChoices_fair.cas, fairChoices_fair.clock, w_frames, w_args, w_heap, w_applies, ⟨w_consts, trivial⟩, w_rest, w_case⟩
end start1
theorem witness_1 : WitnessClaimed_1 := ⟨start1.p0, start1.e0, start1.about1, start1.theMethod, start1.args0, start1.below0, start1.atStart⟩
end Jvm.Pilot.@@N@@
