import JvmDerived
import JvmDerived.Pilot.@@N@@Statement
import JvmDerived.Pilot.@@N@@Code
set_option linter.unusedVariables false
set_option linter.unusedSimpArgs false
@@BLOCK:NumsL.lean.txt@@
/- laws to paste: Road.backV, Road.eqW, Road.codOf (cut by pick.py; bodies as the Statement names them) -/
namespace Jvm.Pilot.@@N@@
namespace StrChars
open Jvm Sem ClassFile Op Lib Jvm.Stand Jvm.Free.XT Jvm.Free.ALB Jvm.Free.JM Jvm.Free
open Jvm.Lib.Cold (StaticIs)
/-- a char array whose places are chars -/
def Ch (a : Addr) (A : Cell) (U : State) : Prop := Arr .char a A U ∧ Typed .char A
theorem Ch.mv {a : Addr} {A : Cell} {U U' : State} (h : Ch a A U) (hal : U.vm.Alike U'.vm) (hh : U'.heap = U.heap) : Ch a A U' := ⟨h.1.mv hal hh, h.2⟩
theorem Ch.keep {a : Addr} {A : Cell} {U U' : State} (h : Ch a A U) (hal : U.vm.Alike U'.vm) (hk : U'.heap[a]? = some A) : Ch a A U' := ⟨h.1.keep hal hk, h.2⟩
/-- what place i of a char[]'s cell holds -/
def cv (A : Cell) (i : Nat) : Int32 := match A.slots[i]? with | some (.int x) => x | _ => 0
theorem Ch.get {a : Addr} {A : Cell} {U : State} (h : Ch a A U) {i : Nat} (hi : i < A.slots.size) : A.slots[i]? = some (.int (cv A i)) := by
  have e := Array.getElem?_eq_getElem hi
  have f := h.2 i _ e
  unfold cv; rw [e]
  generalize A.slots[i] = v at f
  cases v <;> simp [fits] at f ⊢
/-- the byte that i2b leaves of a char -/
def lo8 (x : Int32) : Int32 := x.toInt8.toInt32
theorem fits_lo8 (y : Int32) : fits .byte (.int (lo8 y)) = true := by
  have h1 := y.toInt8.le_toInt
  have h2 := y.toInt8.toInt_lt
  simp only [lo8, fits, Bool.and_eq_true, decide_eq_true_eq, Int32.le_iff_toInt_le, Int8.toInt_toInt32, show (-128 : Int32).toInt = -128 from by decide, show (127 : Int32).toInt = 127 from by decide]
  omega
/-- A' is A but that each place j of lo .. hi - 1 holds f j -/
def Laid (A A' : Cell) (lo hi : Nat) (f : Nat → Value) : Prop := A'.cls = A.cls ∧ A'.vm = A.vm ∧ A'.slots.size = A.slots.size ∧ ∀ i, A'.slots[i]? = if lo ≤ i ∧ i < hi then some (f i) else A.slots[i]?
theorem Laid.zero (A : Cell) (lo : Nat) (f : Nat → Value) : Laid A A lo (lo + 0) f := ⟨rfl, rfl, rfl, fun i => by rw [if_neg (by omega)]⟩
theorem Laid.step {A Ak : Cell} {lo k : Nat} {f : Nat → Value} {v : Value} (h : Laid A Ak lo k f) (hlo : lo ≤ k) (hk : k < Ak.slots.size) (hv : v = f k) : Laid A (Ak.setSlot k v) lo (k + 1) f := by
  refine ⟨h.1, h.2.1, by simpa [Cell.setSlot] using h.2.2.1, fun i => ?_⟩
  by_cases e : k = i
  · subst e; rw [Cell.slots_setSlot_self v hk, if_pos (by omega), hv]
  · rw [Cell.slots_setSlot_ne v e, h.2.2.2 i]
    by_cases q : lo ≤ i ∧ i < k
    · rw [if_pos q, if_pos (by omega)]
    · rw [if_neg q, if_neg (by omega)]
def U16 : String := "java/lang/StringUTF16"
namespace Cmp5
def yN : MethodName := ⟨"java/lang/StringUTF16", "compress", "([CI[BII)I"⟩
abbrev yB : ByteArray := jdk_52_method_21_code
theorem d0 : decode yB 0 = .ok (.iconst 0, 1) := by decide +kernel
theorem d1 : decode yB 1 = .ok (.istore 5, 2) := by decide +kernel
theorem d3 : decode yB 3 = .ok (.iload 5, 2) := by decide +kernel
theorem d5 : decode yB 5 = .ok (.iload 4, 2) := by decide +kernel
theorem d7 : decode yB 7 = .ok (.if_icmp (.ge) 37, 3) := by decide +kernel
theorem d10 : decode yB 10 = .ok (.aload_n 0, 1) := by decide +kernel
theorem d11 : decode yB 11 = .ok (.iload_n 1, 1) := by decide +kernel
theorem d12 : decode yB 12 = .ok (.caload, 1) := by decide +kernel
theorem d13 : decode yB 13 = .ok (.istore 6, 2) := by decide +kernel
theorem d15 : decode yB 15 = .ok (.iload 6, 2) := by decide +kernel
theorem d17 : decode yB 17 = .ok (.sipush 255, 3) := by decide +kernel
theorem d20 : decode yB 20 = .ok (.if_icmp (.le) 6, 3) := by decide +kernel
theorem d26 : decode yB 26 = .ok (.aload_n 2, 1) := by decide +kernel
theorem d27 : decode yB 27 = .ok (.iload_n 3, 1) := by decide +kernel
theorem d28 : decode yB 28 = .ok (.iload 6, 2) := by decide +kernel
theorem d30 : decode yB 30 = .ok (.i2b, 1) := by decide +kernel
theorem d31 : decode yB 31 = .ok (.bastore, 1) := by decide +kernel
theorem d32 : decode yB 32 = .ok (.iinc 1 1, 3) := by decide +kernel
theorem d35 : decode yB 35 = .ok (.iinc 3 1, 3) := by decide +kernel
theorem d38 : decode yB 38 = .ok (.iinc 5 1, 3) := by decide +kernel
theorem d41 : decode yB 41 = .ok (.goto (-38), 3) := by decide +kernel
theorem d44 : decode yB 44 = .ok (.iload 4, 2) := by decide +kernel
theorem d46 : decode yB 46 = .ok (.ireturn, 1) := by decide +kernel
def site : List Cond := []
def tab : Cond := tabOf yN yB 7 (some .int) site
def P (b : Addr) (A : Cell) (d : Addr) (B : Cell) (o q len : Nat) (args : Array Value) (s : State) : Prop := args = #[.ref b, .int (Int32.ofNat o), .ref d, .int (Int32.ofNat q), .int (Int32.ofNat len)] ∧ Ch b A s ∧ Arr .byte d B s ∧ b ≠ d ∧ o + len ≤ A.slots.size ∧ q + len ≤ B.slots.size ∧ ∀ i, i < len → ¬ 255 < cv A (o + i)
def E (b : Addr) (A : Cell) (d : Addr) (B : Cell) (o q len : Nat) (r : Option Value) (s u : State) : Prop := r = some (.int (Int32.ofNat len)) ∧ ∃ B', Put d B' s u ∧ Laid B B' q (q + len) (fun j => Value.int (lo8 (cv A (o + (j - q)))))
/-- no char of the range above 255: len; the places written hold each char's low byte -/
theorem law (l : Launch) (b : Addr) (A : Cell) (d : Addr) (B : Cell) (o q len : Nat) : Law l yN 5 5 0 0 yB 7 (some .int) site (P b A d B o q len) (E b A d B o q len) (copyLocs d q len) 0 0 := by
  refine Law.of_walk (plainFor_of_name (by decide +kernel)) (by decide +kernel) (by decide +kernel) (by decide) (fun _ _ h => by rw [h.1]; rfl) (fun _ U U' hal hh h => ⟨h.1, h.2.1.mv hal hh, h.2.2.1.mv hal hh, h.2.2.2⟩) (fun r U U' V V' h1 hal h2 h => ⟨h.1, h.2.elim fun B' q => ⟨B', q.1.mv h1 h2, q.2⟩⟩) ?_
  intro p e s m args below meth c s₁ X0 hexec hbytes hml hret hlk hnm hown hh0 W hP
  obtain ⟨rfl, hA, hB, hne, l1, l2, hp⟩ := hP
  have c1 : Steps p.tables e below (s₁.setTop (entryFrame m #[.ref b, .int (Int32.ofNat o), .ref d, .int (Int32.ofNat q), .int (Int32.ofNat len)] 7)) (s₁.setTop (mkF m 0 #[.val (.ref b), .val (.int (Int32.ofNat o)), .val (.ref d), .val (.int (Int32.ofNat q)), .val (.int (Int32.ofNat len)), .unset, .unset] [])) := entry rfl
  have hA0 := hA.1.mv X0.warmed.alike hh0
  have hB0 := hB.mv X0.warmed.alike hh0
  have a31 := hA.1.2.2.2
  have c2 : Steps p.tables e below (s₁.setTop (entryFrame m #[.ref b, .int (Int32.ofNat o), .ref d, .int (Int32.ofNat q), .int (Int32.ofNat len)] 7)) (s₁.setTop (mkF m 3 #[.val (.ref b), .val (.int (Int32.ofNat o)), .val (.ref d), .val (.int (Int32.ofNat q)), .val (.int (Int32.ofNat len)), .val (.int 0), .unset] [])) := c1.trans (by
    refine iconstV X0.here hexec rfl 0 (hb hbytes d0) (by decide) ?_
    refine XS.istore X0.here hexec rfl (hb hbytes d1) rfl rfl ?_
    exact Steps.refl _)
  have loop : ∀ (r i : Nat), i + r = len → ∀ (z : Slot), (z = .unset ∨ ∃ w, z = .val w ∧ w.category = 1) → ∀ (Tl : State) (Bk : Cell), Stand p l e { frames := 0, locals := 0, cells := 0, slots := 0 } s m #[.ref b, .int (Int32.ofNat o), .ref d, .int (Int32.ofNat q), .int (Int32.ofNat len)] below meth c Tl ([] ++ copyLocs d q i) 0 0 → Put d Bk s₁ Tl → Laid B Bk q (q + i) (fun j => Value.int (lo8 (cv A (o + (j - q))))) →
      Steps p.tables e below (s₁.setTop (entryFrame m #[.ref b, .int (Int32.ofNat o), .ref d, .int (Int32.ofNat q), .int (Int32.ofNat len)] 7)) (Tl.setTop (mkF m 3 #[.val (.ref b), .val (.int (Int32.ofNat (o + i))), .val (.ref d), .val (.int (Int32.ofNat (q + i))), .val (.int (Int32.ofNat len)), .val (.int (Int32.ofNat i)), z] [])) → ∃ (T' : State) (B' : Cell) (z' : Slot), Stand p l e { frames := 0, locals := 0, cells := 0, slots := 0 } s m #[.ref b, .int (Int32.ofNat o), .ref d, .int (Int32.ofNat q), .int (Int32.ofNat len)] below meth c T' ([] ++ copyLocs d q len) 0 0 ∧ Put d B' s₁ T' ∧ Laid B B' q (q + len) (fun j => Value.int (lo8 (cv A (o + (j - q))))) ∧
      Steps p.tables e below (s₁.setTop (entryFrame m #[.ref b, .int (Int32.ofNat o), .ref d, .int (Int32.ofNat q), .int (Int32.ofNat len)] 7)) (T'.setTop (mkF m 3 #[.val (.ref b), .val (.int (Int32.ofNat (o + len))), .val (.ref d), .val (.int (Int32.ofNat (q + len))), .val (.int (Int32.ofNat len)), .val (.int (Int32.ofNat len)), z'] [])) := by
    intro r
    induction r with
    | zero =>
      intro i hi z hz Tl Bk Xl pl fl cl
      have hil : i = len := by omega
      rw [hil] at Xl fl cl
      exact ⟨Tl, Bk, z, Xl, pl, fl, cl⟩
    | succ r ih =>
      intro i hi z hz Tl Bk Xl pl fl cl
      have all := X0.warmed.alike.symm.trans Xl.warmed.alike
      have hAl := hA0.keep all (pl.other hne hA0.1)
      have hBk := hB0.like all pl.1 fl.1 fl.2.1 fl.2.2.1
      have hlt : q + i < Bk.slots.size := by rw [fl.2.2.1]; omega
      have c3 : Steps p.tables e below (s₁.setTop (entryFrame m #[.ref b, .int (Int32.ofNat o), .ref d, .int (Int32.ofNat q), .int (Int32.ofNat len)] 7)) (Tl.setTop (mkF m 12 #[.val (.ref b), .val (.int (Int32.ofNat (o + i))), .val (.ref d), .val (.int (Int32.ofNat (q + i))), .val (.int (Int32.ofNat len)), .val (.int (Int32.ofNat i)), z] [.int (Int32.ofNat (o + i)), .ref b])) := cl.trans (by
        refine XS.iload Xl.here hexec rfl (hb hbytes d3) rfl ?_
        refine XS.iload Xl.here hexec rfl (hb hbytes d5) rfl ?_
        refine XS.icmpNo Xl.here hexec rfl (hb hbytes d7) rfl (ii_ge_f (lt32 (by omega) (by omega))) ?_
        refine XS.aloadN Xl.here hexec rfl (hb hbytes d10) rfl rfl ?_
        refine XS.iloadN Xl.here hexec rfl (hb hbytes d11) rfl ?_
        exact Steps.refl _)
      have c4 : Steps p.tables e below (s₁.setTop (entryFrame m #[.ref b, .int (Int32.ofNat o), .ref d, .int (Int32.ofNat q), .int (Int32.ofNat len)] 7)) (Tl.setTop (mkF m 13 #[.val (.ref b), .val (.int (Int32.ofNat (o + i))), .val (.ref d), .val (.int (Int32.ofNat (q + i))), .val (.int (Int32.ofNat len)), .val (.int (Int32.ofNat i)), z] [.int (cv A (o + i))])) := c3.trans (by
        refine Xl.aget hexec hAl rfl (hA.get (i := o + i) (by omega)) rfl rfl (hb hbytes d12) ?_
        exact Steps.refl _)
      have c5 : Steps p.tables e below (s₁.setTop (entryFrame m #[.ref b, .int (Int32.ofNat o), .ref d, .int (Int32.ofNat q), .int (Int32.ofNat len)] 7)) (Tl.setTop (mkF m 15 #[.val (.ref b), .val (.int (Int32.ofNat (o + i))), .val (.ref d), .val (.int (Int32.ofNat (q + i))), .val (.int (Int32.ofNat len)), .val (.int (Int32.ofNat i)), .val (.int (cv A (o + i)))] [])) := c4.trans (by
        refine XS.istoreS Xl.here hexec rfl (hb hbytes d13) rfl rfl hz ?_
        exact Steps.refl _)
      have c6 : Steps p.tables e below (s₁.setTop (entryFrame m #[.ref b, .int (Int32.ofNat o), .ref d, .int (Int32.ofNat q), .int (Int32.ofNat len)] 7)) (Tl.setTop (mkF m 31 #[.val (.ref b), .val (.int (Int32.ofNat (o + i))), .val (.ref d), .val (.int (Int32.ofNat (q + i))), .val (.int (Int32.ofNat len)), .val (.int (Int32.ofNat i)), .val (.int (cv A (o + i)))] [.int (lo8 (cv A (o + i))), .int (Int32.ofNat (q + i)), .ref d])) := c5.trans (by
        refine XS.iload Xl.here hexec rfl (hb hbytes d15) rfl ?_
        refine sipushV Xl.here hexec rfl 255 (hb hbytes d17) (by decide) ?_
        refine XS.icmpYes Xl.here hexec rfl (pc0 := 20) rfl (hb hbytes d20) rfl (ii_le_t (hp i (by omega))) (by decide) rfl ?_
        refine XS.aloadN Xl.here hexec rfl (hb hbytes d26) rfl rfl ?_
        refine XS.iloadN Xl.here hexec rfl (hb hbytes d27) rfl ?_
        refine XS.iload Xl.here hexec rfl (hb hbytes d28) rfl ?_
        refine i2b Xl.here hexec rfl (hb hbytes d30) rfl ?_
        exact Steps.refl _)
      obtain ⟨T7, X7, p7, st7⟩ := Xl.aput hexec hBk rfl hlt rfl (fits_lo8 (cv A (o + i))) (g := (mkF m 31 #[.val (.ref b), .val (.int (Int32.ofNat (o + i))), .val (.ref d), .val (.int (Int32.ofNat (q + i))), .val (.int (Int32.ofNat len)), .val (.int (Int32.ofNat i)), .val (.int (cv A (o + i)))] [.int (lo8 (cv A (o + i))), .int (Int32.ofNat (q + i)), .ref d])) rfl (rest := []) rfl (hb hbytes d31)
      have c8 : Steps p.tables e below (s₁.setTop (entryFrame m #[.ref b, .int (Int32.ofNat o), .ref d, .int (Int32.ofNat q), .int (Int32.ofNat len)] 7)) (T7.setTop (mkF m 32 #[.val (.ref b), .val (.int (Int32.ofNat (o + i))), .val (.ref d), .val (.int (Int32.ofNat (q + i))), .val (.int (Int32.ofNat len)), .val (.int (Int32.ofNat i)), .val (.int (cv A (o + i)))] [])) := c6.trans (st7 _ (Steps.refl _))
      have c9 : Steps p.tables e below (s₁.setTop (entryFrame m #[.ref b, .int (Int32.ofNat o), .ref d, .int (Int32.ofNat q), .int (Int32.ofNat len)] 7)) (T7.setTop (mkF m 3 #[.val (.ref b), .val (.int (Int32.ofNat (o + i) + 1)), .val (.ref d), .val (.int (Int32.ofNat (q + i) + 1)), .val (.int (Int32.ofNat len)), .val (.int (Int32.ofNat i + 1)), .val (.int (cv A (o + i)))] [])) := c8.trans (by
        refine iincV X7.here hexec rfl 1 (hb hbytes d32) (by decide) rfl rfl ?_
        refine iincV X7.here hexec rfl 1 (hb hbytes d35) (by decide) rfl rfl ?_
        refine iincV X7.here hexec rfl 1 (hb hbytes d38) (by decide) rfl rfl ?_
        refine XS.goto X7.here hexec rfl (pc0 := 41) rfl (hb hbytes d41) (by decide) rfl ?_
        exact Steps.refl _)
      have c10 : Steps p.tables e below (s₁.setTop (entryFrame m #[.ref b, .int (Int32.ofNat o), .ref d, .int (Int32.ofNat q), .int (Int32.ofNat len)] 7)) (T7.setTop (mkF m 3 #[.val (.ref b), .val (.int (Int32.ofNat (o + (i + 1)))), .val (.ref d), .val (.int (Int32.ofNat (q + (i + 1)))), .val (.int (Int32.ofNat len)), .val (.int (Int32.ofNat (i + 1))), .val (.int (cv A (o + i)))] [])) := by
        have := c9
        rw [succ32, succ32, succ32] at this
        exact this
      exact ih (i + 1) (by omega) _ (Or.inr ⟨_, rfl, rfl⟩) T7 _ (by rw [copyLocs_step, ← List.append_assoc]; exact X7) (pl.trans p7) (fl.step (by omega) hlt (by simp)) c10
  obtain ⟨T9, B9, z9, X9, p9, f9, g9⟩ := loop len 0 (by omega) .unset (Or.inl rfl) s₁ B (by simpa [copyLocs] using X0) ⟨hB0.1, fun _ _ => rfl, rfl⟩ (Laid.zero _ _ _) c2
  have c11 : Steps p.tables e below (s₁.setTop (entryFrame m #[.ref b, .int (Int32.ofNat o), .ref d, .int (Int32.ofNat q), .int (Int32.ofNat len)] 7)) (T9.setTop (mkF m 46 #[.val (.ref b), .val (.int (Int32.ofNat (o + len))), .val (.ref d), .val (.int (Int32.ofNat (q + len))), .val (.int (Int32.ofNat len)), .val (.int (Int32.ofNat len)), z9] [.int (Int32.ofNat len)])) := g9.trans (by
    refine XS.iload X9.here hexec rfl (hb hbytes d3) rfl ?_
    refine XS.iload X9.here hexec rfl (hb hbytes d5) rfl ?_
    refine XS.icmpYes X9.here hexec rfl (pc0 := 7) rfl (hb hbytes d7) rfl (ii_ge_t (nlt32 (by omega) (Nat.le_refl _))) (by decide) rfl ?_
    refine XS.iload X9.here hexec rfl (hb hbytes d44) rfl ?_
    exact Steps.refl _)
  exact ⟨T9, some (.int (Int32.ofNat len)), _, _, _, X9, by simp, rfl, rfl, (fun h => by cases h), ⟨rfl, B9, p9.from hh0, f9⟩, fun fs hl => c11.trans (X9.ireturnOut hexec hret rfl (Or.inl rfl) (hb hbytes d46) hl)⟩
end Cmp5
namespace Cmp3
def yN : MethodName := ⟨"java/lang/StringUTF16", "compress", "([CII)[B"⟩
abbrev yB : ByteArray := jdk_52_method_16_code
theorem d0 : decode yB 0 = .ok (.iload_n 2, 1) := by decide +kernel
theorem d1 : decode yB 1 = .ok (.newarray .byte, 2) := by decide +kernel
theorem d3 : decode yB 3 = .ok (.astore_n 3, 1) := by decide +kernel
theorem d4 : decode yB 4 = .ok (.aload_n 0, 1) := by decide +kernel
theorem d5 : decode yB 5 = .ok (.iload_n 1, 1) := by decide +kernel
theorem d6 : decode yB 6 = .ok (.aload_n 3, 1) := by decide +kernel
theorem d7 : decode yB 7 = .ok (.iconst 0, 1) := by decide +kernel
theorem d8 : decode yB 8 = .ok (.iload_n 2, 1) := by decide +kernel
theorem d9 : decode yB 9 = .ok (.invokestatic 115, 3) := by decide +kernel
theorem d12 : decode yB 12 = .ok (.istore 4, 2) := by decide +kernel
theorem d14 : decode yB 14 = .ok (.iload 4, 2) := by decide +kernel
theorem d16 : decode yB 16 = .ok (.iload_n 2, 1) := by decide +kernel
theorem d17 : decode yB 17 = .ok (.if_icmp (.eq) 40, 3) := by decide +kernel
theorem d57 : decode yB 57 = .ok (.aload_n 3, 1) := by decide +kernel
theorem d58 : decode yB 58 = .ok (.areturn, 1) := by decide +kernel
def site : List Cond := [.arrayClass .byte, Cmp5.tab] ++ staticW U16 115 Cmp5.yN
def tab : Cond := tabOf yN yB 6 (some (.array .byte)) site
def P (b : Addr) (A : Cell) (o len : Nat) (args : Array Value) (s : State) : Prop := args = #[.ref b, .int (Int32.ofNat o), .int (Int32.ofNat len)] ∧ Ch b A s ∧ o + len ≤ A.slots.size ∧ len ≤ 536870912 ∧ ∀ i, i < len → ¬ 255 < cv A (o + i)
def E (b : Addr) (A : Cell) (o len : Nat) (r : Option Value) (s u : State) : Prop := NewArr .byte "[B" len (fun j => .int (lo8 (cv A (o + j)))) r s u ∧ u.heap.size = s.heap.size + 1
/-- no char of the range above 255: a new byte[] of their low bytes -/
theorem law (l : Launch) (b : Addr) (A : Cell) (o len : Nat) : Law l yN 3 3 1 18 yB 6 (some (.array .byte)) site (P b A o len) (E b A o len) [] 1 len := by
  refine Law.of_walk (plainFor_of_name (by decide +kernel)) (by decide +kernel) (by decide +kernel) (by decide) (fun _ _ h => by rw [h.1]; rfl) (fun _ U U' hal hh h => ⟨h.1, h.2.1.mv hal hh, h.2.2⟩) (fun r U U' V V' h1 hal h2 h => ⟨NewArr.mv r U U' V V' h1 hal h2 h.1, by rw [h1, h2]; exact h.2⟩) ?_
  intro p e s m args below meth c s₁ X0 hexec hbytes hml hret hlk hnm hown hh0 W hP
  obtain ⟨rfl, hA, l1, l2, hp⟩ := hP
  have a31 := hA.1.2.2.2
  have c1 : Steps p.tables e below (s₁.setTop (entryFrame m #[.ref b, .int (Int32.ofNat o), .int (Int32.ofNat len)] 6)) (s₁.setTop (mkF m 0 #[.val (.ref b), .val (.int (Int32.ofNat o)), .val (.int (Int32.ofNat len)), .unset, .unset, .unset] [])) := entry rfl
  have c2 : Steps p.tables e below (s₁.setTop (entryFrame m #[.ref b, .int (Int32.ofNat o), .int (Int32.ofNat len)] 6)) (s₁.setTop (mkF m 1 #[.val (.ref b), .val (.int (Int32.ofNat o)), .val (.int (Int32.ofNat len)), .unset, .unset, .unset] [.int (Int32.ofNat len)])) := c1.trans (by
    refine XS.iloadN X0.here hexec rfl (hb hbytes d0) rfl ?_
    exact Steps.refl _)
  obtain ⟨T3, B3, X3, ba3, bs3, bv3, bh3, bf3, st3⟩ := X0.anew hexec (atype := .byte) (wk W (.arrayClass .byte)) rfl (by show len * 1 ≤ _; omega) (by omega) (g := (mkF m 1 #[.val (.ref b), .val (.int (Int32.ofNat o)), .val (.int (Int32.ofNat len)), .unset, .unset, .unset] [.int (Int32.ofNat len)])) rfl (hb hbytes d1) (rest := []) rfl (Nat.le_refl _) (by show 0 + len ≤ len; omega)
  rw [hh0] at ba3 st3
  have kp3 : XT.Kept s T3 := (XT.Kept.of_eq hh0).push bh3
  have hA3 := hA.keep X3.warmed.alike (kp3 _ _ hA.1.1)
  have hne : b ≠ s.heap.size := hA.1.ne
  have c4 : Steps p.tables e below (s₁.setTop (entryFrame m #[.ref b, .int (Int32.ofNat o), .int (Int32.ofNat len)] 6)) (T3.setTop (mkF m 3 #[.val (.ref b), .val (.int (Int32.ofNat o)), .val (.int (Int32.ofNat len)), .unset, .unset, .unset] [.ref s.heap.size])) := c2.trans (st3 _ (Steps.refl _))
  have c5 : Steps p.tables e below (s₁.setTop (entryFrame m #[.ref b, .int (Int32.ofNat o), .int (Int32.ofNat len)] 6)) (T3.setTop (mkF m 9 #[.val (.ref b), .val (.int (Int32.ofNat o)), .val (.int (Int32.ofNat len)), .val (.ref s.heap.size), .unset, .unset] [.int (Int32.ofNat len), .int 0, .ref s.heap.size, .int (Int32.ofNat o), .ref b])) := c4.trans (by
    refine XS.astoreN X3.here hexec rfl (hb hbytes d3) rfl rfl rfl ?_
    refine XS.aloadN X3.here hexec rfl (hb hbytes d4) rfl rfl ?_
    refine XS.iloadN X3.here hexec rfl (hb hbytes d5) rfl ?_
    refine XS.aloadN X3.here hexec rfl (hb hbytes d6) rfl rfl ?_
    refine iconstV X3.here hexec rfl 0 (hb hbytes d7) (by decide) ?_
    refine XS.iloadN X3.here hexec rfl (hb hbytes d8) rfl ?_
    exact Steps.refl _)
  obtain ⟨v6, T6, X6, E6, g6⟩ := X3.callS hexec (Cmp5.law l b A s.heap.size B3 o 0 len) hown (wks W (staticW U16 115 Cmp5.yN)) (wk W Cmp5.tab) (W := 0) (Nat.le_of_ble_eq_true rfl) (Nat.le_of_ble_eq_true rfl) (Nat.le_refl _) (by show 0 + len + 0 ≤ len; omega) (g := (mkF m 9 #[.val (.ref b), .val (.int (Int32.ofNat o)), .val (.int (Int32.ofNat len)), .val (.ref s.heap.size), .unset, .unset] [.int (Int32.ofNat len), .int (Int32.ofNat 0), .ref s.heap.size, .int (Int32.ofNat o), .ref b])) rfl (by rw [hml]; rfl) c5 (argsL := [.ref b, .int (Int32.ofNat o), .ref s.heap.size, .int (Int32.ofNat 0), .int (Int32.ofNat len)]) (rest := []) rfl rfl (by show 2 * 0 + 0 ≤ _; decide) (hb hbytes d9) (⟨rfl, hA3, ba3, hne, l1, by rw [bs3]; simp, hp⟩)
  obtain ⟨rfl, B6, p6, f6⟩ := E6
  have c7 : Steps p.tables e below (s₁.setTop (entryFrame m #[.ref b, .int (Int32.ofNat o), .int (Int32.ofNat len)] 6)) (T6.setTop (mkF m 12 #[.val (.ref b), .val (.int (Int32.ofNat o)), .val (.int (Int32.ofNat len)), .val (.ref s.heap.size), .unset, .unset] [.int (Int32.ofNat len)])) := g6
  have c8 : Steps p.tables e below (s₁.setTop (entryFrame m #[.ref b, .int (Int32.ofNat o), .int (Int32.ofNat len)] 6)) (T6.setTop (mkF m 58 #[.val (.ref b), .val (.int (Int32.ofNat o)), .val (.int (Int32.ofNat len)), .val (.ref s.heap.size), .val (.int (Int32.ofNat len)), .unset] [.ref s.heap.size])) := c7.trans (by
    refine XS.istore X6.here hexec rfl (hb hbytes d12) rfl rfl ?_
    refine XS.iload X6.here hexec rfl (hb hbytes d14) rfl ?_
    refine XS.iloadN X6.here hexec rfl (hb hbytes d16) rfl ?_
    refine XS.icmpYes X6.here hexec rfl (pc0 := 17) rfl (hb hbytes d17) rfl (ii_eq_t rfl) (by decide) rfl ?_
    refine XS.aloadN X6.here hexec rfl (hb hbytes d57) rfl rfl ?_
    exact Steps.refl _)
  have X8 := X6.wide (L' := []) (cells' := 1) (slots' := len) (fun x hx hlt => by
    simp only [List.nil_append, copyLocs, List.mem_map, List.mem_range] at hx
    obtain ⟨i, -, rfl⟩ := hx
    exact absurd hlt (Nat.lt_irrefl _)) (Nat.le_refl _) (by omega)
  exact ⟨T6, some (.ref s.heap.size), _, _, _, X8, rfl, rfl, rfl, (fun h => by cases h), ⟨⟨rfl, B6, ba3.like (X3.warmed.alike.symm.trans X6.warmed.alike) p6.1 f6.1 f6.2.1 f6.2.2.1, f6.2.1.trans bv3, by rw [X6.warmed.alike.findClass, f6.1]; exact bf3, by rw [f6.2.2.1, bs3]; simp, fun j hj => by rw [f6.2.2.2 j, if_pos (by omega)]; rfl, kp3.put p6 (Nat.le_refl _)⟩, by rw [p6.2.2, bh3, hh0]; simp⟩, fun fs hl => c8.trans (X8.areturnOut hexec rfl hret rfl (hb hbytes d58) hl)⟩
end Cmp3
namespace CodL
def yN : MethodName := ⟨"java/lang/StringUTF16", "coderFromArrayLen", "([BI)B"⟩
abbrev yB : ByteArray := jdk_52_method_15_code
theorem d0 : decode yB 0 = .ok (.iload_n 1, 1) := by decide +kernel
theorem d1 : decode yB 1 = .ok (.aload_n 0, 1) := by decide +kernel
theorem d2 : decode yB 2 = .ok (.arraylength, 1) := by decide +kernel
theorem d3 : decode yB 3 = .ok (.isub, 1) := by decide +kernel
theorem d4 : decode yB 4 = .ok (.bipush 31, 2) := by decide +kernel
theorem d6 : decode yB 6 = .ok (.iushr, 1) := by decide +kernel
theorem d7 : decode yB 7 = .ok (.i2b, 1) := by decide +kernel
theorem d8 : decode yB 8 = .ok (.ireturn, 1) := by decide +kernel
def site : List Cond := []
def tab : Cond := tabOf yN yB 2 (some .byte) site
def P (d : Addr) (B : Cell) (args : Array Value) (s : State) : Prop := args = #[.ref d, .int (Int32.ofNat B.slots.size)] ∧ Arr .byte d B s
def E (r : Option Value) (s u : State) : Prop := XT.PureE (some (.int 0)) r s u
/-- an array as long as the number of chars: LATIN1 -/
theorem law (l : Launch) (d : Addr) (B : Cell) : Law l yN 2 2 0 0 yB 2 (some .byte) site (P d B) E [] 0 0 := by
  refine Law.of_walk (plainFor_of_name (by decide +kernel)) (by decide +kernel) (by decide +kernel) (by decide) (fun _ _ h => by rw [h.1]; rfl) (fun _ U U' hal hh h => ⟨h.1, h.2.mv hal hh⟩) (fun r U U' V V' h1 hal h2 h => XT.PureE.mv r U U' V V' h1 hal h2 h) ?_
  intro p e s m args below meth c s₁ X0 hexec hbytes hml hret hlk hnm hown hh0 W hP
  obtain ⟨rfl, hB⟩ := hP
  have hB0 := hB.mv X0.warmed.alike hh0
  have c1 : Steps p.tables e below (s₁.setTop (entryFrame m #[.ref d, .int (Int32.ofNat B.slots.size)] 2)) (s₁.setTop (mkF m 0 #[.val (.ref d), .val (.int (Int32.ofNat B.slots.size))] [])) := entry rfl
  have c2 : Steps p.tables e below (s₁.setTop (entryFrame m #[.ref d, .int (Int32.ofNat B.slots.size)] 2)) (s₁.setTop (mkF m 2 #[.val (.ref d), .val (.int (Int32.ofNat B.slots.size))] [.ref d, .int (Int32.ofNat B.slots.size)])) := c1.trans (by
    refine XS.iloadN X0.here hexec rfl (hb hbytes d0) rfl ?_
    refine XS.aloadN X0.here hexec rfl (hb hbytes d1) rfl rfl ?_
    exact Steps.refl _)
  have c3 : Steps p.tables e below (s₁.setTop (entryFrame m #[.ref d, .int (Int32.ofNat B.slots.size)] 2)) (s₁.setTop (mkF m 8 #[.val (.ref d), .val (.int (Int32.ofNat B.slots.size))] [.int (lo8 (ushr (Int32.ofNat B.slots.size - Int32.ofNat B.slots.size) 31))])) := c2.trans (by
    refine X0.alen hexec hB0 rfl rfl (hb hbytes d2) ?_
    refine XS.isub X0.here hexec rfl (hb hbytes d3) rfl ?_
    refine bipushV X0.here hexec rfl 31 (hb hbytes d4) (by decide) ?_
    refine iushr X0.here hexec rfl (hb hbytes d6) rfl ?_
    refine i2b X0.here hexec rfl (hb hbytes d7) rfl ?_
    exact Steps.refl _)
  have e0 : lo8 (ushr (Int32.ofNat B.slots.size - Int32.ofNat B.slots.size) 31) = 0 := by rw [Int32.sub_self]; decide
  rw [e0] at c3
  exact ⟨s₁, some (.int 0), _, _, _, X0, rfl, rfl, rfl, (fun h => by cases h), ⟨rfl, hh0⟩, fun fs hl => c3.trans (X0.ireturnOut hexec hret rfl (Or.inr (Or.inr (Or.inl rfl))) (hb hbytes d8) hl)⟩
end CodL
/-- the String at a is Latin-1 over a new byte[] (the heap's one new cell): the low bytes of the len chars of A from o on; every cell but a is kept -/
def Got (a : Addr) (D : Cell) (fV fC : Field) (A : Cell) (o len : Nat) (r : Option Value) (s u : State) : Prop := r = none ∧ ∃ D' V : Cell, Blank "java/lang/String" a D' u ∧ Same D D' [fV.slot, fC.slot] ∧ D'.slots[fV.slot]? = some (.ref s.heap.size) ∧ D'.slots[fC.slot]? = some (.int 0) ∧ Arr .byte s.heap.size V u ∧ V.vm = .none ∧ u.vm.findClass "[B" = some V.cls ∧ V.slots.size = len ∧ (∀ j, j < len → V.slots[j]? = some (.int (lo8 (cv A (o + j))))) ∧ (∀ (y : Addr) (c : Cell), y ≠ a → s.heap[y]? = some c → u.heap[y]? = some c) ∧ u.heap.size = s.heap.size + 1
theorem Got.mv {a : Addr} {D A : Cell} {fV fC : Field} {o len : Nat} : ∀ r (U U' V V' : State), U'.heap = U.heap → V.vm.Alike V'.vm → V'.heap = V.heap → Got a D fV fC A o len r U V → Got a D fV fC A o len r U' V' :=
  fun r U U' V V' h1 hal h2 ⟨e0, D', X, a1, a2, a3, a4, a5, a6, a7, a8, a9, a10, a11⟩ => ⟨e0, D', X, a1.mv hal h2, a2, by rw [h1]; exact a3, a4, by rw [h1]; exact a5.mv hal h2, a6, by rw [hal.findClass]; exact a7, a8, a9, by rw [h1, h2]; exact a10, by rw [h1, h2]; exact a11⟩
namespace New4
def yN : MethodName := ⟨"java/lang/String", "<init>", "([CIILjava/lang/Void;)V"⟩
abbrev yB : ByteArray := jdk_42_method_149_code
theorem d0 : decode yB 0 = .ok (.aload_n 0, 1) := by decide +kernel
theorem d1 : decode yB 1 = .ok (.invokespecial 1, 3) := by decide +kernel
theorem d4 : decode yB 4 = .ok (.iload_n 3, 1) := by decide +kernel
theorem d5 : decode yB 5 = .ok (.ifCond (.ne) 22, 3) := by decide +kernel
theorem d27 : decode yB 27 = .ok (.getstatic 38, 3) := by decide +kernel
theorem d30 : decode yB 30 = .ok (.ifCond (.eq) 28, 3) := by decide +kernel
theorem d33 : decode yB 33 = .ok (.aload_n 1, 1) := by decide +kernel
theorem d34 : decode yB 34 = .ok (.iload_n 2, 1) := by decide +kernel
theorem d35 : decode yB 35 = .ok (.iload_n 3, 1) := by decide +kernel
theorem d36 : decode yB 36 = .ok (.invokestatic 177, 3) := by decide +kernel
theorem d39 : decode yB 39 = .ok (.astore 5, 2) := by decide +kernel
theorem d41 : decode yB 41 = .ok (.aload_n 0, 1) := by decide +kernel
theorem d42 : decode yB 42 = .ok (.aload 5, 2) := by decide +kernel
theorem d44 : decode yB 44 = .ok (.iload_n 3, 1) := by decide +kernel
theorem d45 : decode yB 45 = .ok (.invokestatic 47, 3) := by decide +kernel
theorem d48 : decode yB 48 = .ok (.putfield 15, 3) := by decide +kernel
theorem d51 : decode yB 51 = .ok (.aload_n 0, 1) := by decide +kernel
theorem d52 : decode yB 52 = .ok (.aload 5, 2) := by decide +kernel
theorem d54 : decode yB 54 = .ok (.putfield 9, 3) := by decide +kernel
theorem d57 : decode yB 57 = .ok (.return_, 1) := by decide +kernel
def site : List Cond := [.fieldLink "java/lang/String" 38 "java/lang/String" "COMPACT_STRINGS" "Z", Cmp3.tab, CodL.tab, .laysFinal "java/lang/String" "java/lang/String" "value" "[B", .fieldLink "java/lang/String" 9 "java/lang/String" "value" "[B", .laysFinal "java/lang/String" "java/lang/String" "coder" "B", .fieldLink "java/lang/String" 15 "java/lang/String" "coder" "B"] ++ objW "java/lang/String" 1 ++ staticW "java/lang/String" 177 Cmp3.yN ++ staticW "java/lang/String" 47 CodL.yN
def tab : Cond := tabOf yN yB 6 none site
def P (a : Addr) (D : Cell) (fV fC : Field) (b : Addr) (A : Cell) (z : Int32) (o len : Nat) (args : Array Value) (s : State) : Prop := args = #[.ref a, .ref b, .int (Int32.ofNat o), .int (Int32.ofNat len), .null] ∧ Blank "java/lang/String" a D s ∧ Found "java/lang/String" "value" "[B" fV s ∧ Found "java/lang/String" "coder" "B" fC s ∧ Ch b A s ∧ StaticIs s "java/lang/String" "COMPACT_STRINGS" "Z" (.int z) ∧ ¬ z = 0 ∧ 0 < len ∧ o + len ≤ A.slots.size ∧ len ≤ 536870912 ∧ ∀ i, i < len → ¬ 255 < cv A (o + i)
def E (a : Addr) (D : Cell) (fV fC : Field) (A : Cell) (o len : Nat) (r : Option Value) (s u : State) : Prop := Got a D fV fC A o len r s u
/-- len > 0, no char of the range above 255: a Latin-1 String of their low bytes -/
theorem law (l : Launch) (a : Addr) (D : Cell) (fV fC : Field) (b : Addr) (A : Cell) (z : Int32) (o len : Nat) : Law l yN 5 4 2 35 yB 6 none site (P a D fV fC b A z o len) (E a D fV fC A o len) [⟨a, fC.slot⟩, ⟨a, fV.slot⟩] 1 len := by
  refine Law.of_walk (plainFor_of_name (by decide +kernel)) (by decide +kernel) (by decide +kernel) (by decide) (fun _ _ h => by rw [h.1]; rfl) (fun _ U U' hal hh h => ⟨h.1, h.2.1.mv hal hh, h.2.2.1.al hal, h.2.2.2.1.al hal, h.2.2.2.2.1.mv hal hh, h.2.2.2.2.2.1.there hal hh, h.2.2.2.2.2.2⟩) (fun r U U' V V' h1 hal h2 h => Got.mv r U U' V V' h1 hal h2 h) ?_
  intro p e s m args below meth c s₁ X0 hexec hbytes hml hret hlk hnm hown hh0 W hP
  obtain ⟨rfl, hB, f1, f2, hA, s1, hz, l0, l1, l2, hp⟩ := hP
  have a31 := hA.1.2.2.2
  have c1 : Steps p.tables e below (s₁.setTop (entryFrame m #[.ref a, .ref b, .int (Int32.ofNat o), .int (Int32.ofNat len), .null] 6)) (s₁.setTop (mkF m 0 #[.val (.ref a), .val (.ref b), .val (.int (Int32.ofNat o)), .val (.int (Int32.ofNat len)), .val .null, .unset] [])) := entry rfl
  have c2 : Steps p.tables e below (s₁.setTop (entryFrame m #[.ref a, .ref b, .int (Int32.ofNat o), .int (Int32.ofNat len), .null] 6)) (s₁.setTop (mkF m 1 #[.val (.ref a), .val (.ref b), .val (.int (Int32.ofNat o)), .val (.int (Int32.ofNat len)), .val .null, .unset] [.ref a])) := c1.trans (by
    refine XS.aloadN X0.here hexec rfl (hb hbytes d0) rfl rfl ?_
    exact Steps.refl _)
  obtain ⟨T3, X3, q3, st3⟩ := X0.oinit hexec hown (wks W (objW "java/lang/String" 1)) (g := (mkF m 1 #[.val (.ref a), .val (.ref b), .val (.int (Int32.ofNat o)), .val (.int (Int32.ofNat len)), .val .null, .unset] [.ref a])) rfl (by rw [hml]; rfl) (rest := []) rfl (hb hbytes d1) (W := 0) (by show 2 * 0 + 0 ≤ _; decide) (Nat.le_of_ble_eq_true rfl) (Nat.le_of_ble_eq_true rfl)
  have hh3 := q3.trans hh0
  have c4 : Steps p.tables e below (s₁.setTop (entryFrame m #[.ref a, .ref b, .int (Int32.ofNat o), .int (Int32.ofNat len), .null] 6)) (T3.setTop (mkF m 27 #[.val (.ref a), .val (.ref b), .val (.int (Int32.ofNat o)), .val (.int (Int32.ofNat len)), .val .null, .unset] [])) := (c2.trans (st3 _ (Steps.refl _))).trans (by
    refine XS.iloadN X3.here hexec rfl (hb hbytes d4) rfl ?_
    refine XS.ifYes X3.here hexec rfl (pc0 := 5) rfl (hb hbytes d5) rfl (i0_ne_t (nz32 (by omega) l0)) (by decide) rfl ?_
    exact Steps.refl _)
  obtain ⟨T5, X5, q5, st5⟩ := X3.sget hexec hown (wk W (.fieldLink "java/lang/String" 38 "java/lang/String" "COMPACT_STRINGS" "Z")) s1 (fun _ _ h => by rw [hh3]; exact h) (g := (mkF m 27 #[.val (.ref a), .val (.ref b), .val (.int (Int32.ofNat o)), .val (.int (Int32.ofNat len)), .val .null, .unset] [])) rfl (hb hbytes d27)
  have hh5 := q5.trans hh3
  have c6 : Steps p.tables e below (s₁.setTop (entryFrame m #[.ref a, .ref b, .int (Int32.ofNat o), .int (Int32.ofNat len), .null] 6)) (T5.setTop (mkF m 30 #[.val (.ref a), .val (.ref b), .val (.int (Int32.ofNat o)), .val (.int (Int32.ofNat len)), .val .null, .unset] [.int z])) := c4.trans (st5 _ (Steps.refl _))
  have c7 : Steps p.tables e below (s₁.setTop (entryFrame m #[.ref a, .ref b, .int (Int32.ofNat o), .int (Int32.ofNat len), .null] 6)) (T5.setTop (mkF m 36 #[.val (.ref a), .val (.ref b), .val (.int (Int32.ofNat o)), .val (.int (Int32.ofNat len)), .val .null, .unset] [.int (Int32.ofNat len), .int (Int32.ofNat o), .ref b])) := c6.trans (by
    refine XS.ifNo X5.here hexec rfl (hb hbytes d30) rfl (i0_eq_f hz) ?_
    refine XS.aloadN X5.here hexec rfl (hb hbytes d33) rfl rfl ?_
    refine XS.iloadN X5.here hexec rfl (hb hbytes d34) rfl ?_
    refine XS.iloadN X5.here hexec rfl (hb hbytes d35) rfl ?_
    exact Steps.refl _)
  obtain ⟨v8, T8, X8, E8, g8⟩ := X5.callS hexec (Cmp3.law l b A o len) hown (wks W (staticW "java/lang/String" 177 Cmp3.yN)) (wk W Cmp3.tab) (W := 0) (Nat.le_of_ble_eq_true rfl) (Nat.le_of_ble_eq_true rfl) (Nat.le_refl _) (by show 0 + len ≤ len; omega) (g := (mkF m 36 #[.val (.ref a), .val (.ref b), .val (.int (Int32.ofNat o)), .val (.int (Int32.ofNat len)), .val .null, .unset] [.int (Int32.ofNat len), .int (Int32.ofNat o), .ref b])) rfl (by rw [hml]; rfl) c7 (argsL := [.ref b, .int (Int32.ofNat o), .int (Int32.ofNat len)]) (rest := []) rfl rfl (by show 2 * 0 + 0 ≤ _; decide) (hb hbytes d36) (⟨rfl, hA.mv X5.warmed.alike hh5, l1, l2, hp⟩)
  obtain ⟨e8, z8⟩ := E8
  obtain ⟨rfl, N, n1, n2, n3, n4, n5, n6⟩ := NewArr.mv _ T5 s _ _ hh5.symm (Vm.Alike.refl _) rfl e8
  rw [hh5] at z8
  have hB1 := hB.keep X8.warmed.alike (n6 _ _ hB.1)
  have hne : s.heap.size ≠ a := (Nat.ne_of_lt (Array.getElem?_eq_some_iff.mp hB.1).1).symm
  have c9 : Steps p.tables e below (s₁.setTop (entryFrame m #[.ref a, .ref b, .int (Int32.ofNat o), .int (Int32.ofNat len), .null] 6)) (T8.setTop (mkF m 39 #[.val (.ref a), .val (.ref b), .val (.int (Int32.ofNat o)), .val (.int (Int32.ofNat len)), .val .null, .unset] [.ref s.heap.size])) := g8
  have c10 : Steps p.tables e below (s₁.setTop (entryFrame m #[.ref a, .ref b, .int (Int32.ofNat o), .int (Int32.ofNat len), .null] 6)) (T8.setTop (mkF m 45 #[.val (.ref a), .val (.ref b), .val (.int (Int32.ofNat o)), .val (.int (Int32.ofNat len)), .val .null, .val (.ref s.heap.size)] [.int (Int32.ofNat N.slots.size), .ref s.heap.size, .ref a])) := by
    have hc : Steps p.tables e below (s₁.setTop (entryFrame m #[.ref a, .ref b, .int (Int32.ofNat o), .int (Int32.ofNat len), .null] 6)) (T8.setTop (mkF m 45 #[.val (.ref a), .val (.ref b), .val (.int (Int32.ofNat o)), .val (.int (Int32.ofNat len)), .val .null, .val (.ref s.heap.size)] [.int (Int32.ofNat len), .ref s.heap.size, .ref a])) := c9.trans (by
      refine XS.astore X8.here hexec rfl (hb hbytes d39) rfl rfl rfl ?_
      refine XS.aloadN X8.here hexec rfl (hb hbytes d41) rfl rfl ?_
      refine XS.aload X8.here hexec rfl (hb hbytes d42) rfl rfl ?_
      refine XS.iloadN X8.here hexec rfl (hb hbytes d44) rfl ?_
      exact Steps.refl _)
    rw [n4]; exact hc
  obtain ⟨v11, T11, X11, E11, g11⟩ := X8.callS hexec (CodL.law l s.heap.size N) hown (wks W (staticW "java/lang/String" 47 CodL.yN)) (wk W CodL.tab) (W := 1) (Nat.le_of_ble_eq_true rfl) (Nat.le_of_ble_eq_true rfl) (Nat.le_refl _) (by show 0 + len + 0 ≤ len; omega) (g := (mkF m 45 #[.val (.ref a), .val (.ref b), .val (.int (Int32.ofNat o)), .val (.int (Int32.ofNat len)), .val .null, .val (.ref s.heap.size)] [.int (Int32.ofNat N.slots.size), .ref s.heap.size, .ref a])) rfl (by rw [hml]; rfl) c10 (argsL := [.ref s.heap.size, .int (Int32.ofNat N.slots.size)]) (rest := [.ref a]) rfl rfl (by show 2 * 0 + (1 + 0) ≤ _; decide) (hb hbytes d45) (⟨rfl, n1⟩)
  obtain ⟨rfl, q11⟩ := E11
  have hB11 := hB1.mv (X8.warmed.alike.symm.trans X11.warmed.alike) q11
  have c12 : Steps p.tables e below (s₁.setTop (entryFrame m #[.ref a, .ref b, .int (Int32.ofNat o), .int (Int32.ofNat len), .null] 6)) (T11.setTop (mkF m 48 #[.val (.ref a), .val (.ref b), .val (.int (Int32.ofNat o)), .val (.int (Int32.ofNat len)), .val .null, .val (.ref s.heap.size)] [.int 0, .ref a])) := g11
  obtain ⟨T13, X13, p13, bl13, sl13, st13⟩ := X11.finit hexec hown (wk W (.fieldLink "java/lang/String" 15 "java/lang/String" "coder" "B")) (Or.inr ⟨_, (wk W (.laysFinal "java/lang/String" "java/lang/String" "coder" "B"))⟩) (Or.inl ⟨rfl, hnm⟩) f2 (Or.inl rfl) hB11 (t := .byte) (by decide +kernel) rfl (g := (mkF m 48 #[.val (.ref a), .val (.ref b), .val (.int (Int32.ofNat o)), .val (.int (Int32.ofNat len)), .val .null, .val (.ref s.heap.size)] [.int 0, .ref a])) rfl (rest := []) rfl (hb hbytes d48)
  have c14 : Steps p.tables e below (s₁.setTop (entryFrame m #[.ref a, .ref b, .int (Int32.ofNat o), .int (Int32.ofNat len), .null] 6)) (T13.setTop (mkF m 54 #[.val (.ref a), .val (.ref b), .val (.int (Int32.ofNat o)), .val (.int (Int32.ofNat len)), .val .null, .val (.ref s.heap.size)] [.ref s.heap.size, .ref a])) := (c12.trans (st13 _ (Steps.refl _))).trans (by
    refine XS.aloadN X13.here hexec rfl (hb hbytes d51) rfl rfl ?_
    refine XS.aload X13.here hexec rfl (hb hbytes d52) rfl rfl ?_
    exact Steps.refl _)
  obtain ⟨T15, X15, p15, bl15, sl15, st15⟩ := X13.finit hexec hown (wk W (.fieldLink "java/lang/String" 9 "java/lang/String" "value" "[B")) (Or.inr ⟨_, (wk W (.laysFinal "java/lang/String" "java/lang/String" "value" "[B"))⟩) (Or.inl ⟨rfl, hnm⟩) f1 (Or.inl rfl) bl13 (t := (.array .byte)) (by decide +kernel) rfl (g := (mkF m 54 #[.val (.ref a), .val (.ref b), .val (.int (Int32.ofNat o)), .val (.int (Int32.ofNat len)), .val .null, .val (.ref s.heap.size)] [.ref s.heap.size, .ref a])) rfl (rest := []) rfl (hb hbytes d54)
  have c16 : Steps p.tables e below (s₁.setTop (entryFrame m #[.ref a, .ref b, .int (Int32.ofNat o), .int (Int32.ofNat len), .null] 6)) (T15.setTop (mkF m 57 #[.val (.ref a), .val (.ref b), .val (.int (Int32.ofNat o)), .val (.int (Int32.ofNat len)), .val .null, .val (.ref s.heap.size)] [])) := c14.trans (st15 _ (Steps.refl _))
  have ap := apart (Or.inr ⟨_, (wk W (.laysFinal "java/lang/String" "java/lang/String" "value" "[B"))⟩) (Or.inr ⟨_, (wk W (.laysFinal "java/lang/String" "java/lang/String" "coder" "B"))⟩) f1 f2 (t₁ := .array .byte) (t₂ := .byte) (by decide +kernel) (by decide +kernel) (by decide)
  have al := X8.warmed.alike.symm.trans X15.warmed.alike
  have n7 : T11.heap[s.heap.size]? = some N := by rw [q11]; exact n1.1
  exact ⟨T15, none, _, _, _, X15, by simp, rfl, by omega, (fun _ => rfl), ⟨rfl, _, N, bl15, ((Same.refl D _).set _ (by simp)).set _ (by simp), sl15, (Cell.slots_setSlot_ne _ ap).trans sl13, n1.keep al (p15.other hne (p13.other hne n7)), n2, by rw [al.findClass]; exact n3, n4, n5, fun y c h1 h2 => p15.other h1 (p13.other h1 (by rw [q11]; exact n6 y c h2)), by rw [p15.2.2, p13.2.2, q11]; exact z8⟩, fun fs hl => c16.trans (X15.returnOut hexec hret (hb hbytes d57) hl)⟩
end New4
namespace New1
def yN : MethodName := ⟨"java/lang/String", "<init>", "([C)V"⟩
abbrev yB : ByteArray := jdk_42_method_3_code
theorem d0 : decode yB 0 = .ok (.aload_n 0, 1) := by decide +kernel
theorem d1 : decode yB 1 = .ok (.aload_n 1, 1) := by decide +kernel
theorem d2 : decode yB 2 = .ok (.iconst 0, 1) := by decide +kernel
theorem d3 : decode yB 3 = .ok (.aload_n 1, 1) := by decide +kernel
theorem d4 : decode yB 4 = .ok (.arraylength, 1) := by decide +kernel
theorem d5 : decode yB 5 = .ok (.aconst_null, 1) := by decide +kernel
theorem d6 : decode yB 6 = .ok (.invokespecial 27, 3) := by decide +kernel
theorem d9 : decode yB 9 = .ok (.return_, 1) := by decide +kernel
def site : List Cond := [New4.tab] ++ initW "java/lang/String" 27 New4.yN
def tab : Cond := tabOf yN yB 2 none site
def P (a : Addr) (D : Cell) (fV fC : Field) (b : Addr) (A : Cell) (z : Int32) (args : Array Value) (s : State) : Prop := args = #[.ref a, .ref b] ∧ Blank "java/lang/String" a D s ∧ Found "java/lang/String" "value" "[B" fV s ∧ Found "java/lang/String" "coder" "B" fC s ∧ Ch b A s ∧ StaticIs s "java/lang/String" "COMPACT_STRINGS" "Z" (.int z) ∧ ¬ z = 0 ∧ 0 < A.slots.size ∧ A.slots.size ≤ 536870912 ∧ ∀ i, i < A.slots.size → ¬ 255 < cv A i
def E (a : Addr) (D : Cell) (fV fC : Field) (A : Cell) (r : Option Value) (s u : State) : Prop := Got a D fV fC A 0 A.slots.size r s u
/-- new String(chars), not empty, no char above 255: a Latin-1 String of their low bytes -/
theorem law (l : Launch) (a : Addr) (D : Cell) (fV fC : Field) (b : Addr) (A : Cell) (z : Int32) : Law l yN 2 1 3 52 yB 2 none site (P a D fV fC b A z) (E a D fV fC A) [⟨a, fC.slot⟩, ⟨a, fV.slot⟩] 1 A.slots.size := by
  refine Law.of_walk (plainFor_of_name (by decide +kernel)) (by decide +kernel) (by decide +kernel) (by decide) (fun _ _ h => by rw [h.1]; rfl) (fun _ U U' hal hh h => ⟨h.1, h.2.1.mv hal hh, h.2.2.1.al hal, h.2.2.2.1.al hal, h.2.2.2.2.1.mv hal hh, h.2.2.2.2.2.1.there hal hh, h.2.2.2.2.2.2⟩) (fun r U U' V V' h1 hal h2 h => Got.mv r U U' V V' h1 hal h2 h) ?_
  intro p e s m args below meth c s₁ X0 hexec hbytes hml hret hlk hnm hown hh0 W hP
  obtain ⟨rfl, hB, f1, f2, hA, s1, hz, l0, l2, hp⟩ := hP
  have c1 : Steps p.tables e below (s₁.setTop (entryFrame m #[.ref a, .ref b] 2)) (s₁.setTop (mkF m 0 #[.val (.ref a), .val (.ref b)] [])) := entry rfl
  have c2 : Steps p.tables e below (s₁.setTop (entryFrame m #[.ref a, .ref b] 2)) (s₁.setTop (mkF m 6 #[.val (.ref a), .val (.ref b)] [.null, .int (Int32.ofNat A.slots.size), .int 0, .ref b, .ref a])) := c1.trans (by
    refine XS.aloadN X0.here hexec rfl (hb hbytes d0) rfl rfl ?_
    refine XS.aloadN X0.here hexec rfl (hb hbytes d1) rfl rfl ?_
    refine iconstV X0.here hexec rfl 0 (hb hbytes d2) (by decide) ?_
    refine XS.aloadN X0.here hexec rfl (hb hbytes d3) rfl rfl ?_
    refine X0.alen hexec (hA.1.mv X0.warmed.alike hh0) rfl rfl (hb hbytes d4) ?_
    refine XS.aconstNull X0.here hexec rfl (hb hbytes d5) ?_
    exact Steps.refl _)
  obtain ⟨v3, T3, X3, E3, g3⟩ := X0.callN hexec (New4.law l a D fV fC b A z 0 A.slots.size) rfl hown (wks W (initW "java/lang/String" 27 New4.yN)) (W New4.tab (by simp only [site, List.mem_cons, List.mem_append, true_or, or_true])) (W := 0) (Nat.le_of_ble_eq_true rfl) (Nat.le_of_ble_eq_true rfl) (Nat.le_refl _) (by show 0 + A.slots.size ≤ A.slots.size; omega) (g := (mkF m 6 #[.val (.ref a), .val (.ref b)] [.null, .int (Int32.ofNat A.slots.size), .int (Int32.ofNat 0), .ref b, .ref a])) rfl (by rw [hml]; rfl) c2 (argsL := [.ref b, .int (Int32.ofNat 0), .int (Int32.ofNat A.slots.size), .null]) (rest := []) rfl rfl (by show 2 * 0 + 0 ≤ _; decide) (hb hbytes d6) (⟨rfl, hB.mv X0.warmed.alike hh0, f1.al X0.warmed.alike, f2.al X0.warmed.alike, hA.mv X0.warmed.alike hh0, s1.there X0.warmed.alike hh0, hz, l0, by omega, l2, fun i hi => by rw [Nat.zero_add]; exact hp i hi⟩)
  have e0 := Got.mv _ s₁ s _ _ hh0.symm (Vm.Alike.refl _) rfl E3
  obtain rfl := e0.1
  have c4 : Steps p.tables e below (s₁.setTop (entryFrame m #[.ref a, .ref b] 2)) (T3.setTop (mkF m 9 #[.val (.ref a), .val (.ref b)] [])) := g3
  exact ⟨T3, none, _, _, _, X3, by simp, rfl, by omega, (fun _ => rfl), e0, fun fs hl => c4.trans (X3.returnOut hexec hret (hb hbytes d9) hl)⟩
theorem pays {l : Launch} {R : Room} {p : Program} {e : Env} {below : List Frame} {s : State} {sargs : Array Value} {len W : Nat} (a : Addr) (D : Cell) (fV fC : Field) (b : Addr) (A : Cell) (z : Int32) (htab : tab.before sargs s = true) (hfr : 4 ≤ R.frames) (hlo : W + 65 ≤ R.locals) :
    Back l R p e below s sargs yN len W (fun A₁ a₁ => A₁.cells + 1 ≤ R.cells ∧ A₁.slots + A.slots.size ≤ R.slots ∧ P a D fV fC b A z a₁ A₁.U) (fun A₁ _ v₁ B₁ => E a D fV fC A v₁ A₁.U B₁.U ∧ B₁.locs = A₁.locs ++ [⟨a, fC.slot⟩, ⟨a, fV.slot⟩] ∧ B₁.cells = A₁.cells + 1 ∧ B₁.slots = A₁.slots + A.slots.size) :=
  (law l a D fV fC b A z).pays htab hfr (by omega)
end New1
/-- the byte, read back as charAt reads it, is the char -/
theorem lo8_mask {x : Int32} (h0 : ¬ x < 0) (h1 : ¬ 255 < x) : lo8 x &&& 255 = x := by
  have t : ∀ k : Fin 256, lo8 (Int32.ofNat k.val) &&& 255 = Int32.ofNat k.val := by decide +kernel
  rw [Int32.lt_iff_toInt_lt] at h0 h1
  have e0 : (0 : Int32).toInt = 0 := rfl
  have e1 : (255 : Int32).toInt = 255 := rfl
  obtain ⟨k, hk⟩ : ∃ k : Nat, x.toInt = k := ⟨x.toInt.toNat, by omega⟩
  have hx : x = Int32.ofNat k := Int32.toInt_inj.mp (by rw [hk, Int32.toInt_ofNat_small (by omega)])
  rw [hx]
  exact t ⟨k, by omega⟩
end StrChars
namespace StrChars.Road
open Jvm Sem ClassFile Op Lib Jvm.Stand Jvm.Free Jvm.Free.XT
open Jvm.Lib.Cold (StaticIs)
abbrev ST : String := "java/lang/String"
/-- every table word that New1's law asks, flat -/
abbrev words : List Jvm.Cond := [.code New1.yN New1.yB 2 none, .initialized ST, .methodLink ST 27 New4.yN, .instanceMethod New4.yN,
  .code New4.yN New4.yB 6 none, .fieldLink ST 38 ST "COMPACT_STRINGS" "Z", .laysFinal ST ST "value" "[B", .fieldLink ST 9 ST "value" "[B", .laysFinal ST ST "coder" "B", .fieldLink ST 15 ST "coder" "B",
  .methodLink ST 1 Lib.objectInit, .instanceMethod Lib.objectInit, .code Lib.objectInit ⟨#[0xb1]⟩ 1 none, .methodLink ST 177 Cmp3.yN, .static Cmp3.yN, .methodLink ST 47 CodL.yN, .static CodL.yN,
  .code Cmp3.yN Cmp3.yB 6 (some (.array .byte)), .initialized U16, .arrayClass .byte, .methodLink U16 115 Cmp5.yN, .static Cmp5.yN, .code Cmp5.yN Cmp5.yB 7 (some .int), .code CodL.yN CodL.yB 2 (some .byte)]
theorem tab_of {a : Array Value} {s : State} (h : ∀ w ∈ words, w.before a s = true) : New1.tab.before a s = true := by
  have h5 : Cmp5.tab.before a s = true := unparts (wk h (.code Cmp5.yN Cmp5.yB 7 (some .int))) (wks h (.initialized Cmp5.yN.cls :: Cmp5.site))
  have hc : CodL.tab.before a s = true := unparts (wk h (.code CodL.yN CodL.yB 2 (some .byte))) (wks h (.initialized CodL.yN.cls :: CodL.site))
  have q5 : ∀ w ∈ Cmp5.tab :: words, w.before a s = true := fun w hw => (List.mem_cons.mp hw).elim (fun e => e ▸ h5) (h w)
  have h3 : Cmp3.tab.before a s = true := unparts (wk q5 (.code Cmp3.yN Cmp3.yB 6 (some (.array .byte)))) (wks q5 (.initialized Cmp3.yN.cls :: Cmp3.site))
  have q3 : ∀ w ∈ Cmp3.tab :: CodL.tab :: words, w.before a s = true := fun w hw => (List.mem_cons.mp hw).elim (fun e => e ▸ h3) fun hw => (List.mem_cons.mp hw).elim (fun e => e ▸ hc) (h w)
  have h4 : New4.tab.before a s = true := unparts (wk q3 (.code New4.yN New4.yB 6 none)) (wks q3 (.initialized New4.yN.cls :: New4.site))
  have q4 : ∀ w ∈ New4.tab :: words, w.before a s = true := fun w hw => (List.mem_cons.mp hw).elim (fun e => e ▸ h4) (h w)
  exact unparts (wk q4 (.code New1.yN New1.yB 2 none)) (wks q4 (.initialized New1.yN.cls :: New1.site))
/-- the words ride from the start Z to the walk's own state -/
theorem moved {Z s : State} {a0 args : Array Value} (hZ : Z.Warmed39 s.vm) (hw : ∀ d ∈ words, d.before a0 Z = true) : ∀ d ∈ words, d.before args s = true := fun d hd => by
  have q := hw d hd
  have t : ∀ d ∈ words, d = .arrayClass .byte ∨ (d.onTables && d.keepsFace) = true := by decide +kernel
  rcases t d hd with rfl | t
  · exact RoadKit.mvA hZ q
  · exact RoadKit.mv hZ q t
/-- WHAT COMES BACK, over the tables of the start Z: h the heap at the call, h' behind it -/
def Q (Z : State) (x : Addr) (A : Cell) (h : Heap) (v : Option Value) (h' : Heap) (L : List Loc) : Prop := v = none ∧ (∀ y ∈ L, y.base = x) ∧ RoadKit.Keep h h' [x] ∧ h'.size = h.size + 1 ∧ RoadKit.Exa Z h' x ST ∧ RoadKit.Fld Z h' x ST "value" "[B" (.ref h.size) ∧ RoadKit.Fld Z h' x ST "coder" "B" (.int 0) ∧
  (∃ V : Cell, RoadKit.Arr Z h' h.size V .byte ∧ V.vm = .none ∧ Z.vm.findClass "[B" = some V.cls ∧ V.slots.size = A.slots.size ∧ ∀ j, j < A.slots.size → V.slots[j]? = some (.int (lo8 (cv A j)))) ∧
  ∀ (O n d : String) (w : Value), RoadKit.Fld Z h x O n d w → RoadKit.slotOf Z O n d ≠ RoadKit.slotOf Z ST "value" "[B" → RoadKit.slotOf Z O n d ≠ RoadKit.slotOf Z ST "coder" "B" → RoadKit.Fld Z h' x O n d w
/-- **new String(chars) AT A CALL, IN THE ROAD'S FORM**: for specialBack behind newO: x the fresh String, b the char[] with the cell A -/
theorem back {p : Program} {l : Launch} {e : Env} {R : Room} {s : State} {args : Array Value} {below : List Frame} {len W : Nat} {Z : State} {a0 : Array Value} {h : Heap} (hZ : Z.Warmed39 s.vm) (hw : ∀ d ∈ words, d.before a0 Z = true) {kI : Nat} (wi : (Jvm.Cond.instantiable ST kI).before a0 Z = true)
    {x b : Addr} {A : Cell} {z : Int32} {v0 c0 : Value} (E : RoadKit.Exa Z h x ST) (V : RoadKit.Fld Z h x ST "value" "[B" v0) (C : RoadKit.Fld Z h x ST "coder" "B" c0) (K : RoadKit.Arr Z h b A .char) (hty : Typed .char A) (S : RoadKit.Sta Z h ST "COMPACT_STRINGS" "Z" (.int z)) (hz : ¬ z = 0)
    (l0 : 0 < A.slots.size) (l2 : A.slots.size ≤ 536870912) (hp : ∀ i, i < A.slots.size → ¬ 255 < cv A i) (hfr : 4 ≤ R.frames) (hlo : W + 65 ≤ R.locals) :
    Back l R p e below s args New1.yN len W (fun P a => a = #[.ref x, .ref b] ∧ P.U.heap = h ∧ P.cells + 1 ≤ R.cells ∧ P.slots + A.slots.size ≤ R.slots)
      (fun P _ v B => ∃ L, Q Z x A h v B.U.heap L ∧ B.locs = P.locs ++ L ∧ B.cells = P.cells + 1 ∧ B.slots = P.slots + A.slots.size) := by
  intro m meth c P g ig mk a X hg hsize hdg hW hn hp'
  obtain ⟨rfl, rfl, r1, r2⟩ := hp'
  have al : Z.vm.Alike P.U.vm := hZ.alike.trans X.warmed.alike
  obtain ⟨D, cfV, kV, iV, fV, hD, gV, stV, knV, obV, asV, slV⟩ := id V
  obtain ⟨D', cfC, kC, iC, fC, hD', gC, stC, -, -, asC, slC⟩ := id C
  cases hD.symm.trans hD'
  obtain ⟨D2, kD, e1, e2, e3, e4, e5⟩ := id E
  cases hD.symm.trans e1
  obtain ⟨c2, k2, i1, i2, i3, -⟩ := Cond.instantiable_spec wi
  cases e2.symm.trans i1
  cases e3.symm.trans i2
  obtain ⟨kU, u1, u2⟩ := al.2.2 _ _ e3
  have hB : Blank ST x D P.U := ⟨hD, ⟨knV, fun q hq => by rw [hq] at obV; cases obV⟩, by rw [al.findClass]; exact e2, kU, u1, by rw [u2]; exact i3, by rw [u2]; exact e5 i3⟩
  have F1 : Found ST "value" "[B" fV P.U := ⟨SBG.found_only al ⟨cfV, kV, iV, gV⟩, stV⟩
  have F2 : Found ST "coder" "B" fC P.U := ⟨SBG.found_only al ⟨cfC, kC, iC, gC⟩, stC⟩
  have hA : Ch b A P.U := ⟨⟨K.1, State.isArrayOf_alike al K.2.1, K.2.2, by omega⟩, hty⟩
  have hS : StaticIs P.U ST "COMPACT_STRINGS" "Z" (.int z) := by
    obtain ⟨cfS, iS, kS, fS, st, cS, t1, t2, t3, t4, t5, t6, t7⟩ := S
    exact StaticIs.there (s := { Z with heap := P.U.heap }) ⟨cfS, iS, kS, fS, st, cS, t1, t2, t3, t4, t5, (fun q => by rw [q] at t6; cases t6), t7⟩ al rfl
  obtain ⟨v, B, X', ⟨⟨hv, E', V', q1, q2, q3, q4, q5, q6, q7, q8, q9, q10, q11⟩, hl, hc, hs⟩, st⟩ := New1.pays x D fV fC b A z (tab_of (moved hZ hw)) hfr hlo m meth c P g ig mk _ X hg hsize hdg hW hn ⟨r1, r2, rfl, hB, F1, F2, hA, hS, hz, l0, l2, hp⟩
  have al' : Z.vm.Alike B.U.vm := hZ.alike.trans X'.warmed.alike
  have hsz : E'.slots.size = D.slots.size := by
    obtain ⟨-, -, -, kB, w1, w2, w3⟩ := q1
    obtain ⟨kB', y1, y2⟩ := al'.2.2 _ _ e3
    rw [q2.2.1] at w1
    cases w1.symm.trans y1
    rw [w3, e5 i3, y2]
  refine ⟨v, B, X', ⟨_, ⟨hv, ?_, ⟨by omega, fun y cy hy hn' => q10 y cy (by simpa using hn') hy, fun y cy hy => ?_⟩, q11, ⟨E', _, q1.1, by rw [q2.2.1]; exact e2, by rw [q2.2.1]; exact e3, by rw [q2.1]; exact obV, fun _ => by rw [hsz]; exact e5 i3⟩,
    ⟨E', cfV, kV, iV, fV, q1.1, gV, stV, by rw [q2.1]; exact knV, by rw [q2.1]; exact obV, by rw [q2.2.1]; exact asV, q3⟩, ⟨E', cfC, kC, iC, fC, q1.1, gC, stC, by rw [q2.1]; exact knV, by rw [q2.1]; exact obV, by rw [q2.2.1]; exact asC, q4⟩,
    ⟨V', ⟨q5.1, State.isArrayOf_alike al'.symm q5.2.1, q5.2.2.1⟩, q6, by rw [← al'.findClass]; exact q7, q8, fun j hj => by have := q9 j hj; rwa [Nat.zero_add] at this⟩, fun O n d w F n1 n2 => ?_⟩, hl, hc, hs⟩, st⟩
  · intro y hy
    simp only [List.mem_cons, List.not_mem_nil, or_false] at hy
    rcases hy with rfl | rfl <;> rfl
  · by_cases q : y = x
    · subst q
      cases hD.symm.trans hy
      exact ⟨E', q1.1, q2.2.1, q2.1, hsz⟩
    · exact ⟨cy, q10 y cy q hy, rfl, rfl, rfl⟩
  · obtain ⟨D3, cf, k, i, f, g1, g2, g3, g4, g5, g6, g7⟩ := F
    cases hD.symm.trans g1
    simp only [RoadKit.slotOf, g2, gV, gC, Option.map_some, Option.getD_some] at n1 n2
    exact ⟨E', cf, k, i, f, q1.1, g2, g3, by rw [q2.1]; exact g4, by rw [q2.1]; exact g5, by rw [q2.2.1]; exact g6, by rw [q2.2.2 f.slot (by simp [n1, n2])]; exact g7⟩
end StrChars.Road
namespace StrChars.Road
open Jvm Sem ClassFile Op Lib Jvm.Stand Jvm.Free Jvm.Free.XT
/-- WHAT COMES BACK, the byte[] as a list of values -/
def QA (Z : State) (x : Addr) (zn : Int32) (cs : List Int32) (h : Heap) (v : Option Value) (h' : Heap) (L : List Loc) : Prop := v = none ∧ (∀ y ∈ L, y.base = x) ∧ RoadKit.Keep h h' [x] ∧ h'.size = h.size + 1 ∧ RoadKit.Exa Z h' x ST ∧ RoadKit.Fld Z h' x ST "value" "[B" (.ref h.size) ∧ RoadKit.Fld Z h' x ST "coder" "B" (.int 0) ∧
  (∃ kb, Z.vm.findClass "[B" = some kb ∧ RoadKit.Arv Z h' h.size kb .byte zn (cs.map fun c => .int (lo8 c)) (.int 0)) ∧
  ∀ (O n d : String) (w : Value), RoadKit.Fld Z h x O n d w → RoadKit.slotOf Z O n d ≠ RoadKit.slotOf Z ST "value" "[B" → RoadKit.slotOf Z O n d ≠ RoadKit.slotOf Z ST "coder" "B" → RoadKit.Fld Z h' x O n d w
/-- **new String(chars) AT A CALL, THE ARRAYS AS LISTS**: the char[] at b holds cs, not empty, no char above 255 -/
theorem backArv {p : Program} {l : Launch} {e : Env} {R : Room} {s : State} {args : Array Value} {below : List Frame} {len W : Nat} {Z : State} {a0 : Array Value} {h : Heap} (hZ : Z.Warmed39 s.vm) (hw : ∀ d ∈ words, d.before a0 Z = true) {kI : Nat} (wi : (Jvm.Cond.instantiable ST kI).before a0 Z = true)
    {x b : Addr} {k : ClassId} {zn z : Int32} {cs : List Int32} {dv v0 c0 : Value} (E : RoadKit.Exa Z h x ST) (V : RoadKit.Fld Z h x ST "value" "[B" v0) (C : RoadKit.Fld Z h x ST "coder" "B" c0) (K : RoadKit.Arv Z h b k .char zn (cs.map Value.int) dv) (S : RoadKit.Sta Z h ST "COMPACT_STRINGS" "Z" (.int z)) (hz : ¬ z = 0)
    (hlen : zn.toNatClampNeg = cs.length) (h0 : 0 < cs.length) (hbig : cs.length ≤ 536870912) (hall : ∀ c ∈ cs, ¬ 255 < c) (hfr : 4 ≤ R.frames) (hlo : W + 65 ≤ R.locals) :
    Back l R p e below s args New1.yN len W (fun P a => a = #[.ref x, .ref b] ∧ P.U.heap = h ∧ P.cells + 1 ≤ R.cells ∧ P.slots + cs.length ≤ R.slots)
      (fun P _ v B => ∃ L, QA Z x zn cs h v B.U.heap L ∧ B.locs = P.locs ++ L ∧ B.cells = P.cells + 1 ∧ B.slots = P.slots + cs.length) := by
  obtain ⟨A, K1, K2, K3, K4, K5, K6⟩ := K
  have e : A.slots.size = cs.length := K3.trans hlen
  have hat : ∀ (i : Nat) (hi : i < cs.length), A.slots[i]? = some (.int cs[i]) := fun i hi => by rw [K5 i (by omega)]; simp [List.getD_eq_getElem?_getD, hi]
  have hcv : ∀ (i : Nat) (hi : i < cs.length), cv A i = cs[i] := fun i hi => by unfold cv; rw [hat i hi]
  have hty : Typed .char A := fun i v hv => by
    have hi : i < A.slots.size := (Array.getElem?_eq_some_iff.mp hv).1
    have q := K5 i hi
    rw [hv] at q
    rw [Option.some.inj q]
    exact K6 i hi
  refine Back.mono (back hZ hw wi E V C K1 hty S hz (by omega) (by omega) (fun i hi => by rw [hcv i (by omega)]; exact hall _ (List.getElem_mem _)) hfr hlo) (fun P a hp => ⟨hp.1, hp.2.1, hp.2.2.1, by rw [e]; exact hp.2.2.2⟩) (fun P a v B hp hq => ?_)
  obtain ⟨L, ⟨q1, q2, q3, q4, q5, q6, q7, ⟨V', v1, v2, v3, v4, v5⟩, q9⟩, hl, hc, hs⟩ := hq
  refine ⟨L, ⟨q1, q2, q3, q4, q5, q6, q7, ⟨V'.cls, v3, V', v1, rfl, by rw [v4, e, hlen], K4, fun i hi => ?_, fun i hi => ?_⟩, q9⟩, hl, hc, by rw [hs, e]⟩
  · have hi' : i < cs.length := by omega
    rw [v5 i (by omega), hcv i hi']; simp [List.getD_eq_getElem?_getD, hi']
  · have hi' : i < cs.length := by omega
    simp only [List.getD_eq_getElem?_getD, List.getElem?_map, List.getElem?_eq_getElem hi', Option.map_some, Option.getD_some]
    exact fits_lo8 _
end StrChars.Road
namespace StrChars.Road
open Jvm Sem ClassFile Op Lib Jvm.Stand Jvm.Free Jvm.Free.XT
/-- WHAT COMES BACK, in the writer's own shape -/
def QV (Z : State) (x : Addr) (N : Int32) (bs : List Int32) (h : Heap) (n0 : Nat) (v : Option Value) (h' : Heap) (L : List Loc) : Prop := v = none ∧ RoadKit.Fr n0 L ∧ RoadKit.Keep h h' [x] ∧ RoadKit.Exa Z h' x ST ∧ RoadKit.Fld Z h' x ST "coder" "B" (.int 0) ∧
  ∃ (t : Addr) (kb : ClassId), n0 ≤ t ∧ h.size ≤ t ∧ ¬ t = x ∧ RoadKit.Fld Z h' x ST "value" "[B" (.ref t) ∧ RoadKit.Arv Z h' t kb .byte N (bs.map Value.int) (.int 0)
/-- **new String(chars) AT A CALL, FOR THE WRITER**: a char[] of n known ints, each 0 to 255 -/
theorem backV {p : Program} {l : Launch} {e : Env} {R : Room} {s : State} {args : Array Value} {below : List Frame} {len W : Nat} {Z : State} {a0 : Array Value} {h : Heap} (hZ : Z.Warmed39 s.vm) (hw : ∀ d ∈ words, d.before a0 Z = true) {kI : Nat} (wi : (Jvm.Cond.instantiable ST kI).before a0 Z = true)
    {x b : Addr} {kC : ClassId} {cs bs : List Int32} {d v0 c0 : Value} {z N : Int32} {n n0 : Nat} (hx0 : n0 ≤ x) (hh0 : n0 ≤ h.size) (E : RoadKit.Exa Z h x ST) (V : RoadKit.Fld Z h x ST "value" "[B" v0) (C : RoadKit.Fld Z h x ST "coder" "B" c0) (K : RoadKit.Arv Z h b kC .char N (cs.map Value.int) d) (S : RoadKit.Sta Z h ST "COMPACT_STRINGS" "Z" (.int z)) (hz : ¬ z = 0)
    (hn : cs.length = n) (hN : N = Int32.ofNat n) (l0 : 0 < n) (l2 : n ≤ 4000) (hp : ∀ c ∈ cs, ¬ c < 0 ∧ ¬ (255 : Int32) < c) (hb : bs = cs.map (fun c => c.toInt8.toInt32)) (hfr : 4 ≤ R.frames) (hlo : W + 65 ≤ R.locals) :
    Back l R p e below s args (⟨"java/lang/String", "<init>", "([C)V"⟩ : MethodName) len W (fun P a => a = #[.ref x, .ref b] ∧ P.U.heap = h ∧ P.cells + 1 ≤ R.cells ∧ P.slots + n ≤ R.slots)
      (fun P _ v B => ∃ L, QV Z x N bs h n0 v B.U.heap L ∧ B.locs = P.locs ++ L ∧ B.cells = P.cells + 1 ∧ B.slots = P.slots + n) := by
  subst hn hN hb
  refine Back.mono (backArv hZ hw wi E V C K S hz (n32 (by omega)) l0 (by omega) (fun c hc => (hp c hc).2) hfr hlo) (fun P a hp => hp) (fun P a v B hp hq => ?_)
  obtain ⟨L, ⟨q1, q2, q3, q4, q5, q6, q7, ⟨kb, v1, v2⟩, q9⟩, hl, hc, hs⟩ := hq
  exact ⟨L, ⟨q1, fun y hy => by rw [q2 y hy]; exact hx0, q3, q5, q7, h.size, kb, hh0, Nat.le_refl _, Nat.ne_of_gt E.lt, q6, by rw [List.map_map]; exact v2⟩, hl, hc, hs⟩
end StrChars.Road
namespace StrChars
open Jvm Sem ClassFile Op Lib Jvm.Stand Jvm.Free.XT Jvm.Free.ALB Jvm.Free.JM Jvm.Free
open Jvm.Lib.Cold (StaticIs)
def hi8 (x : Int32) : Int32 := lo8 (x >>> ((8 : Int32) &&& 31))
/-- what StringUTF16.getChar makes of two bytes -/
def pairCh (u v : Int32) : Int32 := (((u &&& 255) <<< ((0 : Int32) &&& 31)) ||| ((v &&& 255) <<< ((8 : Int32) &&& 31))).toUInt32.toUInt16.toUInt32.toInt32
theorem lo8_and (x : Int32) : (lo8 x &&& 255).toBitVec.toNat = x.toBitVec.toNat % 256 := by
  have h : (lo8 x).toBitVec = (x.toBitVec.signExtend 8).signExtend 32 := by rw [lo8, Int8.toBitVec_toInt32, Int32.toBitVec_toInt8]
  rw [Int32.toBitVec_and, BitVec.toNat_and, h]
  have e : ((x.toBitVec.signExtend 8).signExtend 32).toNat % 256 = x.toBitVec.toNat % 256 := by
    rw [BitVec.toNat_signExtend]
    have hlt := x.toBitVec.isLt
    simp only [BitVec.toNat_setWidth, BitVec.toNat_signExtend]
    split <;> split <;> omega
  rw [← e]
  exact Nat.and_two_pow_sub_one_eq_mod _ 8
theorem pair_says {c : Int32} (h0 : ¬ c < 0) (h1 : ¬ 65535 < c) : pairCh (lo8 c) (hi8 c) = c := by
  rw [Int32.lt_iff_toInt_lt] at h0 h1
  have e0 : (0 : Int32).toInt = 0 := rfl
  have e1 : (65535 : Int32).toInt = 65535 := rfl
  have hc : c.toInt = c.toBitVec.toNat := by
    have := c.toBitVec.isLt
    have e : c.toInt = c.toBitVec.toInt := rfl
    rw [e] at h0 h1
    rw [e]
    rw [BitVec.toInt_eq_toNat_cond] at h0 h1 ⊢
    split at h0 <;> split <;> omega
  have hn : c.toBitVec.toNat < 65536 := by omega
  have a1 := lo8_and c
  have a2 : (hi8 c &&& 255).toBitVec.toNat = c.toBitVec.toNat / 256 := by
    rw [hi8, lo8_and]
    have e : ((8 : Int32) &&& 31) = 8 := by decide
    rw [e, Int32.toBitVec_shiftRight]
    have e2 : ((8 : Int32).toBitVec.smod 32) = 8#32 := by decide
    rw [e2, BitVec.sshiftRight_eq', BitVec.toNat_sshiftRight_of_msb_false (by rw [BitVec.msb_eq_false_iff_two_mul_lt]; omega)]
    show c.toBitVec.toNat >>> 8 % 256 = _
    rw [Nat.shiftRight_eq_div_pow]
    omega
  unfold pairCh
  apply Int32.toBitVec_inj.mp
  apply BitVec.eq_of_toNat_eq
  have f0 : ((0 : Int32) &&& 31) = 0 := by decide
  have f8 : ((8 : Int32) &&& 31) = 8 := by decide
  rw [f0, f8]
  have g : (((lo8 c &&& 255) <<< (0 : Int32)) ||| ((hi8 c &&& 255) <<< (8 : Int32))).toBitVec.toNat = c.toBitVec.toNat := by
    rw [Int32.toBitVec_or, Int32.toBitVec_shiftLeft, Int32.toBitVec_shiftLeft]
    have s0 : ((0 : Int32).toBitVec.smod 32) = 0#32 := by decide
    have s8 : ((8 : Int32).toBitVec.smod 32) = 8#32 := by decide
    rw [s0, s8, BitVec.toNat_or]
    simp only [BitVec.shiftLeft_eq', BitVec.toNat_shiftLeft, a1, a2]
    show (c.toBitVec.toNat % 256) <<< 0 % 2 ^ 32 ||| (c.toBitVec.toNat / 256) <<< 8 % 2 ^ 32 = _
    rw [Nat.shiftLeft_zero, Nat.mod_eq_of_lt (show c.toBitVec.toNat % 256 < 2 ^ 32 by omega), Nat.mod_eq_of_lt (show (c.toBitVec.toNat / 256) <<< 8 < 2 ^ 32 by rw [Nat.shiftLeft_eq]; omega), Nat.or_comm, ← Nat.shiftLeft_add_eq_or_of_lt (by omega), Nat.shiftLeft_eq]
    omega
  show BitVec.toNat (((((lo8 c &&& 255) <<< (0 : Int32)) ||| ((hi8 c &&& 255) <<< (8 : Int32))).toBitVec.setWidth 16).setWidth 32) = _
  rw [BitVec.toNat_setWidth, BitVec.toNat_setWidth, g]
  omega
end StrChars
namespace StrChars
open Jvm Sem ClassFile Op Lib Jvm.Stand Jvm.Free.XT Jvm.Free.ALB Jvm.Free.JM Jvm.Free
open Jvm.Lib.Cold (StaticIs)
/-- the array's cell V codes the n chars f 0 .. f (n - 1) by the coder cd, as the JDK does: coder 1 just where some char is above 255 -/
def Cod (cd : Int32) (n : Nat) (f : Nat → Int32) (V : Cell) : Prop := (cd = 0 ∧ V.slots.size = n ∧ ∀ j, j < n → V.slots[j]? = some (.int (lo8 (f j))) ∧ ¬ 255 < f j) ∨ (cd = 1 ∧ V.slots.size = 2 * n ∧ (∀ j, j < n → V.slots[2 * j]? = some (.int (lo8 (f j))) ∧ V.slots[2 * j + 1]? = some (.int (hi8 (f j)))) ∧ ∃ j, j < n ∧ 255 < f j)
/-- **x is a String of the n chars f 0 .. f (n - 1)**, Latin-1 or UTF-16; its array at t has the cell V -/
def Txt (x t : Addr) (V : Cell) (cd : Int32) (n : Nat) (f : Nat → Int32) (U : State) : Prop := Exact "java/lang/String" x U ∧ Has x "java/lang/String" "value" "[B" (.ref t) U ∧ Has x "java/lang/String" "coder" "B" (.int cd) U ∧ XT.Arr .byte t V U ∧ Cod cd n f V ∧ ∀ j, j < n → ¬ f j < 0 ∧ ¬ 65535 < f j
theorem Txt.mv {x t : Addr} {V : Cell} {cd : Int32} {n : Nat} {f : Nat → Int32} {U U' : State} (h : Txt x t V cd n f U) (hal : U.vm.Alike U'.vm) (hh : U'.heap = U.heap) : Txt x t V cd n f U' := ⟨h.1.mv hal hh, h.2.1.mv hal hh, h.2.2.1.mv hal hh, h.2.2.2.1.mv hal hh, h.2.2.2.2⟩
end StrChars
namespace StrChars.Road
open Jvm Sem ClassFile Op Lib Jvm.Stand Jvm.Free Jvm.Free.XT
open Jvm.Lib.Cold (StaticIs)
theorem consq {a : Array Value} {s : State} {c : Jvm.Cond} {L : List Jvm.Cond} (h0 : c.before a s = true) (h : ∀ w ∈ L, w.before a s = true) : ∀ w ∈ c :: L, w.before a s = true := fun w hw => (List.mem_cons.mp hw).elim (fun e => e ▸ h0) (h w)
/-- the bytes of the chars cs, low before high -/
def wideBytes : List Int32 → List Value
  | [] => []
  | c :: cs => .int (lo8 c) :: .int (hi8 c) :: wideBytes cs
theorem wide_lo (d : Value) : ∀ (cs : List Int32) (j : Nat), j < cs.length → (wideBytes cs).getD (2 * j) d = .int (lo8 (cs.getD j 0))
  | [], j, h => absurd h (Nat.not_lt_zero j)
  | c :: cs, 0, _ => rfl
  | c :: cs, j + 1, h => by
    have q := wide_lo d cs j (by simpa using h)
    rw [show 2 * (j + 1) = 2 * j + 1 + 1 from by omega]
    simpa [wideBytes] using q
theorem wide_hi (d : Value) : ∀ (cs : List Int32) (j : Nat), j < cs.length → (wideBytes cs).getD (2 * j + 1) d = .int (hi8 (cs.getD j 0))
  | [], j, h => absurd h (Nat.not_lt_zero j)
  | c :: cs, 0, _ => rfl
  | c :: cs, j + 1, h => by
    have q := wide_hi d cs j (by simpa using h)
    rw [show 2 * (j + 1) + 1 = 2 * j + 1 + 1 + 1 from by omega]
    simpa [wideBytes] using q
theorem low_at (d : Value) (cs : List Int32) (j : Nat) (h : j < cs.length) : (cs.map fun c => Value.int (lo8 c)).getD j d = .int (lo8 (cs.getD j 0)) := by
  simp [List.getD_eq_getElem?_getD, h]
/-- an array of N2 bytes vs codes the chars cs by the coder cd -/
def CodA (cs : List Int32) (cd N2 : Int32) (vs : List Value) : Prop := (cd = 0 ∧ N2 = Int32.ofNat cs.length ∧ vs = (cs.map fun c => Value.int (lo8 c)) ∧ ∀ c ∈ cs, ¬ 255 < c) ∨ (cd = 1 ∧ N2 = Int32.ofNat (2 * cs.length) ∧ vs = wideBytes cs ∧ ∃ c ∈ cs, 255 < c)
theorem CodA.cod {cs : List Int32} {cd N2 : Int32} {vs : List Value} {V : Cell} (h : CodA cs cd N2 vs) (hn : 2 * cs.length < 2 ^ 31) (hs : V.slots.size = N2.toNatClampNeg) (hv : RoadKit.Has V vs (.int 0)) : Cod cd cs.length (fun j => cs.getD j 0) V := by
  rcases h with ⟨rfl, rfl, rfl, h⟩ | ⟨rfl, rfl, rfl, c, hc, hw⟩
  · rw [n32 (by omega)] at hs
    exact Or.inl ⟨rfl, hs, fun j hj => ⟨by rw [hv j (by omega), low_at _ _ _ hj], by
      have e : cs.getD j 0 = cs[j] := by simp [List.getD_eq_getElem?_getD, hj]
      show ¬ 255 < cs.getD j 0
      rw [e]; exact h _ (List.getElem_mem _)⟩⟩
  · rw [n32 (by omega)] at hs
    obtain ⟨j, hj, rfl⟩ := List.getElem_of_mem hc
    exact Or.inr ⟨rfl, hs, fun j hj => ⟨by rw [hv _ (by omega), wide_lo _ _ _ hj], by rw [hv _ (by omega), wide_hi _ _ _ hj]⟩, j, hj, by
      have e : cs.getD j 0 = cs[j] := by simp [List.getD_eq_getElem?_getD, hj]
      show 255 < cs.getD j 0
      rw [e]; exact hw⟩
/-- an object of exactly java/lang/String, its two fields found: as the laws ask it -/
theorem strObj {Z U : State} {a0 : Array Value} {kI : Nat} (wi : (Jvm.Cond.instantiable ST kI).before a0 Z = true) (al : Z.vm.Alike U.vm) {x : Addr} {v0 c0 : Value} (E : RoadKit.Exa Z U.heap x ST) (V : RoadKit.Fld Z U.heap x ST "value" "[B" v0) (C : RoadKit.Fld Z U.heap x ST "coder" "B" c0) :
    ∃ (D : Cell) (fV fC : Field), Blank ST x D U ∧ Found ST "value" "[B" fV U ∧ Found ST "coder" "B" fC U ∧ D.slots[fV.slot]? = some v0 ∧ D.slots[fC.slot]? = some c0 ∧ RoadKit.slotOf Z ST "value" "[B" = fV.slot ∧ RoadKit.slotOf Z ST "coder" "B" = fC.slot := by
  obtain ⟨D, cfV, kV, iV, fV, hD, gV, stV, knV, obV, asV, slV⟩ := V
  obtain ⟨D', cfC, kC, iC, fC, hD', gC, stC, -, -, asC, slC⟩ := C
  cases hD.symm.trans hD'
  obtain ⟨D2, kD, e1, e2, e3, e4, e5⟩ := E
  cases hD.symm.trans e1
  obtain ⟨c2, k2, i1, i2, i3, -⟩ := Cond.instantiable_spec wi
  cases e2.symm.trans i1
  cases e3.symm.trans i2
  obtain ⟨kU, u1, u2⟩ := al.2.2 _ _ e3
  exact ⟨D, fV, fC, ⟨hD, ⟨knV, fun q hq => by rw [hq] at obV; cases obV⟩, by rw [al.findClass]; exact e2, kU, u1, by rw [u2]; exact i3, by rw [u2]; exact e5 i3⟩, ⟨SBG.found_only al ⟨cfV, kV, iV, gV⟩, stV⟩, ⟨SBG.found_only al ⟨cfC, kC, iC, gC⟩, stC⟩, slV, slC, by simp [RoadKit.slotOf, gV], by simp [RoadKit.slotOf, gC]⟩
theorem sta_is {Z U : State} (al : Z.vm.Alike U.vm) {C n d : String} {v : Value} (S : RoadKit.Sta Z U.heap C n d v) : StaticIs U C n d v := by
  obtain ⟨cfS, iS, kS, fS, st, cS, t1, t2, t3, t4, t5, t6, t7⟩ := S
  exact StaticIs.there (s := { Z with heap := U.heap }) ⟨cfS, iS, kS, fS, st, cS, t1, t2, t3, t4, t5, (fun q => by rw [q] at t6; cases t6), t7⟩ al rfl
end StrChars.Road
namespace StrChars
open Jvm Sem ClassFile Op Lib Jvm.Stand Jvm.Free.XT Jvm.Free.ALB Jvm.Free.JM Jvm.Free
open Jvm.Lib.Cold (StaticIs)
/-- what place i of a byte[]'s cell holds -/
def yv (A : Cell) (i : Nat) : Int32 := match A.slots[i]? with | some (.int x) => x | _ => 0
theorem yv_get {a : Addr} {A : Cell} {U : State} (h : XT.Arr .byte a A U) (ht : Typed .byte A) {i : Nat} (hi : i < A.slots.size) : A.slots[i]? = some (.int (yv A i)) := by
  have e := Array.getElem?_eq_getElem hi
  have f := ht i _ e
  unfold yv; rw [e]
  generalize A.slots[i] = v at f
  cases v <;> simp [fits] at f ⊢
/-- the two arrays are equal, place for place -/
def EqC (A B : Cell) : Prop := A.slots.size = B.slots.size ∧ ∀ i, i < A.slots.size → yv A i = yv B i
/-- a boolean that says whether p -/
def Says01 (q : Prop) (r : Option Value) (s u : State) : Prop := ∃ v : Int32, r = some (.int v) ∧ u.heap = s.heap ∧ ((v = 1 ∧ q) ∨ (v = 0 ∧ ¬ q))
theorem Says01.mv {q : Prop} : ∀ r (U U' V V' : State), U'.heap = U.heap → V.vm.Alike V'.vm → V'.heap = V.heap → Says01 q r U V → Says01 q r U' V' :=
  fun r U U' V V' h1 _ h2 ⟨v, a, b, c⟩ => ⟨v, a, by rw [h1, h2]; exact b, c⟩
namespace LEq
def yN : MethodName := ⟨"java/lang/StringLatin1", "equals", "([B[B)Z"⟩
abbrev yB : ByteArray := jdk_43_method_13_code
theorem d0 : decode yB 0 = .ok (.aload_n 0, 1) := by decide +kernel
theorem d1 : decode yB 1 = .ok (.arraylength, 1) := by decide +kernel
theorem d2 : decode yB 2 = .ok (.aload_n 1, 1) := by decide +kernel
theorem d3 : decode yB 3 = .ok (.arraylength, 1) := by decide +kernel
theorem d4 : decode yB 4 = .ok (.if_icmp (.ne) 30, 3) := by decide +kernel
theorem d7 : decode yB 7 = .ok (.iconst 0, 1) := by decide +kernel
theorem d8 : decode yB 8 = .ok (.istore_n 2, 1) := by decide +kernel
theorem d9 : decode yB 9 = .ok (.iload_n 2, 1) := by decide +kernel
theorem d10 : decode yB 10 = .ok (.aload_n 0, 1) := by decide +kernel
theorem d11 : decode yB 11 = .ok (.arraylength, 1) := by decide +kernel
theorem d12 : decode yB 12 = .ok (.if_icmp (.ge) 20, 3) := by decide +kernel
theorem d15 : decode yB 15 = .ok (.aload_n 0, 1) := by decide +kernel
theorem d16 : decode yB 16 = .ok (.iload_n 2, 1) := by decide +kernel
theorem d17 : decode yB 17 = .ok (.baload, 1) := by decide +kernel
theorem d18 : decode yB 18 = .ok (.aload_n 1, 1) := by decide +kernel
theorem d19 : decode yB 19 = .ok (.iload_n 2, 1) := by decide +kernel
theorem d20 : decode yB 20 = .ok (.baload, 1) := by decide +kernel
theorem d21 : decode yB 21 = .ok (.if_icmp (.eq) 5, 3) := by decide +kernel
theorem d24 : decode yB 24 = .ok (.iconst 0, 1) := by decide +kernel
theorem d25 : decode yB 25 = .ok (.ireturn, 1) := by decide +kernel
theorem d26 : decode yB 26 = .ok (.iinc 2 1, 3) := by decide +kernel
theorem d29 : decode yB 29 = .ok (.goto (-20), 3) := by decide +kernel
theorem d32 : decode yB 32 = .ok (.iconst 1, 1) := by decide +kernel
theorem d33 : decode yB 33 = .ok (.ireturn, 1) := by decide +kernel
theorem d34 : decode yB 34 = .ok (.iconst 0, 1) := by decide +kernel
theorem d35 : decode yB 35 = .ok (.ireturn, 1) := by decide +kernel
def site : List Cond := []
def tab : Cond := tabOf yN yB 3 (some .boolean) site
def P (a : Addr) (A : Cell) (b : Addr) (B : Cell) (args : Array Value) (s : State) : Prop := args = #[.ref a, .ref b] ∧ XT.Arr .byte a A s ∧ Typed .byte A ∧ XT.Arr .byte b B s ∧ Typed .byte B
/-- whether two byte[] are equal, place for place -/
theorem law (l : Launch) (a : Addr) (A : Cell) (b : Addr) (B : Cell) : Law l yN 2 2 0 0 yB 3 (some .boolean) site (P a A b B) (Says01 (EqC A B)) [] 0 0 := by
  refine Law.of_walk (plainFor_of_name (by decide +kernel)) (by decide +kernel) (by decide +kernel) (by decide) (fun _ _ h => by rw [h.1]; rfl) (fun _ U U' hal hh h => ⟨h.1, h.2.1.mv hal hh, h.2.2.1, h.2.2.2.1.mv hal hh, h.2.2.2.2⟩) (fun r U U' V V' h1 hal h2 h => Says01.mv r U U' V V' h1 hal h2 h) ?_
  intro p e s m args below meth c s₁ X0 hexec hbytes hml hret hlk hnm hown hh0 W hP
  obtain ⟨rfl, hA, tA, hB, tB⟩ := hP
  have a31 := hA.2.2.2
  have b31 := hB.2.2.2
  have hA0 := hA.mv X0.warmed.alike hh0
  have hB0 := hB.mv X0.warmed.alike hh0
  have c1 : Steps p.tables e below (s₁.setTop (entryFrame m #[.ref a, .ref b] 3)) (s₁.setTop (mkF m 0 #[.val (.ref a), .val (.ref b), .unset] [])) := entry rfl
  have c2 : Steps p.tables e below (s₁.setTop (entryFrame m #[.ref a, .ref b] 3)) (s₁.setTop (mkF m 4 #[.val (.ref a), .val (.ref b), .unset] [.int (Int32.ofNat B.slots.size), .int (Int32.ofNat A.slots.size)])) := c1.trans (by
    refine XS.aloadN X0.here hexec rfl (hb hbytes d0) rfl rfl ?_
    refine X0.alen hexec hA0 rfl rfl (hb hbytes d1) ?_
    refine XS.aloadN X0.here hexec rfl (hb hbytes d2) rfl rfl ?_
    refine X0.alen hexec hB0 rfl rfl (hb hbytes d3) ?_
    exact Steps.refl _)
  by_cases hs : A.slots.size = B.slots.size
  · have c3 : Steps p.tables e below (s₁.setTop (entryFrame m #[.ref a, .ref b] 3)) (s₁.setTop (mkF m 9 #[.val (.ref a), .val (.ref b), .val (.int 0)] [])) := c2.trans (by
      refine XS.icmpNo X0.here hexec rfl (hb hbytes d4) rfl (ii_ne_f (by rw [hs])) ?_
      refine iconstV X0.here hexec rfl 0 (hb hbytes d7) (by decide) ?_
      refine XS.istoreN X0.here hexec rfl (hb hbytes d8) rfl rfl ?_
      exact Steps.refl _)
    have loop : ∀ (r i : Nat), i + r = A.slots.size → (∀ j, j < i → yv A j = yv B j) → Steps p.tables e below (s₁.setTop (entryFrame m #[.ref a, .ref b] 3)) (s₁.setTop (mkF m 9 #[.val (.ref a), .val (.ref b), .val (.int (Int32.ofNat i))] [])) → ∃ (pc : Nat) (Ls : Array Slot) (v : Int32), (pc = 25 ∨ pc = 33) ∧ ((v = 1 ∧ EqC A B) ∨ (v = 0 ∧ ¬ EqC A B)) ∧ Steps p.tables e below (s₁.setTop (entryFrame m #[.ref a, .ref b] 3)) (s₁.setTop (mkF m pc Ls [.int v])) := by
      intro r
      induction r with
      | zero =>
        intro i hi he cl
        exact ⟨33, _, 1, Or.inr rfl, Or.inl ⟨rfl, hs, fun j hj => he j (by omega)⟩, cl.trans (by
          refine XS.iloadN X0.here hexec rfl (hb hbytes d9) rfl ?_
          refine XS.aloadN X0.here hexec rfl (hb hbytes d10) rfl rfl ?_
          refine X0.alen hexec hA0 rfl rfl (hb hbytes d11) ?_
          refine XS.icmpYes X0.here hexec rfl (pc0 := 12) rfl (hb hbytes d12) rfl (ii_ge_t (nlt32 (by omega) (by omega))) (by decide) rfl ?_
          refine iconstV X0.here hexec rfl 1 (hb hbytes d32) (by decide) ?_
          exact Steps.refl _)⟩
      | succ r ih =>
        intro i hi he cl
        have c4 : Steps p.tables e below (s₁.setTop (entryFrame m #[.ref a, .ref b] 3)) (s₁.setTop (mkF m 21 #[.val (.ref a), .val (.ref b), .val (.int (Int32.ofNat i))] [.int (yv B i), .int (yv A i)])) := cl.trans (by
          refine XS.iloadN X0.here hexec rfl (hb hbytes d9) rfl ?_
          refine XS.aloadN X0.here hexec rfl (hb hbytes d10) rfl rfl ?_
          refine X0.alen hexec hA0 rfl rfl (hb hbytes d11) ?_
          refine XS.icmpNo X0.here hexec rfl (hb hbytes d12) rfl (ii_ge_f (lt32 (by omega) (by omega))) ?_
          refine XS.aloadN X0.here hexec rfl (hb hbytes d15) rfl rfl ?_
          refine XS.iloadN X0.here hexec rfl (hb hbytes d16) rfl ?_
          refine X0.aget hexec hA0 rfl (yv_get hA tA (i := i) (by omega)) rfl rfl (hb hbytes d17) ?_
          refine XS.aloadN X0.here hexec rfl (hb hbytes d18) rfl rfl ?_
          refine XS.iloadN X0.here hexec rfl (hb hbytes d19) rfl ?_
          refine X0.aget hexec hB0 rfl (yv_get hB tB (i := i) (by omega)) rfl rfl (hb hbytes d20) ?_
          exact Steps.refl _)
        by_cases hv : yv A i = yv B i
        · have c5 : Steps p.tables e below (s₁.setTop (entryFrame m #[.ref a, .ref b] 3)) (s₁.setTop (mkF m 9 #[.val (.ref a), .val (.ref b), .val (.int (Int32.ofNat i + 1))] [])) := c4.trans (by
            refine XS.icmpYes X0.here hexec rfl (pc0 := 21) rfl (hb hbytes d21) rfl (ii_eq_t hv) (by decide) rfl ?_
            refine iincV X0.here hexec rfl 1 (hb hbytes d26) (by decide) rfl rfl ?_
            refine XS.goto X0.here hexec rfl (pc0 := 29) rfl (hb hbytes d29) (by decide) rfl ?_
            exact Steps.refl _)
          rw [succ32] at c5
          exact ih (i + 1) (by omega) (fun j hj => by
            by_cases e : j = i
            · rw [e]; exact hv
            · exact he j (by omega)) c5
        · exact ⟨25, _, 0, Or.inl rfl, Or.inr ⟨rfl, fun q => hv (q.2 i (by omega))⟩, c4.trans (by
            refine XS.icmpNo X0.here hexec rfl (hb hbytes d21) rfl (ii_eq_f hv) ?_
            refine iconstV X0.here hexec rfl 0 (hb hbytes d24) (by decide) ?_
            exact Steps.refl _)⟩
    obtain ⟨pc, Ls, v, hpc, hv, cz⟩ := loop A.slots.size 0 (by omega) (fun j hj => absurd hj (Nat.not_lt_zero j)) c3
    have nv : narrow .boolean (.int v) = .int v := by rcases hv with ⟨rfl, -⟩ | ⟨rfl, -⟩ <;> rfl
    rcases hpc with rfl | rfl
    · exact ⟨s₁, some (.int v), _, _, _, X0, rfl, rfl, rfl, (fun h => by cases h), ⟨v, rfl, hh0, hv⟩, fun fs hl => cz.trans (X0.ireturnOut hexec hret nv (Or.inr (Or.inl rfl)) (hb hbytes d25) hl)⟩
    · exact ⟨s₁, some (.int v), _, _, _, X0, rfl, rfl, rfl, (fun h => by cases h), ⟨v, rfl, hh0, hv⟩, fun fs hl => cz.trans (X0.ireturnOut hexec hret nv (Or.inr (Or.inl rfl)) (hb hbytes d33) hl)⟩
  · have c3 : Steps p.tables e below (s₁.setTop (entryFrame m #[.ref a, .ref b] 3)) (s₁.setTop (mkF m 35 #[.val (.ref a), .val (.ref b), .unset] [.int 0])) := c2.trans (by
      refine XS.icmpYes X0.here hexec rfl (pc0 := 4) rfl (hb hbytes d4) rfl (ii_ne_t (ne32 a31 b31 hs)) (by decide) rfl ?_
      refine iconstV X0.here hexec rfl 0 (hb hbytes d34) (by decide) ?_
      exact Steps.refl _)
    exact ⟨s₁, some (.int 0), _, _, _, X0, rfl, rfl, rfl, (fun h => by cases h), ⟨0, rfl, hh0, Or.inr ⟨rfl, fun q => hs q.1⟩⟩, fun fs hl => c3.trans (X0.ireturnOut hexec hret rfl (Or.inr (Or.inl rfl)) (hb hbytes d35) hl)⟩
end LEq
theorem Cod.ty {cd : Int32} {n : Nat} {f : Nat → Int32} {V : Cell} (h : Cod cd n f V) : Typed .byte V := fun i v hv => by
  have hi : i < V.slots.size := (Array.getElem?_eq_some_iff.mp hv).1
  rcases h with ⟨-, k1, k2⟩ | ⟨-, k1, k2, -⟩
  · rw [(k2 i (by omega)).1] at hv; cases hv; exact fits_lo8 _
  · rcases Nat.mod_two_eq_zero_or_one i with e | e
    · obtain ⟨j, rfl⟩ : ∃ j, i = 2 * j := ⟨i / 2, by omega⟩
      rw [(k2 j (by omega)).1] at hv; cases hv; exact fits_lo8 _
    · obtain ⟨j, rfl⟩ : ∃ j, i = 2 * j + 1 := ⟨i / 2, by omega⟩
      rw [(k2 j (by omega)).2] at hv; cases hv; exact fits_lo8 _
/-- the same text -/
def SameT (n : Nat) (f : Nat → Int32) (k : Nat) (g : Nat → Int32) : Prop := n = k ∧ ∀ j, j < n → f j = g j
theorem lo8_inj {x y : Int32} (h0 : ¬ x < 0) (h1 : ¬ 255 < x) (k0 : ¬ y < 0) (k1 : ¬ 255 < y) (h : lo8 x = lo8 y) : x = y := by
  rw [← lo8_mask h0 h1, ← lo8_mask k0 k1, h]
/-- arrays coded by one coder are equal just where the texts are -/
theorem Cod.eqv {cd : Int32} {n k : Nat} {f g : Nat → Int32} {V V' : Cell} (h : Cod cd n f V) (h' : Cod cd k g V') (hf : ∀ j, j < n → ¬ f j < 0 ∧ ¬ 65535 < f j) (hg : ∀ j, j < k → ¬ g j < 0 ∧ ¬ 65535 < g j) : EqC V V' ↔ SameT n f k g := by
  have yvv : ∀ {W : Cell} {i : Nat} {x : Int32}, W.slots[i]? = some (.int x) → yv W i = x := fun q => by unfold yv; rw [q]
  rcases h with ⟨rfl, k1, k2⟩ | ⟨rfl, k1, k2, -⟩
  · rcases h' with ⟨-, m1, m2⟩ | ⟨e, -⟩
    · constructor
      · rintro ⟨e1, e2⟩
        refine ⟨by omega, fun j hj => ?_⟩
        have q := e2 j (by omega)
        rw [yvv (k2 j hj).1, yvv (m2 j (by omega)).1] at q
        exact lo8_inj (hf j hj).1 (k2 j hj).2 (hg j (by omega)).1 (m2 j (by omega)).2 q
      · rintro ⟨rfl, e2⟩
        refine ⟨by omega, fun j hj => ?_⟩
        rw [yvv (k2 j (by omega)).1, yvv (m2 j (by omega)).1, e2 j (by omega)]
    · exact absurd e (by decide)
  · rcases h' with ⟨e, -⟩ | ⟨-, m1, m2, -⟩
    · exact absurd e (by decide)
    · constructor
      · rintro ⟨e1, e2⟩
        refine ⟨by omega, fun j hj => ?_⟩
        have q1 := e2 (2 * j) (by omega)
        have q2 := e2 (2 * j + 1) (by omega)
        rw [yvv (k2 j hj).1, yvv (m2 j (by omega)).1] at q1
        rw [yvv (k2 j hj).2, yvv (m2 j (by omega)).2] at q2
        rw [← pair_says (hf j hj).1 (hf j hj).2, ← pair_says (hg j (by omega)).1 (hg j (by omega)).2, q1, q2]
      · rintro ⟨rfl, e2⟩
        refine ⟨by omega, fun i hi => ?_⟩
        rcases Nat.mod_two_eq_zero_or_one i with e | e
        · obtain ⟨j, rfl⟩ : ∃ j, i = 2 * j := ⟨i / 2, by omega⟩
          rw [yvv (k2 j (by omega)).1, yvv (m2 j (by omega)).1, e2 j (by omega)]
        · obtain ⟨j, rfl⟩ : ∃ j, i = 2 * j + 1 := ⟨i / 2, by omega⟩
          rw [yvv (k2 j (by omega)).2, yvv (m2 j (by omega)).2, e2 j (by omega)]
/-- two codings differ: so do the texts -/
theorem Cod.dif {cd cd' : Int32} {n k : Nat} {f g : Nat → Int32} {V V' : Cell} (h : Cod cd n f V) (h' : Cod cd' k g V') (hne : ¬ cd = cd') : ¬ SameT n f k g := by
  rintro ⟨rfl, e⟩
  rcases h with ⟨rfl, -, k2⟩ | ⟨rfl, -, -, j, hj, hw⟩
  · rcases h' with ⟨rfl, -⟩ | ⟨-, -, -, j, hj, hw⟩
    · exact hne rfl
    · exact (k2 j hj).2 (by rw [e j hj]; exact hw)
  · rcases h' with ⟨-, -, m2⟩ | ⟨rfl, -⟩
    · exact (m2 j hj).2 (by rw [← e j hj]; exact hw)
    · exact hne rfl
/-- an object of exactly C is an instance of C -/
theorem cinst {p : Program} {l : Launch} {e : Env} {R : Room} {s : State} {m : MethodId} {args : Array Value} {below : List Frame} {meth : Method} {c : Code} {T : State} {locs : List Loc} {cells slots : Nat} (X : Stand p l e R s m args below meth c T locs cells slots) (hexec : p.tables.exec = Jvm.exec) {own C : String} {index : Nat} (hown : s.vm.findClass own = some m.cls) (hlink : (Cond.classLink own index C).before args s = true) {a : Addr} (hE : Exact C a T)
    {g : JFrame} (hg : g.method = m) {rest : List Value} (hstack : g.stack = .ref a :: rest) (hdg : decode c.code g.pc = .ok (.instanceof index, 3)) :
    ∃ T', Stand p l e R s m args below meth c T' locs cells slots ∧ T'.heap = T.heap ∧ ∀ target, Steps p.tables e below (T'.setTop { g with pc := g.pc + 3, stack := .int 1 :: rest }) target → Steps p.tables e below (T.setTop g) target := by
  obtain ⟨cB, h1, D, h2, h3, h4⟩ := hE
  have h1' : s.vm.findClass C = some cB := by rw [← X.warmed.alike.findClass]; exact h1
  obtain ⟨vm', X', st⟩ := X.instanceofYes hexec hown hlink h2 h4 h1' (by rw [h3]; exact Jvm.Free.SB.assignable_self _ _) hg hstack hdg
  exact ⟨_, X', rfl, st⟩
theorem cself {p : Program} {l : Launch} {e : Env} {R : Room} {s : State} {m : MethodId} {args : Array Value} {below : List Frame} {meth : Method} {c : Code} {T : State} {locs : List Loc} {cells slots : Nat} (X : Stand p l e R s m args below meth c T locs cells slots) (hexec : p.tables.exec = Jvm.exec) {own C : String} {index : Nat} (hown : s.vm.findClass own = some m.cls) (hlink : (Cond.classLink own index C).before args s = true) {a : Addr} (hE : Exact C a T)
    {g : JFrame} (hg : g.method = m) {rest : List Value} (hstack : g.stack = .ref a :: rest) (hdg : decode c.code g.pc = .ok (.checkcast index, 3)) :
    ∃ T', Stand p l e R s m args below meth c T' locs cells slots ∧ T'.heap = T.heap ∧ ∀ target, Steps p.tables e below (T'.setTop { g with pc := g.pc + 3, stack := .ref a :: rest }) target → Steps p.tables e below (T.setTop g) target := by
  obtain ⟨cB, h1, D, h2, h3, h4⟩ := hE
  have h1' : s.vm.findClass C = some cB := by rw [← X.warmed.alike.findClass]; exact h1
  obtain ⟨vm', X', st⟩ := X.checkcastYes hexec hown hlink h2 h4 h1' (by rw [h3]; exact Jvm.Free.SB.assignable_self _ _) hg hstack hdg
  exact ⟨_, X', rfl, fun t h => st t (by rw [← hstack] at h; exact h)⟩
namespace SEq
def yN : MethodName := ⟨"java/lang/String", "equals", "(Ljava/lang/Object;)Z"⟩
abbrev yB : ByteArray := jdk_42_method_66_code
theorem d0 : decode yB 0 = .ok (.aload_n 0, 1) := by decide +kernel
theorem d1 : decode yB 1 = .ok (.aload_n 1, 1) := by decide +kernel
theorem d2 : decode yB 2 = .ok (.if_acmp (.ne) 5, 3) := by decide +kernel
theorem d5 : decode yB 5 = .ok (.iconst 1, 1) := by decide +kernel
theorem d6 : decode yB 6 = .ok (.ireturn, 1) := by decide +kernel
theorem d7 : decode yB 7 = .ok (.aload_n 1, 1) := by decide +kernel
theorem d8 : decode yB 8 = .ok (.instanceof 10, 3) := by decide +kernel
theorem d11 : decode yB 11 = .ok (.ifCond (.eq) 43, 3) := by decide +kernel
theorem d14 : decode yB 14 = .ok (.aload_n 1, 1) := by decide +kernel
theorem d15 : decode yB 15 = .ok (.checkcast 10, 3) := by decide +kernel
theorem d18 : decode yB 18 = .ok (.astore_n 2, 1) := by decide +kernel
theorem d19 : decode yB 19 = .ok (.getstatic 38, 3) := by decide +kernel
theorem d22 : decode yB 22 = .ok (.ifCond (.eq) 14, 3) := by decide +kernel
theorem d25 : decode yB 25 = .ok (.aload_n 0, 1) := by decide +kernel
theorem d26 : decode yB 26 = .ok (.getfield 15, 3) := by decide +kernel
theorem d29 : decode yB 29 = .ok (.aload_n 2, 1) := by decide +kernel
theorem d30 : decode yB 30 = .ok (.getfield 15, 3) := by decide +kernel
theorem d33 : decode yB 33 = .ok (.if_icmp (.ne) 21, 3) := by decide +kernel
theorem d36 : decode yB 36 = .ok (.aload_n 0, 1) := by decide +kernel
theorem d37 : decode yB 37 = .ok (.getfield 9, 3) := by decide +kernel
theorem d40 : decode yB 40 = .ok (.aload_n 2, 1) := by decide +kernel
theorem d41 : decode yB 41 = .ok (.getfield 9, 3) := by decide +kernel
theorem d44 : decode yB 44 = .ok (.invokestatic 541, 3) := by decide +kernel
theorem d47 : decode yB 47 = .ok (.ifCond (.eq) 7, 3) := by decide +kernel
theorem d50 : decode yB 50 = .ok (.iconst 1, 1) := by decide +kernel
theorem d51 : decode yB 51 = .ok (.goto 4, 3) := by decide +kernel
theorem d54 : decode yB 54 = .ok (.iconst 0, 1) := by decide +kernel
theorem d55 : decode yB 55 = .ok (.ireturn, 1) := by decide +kernel
def site : List Cond := [.classLink "java/lang/String" 10 "java/lang/String", .fieldLink "java/lang/String" 38 "java/lang/String" "COMPACT_STRINGS" "Z", .fieldLink "java/lang/String" 15 "java/lang/String" "coder" "B", .fieldLink "java/lang/String" 9 "java/lang/String" "value" "[B", LEq.tab] ++ staticW "java/lang/String" 541 LEq.yN
def tab : Cond := tabOf yN yB 3 (some .boolean) site
def P (x t : Addr) (V : Cell) (cd : Int32) (n : Nat) (f : Nat → Int32) (y t' : Addr) (V' : Cell) (cd' : Int32) (k : Nat) (g : Nat → Int32) (z : Int32) (args : Array Value) (s : State) : Prop := args = #[.ref x, .ref y] ∧ Txt x t V cd n f s ∧ Txt y t' V' cd' k g s ∧ StaticIs s "java/lang/String" "COMPACT_STRINGS" "Z" (.int z) ∧ ¬ z = 0
/-- equals(Object) of two Strings: whether the texts are the same -/
theorem law (l : Launch) (x t : Addr) (V : Cell) (cd : Int32) (n : Nat) (f : Nat → Int32) (y t' : Addr) (V' : Cell) (cd' : Int32) (k : Nat) (g : Nat → Int32) (z : Int32) : Law l yN 2 1 1 14 yB 3 (some .boolean) site (P x t V cd n f y t' V' cd' k g z) (Says01 (SameT n f k g)) [] 0 0 := by
  refine Law.of_walk (plainFor_of_name (by decide +kernel)) (by decide +kernel) (by decide +kernel) (by decide) (fun _ _ h => by rw [h.1]; rfl) (fun _ U U' hal hh h => ⟨h.1, h.2.1.mv hal hh, h.2.2.1.mv hal hh, h.2.2.2.1.there hal hh, h.2.2.2.2⟩) (fun r U U' V V' h1 hal h2 h => Says01.mv r U U' V V' h1 hal h2 h) ?_
  intro p e s m args below meth c s₁ X0 hexec hbytes hml hret hlk hnm hown hh0 W hP
  obtain ⟨rfl, hx, hy, s1, hz⟩ := hP
  have c1 : Steps p.tables e below (s₁.setTop (entryFrame m #[.ref x, .ref y] 3)) (s₁.setTop (mkF m 2 #[.val (.ref x), .val (.ref y), .unset] [.ref y, .ref x])) := Steps.trans (entry rfl) (by
    show Steps p.tables e below (s₁.setTop (mkF m 0 #[.val (.ref x), .val (.ref y), .unset] [])) _
    refine XS.aloadN X0.here hexec rfl (hb hbytes d0) rfl rfl ?_
    refine XS.aloadN X0.here hexec rfl (hb hbytes d1) rfl rfl ?_
    exact Steps.refl _)
  by_cases hxy : x = y
  · have c2 : Steps p.tables e below (s₁.setTop (entryFrame m #[.ref x, .ref y] 3)) (s₁.setTop (mkF m 6 #[.val (.ref x), .val (.ref y), .unset] [.int 1])) := c1.trans (by
      refine acmpNo X0.here hexec rfl (hb hbytes d2) rfl rfl rfl (by simp [acmp, hxy]) ?_
      refine iconstV X0.here hexec rfl 1 (hb hbytes d5) (by decide) ?_
      exact Steps.refl _)
    subst hxy
    have ec : cd = cd' := by
      obtain ⟨D, fd, a1, a2, a3⟩ := hx.2.2.1
      obtain ⟨D', fd', b1, b2, b3⟩ := hy.2.2.1
      cases a1.symm.trans b1
      obtain ⟨q1, q2, q3, q4⟩ := a2.1
      obtain ⟨r1, r2, r3, r4⟩ := b2.1
      cases q4.symm.trans r4
      cases a3.symm.trans b3; rfl
    have et : t = t' := by
      obtain ⟨D, fd, a1, a2, a3⟩ := hx.2.1
      obtain ⟨D', fd', b1, b2, b3⟩ := hy.2.1
      cases a1.symm.trans b1
      obtain ⟨q1, q2, q3, q4⟩ := a2.1
      obtain ⟨r1, r2, r3, r4⟩ := b2.1
      cases q4.symm.trans r4
      cases a3.symm.trans b3; rfl
    subst ec et
    have ev : V = V' := by cases hx.2.2.2.1.1.symm.trans hy.2.2.2.1.1; rfl
    subst ev
    have hs : SameT n f k g := (Cod.eqv hx.2.2.2.2.1 hy.2.2.2.2.1 hx.2.2.2.2.2 hy.2.2.2.2.2).mp ⟨rfl, fun _ _ => rfl⟩
    exact ⟨s₁, some (.int 1), _, _, _, X0, rfl, rfl, rfl, (fun h => by cases h), ⟨1, rfl, hh0, Or.inl ⟨rfl, hs⟩⟩, fun fs hl => c2.trans (X0.ireturnOut hexec hret rfl (Or.inr (Or.inl rfl)) (hb hbytes d6) hl)⟩
  · have c2 : Steps p.tables e below (s₁.setTop (entryFrame m #[.ref x, .ref y] 3)) (s₁.setTop (mkF m 8 #[.val (.ref x), .val (.ref y), .unset] [.ref y])) := c1.trans (by
      refine acmpYes X0.here hexec rfl (pc0 := 2) rfl (hb hbytes d2) rfl rfl rfl (by simp [acmp, hxy]) (by decide) rfl ?_
      refine XS.aloadN X0.here hexec rfl (hb hbytes d7) rfl rfl ?_
      exact Steps.refl _)
    obtain ⟨T3, X3, q3, st3⟩ := cinst X0 hexec hown (wk W (.classLink "java/lang/String" 10 "java/lang/String")) (hy.mv X0.warmed.alike hh0).1 (g := (mkF m 8 #[.val (.ref x), .val (.ref y), .unset] [.ref y])) rfl (rest := []) rfl (hb hbytes d8)
    have hh3 := q3.trans hh0
    have c4 : Steps p.tables e below (s₁.setTop (entryFrame m #[.ref x, .ref y] 3)) (T3.setTop (mkF m 15 #[.val (.ref x), .val (.ref y), .unset] [.ref y])) := (c2.trans (st3 _ (Steps.refl _))).trans (by
      refine XS.ifNo X3.here hexec rfl (hb hbytes d11) rfl (i0_eq_f (by decide)) ?_
      refine XS.aloadN X3.here hexec rfl (hb hbytes d14) rfl rfl ?_
      exact Steps.refl _)
    obtain ⟨T5, X5, q5, st5⟩ := cself X3 hexec hown (wk W (.classLink "java/lang/String" 10 "java/lang/String")) (hy.mv X3.warmed.alike hh3).1 (g := (mkF m 15 #[.val (.ref x), .val (.ref y), .unset] [.ref y])) rfl (rest := []) rfl (hb hbytes d15)
    have hh5 := q5.trans hh3
    have c6 : Steps p.tables e below (s₁.setTop (entryFrame m #[.ref x, .ref y] 3)) (T5.setTop (mkF m 19 #[.val (.ref x), .val (.ref y), .val (.ref y)] [])) := (c4.trans (st5 _ (Steps.refl _))).trans (by
      refine XS.astoreN X5.here hexec rfl (hb hbytes d18) rfl rfl rfl ?_
      exact Steps.refl _)
    obtain ⟨T7, X7, q7, st7⟩ := X5.sget hexec hown (wk W (.fieldLink "java/lang/String" 38 "java/lang/String" "COMPACT_STRINGS" "Z")) s1 (fun _ _ h => by rw [hh5]; exact h) (g := (mkF m 19 #[.val (.ref x), .val (.ref y), .val (.ref y)] [])) rfl (hb hbytes d19)
    have hh7 := q7.trans hh5
    have c8 : Steps p.tables e below (s₁.setTop (entryFrame m #[.ref x, .ref y] 3)) (T7.setTop (mkF m 26 #[.val (.ref x), .val (.ref y), .val (.ref y)] [.ref x])) := (c6.trans (st7 _ (Steps.refl _))).trans (by
      refine XS.ifNo X7.here hexec rfl (hb hbytes d22) rfl (i0_eq_f hz) ?_
      refine XS.aloadN X7.here hexec rfl (hb hbytes d25) rfl rfl ?_
      exact Steps.refl _)
    obtain ⟨T9, X9, q9, st9⟩ := X7.hget hexec hown (wk W (.fieldLink "java/lang/String" 15 "java/lang/String" "coder" "B")) (hx.mv X7.warmed.alike hh7).2.2.1 (g := (mkF m 26 #[.val (.ref x), .val (.ref y), .val (.ref y)] [.ref x])) rfl (rest := []) rfl (hb hbytes d26)
    have hh9 := q9.trans hh7
    have c10 : Steps p.tables e below (s₁.setTop (entryFrame m #[.ref x, .ref y] 3)) (T9.setTop (mkF m 30 #[.val (.ref x), .val (.ref y), .val (.ref y)] [.ref y, .int cd])) := (c8.trans (st9 _ (Steps.refl _))).trans (by
      refine XS.aloadN X9.here hexec rfl (hb hbytes d29) rfl rfl ?_
      exact Steps.refl _)
    obtain ⟨T11, X11, q11, st11⟩ := X9.hget hexec hown (wk W (.fieldLink "java/lang/String" 15 "java/lang/String" "coder" "B")) (hy.mv X9.warmed.alike hh9).2.2.1 (g := (mkF m 30 #[.val (.ref x), .val (.ref y), .val (.ref y)] [.ref y, .int cd])) rfl (rest := [.int cd]) rfl (hb hbytes d30)
    have hh11 := q11.trans hh9
    have c12 : Steps p.tables e below (s₁.setTop (entryFrame m #[.ref x, .ref y] 3)) (T11.setTop (mkF m 33 #[.val (.ref x), .val (.ref y), .val (.ref y)] [.int cd', .int cd])) := c10.trans (st11 _ (Steps.refl _))
    by_cases hcd : cd = cd'
    · subst hcd
      have c13 : Steps p.tables e below (s₁.setTop (entryFrame m #[.ref x, .ref y] 3)) (T11.setTop (mkF m 37 #[.val (.ref x), .val (.ref y), .val (.ref y)] [.ref x])) := c12.trans (by
        refine XS.icmpNo X11.here hexec rfl (hb hbytes d33) rfl (ii_ne_f rfl) ?_
        refine XS.aloadN X11.here hexec rfl (hb hbytes d36) rfl rfl ?_
        exact Steps.refl _)
      obtain ⟨T14, X14, q14, st14⟩ := X11.hget hexec hown (wk W (.fieldLink "java/lang/String" 9 "java/lang/String" "value" "[B")) (hx.mv X11.warmed.alike hh11).2.1 (g := (mkF m 37 #[.val (.ref x), .val (.ref y), .val (.ref y)] [.ref x])) rfl (rest := []) rfl (hb hbytes d37)
      have hh14 := q14.trans hh11
      have c15 : Steps p.tables e below (s₁.setTop (entryFrame m #[.ref x, .ref y] 3)) (T14.setTop (mkF m 41 #[.val (.ref x), .val (.ref y), .val (.ref y)] [.ref y, .ref t])) := (c13.trans (st14 _ (Steps.refl _))).trans (by
        refine XS.aloadN X14.here hexec rfl (hb hbytes d40) rfl rfl ?_
        exact Steps.refl _)
      obtain ⟨T16, X16, q16, st16⟩ := X14.hget hexec hown (wk W (.fieldLink "java/lang/String" 9 "java/lang/String" "value" "[B")) (hy.mv X14.warmed.alike hh14).2.1 (g := (mkF m 41 #[.val (.ref x), .val (.ref y), .val (.ref y)] [.ref y, .ref t])) rfl (rest := [.ref t]) rfl (hb hbytes d41)
      have hh16 := q16.trans hh14
      have c17 : Steps p.tables e below (s₁.setTop (entryFrame m #[.ref x, .ref y] 3)) (T16.setTop (mkF m 44 #[.val (.ref x), .val (.ref y), .val (.ref y)] [.ref t', .ref t])) := c15.trans (st16 _ (Steps.refl _))
      obtain ⟨v18, T18, X18, E18, g18⟩ := X16.callS hexec (LEq.law l t V t' V') hown (wks W (staticW "java/lang/String" 541 LEq.yN)) (wk W LEq.tab) (W := 0) (Nat.le_of_ble_eq_true rfl) (Nat.le_of_ble_eq_true rfl) (Nat.le_refl _) (Nat.le_refl _) (g := (mkF m 44 #[.val (.ref x), .val (.ref y), .val (.ref y)] [.ref t', .ref t])) rfl (by rw [hml]; rfl) c17 (argsL := [.ref t, .ref t']) (rest := []) rfl rfl (by show 2 * 0 + 0 ≤ _; decide) (hb hbytes d44) (⟨rfl, hx.2.2.2.1.mv X16.warmed.alike hh16, hx.2.2.2.2.1.ty, hy.2.2.2.1.mv X16.warmed.alike hh16, hy.2.2.2.2.1.ty⟩)
      obtain ⟨v, rfl, q18, hv⟩ := E18
      have iff := Cod.eqv hx.2.2.2.2.1 hy.2.2.2.2.1 hx.2.2.2.2.2 hy.2.2.2.2.2
      rcases hv with ⟨rfl, he⟩ | ⟨rfl, he⟩
      · have c19 : Steps p.tables e below (s₁.setTop (entryFrame m #[.ref x, .ref y] 3)) (T18.setTop (mkF m 55 #[.val (.ref x), .val (.ref y), .val (.ref y)] [.int 1])) := Steps.trans g18 (by
          refine XS.ifNo X18.here hexec rfl (hb hbytes d47) rfl (i0_eq_f (by decide)) ?_
          refine iconstV X18.here hexec rfl 1 (hb hbytes d50) (by decide) ?_
          refine XS.goto X18.here hexec rfl (pc0 := 51) rfl (hb hbytes d51) (by decide) rfl ?_
          exact Steps.refl _)
        exact ⟨T18, some (.int 1), _, _, _, X18, rfl, rfl, rfl, (fun h => by cases h), ⟨1, rfl, q18.trans hh16, Or.inl ⟨rfl, iff.mp he⟩⟩, fun fs hl => c19.trans (X18.ireturnOut hexec hret rfl (Or.inr (Or.inl rfl)) (hb hbytes d55) hl)⟩
      · have c19 : Steps p.tables e below (s₁.setTop (entryFrame m #[.ref x, .ref y] 3)) (T18.setTop (mkF m 55 #[.val (.ref x), .val (.ref y), .val (.ref y)] [.int 0])) := Steps.trans g18 (by
          refine XS.ifYes X18.here hexec rfl (pc0 := 47) rfl (hb hbytes d47) rfl (i0_eq_t rfl) (by decide) rfl ?_
          refine iconstV X18.here hexec rfl 0 (hb hbytes d54) (by decide) ?_
          exact Steps.refl _)
        exact ⟨T18, some (.int 0), _, _, _, X18, rfl, rfl, rfl, (fun h => by cases h), ⟨0, rfl, q18.trans hh16, Or.inr ⟨rfl, fun q => he (iff.mpr q)⟩⟩, fun fs hl => c19.trans (X18.ireturnOut hexec hret rfl (Or.inr (Or.inl rfl)) (hb hbytes d55) hl)⟩
    · have c13 : Steps p.tables e below (s₁.setTop (entryFrame m #[.ref x, .ref y] 3)) (T11.setTop (mkF m 55 #[.val (.ref x), .val (.ref y), .val (.ref y)] [.int 0])) := c12.trans (by
        refine XS.icmpYes X11.here hexec rfl (pc0 := 33) rfl (hb hbytes d33) rfl (ii_ne_t hcd) (by decide) rfl ?_
        refine iconstV X11.here hexec rfl 0 (hb hbytes d54) (by decide) ?_
        exact Steps.refl _)
      exact ⟨T11, some (.int 0), _, _, _, X11, rfl, rfl, rfl, (fun h => by cases h), ⟨0, rfl, hh11, Or.inr ⟨rfl, Cod.dif hx.2.2.2.2.1 hy.2.2.2.2.1 hcd⟩⟩, fun fs hl => c13.trans (X11.ireturnOut hexec hret rfl (Or.inr (Or.inl rfl)) (hb hbytes d55) hl)⟩
theorem pays {l : Launch} {R : Room} {p : Program} {e : Env} {below : List Frame} {s : State} {sargs : Array Value} {len W : Nat} (x t : Addr) (V : Cell) (cd : Int32) (n : Nat) (f : Nat → Int32) (y t' : Addr) (V' : Cell) (cd' : Int32) (k : Nat) (g : Nat → Int32) (z : Int32) (htab : tab.before sargs s = true) (hfr : 2 ≤ R.frames) (hlo : W + 28 ≤ R.locals) :
    Back l R p e below s sargs yN len W (fun A₁ a₁ => A₁.cells + 0 ≤ R.cells ∧ A₁.slots + 0 ≤ R.slots ∧ P x t V cd n f y t' V' cd' k g z a₁ A₁.U) (fun A₁ _ v₁ B₁ => Says01 (SameT n f k g) v₁ A₁.U B₁.U ∧ B₁.locs = A₁.locs ++ [] ∧ B₁.cells = A₁.cells + 0 ∧ B₁.slots = A₁.slots + 0) :=
  (law l x t V cd n f y t' V' cd' k g z).pays htab hfr (by omega)
end SEq
end StrChars
namespace StrChars.Road
open Jvm Sem ClassFile Op Lib Jvm.Stand Jvm.Free Jvm.Free.XT
open Jvm.Lib.Cold (StaticIs)
/-- the words of String.equals(Object) -/
abbrev wordsEq : List Jvm.Cond := [.code SEq.yN SEq.yB 3 (some .boolean), .initialized ST, .classLink ST 10 ST, .fieldLink ST 38 ST "COMPACT_STRINGS" "Z", .fieldLink ST 15 ST "coder" "B", .fieldLink ST 9 ST "value" "[B", .methodLink ST 541 LEq.yN, .static LEq.yN, .code LEq.yN LEq.yB 3 (some .boolean), .initialized "java/lang/StringLatin1"]
theorem tabEq_of {a : Array Value} {s : State} (h : ∀ w ∈ wordsEq, w.before a s = true) : SEq.tab.before a s = true := by
  have hl : LEq.tab.before a s = true := unparts (wk h (.code LEq.yN LEq.yB 3 (some .boolean))) (wks h (.initialized LEq.yN.cls :: LEq.site))
  have q := consq hl h
  exact unparts (wk q (.code SEq.yN SEq.yB 3 (some .boolean))) (wks q (.initialized SEq.yN.cls :: SEq.site))
theorem movedEq {Z s : State} {a0 args : Array Value} (hZ : Z.Warmed39 s.vm) (hw : ∀ d ∈ wordsEq, d.before a0 Z = true) : ∀ d ∈ wordsEq, d.before args s = true := fun d hd => by
  have t : ∀ d ∈ wordsEq, (d.onTables && d.keepsFace) = true := by decide +kernel
  exact RoadKit.mv hZ (hw d hd) (t d hd)
/-- the road's facts of a String, as the laws ask it -/
theorem txt_of {Z U : State} {a0 : Array Value} {kI : Nat} (wi : (Jvm.Cond.instantiable ST kI).before a0 Z = true) (al : Z.vm.Alike U.vm) {x t : Addr} {kb : ClassId} {cs : List Int32} {cd N2 : Int32} {vs : List Value} (E : RoadKit.Exa Z U.heap x ST) (V : RoadKit.Fld Z U.heap x ST "value" "[B" (.ref t)) (C : RoadKit.Fld Z U.heap x ST "coder" "B" (.int cd)) (K : RoadKit.Arv Z U.heap t kb .byte N2 vs (.int 0)) (hc : CodA cs cd N2 vs) (hb : ∀ c ∈ cs, ¬ c < 0 ∧ ¬ (65535 : Int32) < c) (l2 : cs.length ≤ 4000) :
    ∃ A, Txt x t A cd cs.length (fun j => cs.getD j 0) U := by
  obtain ⟨A, K1, K2, K3, K4, K5, K6⟩ := K
  have hcod := hc.cod (by omega) K3 K5
  obtain ⟨D, fV, fC, hB, F1, F2, g1, g2, -, -⟩ := strObj wi al E V C
  exact ⟨A, ⟨_, hB.2.2.1, D, hB.1, rfl, by cases q : D.vm <;> first | rfl | exact absurd q (hB.2.1.2 _)⟩, Has.of hB F1 g1, Has.of hB F2 g2, ⟨K1.1, State.isArrayOf_alike al K1.2.1, K1.2.2, by rcases hcod with ⟨-, q, -⟩ | ⟨-, q, -⟩ <;> omega⟩, hcod, fun j hj => by
    have e : cs.getD j 0 = cs[j] := by simp [List.getD_eq_getElem?_getD, hj]
    show ¬ cs.getD j 0 < 0 ∧ ¬ 65535 < cs.getD j 0
    rw [e]; exact hb _ (List.getElem_mem _)⟩
theorem same_list (cs ds : List Int32) : SameT cs.length (fun j => cs.getD j 0) ds.length (fun j => ds.getD j 0) ↔ cs = ds := by
  constructor
  · rintro ⟨e, q⟩
    refine List.ext_getElem e fun j h1 h2 => ?_
    have := q j h1
    simpa [List.getD_eq_getElem?_getD, h1, h2] using this
  · rintro rfl
    exact ⟨rfl, fun _ _ => rfl⟩
/-- **equals(Object) OF TWO SUCH STRINGS**: 1 just where the chars are the same -/
theorem eqW {p : Program} {l : Launch} {e : Env} {R : Room} {s : State} {args : Array Value} {below : List Frame} {len W : Nat} {Z : State} {a0 : Array Value} {h : Heap} (hZ : Z.Warmed39 s.vm) (hw : ∀ d ∈ wordsEq, d.before a0 Z = true) {kI : Nat} (wi : (Jvm.Cond.instantiable ST kI).before a0 Z = true)
    {x t : Addr} {kb : ClassId} {cs : List Int32} {cd N2 : Int32} {vs : List Value} (E : RoadKit.Exa Z h x ST) (V : RoadKit.Fld Z h x ST "value" "[B" (.ref t)) (C : RoadKit.Fld Z h x ST "coder" "B" (.int cd)) (K : RoadKit.Arv Z h t kb .byte N2 vs (.int 0)) (hc : CodA cs cd N2 vs) (hb : ∀ c ∈ cs, ¬ c < 0 ∧ ¬ (65535 : Int32) < c) (l2 : cs.length ≤ 4000)
    {y t' : Addr} {kb' : ClassId} {ds : List Int32} {cd' N2' : Int32} {vs' : List Value} (E' : RoadKit.Exa Z h y ST) (V' : RoadKit.Fld Z h y ST "value" "[B" (.ref t')) (C' : RoadKit.Fld Z h y ST "coder" "B" (.int cd')) (K' : RoadKit.Arv Z h t' kb' .byte N2' vs' (.int 0)) (hc' : CodA ds cd' N2' vs') (hb' : ∀ c ∈ ds, ¬ c < 0 ∧ ¬ (65535 : Int32) < c) (l2' : ds.length ≤ 4000)
    {z : Int32} (S : RoadKit.Sta Z h ST "COMPACT_STRINGS" "Z" (.int z)) (hz : ¬ z = 0) (hfr : 2 ≤ R.frames) (hlo : W + 28 ≤ R.locals) :
    Back l R p e below s args (⟨"java/lang/String", "equals", "(Ljava/lang/Object;)Z"⟩ : MethodName) len W (fun P a => a = #[.ref x, .ref y] ∧ P.U.heap = h ∧ P.cells + 0 ≤ R.cells ∧ P.slots + 0 ≤ R.slots)
      (fun P _ v B => ∃ L, (((v = some (.int 1) ∧ cs = ds) ∨ (v = some (.int 0) ∧ ¬ cs = ds)) ∧ L = [] ∧ B.U.heap = h) ∧ B.locs = P.locs ++ L ∧ B.cells = P.cells + 0 ∧ B.slots = P.slots + 0) := by
  intro m meth c P g ig mk a X hg hsize hdg hW hn hp'
  obtain ⟨rfl, rfl, r1, r2⟩ := hp'
  have al : Z.vm.Alike P.U.vm := hZ.alike.trans X.warmed.alike
  obtain ⟨A, hx⟩ := txt_of wi al E V C K hc hb l2
  obtain ⟨A', hy⟩ := txt_of wi al E' V' C' K' hc' hb' l2'
  obtain ⟨v, B, X', ⟨⟨w, hv, hh, hq⟩, hl, hk, hs⟩, st⟩ := SEq.pays x t A cd cs.length (fun j => cs.getD j 0) y t' A' cd' ds.length (fun j => ds.getD j 0) z (tabEq_of (movedEq hZ hw)) hfr hlo m meth c P g ig mk _ X hg hsize hdg hW hn ⟨r1, r2, rfl, hx, hy, sta_is al S, hz⟩
  refine ⟨v, B, X', ⟨[], ⟨?_, rfl, hh⟩, hl, hk, hs⟩, st⟩
  rcases hq with ⟨rfl, q⟩ | ⟨rfl, q⟩
  · exact Or.inl ⟨hv, (same_list cs ds).mp q⟩
  · exact Or.inr ⟨hv, fun e => q ((same_list cs ds).mpr e)⟩
end StrChars.Road
namespace StrChars.Road
open Jvm Sem ClassFile Op Lib Jvm.Stand Jvm.Free Jvm.Free.XT
open Jvm.Lib.Cold (StaticIs)
/-- what backV says of its String, as the contracts of this text ask it: cs's low bytes, coder 0 -/
theorem codOf {cs : List Int32} {n : Nat} (hn : cs.length = n) (hb : ∀ c ∈ cs, ¬ 255 < c) : CodA cs 0 (Int32.ofNat n) ((cs.map lo8).map Value.int) := Or.inl ⟨rfl, by rw [hn], by simp [List.map_map, Function.comp_def], hb⟩
end StrChars.Road
end Jvm.Pilot.@@N@@

namespace Jvm.Pilot.@@N@@
open Jvm Jvm.ClassFile Sem Op Lib Jvm.Free Jvm.Stand Jvm.LawKit Jvm.RoadKit Bundle Jvm.Pilot.@@N@@.Jvm.D
theorem own_ew {Z : State} {a0 : Array Value} (hw : ∀ d ∈ tables_1, d.before a0 Z = true) : EW Z a0 consts_1 := (EW.cons (own := "com/example/thawline/thawline/CandidateTypeOfTokenPinLaw") (index := 7) (text := "host") (hw _ (List.mem_of_getElem? (i := 0) rfl)) (by decide) (EW.cons (own := "com/example/thawline/thawline/CandidateTypeOfTokenPinLaw") (index := 9) (text := "srflx") (hw _ (List.mem_of_getElem? (i := 96) rfl)) (by decide) (EW.cons (own := "com/example/thawline/thawline/CandidateTypeOfTokenPinLaw") (index := 11) (text := "prflx") (hw _ (List.mem_of_getElem? (i := 97) rfl)) (by decide) (EW.cons (own := "com/example/thawline/thawline/CandidateTypeOfTokenPinLaw") (index := 13) (text := "relay") (hw _ (List.mem_of_getElem? (i := 95) rfl)) (by decide) (EW.cons (own := "java/lang/String") (index := 7) (text := "") (hw _ (List.mem_of_getElem? (i := 103) rfl)) (by decide) EW.nil)))))
theorem own_wB {Z : State} {a0 : Array Value} (hw : ∀ d ∈ tables_1, d.before a0 Z = true) : ∀ d ∈ StrChars.Road.words, d.before a0 Z = true := fun d hd => hw d ((by decide +kernel : ∀ d ∈ StrChars.Road.words, d ∈ tables_1) d hd)
theorem own_wE {Z : State} {a0 : Array Value} (hw : ∀ d ∈ tables_1, d.before a0 Z = true) : ∀ d ∈ StrChars.Road.wordsEq, d.before a0 Z = true := fun d hd => hw d ((by decide +kernel : ∀ d ∈ StrChars.Road.wordsEq, d ∈ tables_1) d hd)
theorem own_up {tx : List Int32} (hp : ∀ c ∈ tx, ¬ c < 0 ∧ ¬ (255 : Int32) < c) : ∀ c ∈ tx, ¬ c < 0 ∧ ¬ (65535 : Int32) < c := fun c hc => ⟨(hp c hc).1, fun q => (hp c hc).2 (Int32.lt_trans (by decide : (255 : Int32) < 65535) q)⟩
theorem own_safe {Z : State} {EL : List (String × Nat)} {vm : Vm} {h : Heap} {x : Addr} (hal : Z.vm.Alike vm) (E : Exa Z h x "java/lang/String") (F : Fld Z h x "java/lang/String" "value" "[B" .null) : Safe Z EL vm h x := fun B => by
  obtain ⟨p, -, u, a, -, q, -, G, rfl | rfl⟩ := B
  · obtain ⟨cell, cf, k, i, f, f1, f2, -, -, -, -, f7⟩ := F
    cases (show h[q.sa]? = some q.sC from G.ha).symm.trans f1
    obtain ⟨cS, ⟨⟨-, -, -, ⟨c1, k1, i1, g1, -⟩, -, -, -, v1, -⟩, -⟩, -⟩ := G
    obtain ⟨k3, e3, -⟩ := State.fieldFound?_setVm (s := { Z with heap := h }) hal f2
    have e4 := (show (Wst Z vm h).fieldFound? _ _ _ = _ from e3).symm.trans g1
    simp only [Option.some.injEq, Prod.mk.injEq] at e4
    rw [← e4.2.2.2, f7] at v1
    cases v1
  · obtain ⟨cell, k, e1, e2, e3, -, -⟩ := E
    cases (show h[q.sd]? = some q.SA from G.hd).symm.trans e1
    obtain ⟨cS, -, -, f, -⟩ := G
    have f' : vm.findClass "[B" = some q.SA.cls := f
    rw [hal.findClass] at f'
    obtain ⟨k1, q1, q2⟩ := Vm.findClass_spec f'
    obtain ⟨k2, q3, q4⟩ := Vm.findClass_spec e2
    cases q1.symm.trans q3
    exact absurd (q2.symm.trans q4) (by decide)
theorem own_b8 (b : Int32) : ¬ (b &&& (255 : Int32)).toUInt32.toUInt16.toUInt32.toInt32 < 0 ∧ ¬ (255 : Int32) < (b &&& (255 : Int32)).toUInt32.toUInt16.toUInt32.toInt32 := by
  have t : ∀ k : Fin 256, ¬ (Int32.ofNat k.val).toUInt32.toUInt16.toUInt32.toInt32 < 0 ∧ ¬ (255 : Int32) < (Int32.ofNat k.val).toUInt32.toUInt16.toUInt32.toInt32 := by decide +kernel
  have h : (b &&& 255).toBitVec.toNat < 256 := by
    rw [Int32.toBitVec_and, BitVec.toNat_and]
    exact Nat.lt_succ_of_le Nat.and_le_right
  have e : (b &&& 255) = Int32.ofNat (b &&& 255).toBitVec.toNat := by
    apply Int32.toBitVec_inj.mp
    show _ = BitVec.ofNat 32 _
    rw [BitVec.ofNat_toNat]; simp
  rw [e]
  exact t ⟨_, h⟩
theorem own_nc {c : Int32} (h1 : ¬ c < 0) (h2 : ¬ (255 : Int32) < c) : nar .char c = c := by
  have t : ∀ k : Fin 256, nar .char (Int32.ofNat k.val) = Int32.ofNat k.val := by decide +kernel
  rw [Int32.lt_iff_toInt_lt] at h1 h2
  have c0 : (0 : Int32).toInt = 0 := rfl
  have c5 : (255 : Int32).toInt = 255 := rfl
  have e : c = Int32.ofNat c.toInt.toNat := by
    apply Int32.toInt_inj.mp
    rw [Int32.toInt_ofNat_of_lt (by omega)]
    omega
  rw [e]
  exact t ⟨c.toInt.toNat, by omega⟩
theorem own_nb2 {c : Int32} (h : ¬ c < 0 ∧ ¬ (255 : Int32) < c) : ¬ nar .char c < 0 ∧ ¬ (255 : Int32) < nar .char c := by
  rw [own_nc h.1 h.2]; exact h
theorem own_shr0 (x : Int32) : (x >>> ((0 : Int32) &&& 31)) = x := by
  apply Int32.toInt_inj.mp
  rw [Jvm.Kit.i32_shr x _ (k := 0) (by decide)]
  simp
theorem own_len {args : Array Value} {s : State} {t : Term} {a : Addr} {c : Cell} {ty : FieldType} {n : Int32} (et : t.eval args s none [] s = some (.ref a)) (A : Arr s s.heap a c ty) (h : (Term.length t).eval args s none [] s = some (.int n)) : c.slots.size < 2 ^ 31 ∧ c.slots.size.toInt32 = n := by
  have hA := A.fin (Vm.Alike.refl s.vm)
  have h31 := Jvm.Free.SBG.length_lt et hA h
  exact ⟨h31, by simpa using (len_f et hA h31).symm.trans h⟩
theorem own_eqr {Z : State} {args : Array Value} {X F : Term} {idx : List Nat} {b : Addr} (hF : F.eval args Z none idx Z = some (.ref b)) (h : (Cond.eq X F).value args Z none Z idx = some true) : X.eval args Z none idx Z = some (.ref b) := by
  obtain ⟨x, y', e1, e2, k1, k2⟩ := cmp_v (Or.inl h)
  cases hF.symm.trans e2
  rcases ref_cases k2.2 with rfl | ⟨a, rfl⟩
  · simp [Cond.value, e1, hF] at h
  · have q : a = b := by simpa [Cond.value, e1, hF] using h
    rw [e1, q]
theorem own_4 {z : Int32} (h1 : 0 ≤ z.toInt) (h2 : z.toInt < 4) : z = (0 : Int32) ∨ z = (1 : Int32) ∨ z = (2 : Int32) ∨ z = (3 : Int32) := by
  have h : z.toInt = 0 ∨ z.toInt = 1 ∨ z.toInt = 2 ∨ z.toInt = 3 := by omega
  rcases h with h | h | h | h
  · exact Or.inl (Int32.toInt_inj.mp h)
  · exact Or.inr (Or.inl (Int32.toInt_inj.mp h))
  · exact Or.inr (Or.inr (Or.inl (Int32.toInt_inj.mp h)))
  · exact Or.inr (Or.inr (Or.inr (Int32.toInt_inj.mp h)))
theorem own_7 {z : Int32} (h1 : 0 ≤ z.toInt) (h2 : z.toInt < 7) : z = (0 : Int32) ∨ z = (1 : Int32) ∨ z = (2 : Int32) ∨ z = (3 : Int32) ∨ z = (4 : Int32) ∨ z = (5 : Int32) ∨ z = (6 : Int32) := by
  have h : z.toInt = 0 ∨ z.toInt = 1 ∨ z.toInt = 2 ∨ z.toInt = 3 ∨ z.toInt = 4 ∨ z.toInt = 5 ∨ z.toInt = 6 := by omega
  rcases h with h | h | h | h | h | h | h
  · exact Or.inl (Int32.toInt_inj.mp h)
  · exact Or.inr (Or.inl (Int32.toInt_inj.mp h))
  · exact Or.inr (Or.inr (Or.inl (Int32.toInt_inj.mp h)))
  · exact Or.inr (Or.inr (Or.inr (Or.inl (Int32.toInt_inj.mp h))))
  · exact Or.inr (Or.inr (Or.inr (Or.inr (Or.inl (Int32.toInt_inj.mp h)))))
  · exact Or.inr (Or.inr (Or.inr (Or.inr (Or.inr (Or.inl (Int32.toInt_inj.mp h))))))
  · exact Or.inr (Or.inr (Or.inr (Or.inr (Or.inr (Or.inr (Int32.toInt_inj.mp h))))))
theorem dt1_0 : decode jdk_42_method_152_code 0 = .ok (.getstatic 38, 3) := by decide +kernel
theorem dt1_3 : decode jdk_42_method_152_code 3 = .ok (.ifCond .eq 10, 3) := by decide +kernel
theorem dt1_6 : decode jdk_42_method_152_code 6 = .ok (.aload_n 0, 1) := by decide +kernel
theorem dt1_7 : decode jdk_42_method_152_code 7 = .ok (.getfield 15, 3) := by decide +kernel
theorem dt1_10 : decode jdk_42_method_152_code 10 = .ok (.goto 4, 3) := by decide +kernel
theorem dt1_14 : decode jdk_42_method_152_code 14 = .ok (.ireturn, 1) := by decide +kernel
theorem pn_0 : plainName "java/lang/String" = true := by first | (simp [plainName, overriddenIn]; done) | decide +kernel
theorem ef_t1 (mM : MethodId) (x0 : Addr) : entryFrame mM #[(.ref x0)] 1 = mkF mM 0 #[.val (.ref x0)] [] := by first | (simp [entryFrame, mkF, argsToLocals, Value.category]; done) | rfl
def Qt1 (Z : State) (cs : Int32) (a : Addr) (h0 : Heap) (n0 : Nat) (v : Option Value) (h : Heap) (L : List Loc) : Prop := v = some (.int (0 : Int32)) ∧ Fr n0 L ∧ h = h0
set_option maxRecDepth 65536 in
set_option maxHeartbeats 40000000 in
theorem rmt1 (l : Launch) (Z : State) (a0 : Array Value) (hw : ∀ d ∈ tables_1, d.before a0 Z = true) (ws : List Jvm.Cond) (cs : Int32) (a : Addr) (h0 : Heap) (n0 : Nat) (Z0 : n0 ≤ h0.size) (O : Old Z n0 h0) (S_cs : Sta Z Z.heap "java/lang/String" "COMPACT_STRINGS" "Z" (.int cs)) (hcs : ¬ cs = (0 : Int32)) (E_a : Exa Z h0 a "java/lang/String") (F_c : Fld Z h0 a "java/lang/String" "coder" "B" (.int (0 : Int32))) :
    MetFree l (⟨"java/lang/String", "coder", "()B"⟩ : MethodName) (head1 (Jvm.Cond.code (⟨"java/lang/String", "coder", "()B"⟩ : MethodName) jdk_42_method_152_code 1 (some .byte) :: ws) ({ frames := 0, cells := 0, slots := 0, locals := 0 } : Room)) (fun aA uU => aA = #[(.ref a)] ∧ Z.Warmed39 uU.vm ∧ uU.heap = h0) (fun _ _ _ _ _ => True) (fun _ uU oO uU' => ∃ vV lL, oO = .returned vV ∧ Qt1 Z cs a h0 n0 vV uU'.heap lL ∧ FrameEnd uU oO uU' lL ({ frames := 0, cells := 0, slots := 0, locals := 0 } : Room).cells ({ frames := 0, cells := 0, slots := 0, locals := 0 } : Room).slots) := by
  refine MetFree.of_bodySF (plainFor_of_name pn_0) hisR ?_
  intro pP eE sS mM args below meth cC s₁ Bd hml0 hP hK
  obtain ⟨rfl, hZ, hh⟩ := hP
  have hx := Bd.exec
  have hby := Bd.bytes
  have hml : cC.maxLocals = 1 := hml0
  have hown : sS.vm.findClass "java/lang/String" = some mM.cls := findClass_of_methodNamed Bd.named
  have hnm := (name_of_methodNamed Bd.named Bd.method).1
  have X0 : Stand pP l eE ({ frames := 0, cells := 0, slots := 0, locals := 0 } : Room) sS mM #[(.ref a)] below meth cC s₁ [] 0 0 := Stand.of_body Bd
  have e0 : s₁.heap = h0 := by rw [← hh, Bd.state]; rfl
  have N0 := Fr.nil n0
  have pre0 : ∀ tg, Steps pP.tables eE below (s₁.setTop (mkF mM 0 #[.val (.ref a)] [])) tg → Steps pP.tables eE below (s₁.setTop (entryFrame mM #[(.ref a)] 1)) tg := fun tg kg => castTop (ef_t1 mM a) kg
  obtain ⟨T1, X1, e1, st1⟩ := getS2 X0 hx hZ hown (host := "") (Or.inl (hw _ (List.mem_of_getElem? (i := 19) rfl))) Via.refl e0 (Sta.ext (O).2 S_cs) (g := (mkF mM 0 #[.val (.ref a)] [])) rfl (hb hby dt1_0)
  have pr2 : ∀ tg, Steps pP.tables eE below (T1.setTop (mkF mM 3 #[.val (.ref a)] [(.int cs)])) tg → Steps pP.tables eE below (s₁.setTop (entryFrame mM #[(.ref a)] 1)) tg := fun tg kg => pre0 _ (st1 _ kg)
  have pr3 : ∀ tg, Steps pP.tables eE below (T1.setTop (mkF mM 7 #[.val (.ref a)] [(.ref a)])) tg → Steps pP.tables eE below (s₁.setTop (entryFrame mM #[(.ref a)] 1)) tg := fun tg kg => pr2 _ (by
    show Steps pP.tables eE below (T1.setTop (mkF mM 3 #[.val (.ref a)] [(.int cs)])) _
    refine XS.ifNo X1.here hx rfl (hb hby dt1_3) rfl ((if0 _ _).trans (feq hcs).1) ?_
    show Steps pP.tables eE below (T1.setTop (mkF mM 6 #[.val (.ref a)] [])) _
    refine XS.aloadN X1.here hx rfl (hb hby dt1_6) rfl rfl ?_
    exact kg)
  obtain ⟨T4, X4, e4, st4⟩ := getF X1 hx hZ hown (host := "") (Or.inl (hw _ (List.mem_of_getElem? (i := 20) rfl))) Via.refl e1 F_c (g := (mkF mM 7 #[.val (.ref a)] [(.ref a)])) rfl rfl (hb hby dt1_7)
  have pr5 : ∀ tg, Steps pP.tables eE below (T4.setTop (mkF mM 10 #[.val (.ref a)] [(.int (0 : Int32))])) tg → Steps pP.tables eE below (s₁.setTop (entryFrame mM #[(.ref a)] 1)) tg := fun tg kg => pr3 _ (st4 _ kg)
  have pr6 : ∀ tg, Steps pP.tables eE below (T4.setTop (mkF mM 14 #[.val (.ref a)] [(.int (0 : Int32))])) tg → Steps pP.tables eE below (s₁.setTop (entryFrame mM #[(.ref a)] 1)) tg := fun tg kg => pr5 _ (by
    show Steps pP.tables eE below (T4.setTop (mkF mM 10 #[.val (.ref a)] [(.int (0 : Int32))])) _
    refine XS.goto X4.here hx rfl (pc0 := 10) (pc' := 14) rfl (hb hby dt1_10) (by decide) (by decide) ?_
    exact kg)
  obtain ⟨fs, hr, hrun, hended, hW, hsame⟩ := X4.leave (v := some (.int (0 : Int32))) (fun h => by rw [Bd.returns] at h; cases h)
  refine ⟨_, _, pr6 _ (retOut X4 hx (t := .byte) Bd.returns rfl (Or.inl ⟨rfl, Or.inr (Or.inr (Or.inl rfl)), _, rfl⟩) (hb hby dt1_14) hr), hrun, hended, _, _, rfl, ?_, ⟨_, rfl⟩, hW, hsame.mono (by decide) (by decide)⟩
  show Qt1 Z cs a h0 n0 _ T4.heap _
  rw [e4]
  exact ⟨rfl, N0, rfl⟩
theorem pd_0 : parseMethodDescriptor "()B" = some ⟨[], some .byte⟩ := by decide +kernel
theorem dt2_0 : decode jdk_42_method_54_code 0 = .ok (.aload_n 0, 1) := by decide +kernel
theorem dt2_1 : decode jdk_42_method_54_code 1 = .ok (.getfield 9, 3) := by decide +kernel
theorem dt2_4 : decode jdk_42_method_54_code 4 = .ok (.arraylength, 1) := by decide +kernel
theorem dt2_5 : decode jdk_42_method_54_code 5 = .ok (.aload_n 0, 1) := by decide +kernel
theorem dt2_6 : decode jdk_42_method_54_code 6 = .ok (.invokevirtual 335, 3) := by decide +kernel
theorem dt2_9 : decode jdk_42_method_54_code 9 = .ok (.ishr, 1) := by decide +kernel
theorem dt2_10 : decode jdk_42_method_54_code 10 = .ok (.ireturn, 1) := by decide +kernel
theorem ef_t2 (mM : MethodId) (x0 : Addr) : entryFrame mM #[(.ref x0)] 1 = mkF mM 0 #[.val (.ref x0)] [] := by first | (simp [entryFrame, mkF, argsToLocals, Value.category]; done) | rfl
def Qt2 (Z : State) (cs : Int32) (a : Addr) (b : Addr) (kb : ClassId) (nv : Int32) (vs : List Value) (h0 : Heap) (n0 : Nat) (v : Option Value) (h : Heap) (L : List Loc) : Prop := v = some (.int nv) ∧ Fr n0 L ∧ h = h0
set_option maxRecDepth 65536 in
set_option maxHeartbeats 40000000 in
theorem rmt2 (l : Launch) (Z : State) (a0 : Array Value) (hw : ∀ d ∈ tables_1, d.before a0 Z = true) (ws : List Jvm.Cond) (cs : Int32) (a : Addr) (b : Addr) (kb : ClassId) (nv : Int32) (vs : List Value) (h0 : Heap) (n0 : Nat) (Z0 : n0 ≤ h0.size) (O : Old Z n0 h0) (S_cs : Sta Z Z.heap "java/lang/String" "COMPACT_STRINGS" "Z" (.int cs)) (hcs : ¬ cs = (0 : Int32)) (E_a : Exa Z h0 a "java/lang/String") (F_c : Fld Z h0 a "java/lang/String" "coder" "B" (.int (0 : Int32))) (F_v : Fld Z h0 a "java/lang/String" "value" "[B" (.ref b)) (V_b : Arv Z h0 b kb .byte nv vs (.int (0 : Int32))) :
    MetFree l (⟨"java/lang/String", "length", "()I"⟩ : MethodName) (head1 (Jvm.Cond.code (⟨"java/lang/String", "length", "()I"⟩ : MethodName) jdk_42_method_54_code 1 (some .int) :: ws) ({ frames := 1, cells := 0, slots := 0, locals := 13 } : Room)) (fun aA uU => aA = #[(.ref a)] ∧ Z.Warmed39 uU.vm ∧ uU.heap = h0) (fun _ _ _ _ _ => True) (fun _ uU oO uU' => ∃ vV lL, oO = .returned vV ∧ Qt2 Z cs a b kb nv vs h0 n0 vV uU'.heap lL ∧ FrameEnd uU oO uU' lL ({ frames := 1, cells := 0, slots := 0, locals := 13 } : Room).cells ({ frames := 1, cells := 0, slots := 0, locals := 13 } : Room).slots) := by
  refine MetFree.of_bodySF (plainFor_of_name pn_0) hisR ?_
  intro pP eE sS mM args below meth cC s₁ Bd hml0 hP hK
  obtain ⟨rfl, hZ, hh⟩ := hP
  have hx := Bd.exec
  have hby := Bd.bytes
  have hml : cC.maxLocals = 1 := hml0
  have hown : sS.vm.findClass "java/lang/String" = some mM.cls := findClass_of_methodNamed Bd.named
  have hnm := (name_of_methodNamed Bd.named Bd.method).1
  have X0 : Stand pP l eE ({ frames := 1, cells := 0, slots := 0, locals := 13 } : Room) sS mM #[(.ref a)] below meth cC s₁ [] 0 0 := Stand.of_body Bd
  have e0 : s₁.heap = h0 := by rw [← hh, Bd.state]; rfl
  have N0 := Fr.nil n0
  have pre0 : ∀ tg, Steps pP.tables eE below (s₁.setTop (mkF mM 0 #[.val (.ref a)] [])) tg → Steps pP.tables eE below (s₁.setTop (entryFrame mM #[(.ref a)] 1)) tg := fun tg kg => castTop (ef_t2 mM a) kg
  have pr1 : ∀ tg, Steps pP.tables eE below (s₁.setTop (mkF mM 1 #[.val (.ref a)] [(.ref a)])) tg → Steps pP.tables eE below (s₁.setTop (entryFrame mM #[(.ref a)] 1)) tg := fun tg kg => pre0 _ (by
    show Steps pP.tables eE below (s₁.setTop (mkF mM 0 #[.val (.ref a)] [])) _
    refine XS.aloadN X0.here hx rfl (hb hby dt2_0) rfl rfl ?_
    exact kg)
  obtain ⟨T2, X2, e2, st2⟩ := getF X0 hx hZ hown (host := "") (Or.inl (hw _ (List.mem_of_getElem? (i := 13) rfl))) Via.refl e0 F_v (g := (mkF mM 1 #[.val (.ref a)] [(.ref a)])) rfl rfl (hb hby dt2_1)
  have pr3 : ∀ tg, Steps pP.tables eE below (T2.setTop (mkF mM 4 #[.val (.ref a)] [(.ref b)])) tg → Steps pP.tables eE below (s₁.setTop (entryFrame mM #[(.ref a)] 1)) tg := fun tg kg => pr1 _ (st2 _ kg)
  obtain ⟨cla4, Ara4, qa4, Sa4, Ma4, Ha4, Ga4⟩ := id V_b
  have pr5 : ∀ tg, Steps pP.tables eE below (T2.setTop (mkF mM 6 #[.val (.ref a)] [(.ref a), (.int nv)])) tg → Steps pP.tables eE below (s₁.setTop (entryFrame mM #[(.ref a)] 1)) tg := fun tg kg => pr3 _ (by
    show Steps pP.tables eE below (T2.setTop (mkF mM 4 #[.val (.ref a)] [(.ref b)])) _
    refine X2.arraylength hx (by rw [e2]; exact Ara4.1) (State.isArrayOf_alike hZ.alike Ara4.2.1) (g := (mkF mM 4 #[.val (.ref a)] [(.ref b)])) rfl rfl (hb hby dt2_4) _ ?_
    rw [len_of Sa4 Ma4]
    show Steps pP.tables eE below (T2.setTop (mkF mM 5 #[.val (.ref a)] [(.int nv)])) _
    refine XS.aloadN X2.here hx rfl (hb hby dt2_5) rfl rfl ?_
    exact kg)
  obtain ⟨cq6, kq6, qa6, qb6, qc6⟩ := isOf hZ e2 E_a
  obtain ⟨_, _, ⟨T6, L6, kk6, nn6⟩, -, X6, ⟨Lc6, hQ6, l6, y6, z6⟩, st6⟩ := X2.virtualBack hx (y := (⟨"java/lang/String", "coder", "()B"⟩ : MethodName)) (z := (⟨"java/lang/String", "coder", "()B"⟩ : MethodName)) hown (mvT hZ (hw _ (List.mem_of_getElem? (i := 14) rfl))) (mvT hZ (hw _ (List.mem_of_getElem? (i := 15) rfl))) (notFace_of_selects (args := #[]) (mvT hZ (hw _ (List.mem_of_getElem? (i := 17) rfl)))) (mvT hZ (hw _ (List.mem_of_getElem? (i := 17) rfl))) (mvT hZ (hw _ (List.mem_of_getElem? (i := 16) rfl))) (by decide) (backOf (W := 1) (rmt1 l Z a0 hw [] cs a h0 n0 Z0 O S_cs hcs E_a F_c) hZ (hw _ (List.mem_of_getElem? (i := 18) rfl)) (hw _ (List.mem_of_getElem? (i := 1) rfl)) (by decide) (by decide)) qa6 qc6 (g := (mkF mM 6 #[.val (.ref a)] [(.ref a), (.int nv)])) rfl (by rw [hml]; rfl) (Steps.refl _) (argsL := []) (rest := [(.int nv)]) (lenOf pd_0 rfl) rfl (by show 2 * 0 + _ ≤ _; exact Nat.le_of_eq rfl) (hb hby dt2_6) (fun _ _ => ⟨rfl, e2, (by decide : 0 + 0 ≤ _), (by decide : 0 + 0 ≤ _)⟩)
  dsimp only [Pt.U, Pt.locs, Pt.cells, Pt.slots] at X6 l6 y6 z6 st6 hQ6
  subst l6 y6 z6
  obtain ⟨rfl, Nq6, e6⟩ := hQ6
  have N6 := Fr.app N0 Nq6
  have pr7 : ∀ tg, Steps pP.tables eE below (T6.setTop (mkF mM 9 #[.val (.ref a)] [(.int (0 : Int32)), (.int nv)])) tg → Steps pP.tables eE below (s₁.setTop (entryFrame mM #[(.ref a)] 1)) tg := fun tg kg => pr5 _ (st6.trans kg)
  have pr8 : ∀ tg, Steps pP.tables eE below (T6.setTop (mkF mM 10 #[.val (.ref a)] [(.int (nv >>> ((0 : Int32) &&& 31)))])) tg → Steps pP.tables eE below (s₁.setTop (entryFrame mM #[(.ref a)] 1)) tg := fun tg kg => pr7 _ (by
    show Steps pP.tables eE below (T6.setTop (mkF mM 9 #[.val (.ref a)] [(.int (0 : Int32)), (.int nv)])) _
    refine XS.ishr X6.here hx rfl (hb hby dt2_9) rfl ?_
    exact kg)
  obtain ⟨fs, hr, hrun, hended, hW, hsame⟩ := X6.leave (v := some (.int (nv >>> ((0 : Int32) &&& 31)))) (fun h => by rw [Bd.returns] at h; cases h)
  refine ⟨_, _, pr8 _ (retOut X6 hx (t := .int) Bd.returns rfl (Or.inl ⟨rfl, Or.inl rfl, _, rfl⟩) (hb hby dt2_10) hr), hrun, hended, _, _, rfl, ?_, ⟨_, rfl⟩, hW, hsame.mono (by decide) (by decide)⟩
  show Qt2 Z cs a b kb nv vs h0 n0 _ T6.heap _
  rw [e6]
  exact ⟨by rw [own_shr0], N6, rfl⟩
theorem dt3_0 : decode jdk_42_method_149_code 0 = .ok (.aload_n 0, 1) := by decide +kernel
theorem dt3_1 : decode jdk_42_method_149_code 1 = .ok (.invokespecial 1, 3) := by decide +kernel
theorem dt3_4 : decode jdk_42_method_149_code 4 = .ok (.iload_n 3, 1) := by decide +kernel
theorem dt3_5 : decode jdk_42_method_149_code 5 = .ok (.ifCond .ne 22, 3) := by decide +kernel
theorem dt3_8 : decode jdk_42_method_149_code 8 = .ok (.aload_n 0, 1) := by decide +kernel
theorem dt3_9 : decode jdk_42_method_149_code 9 = .ok (.ldc 7, 2) := by decide +kernel
theorem dt3_11 : decode jdk_42_method_149_code 11 = .ok (.getfield 9, 3) := by decide +kernel
theorem dt3_14 : decode jdk_42_method_149_code 14 = .ok (.putfield 9, 3) := by decide +kernel
theorem dt3_17 : decode jdk_42_method_149_code 17 = .ok (.aload_n 0, 1) := by decide +kernel
theorem dt3_18 : decode jdk_42_method_149_code 18 = .ok (.ldc 7, 2) := by decide +kernel
theorem dt3_20 : decode jdk_42_method_149_code 20 = .ok (.getfield 15, 3) := by decide +kernel
theorem dt3_23 : decode jdk_42_method_149_code 23 = .ok (.putfield 15, 3) := by decide +kernel
theorem dt3_26 : decode jdk_42_method_149_code 26 = .ok (.return_, 1) := by decide +kernel
theorem ef_t3 (mM : MethodId) (x0 : Addr) (x1 : Addr) (x2 : Int32) (x3 : Int32) : entryFrame mM #[(.ref x0), (.ref x1), (.int x2), (.int x3), .null] 6 = mkF mM 0 #[.val (.ref x0), .val (.ref x1), .val (.int x2), .val (.int x3), .val .null, .unset] [] := by first | (simp [entryFrame, mkF, argsToLocals, Value.category]; done) | rfl
def Qt3 (Z : State) (a : Addr) (x : Addr) (h0 : Heap) (n0 : Nat) (v : Option Value) (h : Heap) (L : List Loc) : Prop := v = none ∧ Fr n0 L ∧ Keep h0 h [a] ∧ Exa Z h a "java/lang/String" ∧ Fld Z h a "java/lang/String" "coder" "B" (.int (0 : Int32)) ∧ ∃ (t : Addr) (kb : ClassId), Fld Z h a "java/lang/String" "value" "[B" (.ref t) ∧ Arv Z h t kb .byte (0 : Int32) [] (.int (0 : Int32))
set_option maxRecDepth 65536 in
set_option maxHeartbeats 40000000 in
theorem rmt3 (l : Launch) (Z : State) (a0 : Array Value) (hw : ∀ d ∈ tables_1, d.before a0 Z = true) (ws : List Jvm.Cond) (a : Addr) (x : Addr) (h0 : Heap) (n0 : Nat) (Z0 : n0 ≤ h0.size) (E_a : Exa Z h0 a "java/lang/String") (g_a : n0 ≤ a) (F_v : Fld Z h0 a "java/lang/String" "value" "[B" .null) (F_c : Fld Z h0 a "java/lang/String" "coder" "B" (.int (0 : Int32))) :
    MetFree l (⟨"java/lang/String", "<init>", "([CIILjava/lang/Void;)V"⟩ : MethodName) (head1 (Jvm.Cond.code (⟨"java/lang/String", "<init>", "([CIILjava/lang/Void;)V"⟩ : MethodName) jdk_42_method_149_code 6 none :: ws) ({ frames := 1, cells := 4, slots := 8, locals := 12 } : Room)) (fun aA uU => aA = #[(.ref a), (.ref x), (.int (0 : Int32)), (.int (0 : Int32)), .null] ∧ Z.Warmed39 uU.vm ∧ uU.heap = h0 ∧ CHv Z consts_1 uU.vm h0) (fun _ _ _ _ _ => True) (fun _ uU oO uU' => ∃ vV lL, oO = .returned vV ∧ Qt3 Z a x h0 n0 vV uU'.heap lL ∧ CHr Z consts_1 uU.vm uU.heap uU'.vm uU'.heap ∧ ReturnedEndW uU oO uU' lL ({ frames := 1, cells := 4, slots := 8, locals := 12 } : Room).cells ({ frames := 1, cells := 4, slots := 8, locals := 12 } : Room).slots) := by
  refine MetFree.of_bodySF (plainFor_of_name pn_0) hisR ?_
  intro pP eE sS mM args below meth cC s₁ Bd hml0 hP hK
  obtain ⟨rfl, hZ, hh, hCH0⟩ := hP
  have hS : sS.Since sS.vm 0 := (State.WarmedH.refl sS).since 0
  have wS : ∀ a ∈ Bundle.stringAtoms, a.before a0 Z = true := fun a ha => hw a ((by decide +kernel : ∀ a ∈ Bundle.stringAtoms, a ∈ tables_1) a ha)
  have hEW := own_ew hw
  have cr0 := CHr.refl hCH0
  have hx := Bd.exec
  have hby := Bd.bytes
  have hml : cC.maxLocals = 6 := hml0
  have hown : sS.vm.findClass "java/lang/String" = some mM.cls := findClass_of_methodNamed Bd.named
  have hnm := (name_of_methodNamed Bd.named Bd.method).1
  have X0 : Stand pP l eE ({ frames := 1, cells := 4, slots := 8, locals := 12 } : Room) sS mM #[(.ref a), (.ref x), (.int (0 : Int32)), (.int (0 : Int32)), .null] below meth cC s₁ [] 0 0 := Stand.of_body Bd
  have e0 : s₁.heap = h0 := by rw [← hh, Bd.state]; rfl
  have N0 := Fr.nil n0
  have pre0 : ∀ tg, Steps pP.tables eE below (s₁.setTop (mkF mM 0 #[.val (.ref a), .val (.ref x), .val (.int (0 : Int32)), .val (.int (0 : Int32)), .val .null, .unset] [])) tg → Steps pP.tables eE below (s₁.setTop (entryFrame mM #[(.ref a), (.ref x), (.int (0 : Int32)), (.int (0 : Int32)), .null] 6)) tg := fun tg kg => castTop (ef_t3 mM a x (0 : Int32) (0 : Int32)) kg
  have sf0_a : Safe Z consts_1 sS.vm h0 a := own_safe hZ.alike E_a F_v
  have pr1 : ∀ tg, Steps pP.tables eE below (s₁.setTop (mkF mM 1 #[.val (.ref a), .val (.ref x), .val (.int (0 : Int32)), .val (.int (0 : Int32)), .val .null, .unset] [(.ref a)])) tg → Steps pP.tables eE below (s₁.setTop (entryFrame mM #[(.ref a), (.ref x), (.int (0 : Int32)), (.int (0 : Int32)), .null] 6)) tg := fun tg kg => pre0 _ (by
    show Steps pP.tables eE below (s₁.setTop (mkF mM 0 #[.val (.ref a), .val (.ref x), .val (.int (0 : Int32)), .val (.int (0 : Int32)), .val .null, .unset] [])) _
    refine XS.aloadN X0.here hx rfl (hb hby dt3_0) rfl rfl ?_
    exact kg)
  obtain ⟨T2, X2, e2, st2⟩ := initO X0 hx hZ hown (hw _ (List.mem_of_getElem? (i := 62) rfl)) (hw _ (List.mem_of_getElem? (i := 63) rfl)) (hw _ (List.mem_of_getElem? (i := 64) rfl)) e0 (g := (mkF mM 1 #[.val (.ref a), .val (.ref x), .val (.int (0 : Int32)), .val (.int (0 : Int32)), .val .null, .unset] [(.ref a)])) rfl (by rw [hml]; rfl) rfl (hb hby dt3_1) (by decide) (W := 0) (by show 2 * 0 + _ ≤ _; exact Nat.le_of_eq rfl) (by decide)
  have pr3 : ∀ tg, Steps pP.tables eE below (T2.setTop (mkF mM 4 #[.val (.ref a), .val (.ref x), .val (.int (0 : Int32)), .val (.int (0 : Int32)), .val .null, .unset] [])) tg → Steps pP.tables eE below (s₁.setTop (entryFrame mM #[(.ref a), (.ref x), (.int (0 : Int32)), (.int (0 : Int32)), .null] 6)) tg := fun tg kg => pr1 _ (st2 _ kg)
  have pr4 : ∀ tg, Steps pP.tables eE below (T2.setTop (mkF mM 9 #[.val (.ref a), .val (.ref x), .val (.int (0 : Int32)), .val (.int (0 : Int32)), .val .null, .unset] [(.ref a)])) tg → Steps pP.tables eE below (s₁.setTop (entryFrame mM #[(.ref a), (.ref x), (.int (0 : Int32)), (.int (0 : Int32)), .null] 6)) tg := fun tg kg => pr3 _ (by
    show Steps pP.tables eE below (T2.setTop (mkF mM 4 #[.val (.ref a), .val (.ref x), .val (.int (0 : Int32)), .val (.int (0 : Int32)), .val .null, .unset] [])) _
    refine XS.iloadN X2.here hx rfl (hb hby dt3_4) rfl ?_
    show Steps pP.tables eE below (T2.setTop (mkF mM 5 #[.val (.ref a), .val (.ref x), .val (.int (0 : Int32)), .val (.int (0 : Int32)), .val .null, .unset] [(.int (0 : Int32))])) _
    refine XS.ifNo X2.here hx rfl (hb hby dt3_5) rfl ((if0 _ _).trans (teq (by decide)).2) ?_
    show Steps pP.tables eE below (T2.setTop (mkF mM 8 #[.val (.ref a), .val (.ref x), .val (.int (0 : Int32)), .val (.int (0 : Int32)), .val .null, .unset] [])) _
    refine XS.aloadN X2.here hx rfl (hb hby dt3_8) rfl rfl ?_
    exact kg)
  obtain ⟨a5, T5, h5, kk5, b5, kc5, X5, e5, E5, hS, hk5, hZ, hown, Es5, Fc5, Fv5, V5, la5, lb5, A5, -, hn5, st5⟩ := ldcCH (s := sS) (vm0 := sS.vm) (EL := consts_1) X2 hx hZ hown (hw _ (List.mem_of_getElem? (i := 103) rfl)) wS e2 hS (Nat.zero_le _) hEW (List.mem_of_getElem? (i := 4) rfl) cr0.1 (vs := []) (z := (0 : Int32)) ⟨by decide, rfl⟩ (by decide) rfl (g := (mkF mM 9 #[.val (.ref a), .val (.ref x), .val (.int (0 : Int32)), .val (.int (0 : Int32)), .val .null, .unset] [(.ref a)])) rfl (hb hby dt3_9) (n := 0) (by decide) (by decide) (by decide) (by decide)
  have sf6_a := CHr.safe A5 (E_a).lt sf0_a
  have cr6 := CHr.trans cr0 A5
  have pr7 : ∀ tg, Steps pP.tables eE below (T5.setTop (mkF mM 11 #[.val (.ref a), .val (.ref x), .val (.int (0 : Int32)), .val (.int (0 : Int32)), .val .null, .unset] [(.ref a5), (.ref a)])) tg → Steps pP.tables eE below (s₁.setTop (entryFrame mM #[(.ref a), (.ref x), (.int (0 : Int32)), (.int (0 : Int32)), .null] 6)) tg := fun tg kg => pr4 _ (st5 _ kg)
  obtain ⟨T8, X8, e8, st8⟩ := getF X5 hx hZ hown (host := "") (Or.inl (hw _ (List.mem_of_getElem? (i := 13) rfl))) Via.refl e5 Fv5 (g := (mkF mM 11 #[.val (.ref a), .val (.ref x), .val (.int (0 : Int32)), .val (.int (0 : Int32)), .val .null, .unset] [(.ref a5), (.ref a)])) rfl rfl (hb hby dt3_11)
  have pr9 : ∀ tg, Steps pP.tables eE below (T8.setTop (mkF mM 14 #[.val (.ref a), .val (.ref x), .val (.int (0 : Int32)), .val (.int (0 : Int32)), .val .null, .unset] [(.ref b5), (.ref a)])) tg → Steps pP.tables eE below (s₁.setTop (entryFrame mM #[(.ref a), (.ref x), (.int (0 : Int32)), (.int (0 : Int32)), .null] 6)) tg := fun tg kg => pr7 _ (st8 _ kg)
  have c10 := (Fld.ext E5 F_v)
  have c11 := (Exa.ext E5 E_a)
  obtain ⟨T12, h12, X12, e12, W12, st12⟩ := putF X8 hx hZ hown (host := "") (Or.inl (hw _ (List.mem_of_getElem? (i := 13) rfl))) Via.refl e8 c10 c11 (Or.inr ⟨(hw _ (List.mem_of_getElem? (i := 4) rfl)), rfl, hnm⟩) (hw _ (List.mem_of_getElem? (i := 2) rfl)) (ty := (.array .byte)) (by decide) rfl rfl (g := (mkF mM 14 #[.val (.ref a), .val (.ref x), .val (.int (0 : Int32)), .val (.int (0 : Int32)), .val .null, .unset] [(.ref b5), (.ref a)])) rfl rfl (hb hby dt3_14)
  have Fw12 := Fld.same W12 c10
  have N12 := Fr.snoc X12 N0 g_a
  have sf13_a := Safe.wr W12 sf6_a cr6.1 sf6_a
  have cr13 := CHr.trans cr6 (CHr.wr W12 sf6_a cr6.1)
  have pr14 : ∀ tg, Steps pP.tables eE below (T12.setTop (mkF mM 17 #[.val (.ref a), .val (.ref x), .val (.int (0 : Int32)), .val (.int (0 : Int32)), .val .null, .unset] [])) tg → Steps pP.tables eE below (s₁.setTop (entryFrame mM #[(.ref a), (.ref x), (.int (0 : Int32)), (.int (0 : Int32)), .null] 6)) tg := fun tg kg => pr9 _ (st12 _ kg)
  have c15 := (Nat.le_trans hk5 (Keep.of_wr W12).1)
  have pr16 : ∀ tg, Steps pP.tables eE below (T12.setTop (mkF mM 18 #[.val (.ref a), .val (.ref x), .val (.int (0 : Int32)), .val (.int (0 : Int32)), .val .null, .unset] [(.ref a)])) tg → Steps pP.tables eE below (s₁.setTop (entryFrame mM #[(.ref a), (.ref x), (.int (0 : Int32)), (.int (0 : Int32)), .null] 6)) tg := fun tg kg => pr14 _ (by
    show Steps pP.tables eE below (T12.setTop (mkF mM 17 #[.val (.ref a), .val (.ref x), .val (.int (0 : Int32)), .val (.int (0 : Int32)), .val .null, .unset] [])) _
    refine XS.aloadN X12.here hx rfl (hb hby dt3_17) rfl rfl ?_
    exact kg)
  obtain ⟨a17, T17, h17, kk17, b17, kc17, X17, e17, E17, hS, hk17, hZ, hown, Es17, Fc17, Fv17, V17, la17, lb17, A17, -, hn17, st17⟩ := ldcCH (s := sS) (vm0 := T5.vm) (EL := consts_1) X12 hx hZ hown (hw _ (List.mem_of_getElem? (i := 103) rfl)) wS e12 hS c15 hEW (List.mem_of_getElem? (i := 4) rfl) cr13.1 (vs := []) (z := (0 : Int32)) ⟨by decide, rfl⟩ (by decide) rfl (g := (mkF mM 18 #[.val (.ref a), .val (.ref x), .val (.int (0 : Int32)), .val (.int (0 : Int32)), .val .null, .unset] [(.ref a)])) rfl (hb hby dt3_18) (n := 0) (by decide) (by decide) (by decide) (by decide)
  have c19 := (Exa.wr W12 c11)
  have sf18_a := CHr.safe A17 (c19).lt sf13_a
  have cr18 := CHr.trans cr13 A17
  have pr20 : ∀ tg, Steps pP.tables eE below (T17.setTop (mkF mM 20 #[.val (.ref a), .val (.ref x), .val (.int (0 : Int32)), .val (.int (0 : Int32)), .val .null, .unset] [(.ref a17), (.ref a)])) tg → Steps pP.tables eE below (s₁.setTop (entryFrame mM #[(.ref a), (.ref x), (.int (0 : Int32)), (.int (0 : Int32)), .null] 6)) tg := fun tg kg => pr16 _ (st17 _ kg)
  obtain ⟨T21, X21, e21, st21⟩ := getF X17 hx hZ hown (host := "") (Or.inl (hw _ (List.mem_of_getElem? (i := 20) rfl))) Via.refl e17 Fc17 (g := (mkF mM 20 #[.val (.ref a), .val (.ref x), .val (.int (0 : Int32)), .val (.int (0 : Int32)), .val .null, .unset] [(.ref a17), (.ref a)])) rfl rfl (hb hby dt3_20)
  have pr22 : ∀ tg, Steps pP.tables eE below (T21.setTop (mkF mM 23 #[.val (.ref a), .val (.ref x), .val (.int (0 : Int32)), .val (.int (0 : Int32)), .val .null, .unset] [(.int (0 : Int32)), (.ref a)])) tg → Steps pP.tables eE below (s₁.setTop (entryFrame mM #[(.ref a), (.ref x), (.int (0 : Int32)), (.int (0 : Int32)), .null] 6)) tg := fun tg kg => pr20 _ (st21 _ kg)
  have c23 := (Fld.ext E17 (Fld.other W12 (Fld.ext E5 F_c) (Or.inr (slot_ne (C := "java/lang/String") (Or.inr (hw _ (List.mem_of_getElem? (i := 5) rfl))) (Or.inr (hw _ (List.mem_of_getElem? (i := 4) rfl))) (by decide) (t := .byte) (t' := (.array .byte)) (by decide) (by decide)))))
  have c24 := (Exa.ext E17 c19)
  obtain ⟨T25, h25, X25, e25, W25, st25⟩ := putFN X21 hx hZ hown (hw _ (List.mem_of_getElem? (i := 20) rfl)) Via.refl e21 c23 c24 (Or.inr ⟨(hw _ (List.mem_of_getElem? (i := 5) rfl)), rfl, hnm⟩) (hw _ (List.mem_of_getElem? (i := 2) rfl)) (ty := .byte) (v' := .int (0 : Int32)) (by decide) rfl (by decide) (g := (mkF mM 23 #[.val (.ref a), .val (.ref x), .val (.int (0 : Int32)), .val (.int (0 : Int32)), .val .null, .unset] [(.int (0 : Int32)), (.ref a)])) rfl rfl (hb hby dt3_23)
  have Fw25 := Fld.same W25 c23
  have N25 := Fr.snoc X25 N12 g_a
  have sf26_a := Safe.wr W25 sf18_a cr18.1 sf18_a
  have cr26 := CHr.trans cr18 (CHr.wr W25 sf18_a cr18.1)
  have pr27 : ∀ tg, Steps pP.tables eE below (T25.setTop (mkF mM 26 #[.val (.ref a), .val (.ref x), .val (.int (0 : Int32)), .val (.int (0 : Int32)), .val .null, .unset] [])) tg → Steps pP.tables eE below (s₁.setTop (entryFrame mM #[(.ref a), (.ref x), (.int (0 : Int32)), (.int (0 : Int32)), .null] 6)) tg := fun tg kg => pr22 _ (st25 _ kg)
  have c28 := (Keep.wr (Keep.ext (Keep.wr (Keep.ext (Keep.refl h0 [a]) E5) W12 (Or.inl (List.mem_of_getElem? (i := 0) rfl))) E17) W25 (Or.inl (List.mem_of_getElem? (i := 0) rfl)))
  have c29 := (Exa.wr W25 c24)
  have c30 := (Fld.other W25 (Fld.ext E17 Fw12) (Or.inr (slot_ne (C := "java/lang/String") (Or.inr (hw _ (List.mem_of_getElem? (i := 4) rfl))) (Or.inr (hw _ (List.mem_of_getElem? (i := 5) rfl))) (by decide) (t := (.array .byte)) (t' := .byte) (by decide) (by decide))))
  have c31 := (Arv.other (Arv.ext (Arv.other V5 W12 (Ne.symm (hn5 a sf6_a).2)) E17) W25 (Ne.symm (hn5 a sf6_a).2))
  have c32 := (Nat.le_trans hk17 (Keep.of_wr W25).1)
  obtain ⟨fs, hr, hrun, hended, hW⟩ := Jvm.Stand.leaveW (s := sS) (vm₁ := T17.vm) X25 hS (Nat.le_trans c32 (Nat.le_of_eq (congrArg Array.size e25.symm))) (v := none) (fun _ => rfl)
  have crE := CHr.trans cr26 (CHv.at (s := sS) (vm0 := T17.vm) X25 hZ hEW cr26.1)
  refine ⟨_, _, pr27 _ (X25.returnOut hx Bd.returns (hb hby dt3_26) hr), hrun, hended, _, _, rfl, ?_, ?_, hW.1, hW.2.1, hW.2.2.1, hW.2.2.2.mono (by decide) (by decide)⟩
  rotate_left
  · show CHr Z consts_1 sS.vm sS.heap T25.vm T25.heap
    rw [hh, e25]; exact crE
  show Qt3 Z a x h0 n0 _ T25.heap _
  rw [e25]
  exact ⟨rfl, N25, c28, c29, Fw25, b5, _, c30, c31⟩
theorem pd_1 : parseMethodDescriptor "([CIILjava/lang/Void;)V" = some ⟨[(.array .char), .int, .int, (.object "java/lang/Void")], none⟩ := by decide +kernel
theorem dt4_0 : decode jdk_42_method_3_code 0 = .ok (.aload_n 0, 1) := by decide +kernel
theorem dt4_1 : decode jdk_42_method_3_code 1 = .ok (.aload_n 1, 1) := by decide +kernel
theorem dt4_2 : decode jdk_42_method_3_code 2 = .ok (.iconst 0, 1) := by decide +kernel
theorem dt4_3 : decode jdk_42_method_3_code 3 = .ok (.aload_n 1, 1) := by decide +kernel
theorem dt4_4 : decode jdk_42_method_3_code 4 = .ok (.arraylength, 1) := by decide +kernel
theorem dt4_5 : decode jdk_42_method_3_code 5 = .ok (.aconst_null, 1) := by decide +kernel
theorem dt4_6 : decode jdk_42_method_3_code 6 = .ok (.invokespecial 27, 3) := by decide +kernel
theorem dt4_9 : decode jdk_42_method_3_code 9 = .ok (.return_, 1) := by decide +kernel
theorem ef_t4 (mM : MethodId) (x0 : Addr) (x1 : Addr) : entryFrame mM #[(.ref x0), (.ref x1)] 2 = mkF mM 0 #[.val (.ref x0), .val (.ref x1)] [] := by first | (simp [entryFrame, mkF, argsToLocals, Value.category]; done) | rfl
def Qt4 (Z : State) (a : Addr) (x : Addr) (kx : ClassId) (h0 : Heap) (n0 : Nat) (v : Option Value) (h : Heap) (L : List Loc) : Prop := v = none ∧ Fr n0 L ∧ Keep h0 h [a] ∧ Exa Z h a "java/lang/String" ∧ Fld Z h a "java/lang/String" "coder" "B" (.int (0 : Int32)) ∧ ∃ (t : Addr) (kb : ClassId), Fld Z h a "java/lang/String" "value" "[B" (.ref t) ∧ Arv Z h t kb .byte (0 : Int32) [] (.int (0 : Int32))
set_option maxRecDepth 65536 in
set_option maxHeartbeats 40000000 in
theorem rmt4 (l : Launch) (Z : State) (a0 : Array Value) (hw : ∀ d ∈ tables_1, d.before a0 Z = true) (ws : List Jvm.Cond) (a : Addr) (x : Addr) (kx : ClassId) (h0 : Heap) (n0 : Nat) (Z0 : n0 ≤ h0.size) (E_a : Exa Z h0 a "java/lang/String") (g_a : n0 ≤ a) (F_v : Fld Z h0 a "java/lang/String" "value" "[B" .null) (F_c : Fld Z h0 a "java/lang/String" "coder" "B" (.int (0 : Int32))) (V_x : Arv Z h0 x kx .char (0 : Int32) [] (.int (0 : Int32))) :
    MetFree l (⟨"java/lang/String", "<init>", "([C)V"⟩ : MethodName) (head1 (Jvm.Cond.code (⟨"java/lang/String", "<init>", "([C)V"⟩ : MethodName) jdk_42_method_3_code 2 none :: ws) ({ frames := 2, cells := 4, slots := 8, locals := 29 } : Room)) (fun aA uU => aA = #[(.ref a), (.ref x)] ∧ Z.Warmed39 uU.vm ∧ uU.heap = h0 ∧ CHv Z consts_1 uU.vm h0) (fun _ _ _ _ _ => True) (fun _ uU oO uU' => ∃ vV lL, oO = .returned vV ∧ Qt4 Z a x kx h0 n0 vV uU'.heap lL ∧ CHr Z consts_1 uU.vm uU.heap uU'.vm uU'.heap ∧ ReturnedEndW uU oO uU' lL ({ frames := 2, cells := 4, slots := 8, locals := 29 } : Room).cells ({ frames := 2, cells := 4, slots := 8, locals := 29 } : Room).slots) := by
  refine MetFree.of_bodySF (plainFor_of_name pn_0) hisR ?_
  intro pP eE sS mM args below meth cC s₁ Bd hml0 hP hK
  obtain ⟨rfl, hZ, hh, hCH0⟩ := hP
  have hS : sS.Since sS.vm 0 := (State.WarmedH.refl sS).since 0
  have wS : ∀ a ∈ Bundle.stringAtoms, a.before a0 Z = true := fun a ha => hw a ((by decide +kernel : ∀ a ∈ Bundle.stringAtoms, a ∈ tables_1) a ha)
  have hEW := own_ew hw
  have cr0 := CHr.refl hCH0
  have hx := Bd.exec
  have hby := Bd.bytes
  have hml : cC.maxLocals = 2 := hml0
  have hown : sS.vm.findClass "java/lang/String" = some mM.cls := findClass_of_methodNamed Bd.named
  have hnm := (name_of_methodNamed Bd.named Bd.method).1
  have X0 : Stand pP l eE ({ frames := 2, cells := 4, slots := 8, locals := 29 } : Room) sS mM #[(.ref a), (.ref x)] below meth cC s₁ [] 0 0 := Stand.of_body Bd
  have e0 : s₁.heap = h0 := by rw [← hh, Bd.state]; rfl
  have N0 := Fr.nil n0
  have pre0 : ∀ tg, Steps pP.tables eE below (s₁.setTop (mkF mM 0 #[.val (.ref a), .val (.ref x)] [])) tg → Steps pP.tables eE below (s₁.setTop (entryFrame mM #[(.ref a), (.ref x)] 2)) tg := fun tg kg => castTop (ef_t4 mM a x) kg
  have sf0_a : Safe Z consts_1 sS.vm h0 a := own_safe hZ.alike E_a F_v
  obtain ⟨cla1, Ara1, qa1, Sa1, Ma1, Ha1, Ga1⟩ := id V_x
  have pr2 : ∀ tg, Steps pP.tables eE below (s₁.setTop (mkF mM 6 #[.val (.ref a), .val (.ref x)] [.null, (.int (0 : Int32)), (.int (0 : Int32)), (.ref x), (.ref a)])) tg → Steps pP.tables eE below (s₁.setTop (entryFrame mM #[(.ref a), (.ref x)] 2)) tg := fun tg kg => pre0 _ (by
    show Steps pP.tables eE below (s₁.setTop (mkF mM 0 #[.val (.ref a), .val (.ref x)] [])) _
    refine XS.aloadN X0.here hx rfl (hb hby dt4_0) rfl rfl ?_
    show Steps pP.tables eE below (s₁.setTop (mkF mM 1 #[.val (.ref a), .val (.ref x)] [(.ref a)])) _
    refine XS.aloadN X0.here hx rfl (hb hby dt4_1) rfl rfl ?_
    show Steps pP.tables eE below (s₁.setTop (mkF mM 2 #[.val (.ref a), .val (.ref x)] [(.ref x), (.ref a)])) _
    refine XS.iconst X0.here hx rfl (hb hby dt4_2) ?_
    show Steps pP.tables eE below (s₁.setTop (mkF mM 3 #[.val (.ref a), .val (.ref x)] [(.int (0 : Int32)), (.ref x), (.ref a)])) _
    refine XS.aloadN X0.here hx rfl (hb hby dt4_3) rfl rfl ?_
    show Steps pP.tables eE below (s₁.setTop (mkF mM 4 #[.val (.ref a), .val (.ref x)] [(.ref x), (.int (0 : Int32)), (.ref x), (.ref a)])) _
    refine X0.arraylength hx (by rw [e0]; exact Ara1.1) (State.isArrayOf_alike hZ.alike Ara1.2.1) (g := (mkF mM 4 #[.val (.ref a), .val (.ref x)] [(.ref x), (.int (0 : Int32)), (.ref x), (.ref a)])) rfl rfl (hb hby dt4_4) _ ?_
    rw [len_of Sa1 Ma1]
    show Steps pP.tables eE below (s₁.setTop (mkF mM 5 #[.val (.ref a), .val (.ref x)] [(.int (0 : Int32)), (.int (0 : Int32)), (.ref x), (.ref a)])) _
    refine XS.aconstNull X0.here hx rfl (hb hby dt4_5) ?_
    exact kg)
  obtain ⟨_, _, ⟨T3, L3, kk3, nn3⟩, -, X3, hSq3, -, ⟨Lc3, hQ3, l3, y3, z3, A3⟩, st3⟩ := Jvm.Stand.specialBackS (s := sS.setVm sS.vm) X0 hx (y := (⟨"java/lang/String", "<init>", "([CIILjava/lang/Void;)V"⟩ : MethodName)) rfl hown (mvT hZ (hw _ (List.mem_of_getElem? (i := 58) rfl))) (mvT hZ (hw _ (List.mem_of_getElem? (i := 59) rfl))) (mvT hZ (hw _ (List.mem_of_getElem? (i := 61) rfl))) (by decide) (backOfSH (s := sS) (vm0 := sS.vm) (EL := consts_1) (W := 0) (rmt3 l Z a0 hw [] a x h0 n0 Z0 E_a g_a F_v F_c) hZ (hw _ (List.mem_of_getElem? (i := 61) rfl)) (hw _ (List.mem_of_getElem? (i := 1) rfl)) (by decide) (by decide) hEW cr0.1) (g := (mkF mM 6 #[.val (.ref a), .val (.ref x)] [.null, (.int (0 : Int32)), (.int (0 : Int32)), (.ref x), (.ref a)])) rfl (by rw [hml]; rfl) (Steps.refl _) (a := a) (argsL := [(.ref x), (.int (0 : Int32)), (.int (0 : Int32)), .null]) (rest := []) (lenOf pd_1 rfl) rfl (by show 2 * 0 + _ ≤ _; exact Nat.le_of_eq rfl) (hb hby dt4_6) (fun _ _ => ⟨rfl, e0, (by decide : 0 + 4 ≤ _), (by decide : 0 + 8 ≤ _)⟩)
  dsimp only [Pt.U, Pt.locs, Pt.cells, Pt.slots] at X3 l3 y3 z3 st3 hQ3 hSq3 A3
  subst l3 y3 z3
  have hS : sS.Since T3.vm T3.heap.size := hS.trans hSq3 (Nat.le_trans (Nat.zero_le _) A3.2.1)
  have hown : (sS.setVm T3.vm).vm.findClass "java/lang/String" = some mM.cls := by rw [show (sS.setVm T3.vm).vm = T3.vm from rfl, hSq3.1.alike.findClass]; exact hown
  have hZ : Z.Warmed39 (sS.setVm T3.vm).vm := State.Warmed39.trans (t := sS.setVm sS.vm) hZ hSq3.1
  have sf4_a := CHr.safe A3 (E_a).lt sf0_a
  have cr4 := CHr.trans cr0 A3
  obtain ⟨rfl, Nq3, K3, E3, Fc3, te3, kt3, Fv3, V3⟩ := hQ3
  have N3 := Fr.app N0 Nq3
  have pr5 : ∀ tg, Steps pP.tables eE below (T3.setTop (mkF mM 9 #[.val (.ref a), .val (.ref x)] [])) tg → Steps pP.tables eE below (s₁.setTop (entryFrame mM #[(.ref a), (.ref x)] 2)) tg := fun tg kg => pr2 _ (st3.trans kg)
  have c6 := (Keep.trans (Keep.refl h0 [a]) K3 (allS (Or.inl (List.mem_of_getElem? (i := 0) rfl)) all0))
  obtain ⟨fs, hr, hrun, hended, hW⟩ := Jvm.Stand.leaveW (s := sS) (vm₁ := T3.vm) X3 hS (Nat.le_trans (Nat.le_refl _) (Nat.le_of_eq (congrArg Array.size (rfl : T3.heap = T3.heap).symm))) (v := none) (fun _ => rfl)
  have crE := CHr.trans cr4 (CHv.at (s := sS) (vm0 := T3.vm) X3 hZ hEW cr4.1)
  refine ⟨_, _, pr5 _ (X3.returnOut hx Bd.returns (hb hby dt4_9) hr), hrun, hended, _, _, rfl, ?_, ?_, hW.1, hW.2.1, hW.2.2.1, hW.2.2.2.mono (by decide) (by decide)⟩
  rotate_left
  · show CHr Z consts_1 sS.vm sS.heap T3.vm T3.heap
    rw [hh]; exact crE
  show Qt4 Z a x kx h0 n0 _ T3.heap _
  exact ⟨rfl, N3, c6, E3, Fc3, te3, _, Fv3, V3⟩
theorem ds1_0 : decode jdk_42_method_154_code 0 = .ok (.getstatic 38, 3) := by decide +kernel
theorem ds1_3 : decode jdk_42_method_154_code 3 = .ok (.ifCond .eq 14, 3) := by decide +kernel
theorem ds1_6 : decode jdk_42_method_154_code 6 = .ok (.aload_n 0, 1) := by decide +kernel
theorem ds1_7 : decode jdk_42_method_154_code 7 = .ok (.getfield 15, 3) := by decide +kernel
theorem ds1_10 : decode jdk_42_method_154_code 10 = .ok (.ifCond .ne 7, 3) := by decide +kernel
theorem ds1_13 : decode jdk_42_method_154_code 13 = .ok (.iconst 1, 1) := by decide +kernel
theorem ds1_14 : decode jdk_42_method_154_code 14 = .ok (.goto 4, 3) := by decide +kernel
theorem ds1_18 : decode jdk_42_method_154_code 18 = .ok (.ireturn, 1) := by decide +kernel
theorem ef_s1 (mM : MethodId) (x0 : Addr) : entryFrame mM #[(.ref x0)] 1 = mkF mM 0 #[.val (.ref x0)] [] := by first | (simp [entryFrame, mkF, argsToLocals, Value.category]; done) | rfl
def Qs1 (Z : State) (cs : Int32) (sf : Value) (a : Addr) (h0 : Heap) (n0 : Nat) (v : Option Value) (h : Heap) (L : List Loc) : Prop := v = some (.int (1 : Int32)) ∧ Fr n0 L ∧ h = h0
set_option maxRecDepth 65536 in
set_option maxHeartbeats 40000000 in
theorem rms1 (l : Launch) (Z : State) (a0 : Array Value) (hw : ∀ d ∈ tables_1, d.before a0 Z = true) (ws : List Jvm.Cond) (cs : Int32) (sf : Value) (a : Addr) (h0 : Heap) (n0 : Nat) (Z0 : n0 ≤ h0.size) (O : Old Z n0 h0) (S_cs : Sta Z Z.heap "java/lang/String" "COMPACT_STRINGS" "Z" (.int cs)) (hcs : ¬ cs = (0 : Int32)) (S_sf : Sta Z Z.heap "jdk/internal/util/Preconditions" "SIOOBE_FORMATTER" "Ljava/util/function/BiFunction;" sf) (rsf : sf.isRef = true) (E_a : Exa Z h0 a "java/lang/String") (F_c : Fld Z h0 a "java/lang/String" "coder" "B" (.int (0 : Int32))) :
    MetFree l (⟨"java/lang/String", "isLatin1", "()Z"⟩ : MethodName) (head1 (Jvm.Cond.code (⟨"java/lang/String", "isLatin1", "()Z"⟩ : MethodName) jdk_42_method_154_code 1 (some .boolean) :: ws) ({ frames := 0, cells := 0, slots := 0, locals := 0 } : Room)) (fun aA uU => aA = #[(.ref a)] ∧ Z.Warmed39 uU.vm ∧ uU.heap = h0) (fun _ _ _ _ _ => True) (fun _ uU oO uU' => ∃ vV lL, oO = .returned vV ∧ Qs1 Z cs sf a h0 n0 vV uU'.heap lL ∧ FrameEnd uU oO uU' lL ({ frames := 0, cells := 0, slots := 0, locals := 0 } : Room).cells ({ frames := 0, cells := 0, slots := 0, locals := 0 } : Room).slots) := by
  refine MetFree.of_bodySF (plainFor_of_name pn_0) hisR ?_
  intro pP eE sS mM args below meth cC s₁ Bd hml0 hP hK
  obtain ⟨rfl, hZ, hh⟩ := hP
  have hx := Bd.exec
  have hby := Bd.bytes
  have hml : cC.maxLocals = 1 := hml0
  have hown : sS.vm.findClass "java/lang/String" = some mM.cls := findClass_of_methodNamed Bd.named
  have hnm := (name_of_methodNamed Bd.named Bd.method).1
  have X0 : Stand pP l eE ({ frames := 0, cells := 0, slots := 0, locals := 0 } : Room) sS mM #[(.ref a)] below meth cC s₁ [] 0 0 := Stand.of_body Bd
  have e0 : s₁.heap = h0 := by rw [← hh, Bd.state]; rfl
  have N0 := Fr.nil n0
  have pre0 : ∀ tg, Steps pP.tables eE below (s₁.setTop (mkF mM 0 #[.val (.ref a)] [])) tg → Steps pP.tables eE below (s₁.setTop (entryFrame mM #[(.ref a)] 1)) tg := fun tg kg => castTop (ef_s1 mM a) kg
  obtain ⟨T1, X1, e1, st1⟩ := getS2 X0 hx hZ hown (host := "") (Or.inl (hw _ (List.mem_of_getElem? (i := 19) rfl))) Via.refl e0 (Sta.ext (O).2 S_cs) (g := (mkF mM 0 #[.val (.ref a)] [])) rfl (hb hby ds1_0)
  have pr2 : ∀ tg, Steps pP.tables eE below (T1.setTop (mkF mM 3 #[.val (.ref a)] [(.int cs)])) tg → Steps pP.tables eE below (s₁.setTop (entryFrame mM #[(.ref a)] 1)) tg := fun tg kg => pre0 _ (st1 _ kg)
  have pr3 : ∀ tg, Steps pP.tables eE below (T1.setTop (mkF mM 7 #[.val (.ref a)] [(.ref a)])) tg → Steps pP.tables eE below (s₁.setTop (entryFrame mM #[(.ref a)] 1)) tg := fun tg kg => pr2 _ (by
    show Steps pP.tables eE below (T1.setTop (mkF mM 3 #[.val (.ref a)] [(.int cs)])) _
    refine XS.ifNo X1.here hx rfl (hb hby ds1_3) rfl ((if0 _ _).trans (feq hcs).1) ?_
    show Steps pP.tables eE below (T1.setTop (mkF mM 6 #[.val (.ref a)] [])) _
    refine XS.aloadN X1.here hx rfl (hb hby ds1_6) rfl rfl ?_
    exact kg)
  obtain ⟨T4, X4, e4, st4⟩ := getF X1 hx hZ hown (host := "") (Or.inl (hw _ (List.mem_of_getElem? (i := 20) rfl))) Via.refl e1 F_c (g := (mkF mM 7 #[.val (.ref a)] [(.ref a)])) rfl rfl (hb hby ds1_7)
  have pr5 : ∀ tg, Steps pP.tables eE below (T4.setTop (mkF mM 10 #[.val (.ref a)] [(.int (0 : Int32))])) tg → Steps pP.tables eE below (s₁.setTop (entryFrame mM #[(.ref a)] 1)) tg := fun tg kg => pr3 _ (st4 _ kg)
  have pr6 : ∀ tg, Steps pP.tables eE below (T4.setTop (mkF mM 18 #[.val (.ref a)] [(.int (1 : Int32))])) tg → Steps pP.tables eE below (s₁.setTop (entryFrame mM #[(.ref a)] 1)) tg := fun tg kg => pr5 _ (by
    show Steps pP.tables eE below (T4.setTop (mkF mM 10 #[.val (.ref a)] [(.int (0 : Int32))])) _
    refine XS.ifNo X4.here hx rfl (hb hby ds1_10) rfl ((if0 _ _).trans (teq (by decide)).2) ?_
    show Steps pP.tables eE below (T4.setTop (mkF mM 13 #[.val (.ref a)] [])) _
    refine XS.iconst X4.here hx rfl (hb hby ds1_13) ?_
    show Steps pP.tables eE below (T4.setTop (mkF mM 14 #[.val (.ref a)] [(.int (1 : Int32))])) _
    refine XS.goto X4.here hx rfl (pc0 := 14) (pc' := 18) rfl (hb hby ds1_14) (by decide) (by decide) ?_
    exact kg)
  obtain ⟨fs, hr, hrun, hended, hW, hsame⟩ := X4.leave (v := some (.int (1 : Int32))) (fun h => by rw [Bd.returns] at h; cases h)
  refine ⟨_, _, pr6 _ (retOut X4 hx (t := .boolean) Bd.returns rfl (Or.inl ⟨rfl, Or.inr (Or.inl rfl), _, rfl⟩) (hb hby ds1_18) hr), hrun, hended, _, _, rfl, ?_, ⟨_, rfl⟩, hW, hsame.mono (by decide) (by decide)⟩
  show Qs1 Z cs sf a h0 n0 _ T4.heap _
  rw [e4]
  exact ⟨rfl, N0, rfl⟩
theorem ds2_0 : decode jdk_41_method_11_code 0 = .ok (.iload_n 0, 1) := by decide +kernel
theorem ds2_1 : decode jdk_41_method_11_code 1 = .ok (.ifCond .lt 8, 3) := by decide +kernel
theorem ds2_4 : decode jdk_41_method_11_code 4 = .ok (.iload_n 0, 1) := by decide +kernel
theorem ds2_5 : decode jdk_41_method_11_code 5 = .ok (.iload_n 1, 1) := by decide +kernel
theorem ds2_6 : decode jdk_41_method_11_code 6 = .ok (.if_icmp .lt 10, 3) := by decide +kernel
theorem ds2_16 : decode jdk_41_method_11_code 16 = .ok (.iload_n 0, 1) := by decide +kernel
theorem ds2_17 : decode jdk_41_method_11_code 17 = .ok (.ireturn, 1) := by decide +kernel
theorem pn_1 : plainName "jdk/internal/util/Preconditions" = true := by first | (simp [plainName, overriddenIn]; done) | decide +kernel
theorem ef_s2 (mM : MethodId) (x0 : Int32) (x1 : Int32) (x2 : Value) (hx2 : x2.isRef = true) : entryFrame mM #[(.int x0), (.int x1), x2] 3 = mkF mM 0 #[.val (.int x0), .val (.int x1), .val x2] [] := by rcases ref_cases hx2 with rfl | ⟨_, rfl⟩ <;> first | (simp [entryFrame, mkF, argsToLocals, Value.category]; done) | rfl
def Qs2 (Z : State) (iv : Int32) (nv : Int32) (sf : Value) (h0 : Heap) (n0 : Nat) (v : Option Value) (h : Heap) (L : List Loc) : Prop := v = some (.int iv) ∧ Fr n0 L ∧ h = h0
set_option maxRecDepth 65536 in
set_option maxHeartbeats 40000000 in
theorem rms2 (l : Launch) (Z : State) (a0 : Array Value) (hw : ∀ d ∈ tables_1, d.before a0 Z = true) (ws : List Jvm.Cond) (iv : Int32) (nv : Int32) (sf : Value) (h0 : Heap) (n0 : Nat) (Z0 : n0 ≤ h0.size) (rsf : sf.isRef = true) (h1 : ¬ iv < (0 : Int32)) (h2 : iv < nv) :
    MetFree l (⟨"jdk/internal/util/Preconditions", "checkIndex", "(IILjava/util/function/BiFunction;)I"⟩ : MethodName) (head1 (Jvm.Cond.code (⟨"jdk/internal/util/Preconditions", "checkIndex", "(IILjava/util/function/BiFunction;)I"⟩ : MethodName) jdk_41_method_11_code 3 (some .int) :: ws) ({ frames := 0, cells := 0, slots := 0, locals := 0 } : Room)) (fun aA uU => aA = #[(.int iv), (.int nv), sf] ∧ Z.Warmed39 uU.vm ∧ uU.heap = h0) (fun _ _ _ _ _ => True) (fun _ uU oO uU' => ∃ vV lL, oO = .returned vV ∧ Qs2 Z iv nv sf h0 n0 vV uU'.heap lL ∧ FrameEnd uU oO uU' lL ({ frames := 0, cells := 0, slots := 0, locals := 0 } : Room).cells ({ frames := 0, cells := 0, slots := 0, locals := 0 } : Room).slots) := by
  refine MetFree.of_bodySF (plainFor_of_name pn_1) hisR ?_
  intro pP eE sS mM args below meth cC s₁ Bd hml0 hP hK
  obtain ⟨rfl, hZ, hh⟩ := hP
  have hx := Bd.exec
  have hby := Bd.bytes
  have hml : cC.maxLocals = 3 := hml0
  have hown : sS.vm.findClass "jdk/internal/util/Preconditions" = some mM.cls := findClass_of_methodNamed Bd.named
  have hnm := (name_of_methodNamed Bd.named Bd.method).1
  have X0 : Stand pP l eE ({ frames := 0, cells := 0, slots := 0, locals := 0 } : Room) sS mM #[(.int iv), (.int nv), sf] below meth cC s₁ [] 0 0 := Stand.of_body Bd
  have e0 : s₁.heap = h0 := by rw [← hh, Bd.state]; rfl
  have N0 := Fr.nil n0
  have pre0 : ∀ tg, Steps pP.tables eE below (s₁.setTop (mkF mM 0 #[.val (.int iv), .val (.int nv), .val sf] [])) tg → Steps pP.tables eE below (s₁.setTop (entryFrame mM #[(.int iv), (.int nv), sf] 3)) tg := fun tg kg => castTop (ef_s2 mM iv nv sf rsf) kg
  have pr1 : ∀ tg, Steps pP.tables eE below (s₁.setTop (mkF mM 17 #[.val (.int iv), .val (.int nv), .val sf] [(.int iv)])) tg → Steps pP.tables eE below (s₁.setTop (entryFrame mM #[(.int iv), (.int nv), sf] 3)) tg := fun tg kg => pre0 _ (by
    show Steps pP.tables eE below (s₁.setTop (mkF mM 0 #[.val (.int iv), .val (.int nv), .val sf] [])) _
    refine XS.iloadN X0.here hx rfl (hb hby ds2_0) rfl ?_
    show Steps pP.tables eE below (s₁.setTop (mkF mM 1 #[.val (.int iv), .val (.int nv), .val sf] [(.int iv)])) _
    refine XS.ifNo X0.here hx rfl (hb hby ds2_1) rfl ((if0 _ _).trans (flt h1).1) ?_
    show Steps pP.tables eE below (s₁.setTop (mkF mM 4 #[.val (.int iv), .val (.int nv), .val sf] [])) _
    refine XS.iloadN X0.here hx rfl (hb hby ds2_4) rfl ?_
    show Steps pP.tables eE below (s₁.setTop (mkF mM 5 #[.val (.int iv), .val (.int nv), .val sf] [(.int iv)])) _
    refine XS.iloadN X0.here hx rfl (hb hby ds2_5) rfl ?_
    show Steps pP.tables eE below (s₁.setTop (mkF mM 6 #[.val (.int iv), .val (.int nv), .val sf] [(.int nv), (.int iv)])) _
    refine XS.icmpYes X0.here hx rfl (pc0 := 6) (pc' := 16) rfl (hb hby ds2_6) rfl (tlt h2).1 (by decide) (by decide) ?_
    show Steps pP.tables eE below (s₁.setTop (mkF mM 16 #[.val (.int iv), .val (.int nv), .val sf] [])) _
    refine XS.iloadN X0.here hx rfl (hb hby ds2_16) rfl ?_
    exact kg)
  obtain ⟨fs, hr, hrun, hended, hW, hsame⟩ := X0.leave (v := some (.int iv)) (fun h => by rw [Bd.returns] at h; cases h)
  refine ⟨_, _, pr1 _ (retOut X0 hx (t := .int) Bd.returns rfl (Or.inl ⟨rfl, Or.inl rfl, _, rfl⟩) (hb hby ds2_17) hr), hrun, hended, _, _, rfl, ?_, ⟨_, rfl⟩, hW, hsame.mono (by decide) (by decide)⟩
  show Qs2 Z iv nv sf h0 n0 _ s₁.heap _
  rw [e0]
  exact ⟨rfl, N0, rfl⟩
theorem pd_2 : parseMethodDescriptor "(IILjava/util/function/BiFunction;)I" = some ⟨[.int, .int, (.object "java/util/function/BiFunction")], some .int⟩ := by decide +kernel
theorem ds3_0 : decode jdk_42_method_155_code 0 = .ok (.iload_n 0, 1) := by decide +kernel
theorem ds3_1 : decode jdk_42_method_155_code 1 = .ok (.iload_n 1, 1) := by decide +kernel
theorem ds3_2 : decode jdk_42_method_155_code 2 = .ok (.getstatic 1053, 3) := by decide +kernel
theorem ds3_5 : decode jdk_42_method_155_code 5 = .ok (.invokestatic 1059, 3) := by decide +kernel
theorem ds3_8 : decode jdk_42_method_155_code 8 = .ok (.pop, 1) := by decide +kernel
theorem ds3_9 : decode jdk_42_method_155_code 9 = .ok (.return_, 1) := by decide +kernel
theorem ef_s3 (mM : MethodId) (x0 : Int32) (x1 : Int32) : entryFrame mM #[(.int x0), (.int x1)] 2 = mkF mM 0 #[.val (.int x0), .val (.int x1)] [] := by first | (simp [entryFrame, mkF, argsToLocals, Value.category]; done) | rfl
def Qs3 (Z : State) (cs : Int32) (sf : Value) (iv : Int32) (nv : Int32) (h0 : Heap) (n0 : Nat) (v : Option Value) (h : Heap) (L : List Loc) : Prop := v = none ∧ Fr n0 L ∧ h = h0
set_option maxRecDepth 65536 in
set_option maxHeartbeats 40000000 in
theorem rms3 (l : Launch) (Z : State) (a0 : Array Value) (hw : ∀ d ∈ tables_1, d.before a0 Z = true) (ws : List Jvm.Cond) (cs : Int32) (sf : Value) (iv : Int32) (nv : Int32) (h0 : Heap) (n0 : Nat) (Z0 : n0 ≤ h0.size) (O : Old Z n0 h0) (S_cs : Sta Z Z.heap "java/lang/String" "COMPACT_STRINGS" "Z" (.int cs)) (hcs : ¬ cs = (0 : Int32)) (S_sf : Sta Z Z.heap "jdk/internal/util/Preconditions" "SIOOBE_FORMATTER" "Ljava/util/function/BiFunction;" sf) (rsf : sf.isRef = true) (h1 : ¬ iv < (0 : Int32)) (h2 : iv < nv) :
    MetFree l (⟨"java/lang/String", "checkIndex", "(II)V"⟩ : MethodName) (head1 (Jvm.Cond.code (⟨"java/lang/String", "checkIndex", "(II)V"⟩ : MethodName) jdk_42_method_155_code 2 none :: ws) ({ frames := 1, cells := 0, slots := 0, locals := 14 } : Room)) (fun aA uU => aA = #[(.int iv), (.int nv)] ∧ Z.Warmed39 uU.vm ∧ uU.heap = h0) (fun _ _ _ _ _ => True) (fun _ uU oO uU' => ∃ vV lL, oO = .returned vV ∧ Qs3 Z cs sf iv nv h0 n0 vV uU'.heap lL ∧ FrameEnd uU oO uU' lL ({ frames := 1, cells := 0, slots := 0, locals := 14 } : Room).cells ({ frames := 1, cells := 0, slots := 0, locals := 14 } : Room).slots) := by
  refine MetFree.of_bodySF (plainFor_of_name pn_0) hisR ?_
  intro pP eE sS mM args below meth cC s₁ Bd hml0 hP hK
  obtain ⟨rfl, hZ, hh⟩ := hP
  have hx := Bd.exec
  have hby := Bd.bytes
  have hml : cC.maxLocals = 2 := hml0
  have hown : sS.vm.findClass "java/lang/String" = some mM.cls := findClass_of_methodNamed Bd.named
  have hnm := (name_of_methodNamed Bd.named Bd.method).1
  have X0 : Stand pP l eE ({ frames := 1, cells := 0, slots := 0, locals := 14 } : Room) sS mM #[(.int iv), (.int nv)] below meth cC s₁ [] 0 0 := Stand.of_body Bd
  have e0 : s₁.heap = h0 := by rw [← hh, Bd.state]; rfl
  have N0 := Fr.nil n0
  have pre0 : ∀ tg, Steps pP.tables eE below (s₁.setTop (mkF mM 0 #[.val (.int iv), .val (.int nv)] [])) tg → Steps pP.tables eE below (s₁.setTop (entryFrame mM #[(.int iv), (.int nv)] 2)) tg := fun tg kg => castTop (ef_s3 mM iv nv) kg
  have pr1 : ∀ tg, Steps pP.tables eE below (s₁.setTop (mkF mM 2 #[.val (.int iv), .val (.int nv)] [(.int nv), (.int iv)])) tg → Steps pP.tables eE below (s₁.setTop (entryFrame mM #[(.int iv), (.int nv)] 2)) tg := fun tg kg => pre0 _ (by
    show Steps pP.tables eE below (s₁.setTop (mkF mM 0 #[.val (.int iv), .val (.int nv)] [])) _
    refine XS.iloadN X0.here hx rfl (hb hby ds3_0) rfl ?_
    show Steps pP.tables eE below (s₁.setTop (mkF mM 1 #[.val (.int iv), .val (.int nv)] [(.int iv)])) _
    refine XS.iloadN X0.here hx rfl (hb hby ds3_1) rfl ?_
    exact kg)
  obtain ⟨T2, X2, e2, st2⟩ := getS2 X0 hx hZ hown (host := "") (Or.inl (hw _ (List.mem_of_getElem? (i := 43) rfl))) Via.refl e0 (Sta.ext (O).2 S_sf) (g := (mkF mM 2 #[.val (.int iv), .val (.int nv)] [(.int nv), (.int iv)])) rfl (hb hby ds3_2)
  have pr3 : ∀ tg, Steps pP.tables eE below (T2.setTop (mkF mM 5 #[.val (.int iv), .val (.int nv)] [sf, (.int nv), (.int iv)])) tg → Steps pP.tables eE below (s₁.setTop (entryFrame mM #[(.int iv), (.int nv)] 2)) tg := fun tg kg => pr1 _ (st2 _ kg)
  obtain ⟨_, _, ⟨T4, L4, kk4, nn4⟩, -, X4, ⟨Lc4, hQ4, l4, y4, z4⟩, st4⟩ := Jvm.LawKit.callS X2 hx (y := (⟨"jdk/internal/util/Preconditions", "checkIndex", "(IILjava/util/function/BiFunction;)I"⟩ : MethodName)) hown (mvT hZ (hw _ (List.mem_of_getElem? (i := 45) rfl))) (mvT hZ (hw _ (List.mem_of_getElem? (i := 46) rfl))) (mvT hZ (hw _ (List.mem_of_getElem? (i := 44) rfl))) (mvT hZ (hw _ (List.mem_of_getElem? (i := 47) rfl))) (by decide) (backOf (W := 0) (rms2 l Z a0 hw [] iv nv sf h0 n0 Z0 rsf h1 h2) hZ (hw _ (List.mem_of_getElem? (i := 47) rfl)) (hw _ (List.mem_of_getElem? (i := 44) rfl)) (by decide) (by decide)) (g := (mkF mM 5 #[.val (.int iv), .val (.int nv)] [sf, (.int nv), (.int iv)])) rfl (by rw [hml]; rfl) (argsL := [(.int iv), (.int nv), sf]) (rest := []) (lenOf pd_2 rfl) rfl (by show 2 * 0 + _ ≤ _; exact Nat.le_of_eq rfl) (hb hby ds3_5) (fun _ _ => ⟨rfl, e2, (by decide : 0 + 0 ≤ _), (by decide : 0 + 0 ≤ _)⟩)
  dsimp only [Pt.U, Pt.locs, Pt.cells, Pt.slots] at X4 l4 y4 z4 st4 hQ4
  subst l4 y4 z4
  obtain ⟨rfl, Nq4, e4⟩ := hQ4
  have N4 := Fr.app N0 Nq4
  have pr5 : ∀ tg, Steps pP.tables eE below (T4.setTop (mkF mM 8 #[.val (.int iv), .val (.int nv)] [(.int iv)])) tg → Steps pP.tables eE below (s₁.setTop (entryFrame mM #[(.int iv), (.int nv)] 2)) tg := fun tg kg => pr3 _ (st4 _ kg)
  have pr6 : ∀ tg, Steps pP.tables eE below (T4.setTop (mkF mM 9 #[.val (.int iv), .val (.int nv)] [])) tg → Steps pP.tables eE below (s₁.setTop (entryFrame mM #[(.int iv), (.int nv)] 2)) tg := fun tg kg => pr5 _ (by
    show Steps pP.tables eE below (T4.setTop (mkF mM 8 #[.val (.int iv), .val (.int nv)] [(.int iv)])) _
    refine XS.pop X4.here hx rfl (hb hby ds3_8) rfl rfl ?_
    exact kg)
  obtain ⟨fs, hr, hrun, hended, hW, hsame⟩ := X4.leave (v := none) (fun _ => rfl)
  refine ⟨_, _, pr6 _ (X4.returnOut hx Bd.returns (hb hby ds3_9) hr), hrun, hended, _, _, rfl, ?_, ⟨_, rfl⟩, hW, hsame.mono (by decide) (by decide)⟩
  show Qs3 Z cs sf iv nv h0 n0 _ T4.heap _
  rw [e4]
  exact ⟨rfl, N4, rfl⟩
theorem pd_3 : parseMethodDescriptor "(II)V" = some ⟨[.int, .int], none⟩ := by decide +kernel
theorem ds4_0 : decode jdk_43_method_2_code 0 = .ok (.iload_n 1, 1) := by decide +kernel
theorem ds4_1 : decode jdk_43_method_2_code 1 = .ok (.aload_n 0, 1) := by decide +kernel
theorem ds4_2 : decode jdk_43_method_2_code 2 = .ok (.arraylength, 1) := by decide +kernel
theorem ds4_3 : decode jdk_43_method_2_code 3 = .ok (.invokestatic 9, 3) := by decide +kernel
theorem ds4_6 : decode jdk_43_method_2_code 6 = .ok (.aload_n 0, 1) := by decide +kernel
theorem ds4_7 : decode jdk_43_method_2_code 7 = .ok (.iload_n 1, 1) := by decide +kernel
theorem ds4_8 : decode jdk_43_method_2_code 8 = .ok (.baload, 1) := by decide +kernel
theorem ds4_9 : decode jdk_43_method_2_code 9 = .ok (.sipush 255, 3) := by decide +kernel
theorem ds4_12 : decode jdk_43_method_2_code 12 = .ok (.iand, 1) := by decide +kernel
theorem ds4_13 : decode jdk_43_method_2_code 13 = .ok (.i2c, 1) := by decide +kernel
theorem ds4_14 : decode jdk_43_method_2_code 14 = .ok (.ireturn, 1) := by decide +kernel
theorem pn_2 : plainName "java/lang/StringLatin1" = true := by first | (simp [plainName, overriddenIn]; done) | decide +kernel
theorem ef_s4 (mM : MethodId) (x0 : Addr) (x1 : Int32) : entryFrame mM #[(.ref x0), (.int x1)] 2 = mkF mM 0 #[.val (.ref x0), .val (.int x1)] [] := by first | (simp [entryFrame, mkF, argsToLocals, Value.category]; done) | rfl
def Qs4 (Z : State) (cs : Int32) (sf : Value) (b : Addr) (cl : Cell) (nv : Int32) (iv : Int32) (uv : Int32) (h0 : Heap) (n0 : Nat) (v : Option Value) (h : Heap) (L : List Loc) : Prop := v = some (.int (uv &&& (255 : Int32)).toUInt32.toUInt16.toUInt32.toInt32) ∧ Fr n0 L ∧ h = h0
set_option maxRecDepth 65536 in
set_option maxHeartbeats 40000000 in
theorem rms4 (l : Launch) (Z : State) (a0 : Array Value) (hw : ∀ d ∈ tables_1, d.before a0 Z = true) (ws : List Jvm.Cond) (cs : Int32) (sf : Value) (b : Addr) (cl : Cell) (nv : Int32) (iv : Int32) (uv : Int32) (h0 : Heap) (n0 : Nat) (Z0 : n0 ≤ h0.size) (O : Old Z n0 h0) (S_cs : Sta Z Z.heap "java/lang/String" "COMPACT_STRINGS" "Z" (.int cs)) (hcs : ¬ cs = (0 : Int32)) (S_sf : Sta Z Z.heap "jdk/internal/util/Preconditions" "SIOOBE_FORMATTER" "Ljava/util/function/BiFunction;" sf) (rsf : sf.isRef = true) (Ar : Arr Z h0 b cl .byte) (Sz : cl.slots.size = nv.toNatClampNeg) (Mz : ¬ nv < 0) (h1 : ¬ iv < (0 : Int32)) (h2 : iv < nv) (hat : cl.slots[iv.toNatClampNeg]? = some (.int uv)) :
    MetFree l (⟨"java/lang/StringLatin1", "charAt", "([BI)C"⟩ : MethodName) (head1 (Jvm.Cond.code (⟨"java/lang/StringLatin1", "charAt", "([BI)C"⟩ : MethodName) jdk_43_method_2_code 2 (some .char) :: ws) ({ frames := 2, cells := 0, slots := 0, locals := 27 } : Room)) (fun aA uU => aA = #[(.ref b), (.int iv)] ∧ Z.Warmed39 uU.vm ∧ uU.heap = h0) (fun _ _ _ _ _ => True) (fun _ uU oO uU' => ∃ vV lL, oO = .returned vV ∧ Qs4 Z cs sf b cl nv iv uv h0 n0 vV uU'.heap lL ∧ FrameEnd uU oO uU' lL ({ frames := 2, cells := 0, slots := 0, locals := 27 } : Room).cells ({ frames := 2, cells := 0, slots := 0, locals := 27 } : Room).slots) := by
  refine MetFree.of_bodySF (plainFor_of_name pn_2) hisR ?_
  intro pP eE sS mM args below meth cC s₁ Bd hml0 hP hK
  obtain ⟨rfl, hZ, hh⟩ := hP
  have hx := Bd.exec
  have hby := Bd.bytes
  have hml : cC.maxLocals = 2 := hml0
  have hown : sS.vm.findClass "java/lang/StringLatin1" = some mM.cls := findClass_of_methodNamed Bd.named
  have hnm := (name_of_methodNamed Bd.named Bd.method).1
  have X0 : Stand pP l eE ({ frames := 2, cells := 0, slots := 0, locals := 27 } : Room) sS mM #[(.ref b), (.int iv)] below meth cC s₁ [] 0 0 := Stand.of_body Bd
  have e0 : s₁.heap = h0 := by rw [← hh, Bd.state]; rfl
  have N0 := Fr.nil n0
  have pre0 : ∀ tg, Steps pP.tables eE below (s₁.setTop (mkF mM 0 #[.val (.ref b), .val (.int iv)] [])) tg → Steps pP.tables eE below (s₁.setTop (entryFrame mM #[(.ref b), (.int iv)] 2)) tg := fun tg kg => castTop (ef_s4 mM b iv) kg
  have pr1 : ∀ tg, Steps pP.tables eE below (s₁.setTop (mkF mM 3 #[.val (.ref b), .val (.int iv)] [(.int nv), (.int iv)])) tg → Steps pP.tables eE below (s₁.setTop (entryFrame mM #[(.ref b), (.int iv)] 2)) tg := fun tg kg => pre0 _ (by
    show Steps pP.tables eE below (s₁.setTop (mkF mM 0 #[.val (.ref b), .val (.int iv)] [])) _
    refine XS.iloadN X0.here hx rfl (hb hby ds4_0) rfl ?_
    show Steps pP.tables eE below (s₁.setTop (mkF mM 1 #[.val (.ref b), .val (.int iv)] [(.int iv)])) _
    refine XS.aloadN X0.here hx rfl (hb hby ds4_1) rfl rfl ?_
    show Steps pP.tables eE below (s₁.setTop (mkF mM 2 #[.val (.ref b), .val (.int iv)] [(.ref b), (.int iv)])) _
    refine X0.arraylength hx (by rw [e0]; exact Ar.1) (State.isArrayOf_alike hZ.alike Ar.2.1) (g := (mkF mM 2 #[.val (.ref b), .val (.int iv)] [(.ref b), (.int iv)])) rfl rfl (hb hby ds4_2) _ ?_
    rw [len_of Sz Mz]
    exact kg)
  obtain ⟨_, _, ⟨T2, L2, kk2, nn2⟩, -, X2, ⟨Lc2, hQ2, l2, y2, z2⟩, st2⟩ := Jvm.LawKit.callS X0 hx (y := (⟨"java/lang/String", "checkIndex", "(II)V"⟩ : MethodName)) hown (mvT hZ (hw _ (List.mem_of_getElem? (i := 40) rfl))) (mvT hZ (hw _ (List.mem_of_getElem? (i := 41) rfl))) (mvT hZ (hw _ (List.mem_of_getElem? (i := 1) rfl))) (mvT hZ (hw _ (List.mem_of_getElem? (i := 42) rfl))) (by decide) (backOf (W := 0) (rms3 l Z a0 hw [] cs sf iv nv h0 n0 Z0 O S_cs hcs S_sf rsf h1 h2) hZ (hw _ (List.mem_of_getElem? (i := 42) rfl)) (hw _ (List.mem_of_getElem? (i := 1) rfl)) (by decide) (by decide)) (g := (mkF mM 3 #[.val (.ref b), .val (.int iv)] [(.int nv), (.int iv)])) rfl (by rw [hml]; rfl) (argsL := [(.int iv), (.int nv)]) (rest := []) (lenOf pd_3 rfl) rfl (by show 2 * 0 + _ ≤ _; exact Nat.le_of_eq rfl) (hb hby ds4_3) (fun _ _ => ⟨rfl, e0, (by decide : 0 + 0 ≤ _), (by decide : 0 + 0 ≤ _)⟩)
  dsimp only [Pt.U, Pt.locs, Pt.cells, Pt.slots] at X2 l2 y2 z2 st2 hQ2
  subst l2 y2 z2
  obtain ⟨rfl, Nq2, e2⟩ := hQ2
  have N2 := Fr.app N0 Nq2
  have pr3 : ∀ tg, Steps pP.tables eE below (T2.setTop (mkF mM 6 #[.val (.ref b), .val (.int iv)] [])) tg → Steps pP.tables eE below (s₁.setTop (entryFrame mM #[(.ref b), (.int iv)] 2)) tg := fun tg kg => pr1 _ (st2 _ kg)
  have pr4 : ∀ tg, Steps pP.tables eE below (T2.setTop (mkF mM 14 #[.val (.ref b), .val (.int iv)] [(.int (uv &&& (255 : Int32)).toUInt32.toUInt16.toUInt32.toInt32)])) tg → Steps pP.tables eE below (s₁.setTop (entryFrame mM #[(.ref b), (.int iv)] 2)) tg := fun tg kg => pr3 _ (by
    show Steps pP.tables eE below (T2.setTop (mkF mM 6 #[.val (.ref b), .val (.int iv)] [])) _
    refine XS.aloadN X2.here hx rfl (hb hby ds4_6) rfl rfl ?_
    show Steps pP.tables eE below (T2.setTop (mkF mM 7 #[.val (.ref b), .val (.int iv)] [(.ref b)])) _
    refine XS.iloadN X2.here hx rfl (hb hby ds4_7) rfl ?_
    show Steps pP.tables eE below (T2.setTop (mkF mM 8 #[.val (.ref b), .val (.int iv)] [(.int iv), (.ref b)])) _
    refine X2.baloadBytes hx (j := iv) (v := (.int uv)) (by rw [e2]; exact Ar.1) (State.isArrayOf_alike hZ.alike Ar.2.1) Ar.2.2 (inb_of Sz ⟨h1, h2⟩) hat (g := (mkF mM 8 #[.val (.ref b), .val (.int iv)] [(.int iv), (.ref b)])) rfl rfl (hb hby ds4_8) _ ?_
    show Steps pP.tables eE below (T2.setTop (mkF mM 9 #[.val (.ref b), .val (.int iv)] [(.int uv)])) _
    refine XS.sipush X2.here hx rfl (hb hby ds4_9) ?_
    show Steps pP.tables eE below (T2.setTop (mkF mM 12 #[.val (.ref b), .val (.int iv)] [(.int (255 : Int32)), (.int uv)])) _
    refine XS.iand X2.here hx rfl (hb hby ds4_12) rfl ?_
    show Steps pP.tables eE below (T2.setTop (mkF mM 13 #[.val (.ref b), .val (.int iv)] [(.int (uv &&& (255 : Int32)))])) _
    refine XS.i2c X2.here hx rfl (hb hby ds4_13) rfl ?_
    exact kg)
  obtain ⟨fs, hr, hrun, hended, hW, hsame⟩ := X2.leave (v := some (.int (uv &&& (255 : Int32)).toUInt32.toUInt16.toUInt32.toInt32)) (fun h => by rw [Bd.returns] at h; cases h)
  refine ⟨_, _, pr4 _ (retOut X2 hx (t := .char) Bd.returns (Jvm.Free.XT.narrow_c _) (Or.inl ⟨rfl, Or.inr (Or.inr (Or.inr (Or.inl rfl))), _, rfl⟩) (hb hby ds4_14) hr), hrun, hended, _, _, rfl, ?_, ⟨_, rfl⟩, hW, hsame.mono (by decide) (by decide)⟩
  show Qs4 Z cs sf b cl nv iv uv h0 n0 _ T2.heap _
  rw [e2]
  exact ⟨rfl, N2, rfl⟩
theorem pd_4 : parseMethodDescriptor "()Z" = some ⟨[], some .boolean⟩ := by decide +kernel
theorem pd_5 : parseMethodDescriptor "([BI)C" = some ⟨[(.array .byte), .int], some .char⟩ := by decide +kernel
theorem ds5_0 : decode jdk_42_method_56_code 0 = .ok (.aload_n 0, 1) := by decide +kernel
theorem ds5_1 : decode jdk_42_method_56_code 1 = .ok (.invokevirtual 492, 3) := by decide +kernel
theorem ds5_4 : decode jdk_42_method_56_code 4 = .ok (.ifCond .eq 12, 3) := by decide +kernel
theorem ds5_7 : decode jdk_42_method_56_code 7 = .ok (.aload_n 0, 1) := by decide +kernel
theorem ds5_8 : decode jdk_42_method_56_code 8 = .ok (.getfield 9, 3) := by decide +kernel
theorem ds5_11 : decode jdk_42_method_56_code 11 = .ok (.iload_n 1, 1) := by decide +kernel
theorem ds5_12 : decode jdk_42_method_56_code 12 = .ok (.invokestatic 495, 3) := by decide +kernel
theorem ds5_15 : decode jdk_42_method_56_code 15 = .ok (.ireturn, 1) := by decide +kernel
theorem ef_s5 (mM : MethodId) (x0 : Addr) (x1 : Int32) : entryFrame mM #[(.ref x0), (.int x1)] 2 = mkF mM 0 #[.val (.ref x0), .val (.int x1)] [] := by first | (simp [entryFrame, mkF, argsToLocals, Value.category]; done) | rfl
def Qs5 (Z : State) (cs : Int32) (sf : Value) (a : Addr) (b : Addr) (cl : Cell) (nv : Int32) (iv : Int32) (uv : Int32) (h0 : Heap) (n0 : Nat) (v : Option Value) (h : Heap) (L : List Loc) : Prop := v = some (.int (uv &&& (255 : Int32)).toUInt32.toUInt16.toUInt32.toInt32) ∧ Fr n0 L ∧ h = h0
set_option maxRecDepth 65536 in
set_option maxHeartbeats 40000000 in
theorem rms5 (l : Launch) (Z : State) (a0 : Array Value) (hw : ∀ d ∈ tables_1, d.before a0 Z = true) (ws : List Jvm.Cond) (cs : Int32) (sf : Value) (a : Addr) (b : Addr) (cl : Cell) (nv : Int32) (iv : Int32) (uv : Int32) (h0 : Heap) (n0 : Nat) (Z0 : n0 ≤ h0.size) (O : Old Z n0 h0) (S_cs : Sta Z Z.heap "java/lang/String" "COMPACT_STRINGS" "Z" (.int cs)) (hcs : ¬ cs = (0 : Int32)) (S_sf : Sta Z Z.heap "jdk/internal/util/Preconditions" "SIOOBE_FORMATTER" "Ljava/util/function/BiFunction;" sf) (rsf : sf.isRef = true) (E_a : Exa Z h0 a "java/lang/String") (F_c : Fld Z h0 a "java/lang/String" "coder" "B" (.int (0 : Int32))) (F_v : Fld Z h0 a "java/lang/String" "value" "[B" (.ref b)) (Ar : Arr Z h0 b cl .byte) (Sz : cl.slots.size = nv.toNatClampNeg) (Mz : ¬ nv < 0) (h1 : ¬ iv < (0 : Int32)) (h2 : iv < nv) (hat : cl.slots[iv.toNatClampNeg]? = some (.int uv)) :
    MetFree l (⟨"java/lang/String", "charAt", "(I)C"⟩ : MethodName) (head1 (Jvm.Cond.code (⟨"java/lang/String", "charAt", "(I)C"⟩ : MethodName) jdk_42_method_56_code 2 (some .char) :: ws) ({ frames := 3, cells := 0, slots := 0, locals := 40 } : Room)) (fun aA uU => aA = #[(.ref a), (.int iv)] ∧ Z.Warmed39 uU.vm ∧ uU.heap = h0) (fun _ _ _ _ _ => True) (fun _ uU oO uU' => ∃ vV lL, oO = .returned vV ∧ Qs5 Z cs sf a b cl nv iv uv h0 n0 vV uU'.heap lL ∧ FrameEnd uU oO uU' lL ({ frames := 3, cells := 0, slots := 0, locals := 40 } : Room).cells ({ frames := 3, cells := 0, slots := 0, locals := 40 } : Room).slots) := by
  refine MetFree.of_bodySF (plainFor_of_name pn_0) hisR ?_
  intro pP eE sS mM args below meth cC s₁ Bd hml0 hP hK
  obtain ⟨rfl, hZ, hh⟩ := hP
  have hx := Bd.exec
  have hby := Bd.bytes
  have hml : cC.maxLocals = 2 := hml0
  have hown : sS.vm.findClass "java/lang/String" = some mM.cls := findClass_of_methodNamed Bd.named
  have hnm := (name_of_methodNamed Bd.named Bd.method).1
  have X0 : Stand pP l eE ({ frames := 3, cells := 0, slots := 0, locals := 40 } : Room) sS mM #[(.ref a), (.int iv)] below meth cC s₁ [] 0 0 := Stand.of_body Bd
  have e0 : s₁.heap = h0 := by rw [← hh, Bd.state]; rfl
  have N0 := Fr.nil n0
  have pre0 : ∀ tg, Steps pP.tables eE below (s₁.setTop (mkF mM 0 #[.val (.ref a), .val (.int iv)] [])) tg → Steps pP.tables eE below (s₁.setTop (entryFrame mM #[(.ref a), (.int iv)] 2)) tg := fun tg kg => castTop (ef_s5 mM a iv) kg
  have pr1 : ∀ tg, Steps pP.tables eE below (s₁.setTop (mkF mM 1 #[.val (.ref a), .val (.int iv)] [(.ref a)])) tg → Steps pP.tables eE below (s₁.setTop (entryFrame mM #[(.ref a), (.int iv)] 2)) tg := fun tg kg => pre0 _ (by
    show Steps pP.tables eE below (s₁.setTop (mkF mM 0 #[.val (.ref a), .val (.int iv)] [])) _
    refine XS.aloadN X0.here hx rfl (hb hby ds5_0) rfl rfl ?_
    exact kg)
  obtain ⟨cq2, kq2, qa2, qb2, qc2⟩ := isOf hZ e0 E_a
  obtain ⟨_, _, ⟨T2, L2, kk2, nn2⟩, -, X2, ⟨Lc2, hQ2, l2, y2, z2⟩, st2⟩ := X0.virtualBack hx (y := (⟨"java/lang/String", "isLatin1", "()Z"⟩ : MethodName)) (z := (⟨"java/lang/String", "isLatin1", "()Z"⟩ : MethodName)) hown (mvT hZ (hw _ (List.mem_of_getElem? (i := 31) rfl))) (mvT hZ (hw _ (List.mem_of_getElem? (i := 32) rfl))) (notFace_of_selects (args := #[]) (mvT hZ (hw _ (List.mem_of_getElem? (i := 34) rfl)))) (mvT hZ (hw _ (List.mem_of_getElem? (i := 34) rfl))) (mvT hZ (hw _ (List.mem_of_getElem? (i := 33) rfl))) (by decide) (backOf (W := 0) (rms1 l Z a0 hw [] cs sf a h0 n0 Z0 O S_cs hcs S_sf rsf E_a F_c) hZ (hw _ (List.mem_of_getElem? (i := 35) rfl)) (hw _ (List.mem_of_getElem? (i := 1) rfl)) (by decide) (by decide)) qa2 qc2 (g := (mkF mM 1 #[.val (.ref a), .val (.int iv)] [(.ref a)])) rfl (by rw [hml]; rfl) (Steps.refl _) (argsL := []) (rest := []) (lenOf pd_4 rfl) rfl (by show 2 * 0 + _ ≤ _; exact Nat.le_of_eq rfl) (hb hby ds5_1) (fun _ _ => ⟨rfl, e0, (by decide : 0 + 0 ≤ _), (by decide : 0 + 0 ≤ _)⟩)
  dsimp only [Pt.U, Pt.locs, Pt.cells, Pt.slots] at X2 l2 y2 z2 st2 hQ2
  subst l2 y2 z2
  obtain ⟨rfl, Nq2, e2⟩ := hQ2
  have N2 := Fr.app N0 Nq2
  have pr3 : ∀ tg, Steps pP.tables eE below (T2.setTop (mkF mM 4 #[.val (.ref a), .val (.int iv)] [(.int (1 : Int32))])) tg → Steps pP.tables eE below (s₁.setTop (entryFrame mM #[(.ref a), (.int iv)] 2)) tg := fun tg kg => pr1 _ (st2.trans kg)
  have pr4 : ∀ tg, Steps pP.tables eE below (T2.setTop (mkF mM 8 #[.val (.ref a), .val (.int iv)] [(.ref a)])) tg → Steps pP.tables eE below (s₁.setTop (entryFrame mM #[(.ref a), (.int iv)] 2)) tg := fun tg kg => pr3 _ (by
    show Steps pP.tables eE below (T2.setTop (mkF mM 4 #[.val (.ref a), .val (.int iv)] [(.int (1 : Int32))])) _
    refine XS.ifNo X2.here hx rfl (hb hby ds5_4) rfl ((if0 _ _).trans (feq (by decide)).1) ?_
    show Steps pP.tables eE below (T2.setTop (mkF mM 7 #[.val (.ref a), .val (.int iv)] [])) _
    refine XS.aloadN X2.here hx rfl (hb hby ds5_7) rfl rfl ?_
    exact kg)
  obtain ⟨T5, X5, e5, st5⟩ := getF X2 hx hZ hown (host := "") (Or.inl (hw _ (List.mem_of_getElem? (i := 13) rfl))) Via.refl e2 F_v (g := (mkF mM 8 #[.val (.ref a), .val (.int iv)] [(.ref a)])) rfl rfl (hb hby ds5_8)
  have pr6 : ∀ tg, Steps pP.tables eE below (T5.setTop (mkF mM 11 #[.val (.ref a), .val (.int iv)] [(.ref b)])) tg → Steps pP.tables eE below (s₁.setTop (entryFrame mM #[(.ref a), (.int iv)] 2)) tg := fun tg kg => pr4 _ (st5 _ kg)
  have pr7 : ∀ tg, Steps pP.tables eE below (T5.setTop (mkF mM 12 #[.val (.ref a), .val (.int iv)] [(.int iv), (.ref b)])) tg → Steps pP.tables eE below (s₁.setTop (entryFrame mM #[(.ref a), (.int iv)] 2)) tg := fun tg kg => pr6 _ (by
    show Steps pP.tables eE below (T5.setTop (mkF mM 11 #[.val (.ref a), .val (.int iv)] [(.ref b)])) _
    refine XS.iloadN X5.here hx rfl (hb hby ds5_11) rfl ?_
    exact kg)
  obtain ⟨_, _, ⟨T8, L8, kk8, nn8⟩, -, X8, ⟨Lc8, hQ8, l8, y8, z8⟩, st8⟩ := Jvm.LawKit.callS X5 hx (y := (⟨"java/lang/StringLatin1", "charAt", "([BI)C"⟩ : MethodName)) hown (mvT hZ (hw _ (List.mem_of_getElem? (i := 36) rfl))) (mvT hZ (hw _ (List.mem_of_getElem? (i := 37) rfl))) (mvT hZ (hw _ (List.mem_of_getElem? (i := 38) rfl))) (mvT hZ (hw _ (List.mem_of_getElem? (i := 39) rfl))) (by decide) (backOf (W := 0) (rms4 l Z a0 hw [] cs sf b cl nv iv uv h0 n0 Z0 O S_cs hcs S_sf rsf Ar Sz Mz h1 h2 hat) hZ (hw _ (List.mem_of_getElem? (i := 39) rfl)) (hw _ (List.mem_of_getElem? (i := 38) rfl)) (by decide) (by decide)) (g := (mkF mM 12 #[.val (.ref a), .val (.int iv)] [(.int iv), (.ref b)])) rfl (by rw [hml]; rfl) (argsL := [(.ref b), (.int iv)]) (rest := []) (lenOf pd_5 rfl) rfl (by show 2 * 0 + _ ≤ _; exact Nat.le_of_eq rfl) (hb hby ds5_12) (fun _ _ => ⟨rfl, e5, (by decide : 0 + 0 ≤ _), (by decide : 0 + 0 ≤ _)⟩)
  dsimp only [Pt.U, Pt.locs, Pt.cells, Pt.slots] at X8 l8 y8 z8 st8 hQ8
  subst l8 y8 z8
  obtain ⟨rfl, Nq8, e8⟩ := hQ8
  have N8 := Fr.app N2 Nq8
  have pr9 : ∀ tg, Steps pP.tables eE below (T8.setTop (mkF mM 15 #[.val (.ref a), .val (.int iv)] [(.int (uv &&& (255 : Int32)).toUInt32.toUInt16.toUInt32.toInt32)])) tg → Steps pP.tables eE below (s₁.setTop (entryFrame mM #[(.ref a), (.int iv)] 2)) tg := fun tg kg => pr7 _ (st8 _ kg)
  obtain ⟨fs, hr, hrun, hended, hW, hsame⟩ := X8.leave (v := some (.int (uv &&& (255 : Int32)).toUInt32.toUInt16.toUInt32.toInt32)) (fun h => by rw [Bd.returns] at h; cases h)
  refine ⟨_, _, pr9 _ (retOut X8 hx (t := .char) Bd.returns (Jvm.Free.XT.narrow_c _) (Or.inl ⟨rfl, Or.inr (Or.inr (Or.inr (Or.inl rfl))), _, rfl⟩) (hb hby ds5_15) hr), hrun, hended, _, _, rfl, ?_, ⟨_, rfl⟩, hW, hsame.mono (by decide) (by decide)⟩
  show Qs5 Z cs sf a b cl nv iv uv h0 n0 _ T8.heap _
  rw [e8]
  exact ⟨rfl, N8, rfl⟩
theorem own_cod_host : StrChars.Road.CodA ([(104 : Int32), (111 : Int32), (115 : Int32), (116 : Int32)] : List Int32) 0 (4 : Int32) [(.int (104 : Int32)), (.int (111 : Int32)), (.int (115 : Int32)), (.int (116 : Int32))] := Or.inl ⟨rfl, rfl, rfl, by decide⟩
theorem own_bd_host : ∀ c ∈ ([(104 : Int32), (111 : Int32), (115 : Int32), (116 : Int32)] : List Int32), ¬ c < 0 ∧ ¬ (65535 : Int32) < c := by decide
theorem own_cod_srflx : StrChars.Road.CodA ([(115 : Int32), (114 : Int32), (102 : Int32), (108 : Int32), (120 : Int32)] : List Int32) 0 (5 : Int32) [(.int (115 : Int32)), (.int (114 : Int32)), (.int (102 : Int32)), (.int (108 : Int32)), (.int (120 : Int32))] := Or.inl ⟨rfl, rfl, rfl, by decide⟩
theorem own_bd_srflx : ∀ c ∈ ([(115 : Int32), (114 : Int32), (102 : Int32), (108 : Int32), (120 : Int32)] : List Int32), ¬ c < 0 ∧ ¬ (65535 : Int32) < c := by decide
theorem own_cod_prflx : StrChars.Road.CodA ([(112 : Int32), (114 : Int32), (102 : Int32), (108 : Int32), (120 : Int32)] : List Int32) 0 (5 : Int32) [(.int (112 : Int32)), (.int (114 : Int32)), (.int (102 : Int32)), (.int (108 : Int32)), (.int (120 : Int32))] := Or.inl ⟨rfl, rfl, rfl, by decide⟩
theorem own_bd_prflx : ∀ c ∈ ([(112 : Int32), (114 : Int32), (102 : Int32), (108 : Int32), (120 : Int32)] : List Int32), ¬ c < 0 ∧ ¬ (65535 : Int32) < c := by decide
theorem own_cod_relay : StrChars.Road.CodA ([(114 : Int32), (101 : Int32), (108 : Int32), (97 : Int32), (121 : Int32)] : List Int32) 0 (5 : Int32) [(.int (114 : Int32)), (.int (101 : Int32)), (.int (108 : Int32)), (.int (97 : Int32)), (.int (121 : Int32))] := Or.inl ⟨rfl, rfl, rfl, by decide⟩
theorem own_bd_relay : ∀ c ∈ ([(114 : Int32), (101 : Int32), (108 : Int32), (97 : Int32), (121 : Int32)] : List Int32), ¬ c < 0 ∧ ¬ (65535 : Int32) < c := by decide
theorem d1_0 : decode method_3_code 0 = .ok (.iload_n 0, 1) := by decide +kernel
theorem d1_1 : decode method_3_code 1 = .ok (.iconst 4, 1) := by decide +kernel
theorem d1_2 : decode method_3_code 2 = .ok (.if_icmp .ge 15, 3) := by decide +kernel
theorem d1_5 : decode method_3_code 5 = .ok (.iload_n 1, 1) := by decide +kernel
theorem d1_6 : decode method_3_code 6 = .ok (.bipush 8, 2) := by decide +kernel
theorem d1_8 : decode method_3_code 8 = .ok (.iload_n 0, 1) := by decide +kernel
theorem d1_9 : decode method_3_code 9 = .ok (.imul, 1) := by decide +kernel
theorem d1_10 : decode method_3_code 10 = .ok (.iushr, 1) := by decide +kernel
theorem d1_11 : decode method_3_code 11 = .ok (.sipush 255, 3) := by decide +kernel
theorem d1_14 : decode method_3_code 14 = .ok (.iand, 1) := by decide +kernel
theorem d1_15 : decode method_3_code 15 = .ok (.i2c, 1) := by decide +kernel
theorem d1_16 : decode method_3_code 16 = .ok (.ireturn, 1) := by decide +kernel
theorem d1_17 : decode method_3_code 17 = .ok (.iload_n 2, 1) := by decide +kernel
theorem d1_18 : decode method_3_code 18 = .ok (.bipush 8, 2) := by decide +kernel
theorem d1_20 : decode method_3_code 20 = .ok (.iload_n 0, 1) := by decide +kernel
theorem d1_21 : decode method_3_code 21 = .ok (.iconst 4, 1) := by decide +kernel
theorem d1_22 : decode method_3_code 22 = .ok (.isub, 1) := by decide +kernel
theorem d1_23 : decode method_3_code 23 = .ok (.imul, 1) := by decide +kernel
theorem d1_24 : decode method_3_code 24 = .ok (.iushr, 1) := by decide +kernel
theorem d1_25 : decode method_3_code 25 = .ok (.sipush 255, 3) := by decide +kernel
theorem d1_28 : decode method_3_code 28 = .ok (.iand, 1) := by decide +kernel
theorem d1_29 : decode method_3_code 29 = .ok (.i2c, 1) := by decide +kernel
theorem d1_30 : decode method_3_code 30 = .ok (.ireturn, 1) := by decide +kernel
theorem pn_3 : plainName "com/example/thawline/thawline/CandidateTypeOfTokenPinLaw" = true := by first | (simp [plainName, overriddenIn]; done) | decide +kernel
theorem ef_1 (mM : MethodId) (x0 : Int32) (x1 : Int32) (x2 : Int32) : entryFrame mM #[(.int x0), (.int x1), (.int x2)] 3 = mkF mM 0 #[.val (.int x0), .val (.int x1), .val (.int x2)] [] := by first | (simp [entryFrame, mkF, argsToLocals, Value.category]; done) | rfl
def Q1 (Z : State) (iv : Int32) (cv : Int32) (dv : Int32) (h0 : Heap) (n0 : Nat) (v : Option Value) (h : Heap) (L : List Loc) : Prop := ∃ r : Int32, v = some (.int r) ∧ (¬ r < 0 ∧ ¬ (255 : Int32) < r) ∧ Fr n0 L ∧ h = h0
set_option maxRecDepth 65536 in
set_option maxHeartbeats 40000000 in
theorem rm1 (l : Launch) (Z : State) (a0 : Array Value) (hw : ∀ d ∈ tables_1, d.before a0 Z = true) (ws : List Jvm.Cond) (iv : Int32) (cv : Int32) (dv : Int32) (h0 : Heap) (n0 : Nat) (Z0 : n0 ≤ h0.size) :
    MetFree l (⟨"com/example/thawline/thawline/CandidateTypeOfTokenPinLaw", "drawn", "(III)C"⟩ : MethodName) (head1 (Jvm.Cond.code (⟨"com/example/thawline/thawline/CandidateTypeOfTokenPinLaw", "drawn", "(III)C"⟩ : MethodName) method_3_code 3 (some .char) :: ws) ({ frames := 0, cells := 0, slots := 0, locals := 0 } : Room)) (fun aA uU => aA = #[(.int iv), (.int cv), (.int dv)] ∧ Z.Warmed39 uU.vm ∧ uU.heap = h0) (fun _ _ _ _ _ => True) (fun _ uU oO uU' => ∃ vV lL, oO = .returned vV ∧ Q1 Z iv cv dv h0 n0 vV uU'.heap lL ∧ FrameEnd uU oO uU' lL ({ frames := 0, cells := 0, slots := 0, locals := 0 } : Room).cells ({ frames := 0, cells := 0, slots := 0, locals := 0 } : Room).slots) := by
  refine MetFree.of_bodySF (plainFor_of_name pn_3) hisR ?_
  intro pP eE sS mM args below meth cC s₁ Bd hml0 hP hK
  obtain ⟨rfl, hZ, hh⟩ := hP
  have hx := Bd.exec
  have hby := Bd.bytes
  have hml : cC.maxLocals = 3 := hml0
  have hown : sS.vm.findClass "com/example/thawline/thawline/CandidateTypeOfTokenPinLaw" = some mM.cls := findClass_of_methodNamed Bd.named
  have hnm := (name_of_methodNamed Bd.named Bd.method).1
  have X0 : Stand pP l eE ({ frames := 0, cells := 0, slots := 0, locals := 0 } : Room) sS mM #[(.int iv), (.int cv), (.int dv)] below meth cC s₁ [] 0 0 := Stand.of_body Bd
  have e0 : s₁.heap = h0 := by rw [← hh, Bd.state]; rfl
  have N0 := Fr.nil n0
  have pre0 : ∀ tg, Steps pP.tables eE below (s₁.setTop (mkF mM 0 #[.val (.int iv), .val (.int cv), .val (.int dv)] [])) tg → Steps pP.tables eE below (s₁.setTop (entryFrame mM #[(.int iv), (.int cv), (.int dv)] 3)) tg := fun tg kg => castTop (ef_1 mM iv cv dv) kg
  have pr2 : ∀ tg, Steps pP.tables eE below (s₁.setTop (mkF mM 2 #[.val (.int iv), .val (.int cv), .val (.int dv)] [(.int (4 : Int32)), (.int iv)])) tg → Steps pP.tables eE below (s₁.setTop (entryFrame mM #[(.int iv), (.int cv), (.int dv)] 3)) tg := fun tg kg => pre0 _ (by
    show Steps pP.tables eE below (s₁.setTop (mkF mM 0 #[.val (.int iv), .val (.int cv), .val (.int dv)] [])) _
    refine XS.iloadN X0.here hx rfl (hb hby d1_0) rfl ?_
    show Steps pP.tables eE below (s₁.setTop (mkF mM 1 #[.val (.int iv), .val (.int cv), .val (.int dv)] [(.int iv)])) _
    refine XS.iconst X0.here hx rfl (hb hby d1_1) ?_
    exact kg)
  by_cases hc2_1 : iv < (4 : Int32)
  ·
    have pr3 : ∀ tg, Steps pP.tables eE below (s₁.setTop (mkF mM 16 #[.val (.int iv), .val (.int cv), .val (.int dv)] [(.int (((cv.toUInt32 >>> (((8 : Int32) * iv) &&& 31).toUInt32).toInt32) &&& (255 : Int32)).toUInt32.toUInt16.toUInt32.toInt32)])) tg → Steps pP.tables eE below (s₁.setTop (entryFrame mM #[(.int iv), (.int cv), (.int dv)] 3)) tg := fun tg kg => pr2 _ (by
      show Steps pP.tables eE below (s₁.setTop (mkF mM 2 #[.val (.int iv), .val (.int cv), .val (.int dv)] [(.int (4 : Int32)), (.int iv)])) _
      refine XS.icmpNo X0.here hx rfl (hb hby d1_2) rfl (tlt hc2_1).2.1 ?_
      show Steps pP.tables eE below (s₁.setTop (mkF mM 5 #[.val (.int iv), .val (.int cv), .val (.int dv)] [])) _
      refine XS.iloadN X0.here hx rfl (hb hby d1_5) rfl ?_
      show Steps pP.tables eE below (s₁.setTop (mkF mM 6 #[.val (.int iv), .val (.int cv), .val (.int dv)] [(.int cv)])) _
      refine XS.bipush X0.here hx rfl (hb hby d1_6) ?_
      show Steps pP.tables eE below (s₁.setTop (mkF mM 8 #[.val (.int iv), .val (.int cv), .val (.int dv)] [(.int (8 : Int32)), (.int cv)])) _
      refine XS.iloadN X0.here hx rfl (hb hby d1_8) rfl ?_
      show Steps pP.tables eE below (s₁.setTop (mkF mM 9 #[.val (.int iv), .val (.int cv), .val (.int dv)] [(.int iv), (.int (8 : Int32)), (.int cv)])) _
      refine XS.imul X0.here hx rfl (hb hby d1_9) rfl ?_
      show Steps pP.tables eE below (s₁.setTop (mkF mM 10 #[.val (.int iv), .val (.int cv), .val (.int dv)] [(.int ((8 : Int32) * iv)), (.int cv)])) _
      refine XS.iushr X0.here hx rfl (hb hby d1_10) rfl ?_
      show Steps pP.tables eE below (s₁.setTop (mkF mM 11 #[.val (.int iv), .val (.int cv), .val (.int dv)] [(.int ((cv.toUInt32 >>> (((8 : Int32) * iv) &&& 31).toUInt32).toInt32))])) _
      refine XS.sipush X0.here hx rfl (hb hby d1_11) ?_
      show Steps pP.tables eE below (s₁.setTop (mkF mM 14 #[.val (.int iv), .val (.int cv), .val (.int dv)] [(.int (255 : Int32)), (.int ((cv.toUInt32 >>> (((8 : Int32) * iv) &&& 31).toUInt32).toInt32))])) _
      refine XS.iand X0.here hx rfl (hb hby d1_14) rfl ?_
      show Steps pP.tables eE below (s₁.setTop (mkF mM 15 #[.val (.int iv), .val (.int cv), .val (.int dv)] [(.int (((cv.toUInt32 >>> (((8 : Int32) * iv) &&& 31).toUInt32).toInt32) &&& (255 : Int32)))])) _
      refine XS.i2c X0.here hx rfl (hb hby d1_15) rfl ?_
      exact kg)
    obtain ⟨fs, hr, hrun, hended, hW, hsame⟩ := X0.leave (v := some (.int (((cv.toUInt32 >>> (((8 : Int32) * iv) &&& 31).toUInt32).toInt32) &&& (255 : Int32)).toUInt32.toUInt16.toUInt32.toInt32)) (fun h => by rw [Bd.returns] at h; cases h)
    refine ⟨_, _, pr3 _ (retOut X0 hx (t := .char) Bd.returns (Jvm.Free.XT.narrow_c _) (Or.inl ⟨rfl, Or.inr (Or.inr (Or.inr (Or.inl rfl))), _, rfl⟩) (hb hby d1_16) hr), hrun, hended, _, _, rfl, ?_, ⟨_, rfl⟩, hW, hsame.mono (by decide) (by decide)⟩
    show Q1 Z iv cv dv h0 n0 _ s₁.heap _
    rw [e0]
    exact ⟨_, rfl, own_b8 _, N0, rfl⟩
  ·
    have pr4 : ∀ tg, Steps pP.tables eE below (s₁.setTop (mkF mM 30 #[.val (.int iv), .val (.int cv), .val (.int dv)] [(.int (((dv.toUInt32 >>> (((8 : Int32) * (iv - (4 : Int32))) &&& 31).toUInt32).toInt32) &&& (255 : Int32)).toUInt32.toUInt16.toUInt32.toInt32)])) tg → Steps pP.tables eE below (s₁.setTop (entryFrame mM #[(.int iv), (.int cv), (.int dv)] 3)) tg := fun tg kg => pr2 _ (by
      show Steps pP.tables eE below (s₁.setTop (mkF mM 2 #[.val (.int iv), .val (.int cv), .val (.int dv)] [(.int (4 : Int32)), (.int iv)])) _
      refine XS.icmpYes X0.here hx rfl (pc0 := 2) (pc' := 17) rfl (hb hby d1_2) rfl (flt hc2_1).2.1 (by decide) (by decide) ?_
      show Steps pP.tables eE below (s₁.setTop (mkF mM 17 #[.val (.int iv), .val (.int cv), .val (.int dv)] [])) _
      refine XS.iloadN X0.here hx rfl (hb hby d1_17) rfl ?_
      show Steps pP.tables eE below (s₁.setTop (mkF mM 18 #[.val (.int iv), .val (.int cv), .val (.int dv)] [(.int dv)])) _
      refine XS.bipush X0.here hx rfl (hb hby d1_18) ?_
      show Steps pP.tables eE below (s₁.setTop (mkF mM 20 #[.val (.int iv), .val (.int cv), .val (.int dv)] [(.int (8 : Int32)), (.int dv)])) _
      refine XS.iloadN X0.here hx rfl (hb hby d1_20) rfl ?_
      show Steps pP.tables eE below (s₁.setTop (mkF mM 21 #[.val (.int iv), .val (.int cv), .val (.int dv)] [(.int iv), (.int (8 : Int32)), (.int dv)])) _
      refine XS.iconst X0.here hx rfl (hb hby d1_21) ?_
      show Steps pP.tables eE below (s₁.setTop (mkF mM 22 #[.val (.int iv), .val (.int cv), .val (.int dv)] [(.int (4 : Int32)), (.int iv), (.int (8 : Int32)), (.int dv)])) _
      refine XS.isub X0.here hx rfl (hb hby d1_22) rfl ?_
      show Steps pP.tables eE below (s₁.setTop (mkF mM 23 #[.val (.int iv), .val (.int cv), .val (.int dv)] [(.int (iv - (4 : Int32))), (.int (8 : Int32)), (.int dv)])) _
      refine XS.imul X0.here hx rfl (hb hby d1_23) rfl ?_
      show Steps pP.tables eE below (s₁.setTop (mkF mM 24 #[.val (.int iv), .val (.int cv), .val (.int dv)] [(.int ((8 : Int32) * (iv - (4 : Int32)))), (.int dv)])) _
      refine XS.iushr X0.here hx rfl (hb hby d1_24) rfl ?_
      show Steps pP.tables eE below (s₁.setTop (mkF mM 25 #[.val (.int iv), .val (.int cv), .val (.int dv)] [(.int ((dv.toUInt32 >>> (((8 : Int32) * (iv - (4 : Int32))) &&& 31).toUInt32).toInt32))])) _
      refine XS.sipush X0.here hx rfl (hb hby d1_25) ?_
      show Steps pP.tables eE below (s₁.setTop (mkF mM 28 #[.val (.int iv), .val (.int cv), .val (.int dv)] [(.int (255 : Int32)), (.int ((dv.toUInt32 >>> (((8 : Int32) * (iv - (4 : Int32))) &&& 31).toUInt32).toInt32))])) _
      refine XS.iand X0.here hx rfl (hb hby d1_28) rfl ?_
      show Steps pP.tables eE below (s₁.setTop (mkF mM 29 #[.val (.int iv), .val (.int cv), .val (.int dv)] [(.int (((dv.toUInt32 >>> (((8 : Int32) * (iv - (4 : Int32))) &&& 31).toUInt32).toInt32) &&& (255 : Int32)))])) _
      refine XS.i2c X0.here hx rfl (hb hby d1_29) rfl ?_
      exact kg)
    obtain ⟨fs, hr, hrun, hended, hW, hsame⟩ := X0.leave (v := some (.int (((dv.toUInt32 >>> (((8 : Int32) * (iv - (4 : Int32))) &&& 31).toUInt32).toInt32) &&& (255 : Int32)).toUInt32.toUInt16.toUInt32.toInt32)) (fun h => by rw [Bd.returns] at h; cases h)
    refine ⟨_, _, pr4 _ (retOut X0 hx (t := .char) Bd.returns (Jvm.Free.XT.narrow_c _) (Or.inl ⟨rfl, Or.inr (Or.inr (Or.inr (Or.inl rfl))), _, rfl⟩) (hb hby d1_30) hr), hrun, hended, _, _, rfl, ?_, ⟨_, rfl⟩, hW, hsame.mono (by decide) (by decide)⟩
    show Q1 Z iv cv dv h0 n0 _ s₁.heap _
    rw [e0]
    exact ⟨_, rfl, own_b8 _, N0, rfl⟩
theorem own_nr {r : Int32} (h : ¬ r < 0 ∧ ¬ (255 : Int32) < r) : narrow .char (.int r) = .int r := by
  show Value.int (nar .char r) = _
  rw [own_nc h.1 h.2]
theorem pd_6 : parseMethodDescriptor "(III)C" = some ⟨[.int, .int, .int], some .char⟩ := by decide +kernel
theorem pd_7 : parseMethodDescriptor "(I)C" = some ⟨[.int], some .char⟩ := by decide +kernel
theorem d2_0 : decode method_4_code 0 = .ok (.iload_n 2, 1) := by decide +kernel
theorem d2_1 : decode method_4_code 1 = .ok (.iconst 3, 1) := by decide +kernel
theorem d2_2 : decode method_4_code 2 = .ok (.if_icmp .eq 8, 3) := by decide +kernel
theorem d2_5 : decode method_4_code 5 = .ok (.iload_n 3, 1) := by decide +kernel
theorem d2_6 : decode method_4_code 6 = .ok (.iload_n 1, 1) := by decide +kernel
theorem d2_7 : decode method_4_code 7 = .ok (.if_icmp .lt 12, 3) := by decide +kernel
theorem d2_10 : decode method_4_code 10 = .ok (.iload_n 3, 1) := by decide +kernel
theorem d2_11 : decode method_4_code 11 = .ok (.iload 4, 2) := by decide +kernel
theorem d2_13 : decode method_4_code 13 = .ok (.iload 5, 2) := by decide +kernel
theorem d2_15 : decode method_4_code 15 = .ok (.invokestatic 55, 3) := by decide +kernel
theorem d2_18 : decode method_4_code 18 = .ok (.ireturn, 1) := by decide +kernel
theorem d2_19 : decode method_4_code 19 = .ok (.aload_n 0, 1) := by decide +kernel
theorem d2_20 : decode method_4_code 20 = .ok (.iload_n 3, 1) := by decide +kernel
theorem d2_21 : decode method_4_code 21 = .ok (.invokevirtual 59, 3) := by decide +kernel
theorem d2_24 : decode method_4_code 24 = .ok (.ireturn, 1) := by decide +kernel
theorem ef_2 (mM : MethodId) (x0 : Addr) (x1 : Int32) (x2 : Int32) (x3 : Int32) (x4 : Int32) (x5 : Int32) : entryFrame mM #[(.ref x0), (.int x1), (.int x2), (.int x3), (.int x4), (.int x5)] 6 = mkF mM 0 #[.val (.ref x0), .val (.int x1), .val (.int x2), .val (.int x3), .val (.int x4), .val (.int x5)] [] := by first | (simp [entryFrame, mkF, argsToLocals, Value.category]; done) | rfl
def Q2 (Z : State) (cs : Int32) (sf : Value) (a : Addr) (b : Addr) (kb : ClassId) (nv : Int32) (vs : List Value) (mv : Int32) (iv : Int32) (cv : Int32) (dv : Int32) (h0 : Heap) (n0 : Nat) (v : Option Value) (h : Heap) (L : List Loc) : Prop := ∃ r : Int32, v = some (.int r) ∧ (¬ r < 0 ∧ ¬ (255 : Int32) < r) ∧ Fr n0 L ∧ h = h0
set_option maxRecDepth 65536 in
set_option maxHeartbeats 40000000 in
theorem rm2 (l : Launch) (Z : State) (a0 : Array Value) (hw : ∀ d ∈ tables_1, d.before a0 Z = true) (ws : List Jvm.Cond) (cs : Int32) (sf : Value) (a : Addr) (b : Addr) (kb : ClassId) (nv : Int32) (vs : List Value) (mv : Int32) (iv : Int32) (cv : Int32) (dv : Int32) (h0 : Heap) (n0 : Nat) (Z0 : n0 ≤ h0.size) (O : Old Z n0 h0) (S_cs : Sta Z Z.heap "java/lang/String" "COMPACT_STRINGS" "Z" (.int cs)) (hcs : ¬ cs = (0 : Int32)) (S_sf : Sta Z Z.heap "jdk/internal/util/Preconditions" "SIOOBE_FORMATTER" "Ljava/util/function/BiFunction;" sf) (rsf : sf.isRef = true) (E_a : Exa Z h0 a "java/lang/String") (F_c : Fld Z h0 a "java/lang/String" "coder" "B" (.int (0 : Int32))) (F_v : Fld Z h0 a "java/lang/String" "value" "[B" (.ref b)) (V_b : Arv Z h0 b kb .byte nv vs (.int (0 : Int32))) (hvs : ∀ j : Nat, ∃ u : Int32, vs.getD j (.int (0 : Int32)) = .int u) (hiv : ¬ iv < (0 : Int32)) :
    MetFree l (⟨"com/example/thawline/thawline/CandidateTypeOfTokenPinLaw", "pick", "(Ljava/lang/String;IIIII)C"⟩ : MethodName) (head1 (Jvm.Cond.code (⟨"com/example/thawline/thawline/CandidateTypeOfTokenPinLaw", "pick", "(Ljava/lang/String;IIIII)C"⟩ : MethodName) method_4_code 6 (some .char) :: ws) ({ frames := 4, cells := 0, slots := 0, locals := 53 } : Room)) (fun aA uU => aA = #[(.ref a), (.int nv), (.int mv), (.int iv), (.int cv), (.int dv)] ∧ Z.Warmed39 uU.vm ∧ uU.heap = h0) (fun _ _ _ _ _ => True) (fun _ uU oO uU' => ∃ vV lL, oO = .returned vV ∧ Q2 Z cs sf a b kb nv vs mv iv cv dv h0 n0 vV uU'.heap lL ∧ FrameEnd uU oO uU' lL ({ frames := 4, cells := 0, slots := 0, locals := 53 } : Room).cells ({ frames := 4, cells := 0, slots := 0, locals := 53 } : Room).slots) := by
  refine MetFree.of_bodySF (plainFor_of_name pn_3) hisR ?_
  intro pP eE sS mM args below meth cC s₁ Bd hml0 hP hK
  obtain ⟨rfl, hZ, hh⟩ := hP
  have hx := Bd.exec
  have hby := Bd.bytes
  have hml : cC.maxLocals = 6 := hml0
  have hown : sS.vm.findClass "com/example/thawline/thawline/CandidateTypeOfTokenPinLaw" = some mM.cls := findClass_of_methodNamed Bd.named
  have hnm := (name_of_methodNamed Bd.named Bd.method).1
  have X0 : Stand pP l eE ({ frames := 4, cells := 0, slots := 0, locals := 53 } : Room) sS mM #[(.ref a), (.int nv), (.int mv), (.int iv), (.int cv), (.int dv)] below meth cC s₁ [] 0 0 := Stand.of_body Bd
  have e0 : s₁.heap = h0 := by rw [← hh, Bd.state]; rfl
  have N0 := Fr.nil n0
  have pre0 : ∀ tg, Steps pP.tables eE below (s₁.setTop (mkF mM 0 #[.val (.ref a), .val (.int nv), .val (.int mv), .val (.int iv), .val (.int cv), .val (.int dv)] [])) tg → Steps pP.tables eE below (s₁.setTop (entryFrame mM #[(.ref a), (.int nv), (.int mv), (.int iv), (.int cv), (.int dv)] 6)) tg := fun tg kg => castTop (ef_2 mM a nv mv iv cv dv) kg
  have pr2 : ∀ tg, Steps pP.tables eE below (s₁.setTop (mkF mM 2 #[.val (.ref a), .val (.int nv), .val (.int mv), .val (.int iv), .val (.int cv), .val (.int dv)] [(.int (3 : Int32)), (.int mv)])) tg → Steps pP.tables eE below (s₁.setTop (entryFrame mM #[(.ref a), (.int nv), (.int mv), (.int iv), (.int cv), (.int dv)] 6)) tg := fun tg kg => pre0 _ (by
    show Steps pP.tables eE below (s₁.setTop (mkF mM 0 #[.val (.ref a), .val (.int nv), .val (.int mv), .val (.int iv), .val (.int cv), .val (.int dv)] [])) _
    refine XS.iloadN X0.here hx rfl (hb hby d2_0) rfl ?_
    show Steps pP.tables eE below (s₁.setTop (mkF mM 1 #[.val (.ref a), .val (.int nv), .val (.int mv), .val (.int iv), .val (.int cv), .val (.int dv)] [(.int mv)])) _
    refine XS.iconst X0.here hx rfl (hb hby d2_1) ?_
    exact kg)
  by_cases hc2_1 : mv = (3 : Int32)
  ·
    have pr3 : ∀ tg, Steps pP.tables eE below (s₁.setTop (mkF mM 15 #[.val (.ref a), .val (.int nv), .val (.int mv), .val (.int iv), .val (.int cv), .val (.int dv)] [(.int dv), (.int cv), (.int iv)])) tg → Steps pP.tables eE below (s₁.setTop (entryFrame mM #[(.ref a), (.int nv), (.int mv), (.int iv), (.int cv), (.int dv)] 6)) tg := fun tg kg => pr2 _ (by
      show Steps pP.tables eE below (s₁.setTop (mkF mM 2 #[.val (.ref a), .val (.int nv), .val (.int mv), .val (.int iv), .val (.int cv), .val (.int dv)] [(.int (3 : Int32)), (.int mv)])) _
      refine XS.icmpYes X0.here hx rfl (pc0 := 2) (pc' := 10) rfl (hb hby d2_2) rfl (teq hc2_1).1 (by decide) (by decide) ?_
      show Steps pP.tables eE below (s₁.setTop (mkF mM 10 #[.val (.ref a), .val (.int nv), .val (.int mv), .val (.int iv), .val (.int cv), .val (.int dv)] [])) _
      refine XS.iloadN X0.here hx rfl (hb hby d2_10) rfl ?_
      show Steps pP.tables eE below (s₁.setTop (mkF mM 11 #[.val (.ref a), .val (.int nv), .val (.int mv), .val (.int iv), .val (.int cv), .val (.int dv)] [(.int iv)])) _
      refine XS.iload X0.here hx rfl (hb hby d2_11) rfl ?_
      show Steps pP.tables eE below (s₁.setTop (mkF mM 13 #[.val (.ref a), .val (.int nv), .val (.int mv), .val (.int iv), .val (.int cv), .val (.int dv)] [(.int cv), (.int iv)])) _
      refine XS.iload X0.here hx rfl (hb hby d2_13) rfl ?_
      exact kg)
    obtain ⟨_, _, ⟨T4, L4, kk4, nn4⟩, -, X4, ⟨Lc4, hQ4, l4, y4, z4⟩, st4⟩ := Jvm.LawKit.callS X0 hx (y := (⟨"com/example/thawline/thawline/CandidateTypeOfTokenPinLaw", "drawn", "(III)C"⟩ : MethodName)) hown (mvT hZ (hw _ (List.mem_of_getElem? (i := 48) rfl))) (mvT hZ (hw _ (List.mem_of_getElem? (i := 49) rfl))) (mvT hZ (hw _ (List.mem_of_getElem? (i := 24) rfl))) (mvT hZ (hw _ (List.mem_of_getElem? (i := 50) rfl))) (by decide) (backOf (W := 0) (rm1 l Z a0 hw [] iv cv dv h0 n0 Z0) hZ (hw _ (List.mem_of_getElem? (i := 50) rfl)) (hw _ (List.mem_of_getElem? (i := 24) rfl)) (by decide) (by decide)) (g := (mkF mM 15 #[.val (.ref a), .val (.int nv), .val (.int mv), .val (.int iv), .val (.int cv), .val (.int dv)] [(.int dv), (.int cv), (.int iv)])) rfl (by rw [hml]; rfl) (argsL := [(.int iv), (.int cv), (.int dv)]) (rest := []) (lenOf pd_6 rfl) rfl (by show 2 * 0 + _ ≤ _; exact Nat.le_of_eq rfl) (hb hby d2_15) (fun _ _ => ⟨rfl, e0, (by decide : 0 + 0 ≤ _), (by decide : 0 + 0 ≤ _)⟩)
    dsimp only [Pt.U, Pt.locs, Pt.cells, Pt.slots] at X4 l4 y4 z4 st4 hQ4
    subst l4 y4 z4
    obtain ⟨r4, rfl, hb4, Nq4, e4⟩ := hQ4
    have N4 := Fr.app N0 Nq4
    have pr5 : ∀ tg, Steps pP.tables eE below (T4.setTop (mkF mM 18 #[.val (.ref a), .val (.int nv), .val (.int mv), .val (.int iv), .val (.int cv), .val (.int dv)] [(.int r4)])) tg → Steps pP.tables eE below (s₁.setTop (entryFrame mM #[(.ref a), (.int nv), (.int mv), (.int iv), (.int cv), (.int dv)] 6)) tg := fun tg kg => pr3 _ (st4 _ kg)
    obtain ⟨fs, hr, hrun, hended, hW, hsame⟩ := X4.leave (v := some (.int r4)) (fun h => by rw [Bd.returns] at h; cases h)
    refine ⟨_, _, pr5 _ (retOut X4 hx (t := .char) Bd.returns (own_nr hb4) (Or.inl ⟨rfl, Or.inr (Or.inr (Or.inr (Or.inl rfl))), _, rfl⟩) (hb hby d2_18) hr), hrun, hended, _, _, rfl, ?_, ⟨_, rfl⟩, hW, hsame.mono (by decide) (by decide)⟩
    show Q2 Z cs sf a b kb nv vs mv iv cv dv h0 n0 _ T4.heap _
    rw [e4]
    exact ⟨_, rfl, hb4, N4, rfl⟩
  ·
    have pr7 : ∀ tg, Steps pP.tables eE below (s₁.setTop (mkF mM 7 #[.val (.ref a), .val (.int nv), .val (.int mv), .val (.int iv), .val (.int cv), .val (.int dv)] [(.int nv), (.int iv)])) tg → Steps pP.tables eE below (s₁.setTop (entryFrame mM #[(.ref a), (.int nv), (.int mv), (.int iv), (.int cv), (.int dv)] 6)) tg := fun tg kg => pr2 _ (by
      show Steps pP.tables eE below (s₁.setTop (mkF mM 2 #[.val (.ref a), .val (.int nv), .val (.int mv), .val (.int iv), .val (.int cv), .val (.int dv)] [(.int (3 : Int32)), (.int mv)])) _
      refine XS.icmpNo X0.here hx rfl (hb hby d2_2) rfl (feq hc2_1).1 ?_
      show Steps pP.tables eE below (s₁.setTop (mkF mM 5 #[.val (.ref a), .val (.int nv), .val (.int mv), .val (.int iv), .val (.int cv), .val (.int dv)] [])) _
      refine XS.iloadN X0.here hx rfl (hb hby d2_5) rfl ?_
      show Steps pP.tables eE below (s₁.setTop (mkF mM 6 #[.val (.ref a), .val (.int nv), .val (.int mv), .val (.int iv), .val (.int cv), .val (.int dv)] [(.int iv)])) _
      refine XS.iloadN X0.here hx rfl (hb hby d2_6) rfl ?_
      exact kg)
    by_cases hc7_6 : iv < nv
    ·
      have pr8 : ∀ tg, Steps pP.tables eE below (s₁.setTop (mkF mM 21 #[.val (.ref a), .val (.int nv), .val (.int mv), .val (.int iv), .val (.int cv), .val (.int dv)] [(.int iv), (.ref a)])) tg → Steps pP.tables eE below (s₁.setTop (entryFrame mM #[(.ref a), (.int nv), (.int mv), (.int iv), (.int cv), (.int dv)] 6)) tg := fun tg kg => pr7 _ (by
        show Steps pP.tables eE below (s₁.setTop (mkF mM 7 #[.val (.ref a), .val (.int nv), .val (.int mv), .val (.int iv), .val (.int cv), .val (.int dv)] [(.int nv), (.int iv)])) _
        refine XS.icmpYes X0.here hx rfl (pc0 := 7) (pc' := 19) rfl (hb hby d2_7) rfl (tlt hc7_6).1 (by decide) (by decide) ?_
        show Steps pP.tables eE below (s₁.setTop (mkF mM 19 #[.val (.ref a), .val (.int nv), .val (.int mv), .val (.int iv), .val (.int cv), .val (.int dv)] [])) _
        refine XS.aloadN X0.here hx rfl (hb hby d2_19) rfl rfl ?_
        show Steps pP.tables eE below (s₁.setTop (mkF mM 20 #[.val (.ref a), .val (.int nv), .val (.int mv), .val (.int iv), .val (.int cv), .val (.int dv)] [(.ref a)])) _
        refine XS.iloadN X0.here hx rfl (hb hby d2_20) rfl ?_
        exact kg)
      obtain ⟨cla9, Ara9, qa9, Sa9, Ma9, Ha9, Ga9⟩ := id V_b
      obtain ⟨uv, huv⟩ := hvs (iv).toNatClampNeg
      obtain ⟨cq10, kq10, qa10, qb10, qc10⟩ := isOf hZ e0 E_a
      obtain ⟨_, _, ⟨T10, L10, kk10, nn10⟩, -, X10, ⟨Lc10, hQ10, l10, y10, z10⟩, st10⟩ := X0.virtualBack hx (y := (⟨"java/lang/String", "charAt", "(I)C"⟩ : MethodName)) (z := (⟨"java/lang/String", "charAt", "(I)C"⟩ : MethodName)) hown (mvT hZ (hw _ (List.mem_of_getElem? (i := 26) rfl))) (mvT hZ (hw _ (List.mem_of_getElem? (i := 27) rfl))) (notFace_of_selects (args := #[]) (mvT hZ (hw _ (List.mem_of_getElem? (i := 29) rfl)))) (mvT hZ (hw _ (List.mem_of_getElem? (i := 29) rfl))) (mvT hZ (hw _ (List.mem_of_getElem? (i := 28) rfl))) (by decide) (backOf (W := 0) (rms5 l Z a0 hw [] cs sf a b cla9 nv iv uv h0 n0 Z0 O S_cs hcs S_sf rsf E_a F_c F_v Ara9 Sa9 Ma9 hiv hc7_6 (Has.at Ha9 (inb_of Sa9 ⟨hiv, hc7_6⟩) huv)) hZ (hw _ (List.mem_of_getElem? (i := 30) rfl)) (hw _ (List.mem_of_getElem? (i := 1) rfl)) (by decide) (by decide)) qa10 qc10 (g := (mkF mM 21 #[.val (.ref a), .val (.int nv), .val (.int mv), .val (.int iv), .val (.int cv), .val (.int dv)] [(.int iv), (.ref a)])) rfl (by rw [hml]; rfl) (Steps.refl _) (argsL := [(.int iv)]) (rest := []) (lenOf pd_7 rfl) rfl (by show 2 * 0 + _ ≤ _; exact Nat.le_of_eq rfl) (hb hby d2_21) (fun _ _ => ⟨rfl, e0, (by decide : 0 + 0 ≤ _), (by decide : 0 + 0 ≤ _)⟩)
      dsimp only [Pt.U, Pt.locs, Pt.cells, Pt.slots] at X10 l10 y10 z10 st10 hQ10
      subst l10 y10 z10
      obtain ⟨rfl, Nq10, e10⟩ := hQ10
      have N10 := Fr.app N0 Nq10
      have pr11 : ∀ tg, Steps pP.tables eE below (T10.setTop (mkF mM 24 #[.val (.ref a), .val (.int nv), .val (.int mv), .val (.int iv), .val (.int cv), .val (.int dv)] [(.int (uv &&& (255 : Int32)).toUInt32.toUInt16.toUInt32.toInt32)])) tg → Steps pP.tables eE below (s₁.setTop (entryFrame mM #[(.ref a), (.int nv), (.int mv), (.int iv), (.int cv), (.int dv)] 6)) tg := fun tg kg => pr8 _ (st10.trans kg)
      obtain ⟨fs, hr, hrun, hended, hW, hsame⟩ := X10.leave (v := some (.int (uv &&& (255 : Int32)).toUInt32.toUInt16.toUInt32.toInt32)) (fun h => by rw [Bd.returns] at h; cases h)
      refine ⟨_, _, pr11 _ (retOut X10 hx (t := .char) Bd.returns (Jvm.Free.XT.narrow_c _) (Or.inl ⟨rfl, Or.inr (Or.inr (Or.inr (Or.inl rfl))), _, rfl⟩) (hb hby d2_24) hr), hrun, hended, _, _, rfl, ?_, ⟨_, rfl⟩, hW, hsame.mono (by decide) (by decide)⟩
      show Q2 Z cs sf a b kb nv vs mv iv cv dv h0 n0 _ T10.heap _
      rw [e10]
      exact ⟨_, rfl, (own_b8 _), N10, rfl⟩
    ·
      have pr12 : ∀ tg, Steps pP.tables eE below (s₁.setTop (mkF mM 15 #[.val (.ref a), .val (.int nv), .val (.int mv), .val (.int iv), .val (.int cv), .val (.int dv)] [(.int dv), (.int cv), (.int iv)])) tg → Steps pP.tables eE below (s₁.setTop (entryFrame mM #[(.ref a), (.int nv), (.int mv), (.int iv), (.int cv), (.int dv)] 6)) tg := fun tg kg => pr7 _ (by
        show Steps pP.tables eE below (s₁.setTop (mkF mM 7 #[.val (.ref a), .val (.int nv), .val (.int mv), .val (.int iv), .val (.int cv), .val (.int dv)] [(.int nv), (.int iv)])) _
        refine XS.icmpNo X0.here hx rfl (hb hby d2_7) rfl (flt hc7_6).1 ?_
        show Steps pP.tables eE below (s₁.setTop (mkF mM 10 #[.val (.ref a), .val (.int nv), .val (.int mv), .val (.int iv), .val (.int cv), .val (.int dv)] [])) _
        refine XS.iloadN X0.here hx rfl (hb hby d2_10) rfl ?_
        show Steps pP.tables eE below (s₁.setTop (mkF mM 11 #[.val (.ref a), .val (.int nv), .val (.int mv), .val (.int iv), .val (.int cv), .val (.int dv)] [(.int iv)])) _
        refine XS.iload X0.here hx rfl (hb hby d2_11) rfl ?_
        show Steps pP.tables eE below (s₁.setTop (mkF mM 13 #[.val (.ref a), .val (.int nv), .val (.int mv), .val (.int iv), .val (.int cv), .val (.int dv)] [(.int cv), (.int iv)])) _
        refine XS.iload X0.here hx rfl (hb hby d2_13) rfl ?_
        exact kg)
      obtain ⟨_, _, ⟨T13, L13, kk13, nn13⟩, -, X13, ⟨Lc13, hQ13, l13, y13, z13⟩, st13⟩ := Jvm.LawKit.callS X0 hx (y := (⟨"com/example/thawline/thawline/CandidateTypeOfTokenPinLaw", "drawn", "(III)C"⟩ : MethodName)) hown (mvT hZ (hw _ (List.mem_of_getElem? (i := 48) rfl))) (mvT hZ (hw _ (List.mem_of_getElem? (i := 49) rfl))) (mvT hZ (hw _ (List.mem_of_getElem? (i := 24) rfl))) (mvT hZ (hw _ (List.mem_of_getElem? (i := 50) rfl))) (by decide) (backOf (W := 0) (rm1 l Z a0 hw [] iv cv dv h0 n0 Z0) hZ (hw _ (List.mem_of_getElem? (i := 50) rfl)) (hw _ (List.mem_of_getElem? (i := 24) rfl)) (by decide) (by decide)) (g := (mkF mM 15 #[.val (.ref a), .val (.int nv), .val (.int mv), .val (.int iv), .val (.int cv), .val (.int dv)] [(.int dv), (.int cv), (.int iv)])) rfl (by rw [hml]; rfl) (argsL := [(.int iv), (.int cv), (.int dv)]) (rest := []) (lenOf pd_6 rfl) rfl (by show 2 * 0 + _ ≤ _; exact Nat.le_of_eq rfl) (hb hby d2_15) (fun _ _ => ⟨rfl, e0, (by decide : 0 + 0 ≤ _), (by decide : 0 + 0 ≤ _)⟩)
      dsimp only [Pt.U, Pt.locs, Pt.cells, Pt.slots] at X13 l13 y13 z13 st13 hQ13
      subst l13 y13 z13
      obtain ⟨r13, rfl, hb13, Nq13, e13⟩ := hQ13
      have N13 := Fr.app N0 Nq13
      have pr14 : ∀ tg, Steps pP.tables eE below (T13.setTop (mkF mM 18 #[.val (.ref a), .val (.int nv), .val (.int mv), .val (.int iv), .val (.int cv), .val (.int dv)] [(.int r13)])) tg → Steps pP.tables eE below (s₁.setTop (entryFrame mM #[(.ref a), (.int nv), (.int mv), (.int iv), (.int cv), (.int dv)] 6)) tg := fun tg kg => pr12 _ (st13 _ kg)
      obtain ⟨fs, hr, hrun, hended, hW, hsame⟩ := X13.leave (v := some (.int r13)) (fun h => by rw [Bd.returns] at h; cases h)
      refine ⟨_, _, pr14 _ (retOut X13 hx (t := .char) Bd.returns (own_nr hb13) (Or.inl ⟨rfl, Or.inr (Or.inr (Or.inr (Or.inl rfl))), _, rfl⟩) (hb hby d2_18) hr), hrun, hended, _, _, rfl, ?_, ⟨_, rfl⟩, hW, hsame.mono (by decide) (by decide)⟩
      show Q2 Z cs sf a b kb nv vs mv iv cv dv h0 n0 _ T13.heap _
      rw [e13]
      exact ⟨_, rfl, hb13, N13, rfl⟩
theorem pd_8 : parseMethodDescriptor "([C)V" = some ⟨[(.array .char)], none⟩ := by decide +kernel
theorem d3_0 : decode method_5_code 0 = .ok (.iload_n 1, 1) := by decide +kernel
theorem d3_1 : decode method_5_code 1 = .ok (.ifCond .ne 14, 3) := by decide +kernel
theorem d3_4 : decode method_5_code 4 = .ok (.new 16, 3) := by decide +kernel
theorem d3_7 : decode method_5_code 7 = .ok (.dup, 1) := by decide +kernel
theorem d3_8 : decode method_5_code 8 = .ok (.iconst 0, 1) := by decide +kernel
theorem d3_9 : decode method_5_code 9 = .ok (.newarray .char, 2) := by decide +kernel
theorem d3_11 : decode method_5_code 11 = .ok (.invokespecial 63, 3) := by decide +kernel
theorem d3_14 : decode method_5_code 14 = .ok (.areturn, 1) := by decide +kernel
theorem d3_15 : decode method_5_code 15 = .ok (.iload_n 1, 1) := by decide +kernel
theorem d3_16 : decode method_5_code 16 = .ok (.iconst 1, 1) := by decide +kernel
theorem d3_17 : decode method_5_code 17 = .ok (.if_icmp .ne 20, 3) := by decide +kernel
theorem d3_20 : decode method_5_code 20 = .ok (.new 16, 3) := by decide +kernel
theorem d3_23 : decode method_5_code 23 = .ok (.dup, 1) := by decide +kernel
theorem d3_24 : decode method_5_code 24 = .ok (.iconst 1, 1) := by decide +kernel
theorem d3_25 : decode method_5_code 25 = .ok (.newarray .char, 2) := by decide +kernel
theorem d3_27 : decode method_5_code 27 = .ok (.dup, 1) := by decide +kernel
theorem d3_28 : decode method_5_code 28 = .ok (.iconst 0, 1) := by decide +kernel
theorem d3_29 : decode method_5_code 29 = .ok (.aload_n 0, 1) := by decide +kernel
theorem d3_30 : decode method_5_code 30 = .ok (.iconst 0, 1) := by decide +kernel
theorem d3_31 : decode method_5_code 31 = .ok (.caload, 1) := by decide +kernel
theorem d3_32 : decode method_5_code 32 = .ok (.castore, 1) := by decide +kernel
theorem d3_33 : decode method_5_code 33 = .ok (.invokespecial 63, 3) := by decide +kernel
theorem d3_36 : decode method_5_code 36 = .ok (.areturn, 1) := by decide +kernel
theorem d3_37 : decode method_5_code 37 = .ok (.iload_n 1, 1) := by decide +kernel
theorem d3_38 : decode method_5_code 38 = .ok (.iconst 2, 1) := by decide +kernel
theorem d3_39 : decode method_5_code 39 = .ok (.if_icmp .ne 26, 3) := by decide +kernel
theorem d3_42 : decode method_5_code 42 = .ok (.new 16, 3) := by decide +kernel
theorem d3_45 : decode method_5_code 45 = .ok (.dup, 1) := by decide +kernel
theorem d3_46 : decode method_5_code 46 = .ok (.iconst 2, 1) := by decide +kernel
theorem d3_47 : decode method_5_code 47 = .ok (.newarray .char, 2) := by decide +kernel
theorem d3_49 : decode method_5_code 49 = .ok (.dup, 1) := by decide +kernel
theorem d3_50 : decode method_5_code 50 = .ok (.iconst 0, 1) := by decide +kernel
theorem d3_51 : decode method_5_code 51 = .ok (.aload_n 0, 1) := by decide +kernel
theorem d3_52 : decode method_5_code 52 = .ok (.iconst 0, 1) := by decide +kernel
theorem d3_53 : decode method_5_code 53 = .ok (.caload, 1) := by decide +kernel
theorem d3_54 : decode method_5_code 54 = .ok (.castore, 1) := by decide +kernel
theorem d3_55 : decode method_5_code 55 = .ok (.dup, 1) := by decide +kernel
theorem d3_56 : decode method_5_code 56 = .ok (.iconst 1, 1) := by decide +kernel
theorem d3_57 : decode method_5_code 57 = .ok (.aload_n 0, 1) := by decide +kernel
theorem d3_58 : decode method_5_code 58 = .ok (.iconst 1, 1) := by decide +kernel
theorem d3_59 : decode method_5_code 59 = .ok (.caload, 1) := by decide +kernel
theorem d3_60 : decode method_5_code 60 = .ok (.castore, 1) := by decide +kernel
theorem d3_61 : decode method_5_code 61 = .ok (.invokespecial 63, 3) := by decide +kernel
theorem d3_64 : decode method_5_code 64 = .ok (.areturn, 1) := by decide +kernel
theorem d3_65 : decode method_5_code 65 = .ok (.iload_n 1, 1) := by decide +kernel
theorem d3_66 : decode method_5_code 66 = .ok (.iconst 3, 1) := by decide +kernel
theorem d3_67 : decode method_5_code 67 = .ok (.if_icmp .ne 32, 3) := by decide +kernel
theorem d3_70 : decode method_5_code 70 = .ok (.new 16, 3) := by decide +kernel
theorem d3_73 : decode method_5_code 73 = .ok (.dup, 1) := by decide +kernel
theorem d3_74 : decode method_5_code 74 = .ok (.iconst 3, 1) := by decide +kernel
theorem d3_75 : decode method_5_code 75 = .ok (.newarray .char, 2) := by decide +kernel
theorem d3_77 : decode method_5_code 77 = .ok (.dup, 1) := by decide +kernel
theorem d3_78 : decode method_5_code 78 = .ok (.iconst 0, 1) := by decide +kernel
theorem d3_79 : decode method_5_code 79 = .ok (.aload_n 0, 1) := by decide +kernel
theorem d3_80 : decode method_5_code 80 = .ok (.iconst 0, 1) := by decide +kernel
theorem d3_81 : decode method_5_code 81 = .ok (.caload, 1) := by decide +kernel
theorem d3_82 : decode method_5_code 82 = .ok (.castore, 1) := by decide +kernel
theorem d3_83 : decode method_5_code 83 = .ok (.dup, 1) := by decide +kernel
theorem d3_84 : decode method_5_code 84 = .ok (.iconst 1, 1) := by decide +kernel
theorem d3_85 : decode method_5_code 85 = .ok (.aload_n 0, 1) := by decide +kernel
theorem d3_86 : decode method_5_code 86 = .ok (.iconst 1, 1) := by decide +kernel
theorem d3_87 : decode method_5_code 87 = .ok (.caload, 1) := by decide +kernel
theorem d3_88 : decode method_5_code 88 = .ok (.castore, 1) := by decide +kernel
theorem d3_89 : decode method_5_code 89 = .ok (.dup, 1) := by decide +kernel
theorem d3_90 : decode method_5_code 90 = .ok (.iconst 2, 1) := by decide +kernel
theorem d3_91 : decode method_5_code 91 = .ok (.aload_n 0, 1) := by decide +kernel
theorem d3_92 : decode method_5_code 92 = .ok (.iconst 2, 1) := by decide +kernel
theorem d3_93 : decode method_5_code 93 = .ok (.caload, 1) := by decide +kernel
theorem d3_94 : decode method_5_code 94 = .ok (.castore, 1) := by decide +kernel
theorem d3_95 : decode method_5_code 95 = .ok (.invokespecial 63, 3) := by decide +kernel
theorem d3_98 : decode method_5_code 98 = .ok (.areturn, 1) := by decide +kernel
theorem d3_99 : decode method_5_code 99 = .ok (.iload_n 1, 1) := by decide +kernel
theorem d3_100 : decode method_5_code 100 = .ok (.iconst 4, 1) := by decide +kernel
theorem d3_101 : decode method_5_code 101 = .ok (.if_icmp .ne 38, 3) := by decide +kernel
theorem d3_104 : decode method_5_code 104 = .ok (.new 16, 3) := by decide +kernel
theorem d3_107 : decode method_5_code 107 = .ok (.dup, 1) := by decide +kernel
theorem d3_108 : decode method_5_code 108 = .ok (.iconst 4, 1) := by decide +kernel
theorem d3_109 : decode method_5_code 109 = .ok (.newarray .char, 2) := by decide +kernel
theorem d3_111 : decode method_5_code 111 = .ok (.dup, 1) := by decide +kernel
theorem d3_112 : decode method_5_code 112 = .ok (.iconst 0, 1) := by decide +kernel
theorem d3_113 : decode method_5_code 113 = .ok (.aload_n 0, 1) := by decide +kernel
theorem d3_114 : decode method_5_code 114 = .ok (.iconst 0, 1) := by decide +kernel
theorem d3_115 : decode method_5_code 115 = .ok (.caload, 1) := by decide +kernel
theorem d3_116 : decode method_5_code 116 = .ok (.castore, 1) := by decide +kernel
theorem d3_117 : decode method_5_code 117 = .ok (.dup, 1) := by decide +kernel
theorem d3_118 : decode method_5_code 118 = .ok (.iconst 1, 1) := by decide +kernel
theorem d3_119 : decode method_5_code 119 = .ok (.aload_n 0, 1) := by decide +kernel
theorem d3_120 : decode method_5_code 120 = .ok (.iconst 1, 1) := by decide +kernel
theorem d3_121 : decode method_5_code 121 = .ok (.caload, 1) := by decide +kernel
theorem d3_122 : decode method_5_code 122 = .ok (.castore, 1) := by decide +kernel
theorem d3_123 : decode method_5_code 123 = .ok (.dup, 1) := by decide +kernel
theorem d3_124 : decode method_5_code 124 = .ok (.iconst 2, 1) := by decide +kernel
theorem d3_125 : decode method_5_code 125 = .ok (.aload_n 0, 1) := by decide +kernel
theorem d3_126 : decode method_5_code 126 = .ok (.iconst 2, 1) := by decide +kernel
theorem d3_127 : decode method_5_code 127 = .ok (.caload, 1) := by decide +kernel
theorem d3_128 : decode method_5_code 128 = .ok (.castore, 1) := by decide +kernel
theorem d3_129 : decode method_5_code 129 = .ok (.dup, 1) := by decide +kernel
theorem d3_130 : decode method_5_code 130 = .ok (.iconst 3, 1) := by decide +kernel
theorem d3_131 : decode method_5_code 131 = .ok (.aload_n 0, 1) := by decide +kernel
theorem d3_132 : decode method_5_code 132 = .ok (.iconst 3, 1) := by decide +kernel
theorem d3_133 : decode method_5_code 133 = .ok (.caload, 1) := by decide +kernel
theorem d3_134 : decode method_5_code 134 = .ok (.castore, 1) := by decide +kernel
theorem d3_135 : decode method_5_code 135 = .ok (.invokespecial 63, 3) := by decide +kernel
theorem d3_138 : decode method_5_code 138 = .ok (.areturn, 1) := by decide +kernel
theorem d3_139 : decode method_5_code 139 = .ok (.iload_n 1, 1) := by decide +kernel
theorem d3_140 : decode method_5_code 140 = .ok (.iconst 5, 1) := by decide +kernel
theorem d3_141 : decode method_5_code 141 = .ok (.if_icmp .ne 44, 3) := by decide +kernel
theorem d3_144 : decode method_5_code 144 = .ok (.new 16, 3) := by decide +kernel
theorem d3_147 : decode method_5_code 147 = .ok (.dup, 1) := by decide +kernel
theorem d3_148 : decode method_5_code 148 = .ok (.iconst 5, 1) := by decide +kernel
theorem d3_149 : decode method_5_code 149 = .ok (.newarray .char, 2) := by decide +kernel
theorem d3_151 : decode method_5_code 151 = .ok (.dup, 1) := by decide +kernel
theorem d3_152 : decode method_5_code 152 = .ok (.iconst 0, 1) := by decide +kernel
theorem d3_153 : decode method_5_code 153 = .ok (.aload_n 0, 1) := by decide +kernel
theorem d3_154 : decode method_5_code 154 = .ok (.iconst 0, 1) := by decide +kernel
theorem d3_155 : decode method_5_code 155 = .ok (.caload, 1) := by decide +kernel
theorem d3_156 : decode method_5_code 156 = .ok (.castore, 1) := by decide +kernel
theorem d3_157 : decode method_5_code 157 = .ok (.dup, 1) := by decide +kernel
theorem d3_158 : decode method_5_code 158 = .ok (.iconst 1, 1) := by decide +kernel
theorem d3_159 : decode method_5_code 159 = .ok (.aload_n 0, 1) := by decide +kernel
theorem d3_160 : decode method_5_code 160 = .ok (.iconst 1, 1) := by decide +kernel
theorem d3_161 : decode method_5_code 161 = .ok (.caload, 1) := by decide +kernel
theorem d3_162 : decode method_5_code 162 = .ok (.castore, 1) := by decide +kernel
theorem d3_163 : decode method_5_code 163 = .ok (.dup, 1) := by decide +kernel
theorem d3_164 : decode method_5_code 164 = .ok (.iconst 2, 1) := by decide +kernel
theorem d3_165 : decode method_5_code 165 = .ok (.aload_n 0, 1) := by decide +kernel
theorem d3_166 : decode method_5_code 166 = .ok (.iconst 2, 1) := by decide +kernel
theorem d3_167 : decode method_5_code 167 = .ok (.caload, 1) := by decide +kernel
theorem d3_168 : decode method_5_code 168 = .ok (.castore, 1) := by decide +kernel
theorem d3_169 : decode method_5_code 169 = .ok (.dup, 1) := by decide +kernel
theorem d3_170 : decode method_5_code 170 = .ok (.iconst 3, 1) := by decide +kernel
theorem d3_171 : decode method_5_code 171 = .ok (.aload_n 0, 1) := by decide +kernel
theorem d3_172 : decode method_5_code 172 = .ok (.iconst 3, 1) := by decide +kernel
theorem d3_173 : decode method_5_code 173 = .ok (.caload, 1) := by decide +kernel
theorem d3_174 : decode method_5_code 174 = .ok (.castore, 1) := by decide +kernel
theorem d3_175 : decode method_5_code 175 = .ok (.dup, 1) := by decide +kernel
theorem d3_176 : decode method_5_code 176 = .ok (.iconst 4, 1) := by decide +kernel
theorem d3_177 : decode method_5_code 177 = .ok (.aload_n 0, 1) := by decide +kernel
theorem d3_178 : decode method_5_code 178 = .ok (.iconst 4, 1) := by decide +kernel
theorem d3_179 : decode method_5_code 179 = .ok (.caload, 1) := by decide +kernel
theorem d3_180 : decode method_5_code 180 = .ok (.castore, 1) := by decide +kernel
theorem d3_181 : decode method_5_code 181 = .ok (.invokespecial 63, 3) := by decide +kernel
theorem d3_184 : decode method_5_code 184 = .ok (.areturn, 1) := by decide +kernel
theorem d3_185 : decode method_5_code 185 = .ok (.new 16, 3) := by decide +kernel
theorem d3_188 : decode method_5_code 188 = .ok (.dup, 1) := by decide +kernel
theorem d3_189 : decode method_5_code 189 = .ok (.bipush 6, 2) := by decide +kernel
theorem d3_191 : decode method_5_code 191 = .ok (.newarray .char, 2) := by decide +kernel
theorem d3_193 : decode method_5_code 193 = .ok (.dup, 1) := by decide +kernel
theorem d3_194 : decode method_5_code 194 = .ok (.iconst 0, 1) := by decide +kernel
theorem d3_195 : decode method_5_code 195 = .ok (.aload_n 0, 1) := by decide +kernel
theorem d3_196 : decode method_5_code 196 = .ok (.iconst 0, 1) := by decide +kernel
theorem d3_197 : decode method_5_code 197 = .ok (.caload, 1) := by decide +kernel
theorem d3_198 : decode method_5_code 198 = .ok (.castore, 1) := by decide +kernel
theorem d3_199 : decode method_5_code 199 = .ok (.dup, 1) := by decide +kernel
theorem d3_200 : decode method_5_code 200 = .ok (.iconst 1, 1) := by decide +kernel
theorem d3_201 : decode method_5_code 201 = .ok (.aload_n 0, 1) := by decide +kernel
theorem d3_202 : decode method_5_code 202 = .ok (.iconst 1, 1) := by decide +kernel
theorem d3_203 : decode method_5_code 203 = .ok (.caload, 1) := by decide +kernel
theorem d3_204 : decode method_5_code 204 = .ok (.castore, 1) := by decide +kernel
theorem d3_205 : decode method_5_code 205 = .ok (.dup, 1) := by decide +kernel
theorem d3_206 : decode method_5_code 206 = .ok (.iconst 2, 1) := by decide +kernel
theorem d3_207 : decode method_5_code 207 = .ok (.aload_n 0, 1) := by decide +kernel
theorem d3_208 : decode method_5_code 208 = .ok (.iconst 2, 1) := by decide +kernel
theorem d3_209 : decode method_5_code 209 = .ok (.caload, 1) := by decide +kernel
theorem d3_210 : decode method_5_code 210 = .ok (.castore, 1) := by decide +kernel
theorem d3_211 : decode method_5_code 211 = .ok (.dup, 1) := by decide +kernel
theorem d3_212 : decode method_5_code 212 = .ok (.iconst 3, 1) := by decide +kernel
theorem d3_213 : decode method_5_code 213 = .ok (.aload_n 0, 1) := by decide +kernel
theorem d3_214 : decode method_5_code 214 = .ok (.iconst 3, 1) := by decide +kernel
theorem d3_215 : decode method_5_code 215 = .ok (.caload, 1) := by decide +kernel
theorem d3_216 : decode method_5_code 216 = .ok (.castore, 1) := by decide +kernel
theorem d3_217 : decode method_5_code 217 = .ok (.dup, 1) := by decide +kernel
theorem d3_218 : decode method_5_code 218 = .ok (.iconst 4, 1) := by decide +kernel
theorem d3_219 : decode method_5_code 219 = .ok (.aload_n 0, 1) := by decide +kernel
theorem d3_220 : decode method_5_code 220 = .ok (.iconst 4, 1) := by decide +kernel
theorem d3_221 : decode method_5_code 221 = .ok (.caload, 1) := by decide +kernel
theorem d3_222 : decode method_5_code 222 = .ok (.castore, 1) := by decide +kernel
theorem d3_223 : decode method_5_code 223 = .ok (.dup, 1) := by decide +kernel
theorem d3_224 : decode method_5_code 224 = .ok (.iconst 5, 1) := by decide +kernel
theorem d3_225 : decode method_5_code 225 = .ok (.aload_n 0, 1) := by decide +kernel
theorem d3_226 : decode method_5_code 226 = .ok (.iconst 5, 1) := by decide +kernel
theorem d3_227 : decode method_5_code 227 = .ok (.caload, 1) := by decide +kernel
theorem d3_228 : decode method_5_code 228 = .ok (.castore, 1) := by decide +kernel
theorem d3_229 : decode method_5_code 229 = .ok (.invokespecial 63, 3) := by decide +kernel
theorem d3_232 : decode method_5_code 232 = .ok (.areturn, 1) := by decide +kernel
theorem ef_3 (mM : MethodId) (x0 : Addr) (x1 : Int32) : entryFrame mM #[(.ref x0), (.int x1)] 2 = mkF mM 0 #[.val (.ref x0), .val (.int x1)] [] := by first | (simp [entryFrame, mkF, argsToLocals, Value.category]; done) | rfl
def Q3 (Z : State) (cs : Int32) (y : Addr) (ky : ClassId) (c0 : Int32) (c1 : Int32) (c2 : Int32) (c3 : Int32) (c4 : Int32) (c5 : Int32) (lv : Int32) (h0 : Heap) (n0 : Nat) (v : Option Value) (h : Heap) (L : List Loc) : Prop := ∃ (x t : Addr) (kt : ClassId) (tx : List Int32), v = some (.ref x) ∧ Fr n0 L ∧ Keep h0 h [] ∧ Exa Z h x "java/lang/String" ∧ Fld Z h x "java/lang/String" "value" "[B" (.ref t) ∧ Fld Z h x "java/lang/String" "coder" "B" (.int (0 : Int32)) ∧ Arv Z h t kt .byte (Int32.ofNat tx.length) ((tx.map StrChars.lo8).map Value.int) (.int (0 : Int32)) ∧ (∀ c ∈ tx, ¬ c < 0 ∧ ¬ (255 : Int32) < c) ∧ tx.length ≤ 4000
set_option maxRecDepth 65536 in
set_option maxHeartbeats 40000000 in
theorem rm3 (l : Launch) (Z : State) (a0 : Array Value) (hw : ∀ d ∈ tables_1, d.before a0 Z = true) (ws : List Jvm.Cond) (cs : Int32) (y : Addr) (ky : ClassId) (c0 : Int32) (c1 : Int32) (c2 : Int32) (c3 : Int32) (c4 : Int32) (c5 : Int32) (lv : Int32) (h0 : Heap) (n0 : Nat) (Z0 : n0 ≤ h0.size) (O : Old Z n0 h0) (S_cs : Sta Z Z.heap "java/lang/String" "COMPACT_STRINGS" "Z" (.int cs)) (hcs : ¬ cs = (0 : Int32)) (V_y : Arv Z h0 y ky .char (6 : Int32) [(.int c0), (.int c1), (.int c2), (.int c3), (.int c4), (.int c5)] (.int (0 : Int32))) (hc0 : ¬ c0 < 0 ∧ ¬ (255 : Int32) < c0) (hc1 : ¬ c1 < 0 ∧ ¬ (255 : Int32) < c1) (hc2 : ¬ c2 < 0 ∧ ¬ (255 : Int32) < c2) (hc3 : ¬ c3 < 0 ∧ ¬ (255 : Int32) < c3) (hc4 : ¬ c4 < 0 ∧ ¬ (255 : Int32) < c4) (hc5 : ¬ c5 < 0 ∧ ¬ (255 : Int32) < c5) (hl1 : 0 ≤ lv.toInt) (hl2 : lv.toInt < 7) :
    MetFree l (⟨"com/example/thawline/thawline/CandidateTypeOfTokenPinLaw", "make", "([CI)Ljava/lang/String;"⟩ : MethodName) (head1 (Jvm.Cond.code (⟨"com/example/thawline/thawline/CandidateTypeOfTokenPinLaw", "make", "([CI)Ljava/lang/String;"⟩ : MethodName) method_5_code 2 (some (.object "java/lang/String")) :: ws) ({ frames := 4, cells := 6, slots := 16, locals := 66 } : Room)) (fun aA uU => aA = #[(.ref y), (.int lv)] ∧ Z.Warmed39 uU.vm ∧ uU.heap = h0 ∧ CHv Z consts_1 uU.vm h0) (fun _ _ _ _ _ => True) (fun _ uU oO uU' => ∃ vV lL, oO = .returned vV ∧ Q3 Z cs y ky c0 c1 c2 c3 c4 c5 lv h0 n0 vV uU'.heap lL ∧ CHr Z consts_1 uU.vm uU.heap uU'.vm uU'.heap ∧ ReturnedEndW uU oO uU' lL ({ frames := 4, cells := 6, slots := 16, locals := 66 } : Room).cells ({ frames := 4, cells := 6, slots := 16, locals := 66 } : Room).slots) := by
  refine MetFree.of_bodySF (plainFor_of_name pn_3) hisR ?_
  intro pP eE sS mM args below meth cC s₁ Bd hml0 hP hK
  obtain ⟨rfl, hZ, hh, hCH0⟩ := hP
  have hS : sS.Since sS.vm 0 := (State.WarmedH.refl sS).since 0
  have wS : ∀ a ∈ Bundle.stringAtoms, a.before a0 Z = true := fun a ha => hw a ((by decide +kernel : ∀ a ∈ Bundle.stringAtoms, a ∈ tables_1) a ha)
  have hEW := own_ew hw
  have cr0 := CHr.refl hCH0
  have hx := Bd.exec
  have hby := Bd.bytes
  have hml : cC.maxLocals = 2 := hml0
  have hown : sS.vm.findClass "com/example/thawline/thawline/CandidateTypeOfTokenPinLaw" = some mM.cls := findClass_of_methodNamed Bd.named
  have hnm := (name_of_methodNamed Bd.named Bd.method).1
  have X0 : Stand pP l eE ({ frames := 4, cells := 6, slots := 16, locals := 66 } : Room) sS mM #[(.ref y), (.int lv)] below meth cC s₁ [] 0 0 := Stand.of_body Bd
  have e0 : s₁.heap = h0 := by rw [← hh, Bd.state]; rfl
  have N0 := Fr.nil n0
  have pre0 : ∀ tg, Steps pP.tables eE below (s₁.setTop (mkF mM 0 #[.val (.ref y), .val (.int lv)] [])) tg → Steps pP.tables eE below (s₁.setTop (entryFrame mM #[(.ref y), (.int lv)] 2)) tg := fun tg kg => castTop (ef_3 mM y lv) kg
  obtain ⟨z1, hz1⟩ : ∃ z, z = lv := ⟨_, rfl⟩
  have pr2 : ∀ tg, Steps pP.tables eE below (s₁.setTop (mkF mM 0 #[.val (.ref y), .val (.int z1)] [])) tg → Steps pP.tables eE below (s₁.setTop (entryFrame mM #[(.ref y), (.int lv)] 2)) tg := by
    rw [hz1]; exact pre0
  rcases own_7 (z := z1) (by rw [hz1]; exact hl1) (by rw [hz1]; exact hl2) with rfl | rfl | rfl | rfl | rfl | rfl | rfl
  ·
    have pr3 : ∀ tg, Steps pP.tables eE below (s₁.setTop (mkF mM 4 #[.val (.ref y), .val (.int (0 : Int32))] [])) tg → Steps pP.tables eE below (s₁.setTop (entryFrame mM #[(.ref y), (.int lv)] 2)) tg := fun tg kg => pr2 _ (by
      show Steps pP.tables eE below (s₁.setTop (mkF mM 0 #[.val (.ref y), .val (.int (0 : Int32))] [])) _
      refine XS.iloadN X0.here hx rfl (hb hby d3_0) rfl ?_
      show Steps pP.tables eE below (s₁.setTop (mkF mM 1 #[.val (.ref y), .val (.int (0 : Int32))] [(.int (0 : Int32))])) _
      refine XS.ifNo X0.here hx rfl (hb hby d3_1) rfl ((if0 _ _).trans (teq (by decide)).2) ?_
      exact kg)
    obtain ⟨T4, h4, X4, e4, E4, A4, D4, -, st4⟩ := newO X0 hx hZ hown (hw _ (List.mem_of_getElem? (i := 54) rfl)) (hw _ (List.mem_of_getElem? (i := 2) rfl)) (hw _ (List.mem_of_getElem? (i := 1) rfl)) e0 (g := (mkF mM 4 #[.val (.ref y), .val (.int (0 : Int32))] [])) rfl (hb hby d3_4) (by decide) (by decide)
    obtain ⟨b4, g4⟩ : ∃ z, z = (h0).size := ⟨_, rfl⟩
    rw [← g4] at A4 D4 st4
    have ne5 : y ≠ b4 := Nat.ne_of_lt (Nat.lt_of_lt_of_le (V_y).lt (Nat.le_of_eq g4.symm))
    have gn6 : n0 ≤ b4 := Nat.le_trans Z0 (Nat.le_of_eq g4.symm)
    have gs7 : h0.size ≤ b4 := Nat.le_trans (Keep.refl h0 []).1 (Nat.le_of_eq g4.symm)
    have sf8_b4 : Safe Z consts_1 sS.vm _ b4 := Safe.ext E4 cr0.1 (Safe.new (Nat.le_of_eq g4.symm))
    have cr8 := CHr.trans cr0 (CHr.ext E4 cr0.1)
    have F4_value : Fld Z h4 b4 "java/lang/String" "value" "[B" .null := D4 (Or.inr (hw _ (List.mem_of_getElem? (i := 4) rfl))) (ty := (.array .byte)) (by decide)
    have F4_coder : Fld Z h4 b4 "java/lang/String" "coder" "B" (.int (0 : Int32)) := D4 (Or.inr (hw _ (List.mem_of_getElem? (i := 5) rfl))) (ty := .byte) (by decide)
    have pr9 : ∀ tg, Steps pP.tables eE below (T4.setTop (mkF mM 7 #[.val (.ref y), .val (.int (0 : Int32))] [(.ref b4)])) tg → Steps pP.tables eE below (s₁.setTop (entryFrame mM #[(.ref y), (.int lv)] 2)) tg := fun tg kg => pr3 _ (st4 _ kg)
    have pr10 : ∀ tg, Steps pP.tables eE below (T4.setTop (mkF mM 9 #[.val (.ref y), .val (.int (0 : Int32))] [(.int (0 : Int32)), (.ref b4), (.ref b4)])) tg → Steps pP.tables eE below (s₁.setTop (entryFrame mM #[(.ref y), (.int lv)] 2)) tg := fun tg kg => pr9 _ (by
      show Steps pP.tables eE below (T4.setTop (mkF mM 7 #[.val (.ref y), .val (.int (0 : Int32))] [(.ref b4)])) _
      refine XS.dup X4.here hx rfl (hb hby d3_7) rfl rfl ?_
      show Steps pP.tables eE below (T4.setTop (mkF mM 8 #[.val (.ref y), .val (.int (0 : Int32))] [(.ref b4), (.ref b4)])) _
      refine XS.iconst X4.here hx rfl (hb hby d3_8) ?_
      exact kg)
    obtain ⟨T11, h11, k11, X11, e11, E11, A11, Ex11, st11⟩ := newPE X4 hx hZ (hw _ (List.mem_of_getElem? (i := 21) rfl)) e4 (g := (mkF mM 9 #[.val (.ref y), .val (.int (0 : Int32))] [(.int (0 : Int32)), (.ref b4), (.ref b4)])) rfl (hb hby d3_9) rfl (by decide) (cap := 0) (by decide) (by decide) (by decide) (by decide) (ad := "[C") rfl
    obtain ⟨b11, g11⟩ : ∃ z, z = (h4).size := ⟨_, rfl⟩
    rw [← g11] at A11 Ex11 st11
    have c13 := (Arv.ext V_y E4)
    have ne12 : y ≠ b11 := Nat.ne_of_lt (Nat.lt_of_lt_of_le (c13).lt (Nat.le_of_eq g11.symm))
    have ne14 : b4 ≠ b11 := Nat.ne_of_lt (Nat.lt_of_lt_of_le (A4).lt (Nat.le_of_eq g11.symm))
    have c16 := (Nat.le_trans Z0 E4.1)
    have gn15 : n0 ≤ b11 := Nat.le_trans c16 (Nat.le_of_eq g11.symm)
    have c18 := (Keep.ext (Keep.refl h0 []) E4)
    have gs17 : h0.size ≤ b11 := Nat.le_trans c18.1 (Nat.le_of_eq g11.symm)
    have sf19_b4 := Safe.ext E11 cr8.1 sf8_b4
    have sf19_b11 : Safe Z consts_1 sS.vm _ b11 := Safe.ext E11 cr8.1 (Safe.new (Nat.le_of_eq g11.symm))
    have cr19 := CHr.trans cr8 (CHr.ext E11 cr8.1)
    have V11 : Arv Z h11 b11 k11 .char (0 : Int32) [] (.int (0 : Int32)) := Arv.new A11 (by decide)
    have pr20 : ∀ tg, Steps pP.tables eE below (T11.setTop (mkF mM 11 #[.val (.ref y), .val (.int (0 : Int32))] [(.ref b11), (.ref b4), (.ref b4)])) tg → Steps pP.tables eE below (s₁.setTop (entryFrame mM #[(.ref y), (.int lv)] 2)) tg := fun tg kg => pr10 _ (st11 _ kg)
    have c21 := (Exa.ext E11 A4)
    have c22 := (Fld.ext E11 F4_value)
    have c23 := (Fld.ext E11 F4_coder)
    have c24 := (Nat.le_trans c16 E11.1)
    have c26 := (Nat.le_trans (Nat.le_trans (Nat.zero_le _) E4.1) E11.1)
    obtain ⟨_, _, ⟨T25, L25, kk25, nn25⟩, -, X25, hSq25, -, ⟨Lc25, hQ25, l25, y25, z25, A25⟩, st25⟩ := Jvm.Stand.specialBackS (s := sS.setVm sS.vm) X11 hx (y := (⟨"java/lang/String", "<init>", "([C)V"⟩ : MethodName)) rfl hown (mvT hZ (hw _ (List.mem_of_getElem? (i := 55) rfl))) (mvT hZ (hw _ (List.mem_of_getElem? (i := 56) rfl))) (mvT hZ (hw _ (List.mem_of_getElem? (i := 57) rfl))) (by decide) (backOfSH (s := sS) (vm0 := sS.vm) (EL := consts_1) (W := 1) (rmt4 l Z a0 hw [] b4 b11 k11 h11 n0 c24 c21 gn6 c22 c23 V11) hZ (hw _ (List.mem_of_getElem? (i := 57) rfl)) (hw _ (List.mem_of_getElem? (i := 1) rfl)) (by decide) (by decide) hEW cr19.1) (g := (mkF mM 11 #[.val (.ref y), .val (.int (0 : Int32))] [(.ref b11), (.ref b4), (.ref b4)])) rfl (by rw [hml]; rfl) (Steps.refl _) (a := b4) (argsL := [(.ref b11)]) (rest := [(.ref b4)]) (lenOf pd_8 rfl) rfl (by show 2 * 0 + _ ≤ _; exact Nat.le_of_eq rfl) (hb hby d3_11) (fun _ _ => ⟨rfl, e11, (by decide : 2 + 4 ≤ _), (by decide : 4 + 8 ≤ _)⟩)
    dsimp only [Pt.U, Pt.locs, Pt.cells, Pt.slots] at X25 l25 y25 z25 st25 hQ25 hSq25 A25
    subst l25 y25 z25
    have hS : sS.Since T25.vm T25.heap.size := hS.trans hSq25 (Nat.le_trans c26 A25.2.1)
    have hown : (sS.setVm T25.vm).vm.findClass "com/example/thawline/thawline/CandidateTypeOfTokenPinLaw" = some mM.cls := by rw [show (sS.setVm T25.vm).vm = T25.vm from rfl, hSq25.1.alike.findClass]; exact hown
    have hZ : Z.Warmed39 (sS.setVm T25.vm).vm := State.Warmed39.trans (t := sS.setVm sS.vm) hZ hSq25.1
    have sf27_b4 := CHr.safe A25 (c21).lt sf19_b4
    have sf27_b11 := CHr.safe A25 (V11).lt sf19_b11
    have cr27 := CHr.trans cr19 A25
    obtain ⟨rfl, Nq25, K25, E25, Fc25, te25, kt25, Fv25, V25⟩ := hQ25
    have N25 := Fr.app N0 Nq25
    have pr28 : ∀ tg, Steps pP.tables eE below (T25.setTop (mkF mM 14 #[.val (.ref y), .val (.int (0 : Int32))] [(.ref b4)])) tg → Steps pP.tables eE below (s₁.setTop (entryFrame mM #[(.ref y), (.int lv)] 2)) tg := fun tg kg => pr20 _ (st25.trans kg)
    have c29 := (Keep.trans (Keep.ext c18 E11) K25 (allS (Or.inr gs7) all0))
    obtain ⟨fs, hr, hrun, hended, hW⟩ := Jvm.Stand.leaveW (s := sS) (vm₁ := T25.vm) X25 hS (Nat.le_trans (Nat.le_refl _) (Nat.le_of_eq (congrArg Array.size (rfl : T25.heap = T25.heap).symm))) (v := some (.ref b4)) (fun h => by rw [Bd.returns] at h; cases h)
    have crE := CHr.trans cr27 (CHv.at (s := sS) (vm0 := T25.vm) X25 hZ hEW cr27.1)
    refine ⟨_, _, pr28 _ (retOut X25 hx (t := (.object "java/lang/String")) Bd.returns rfl (Or.inr (Or.inr (Or.inr (Or.inr ⟨rfl, rfl, rfl⟩)))) (hb hby d3_14) hr), hrun, hended, _, _, rfl, ?_, ?_, hW.1, hW.2.1, hW.2.2.1, hW.2.2.2.mono (by decide) (by decide)⟩
    rotate_left
    · show CHr Z consts_1 sS.vm sS.heap T25.vm T25.heap
      rw [hh]; exact crE
    show Q3 Z cs y ky c0 c1 c2 c3 c4 c5 lv h0 n0 _ T25.heap _
    exact ⟨b4, te25, _, [], rfl, N25, c29, E25, Fv25, Fc25, V25, (fun c hc => nomatch hc), Nat.le_of_ble_eq_true rfl⟩
  ·
    have pr30 : ∀ tg, Steps pP.tables eE below (s₁.setTop (mkF mM 20 #[.val (.ref y), .val (.int (1 : Int32))] [])) tg → Steps pP.tables eE below (s₁.setTop (entryFrame mM #[(.ref y), (.int lv)] 2)) tg := fun tg kg => pr2 _ (by
      show Steps pP.tables eE below (s₁.setTop (mkF mM 0 #[.val (.ref y), .val (.int (1 : Int32))] [])) _
      refine XS.iloadN X0.here hx rfl (hb hby d3_0) rfl ?_
      show Steps pP.tables eE below (s₁.setTop (mkF mM 1 #[.val (.ref y), .val (.int (1 : Int32))] [(.int (1 : Int32))])) _
      refine XS.ifYes X0.here hx rfl (pc0 := 1) (pc' := 15) rfl (hb hby d3_1) rfl ((if0 _ _).trans (feq (by decide)).2) (by decide) (by decide) ?_
      show Steps pP.tables eE below (s₁.setTop (mkF mM 15 #[.val (.ref y), .val (.int (1 : Int32))] [])) _
      refine XS.iloadN X0.here hx rfl (hb hby d3_15) rfl ?_
      show Steps pP.tables eE below (s₁.setTop (mkF mM 16 #[.val (.ref y), .val (.int (1 : Int32))] [(.int (1 : Int32))])) _
      refine XS.iconst X0.here hx rfl (hb hby d3_16) ?_
      show Steps pP.tables eE below (s₁.setTop (mkF mM 17 #[.val (.ref y), .val (.int (1 : Int32))] [(.int (1 : Int32)), (.int (1 : Int32))])) _
      refine XS.icmpNo X0.here hx rfl (hb hby d3_17) rfl (teq (by decide)).2 ?_
      exact kg)
    obtain ⟨T31, h31, X31, e31, E31, A31, D31, -, st31⟩ := newO X0 hx hZ hown (hw _ (List.mem_of_getElem? (i := 54) rfl)) (hw _ (List.mem_of_getElem? (i := 2) rfl)) (hw _ (List.mem_of_getElem? (i := 1) rfl)) e0 (g := (mkF mM 20 #[.val (.ref y), .val (.int (1 : Int32))] [])) rfl (hb hby d3_20) (by decide) (by decide)
    obtain ⟨b31, g31⟩ : ∃ z, z = (h0).size := ⟨_, rfl⟩
    rw [← g31] at A31 D31 st31
    have ne32 : y ≠ b31 := Nat.ne_of_lt (Nat.lt_of_lt_of_le (V_y).lt (Nat.le_of_eq g31.symm))
    have gn33 : n0 ≤ b31 := Nat.le_trans Z0 (Nat.le_of_eq g31.symm)
    have gs34 : h0.size ≤ b31 := Nat.le_trans (Keep.refl h0 []).1 (Nat.le_of_eq g31.symm)
    have sf35_b31 : Safe Z consts_1 sS.vm _ b31 := Safe.ext E31 cr0.1 (Safe.new (Nat.le_of_eq g31.symm))
    have cr35 := CHr.trans cr0 (CHr.ext E31 cr0.1)
    have F31_value : Fld Z h31 b31 "java/lang/String" "value" "[B" .null := D31 (Or.inr (hw _ (List.mem_of_getElem? (i := 4) rfl))) (ty := (.array .byte)) (by decide)
    have F31_coder : Fld Z h31 b31 "java/lang/String" "coder" "B" (.int (0 : Int32)) := D31 (Or.inr (hw _ (List.mem_of_getElem? (i := 5) rfl))) (ty := .byte) (by decide)
    have pr36 : ∀ tg, Steps pP.tables eE below (T31.setTop (mkF mM 23 #[.val (.ref y), .val (.int (1 : Int32))] [(.ref b31)])) tg → Steps pP.tables eE below (s₁.setTop (entryFrame mM #[(.ref y), (.int lv)] 2)) tg := fun tg kg => pr30 _ (st31 _ kg)
    have pr37 : ∀ tg, Steps pP.tables eE below (T31.setTop (mkF mM 25 #[.val (.ref y), .val (.int (1 : Int32))] [(.int (1 : Int32)), (.ref b31), (.ref b31)])) tg → Steps pP.tables eE below (s₁.setTop (entryFrame mM #[(.ref y), (.int lv)] 2)) tg := fun tg kg => pr36 _ (by
      show Steps pP.tables eE below (T31.setTop (mkF mM 23 #[.val (.ref y), .val (.int (1 : Int32))] [(.ref b31)])) _
      refine XS.dup X31.here hx rfl (hb hby d3_23) rfl rfl ?_
      show Steps pP.tables eE below (T31.setTop (mkF mM 24 #[.val (.ref y), .val (.int (1 : Int32))] [(.ref b31), (.ref b31)])) _
      refine XS.iconst X31.here hx rfl (hb hby d3_24) ?_
      exact kg)
    obtain ⟨T38, h38, k38, X38, e38, E38, A38, Ex38, st38⟩ := newPE X31 hx hZ (hw _ (List.mem_of_getElem? (i := 21) rfl)) e31 (g := (mkF mM 25 #[.val (.ref y), .val (.int (1 : Int32))] [(.int (1 : Int32)), (.ref b31), (.ref b31)])) rfl (hb hby d3_25) rfl (by decide) (cap := 1) (by decide) (by decide) (by decide) (by decide) (ad := "[C") rfl
    obtain ⟨b38, g38⟩ : ∃ z, z = (h31).size := ⟨_, rfl⟩
    rw [← g38] at A38 Ex38 st38
    have c40 := (Arv.ext V_y E31)
    have ne39 : y ≠ b38 := Nat.ne_of_lt (Nat.lt_of_lt_of_le (c40).lt (Nat.le_of_eq g38.symm))
    have ne41 : b31 ≠ b38 := Nat.ne_of_lt (Nat.lt_of_lt_of_le (A31).lt (Nat.le_of_eq g38.symm))
    have c43 := (Nat.le_trans Z0 E31.1)
    have gn42 : n0 ≤ b38 := Nat.le_trans c43 (Nat.le_of_eq g38.symm)
    have c45 := (Keep.ext (Keep.refl h0 []) E31)
    have gs44 : h0.size ≤ b38 := Nat.le_trans c45.1 (Nat.le_of_eq g38.symm)
    have sf46_b31 := Safe.ext E38 cr35.1 sf35_b31
    have sf46_b38 : Safe Z consts_1 sS.vm _ b38 := Safe.ext E38 cr35.1 (Safe.new (Nat.le_of_eq g38.symm))
    have cr46 := CHr.trans cr35 (CHr.ext E38 cr35.1)
    have V38 : Arv Z h38 b38 k38 .char (1 : Int32) [(.int (0 : Int32))] (.int (0 : Int32)) := (Arv.new A38 (by decide)).pad (pad_rep [] (.int (0 : Int32)) 1)
    have pr47 : ∀ tg, Steps pP.tables eE below (T38.setTop (mkF mM 27 #[.val (.ref y), .val (.int (1 : Int32))] [(.ref b38), (.ref b31), (.ref b31)])) tg → Steps pP.tables eE below (s₁.setTop (entryFrame mM #[(.ref y), (.int lv)] 2)) tg := fun tg kg => pr37 _ (st38 _ kg)
    have c48 := (Arv.ext c40 E38)
    obtain ⟨cla49, Ara49, qa49, Sa49, Ma49, Ha49, Ga49⟩ := id c48
    have hin50 : ¬ ((0 : Int32) < 0 ∨ cla49.slots.size ≤ ((0 : Int32)).toNatClampNeg) := inb_of Sa49 ⟨by decide, by decide⟩
    have hat50 : cla49.slots[((0 : Int32)).toNatClampNeg]? = some (.int c0) := Has.at Ha49 hin50 rfl
    have pr51 : ∀ tg, Steps pP.tables eE below (T38.setTop (mkF mM 32 #[.val (.ref y), .val (.int (1 : Int32))] [(.int c0), (.int (0 : Int32)), (.ref b38), (.ref b38), (.ref b31), (.ref b31)])) tg → Steps pP.tables eE below (s₁.setTop (entryFrame mM #[(.ref y), (.int lv)] 2)) tg := fun tg kg => pr47 _ (by
      show Steps pP.tables eE below (T38.setTop (mkF mM 27 #[.val (.ref y), .val (.int (1 : Int32))] [(.ref b38), (.ref b31), (.ref b31)])) _
      refine XS.dup X38.here hx rfl (hb hby d3_27) rfl rfl ?_
      show Steps pP.tables eE below (T38.setTop (mkF mM 28 #[.val (.ref y), .val (.int (1 : Int32))] [(.ref b38), (.ref b38), (.ref b31), (.ref b31)])) _
      refine XS.iconst X38.here hx rfl (hb hby d3_28) ?_
      show Steps pP.tables eE below (T38.setTop (mkF mM 29 #[.val (.ref y), .val (.int (1 : Int32))] [(.int (0 : Int32)), (.ref b38), (.ref b38), (.ref b31), (.ref b31)])) _
      refine XS.aloadN X38.here hx rfl (hb hby d3_29) rfl rfl ?_
      show Steps pP.tables eE below (T38.setTop (mkF mM 30 #[.val (.ref y), .val (.int (1 : Int32))] [(.ref y), (.int (0 : Int32)), (.ref b38), (.ref b38), (.ref b31), (.ref b31)])) _
      refine XS.iconst X38.here hx rfl (hb hby d3_30) ?_
      show Steps pP.tables eE below (T38.setTop (mkF mM 31 #[.val (.ref y), .val (.int (1 : Int32))] [(.int (0 : Int32)), (.ref y), (.int (0 : Int32)), (.ref b38), (.ref b38), (.ref b31), (.ref b31)])) _
      refine X38.caload hx (j := (0 : Int32)) (v := (.int c0)) (by rw [e38]; exact Ara49.1) (State.isArrayOf_alike hZ.alike Ara49.2.1) Ara49.2.2 hin50 hat50 (g := (mkF mM 31 #[.val (.ref y), .val (.int (1 : Int32))] [(.int (0 : Int32)), (.ref y), (.int (0 : Int32)), (.ref b38), (.ref b38), (.ref b31), (.ref b31)])) rfl rfl (hb hby d3_31) _ ?_
      exact kg)
    obtain ⟨cla52, Ara52, qa52, Sa52, Ma52, Ha52, Ga52⟩ := id V38
    have hin53 : ¬ ((0 : Int32) < 0 ∨ cla52.slots.size ≤ ((0 : Int32)).toNatClampNeg) := inb_of Sa52 ⟨by decide, by decide⟩
    obtain ⟨T53, h53, X53, e53, W53, st53⟩ := stC X38 hx hZ e38 Ara52 (j := (0 : Int32)) hin53 (g := (mkF mM 32 #[.val (.ref y), .val (.int (1 : Int32))] [(.int c0), (.int (0 : Int32)), (.ref b38), (.ref b38), (.ref b31), (.ref b31)])) rfl rfl (hb hby d3_32)
    have V53 : Arv Z h53 b38 k38 .char (1 : Int32) [(.int (nar .char c0))] (.int (0 : Int32)) := Arv.set Ara52 qa52 Sa52 Ma52 Ha52 Ga52 (fits_nar_char _) W53 0 rfl (Nat.le_of_ble_eq_true rfl)
    have N53 := Fr.snoc X53 N0 gn42
    have sf54_b31 := Safe.wr W53 sf46_b38 cr46.1 sf46_b31
    have sf54_b38 := Safe.wr W53 sf46_b38 cr46.1 sf46_b38
    have cr54 := CHr.trans cr46 (CHr.wr W53 sf46_b38 cr46.1)
    have pr55 : ∀ tg, Steps pP.tables eE below (T53.setTop (mkF mM 33 #[.val (.ref y), .val (.int (1 : Int32))] [(.ref b38), (.ref b31), (.ref b31)])) tg → Steps pP.tables eE below (s₁.setTop (entryFrame mM #[(.ref y), (.int lv)] 2)) tg := fun tg kg => pr51 _ (st53 _ kg)
    have hp : ∀ c ∈ ([(nar .char c0)] : List Int32), ¬ c < 0 ∧ ¬ (255 : Int32) < c := by
      intro c hc
      simp only [List.mem_cons, List.not_mem_nil, or_false] at hc
      rcases hc with rfl
      · exact own_nb2 hc0
    have c56 := (Exa.wr W53 (Exa.ext E38 A31))
    have c57 := (Fld.other W53 (Fld.ext E38 F31_value) (Or.inl ne41))
    have c58 := (Fld.other W53 (Fld.ext E38 F31_coder) (Or.inl ne41))
    have c59 := (Old.wr (Old.ext (Old.ext O E31) E38) W53 gn42)
    have c60 := (Nat.le_trans (Nat.le_trans c43 E38.1) (Keep.of_wr W53).1)
    obtain ⟨_, _, ⟨T61, L61, kk61, nn61⟩, -, X61, ⟨Lc61, hQ61, l61, y61, z61⟩, st61⟩ := X53.specialBack hx (y := (⟨"java/lang/String", "<init>", "([C)V"⟩ : MethodName)) rfl hown (mvT hZ (hw _ (List.mem_of_getElem? (i := 55) rfl))) (mvT hZ (hw _ (List.mem_of_getElem? (i := 56) rfl))) (mvT hZ (hw _ (List.mem_of_getElem? (i := 57) rfl))) (by decide) (StrChars.Road.backV (W := 1) hZ (own_wB hw) (kI := 4) (hw _ (List.mem_of_getElem? (i := 2) rfl)) (cs := ([(nar .char c0)] : List Int32)) (bs := (([(nar .char c0)] : List Int32)).map (fun c => c.toInt8.toInt32)) (n := 1) gn33 c60 c56 c57 c58 V53 (Sta.ext (c59).2 S_cs) hcs rfl rfl (by decide) (by decide) hp rfl (by decide) (by decide)) (g := (mkF mM 33 #[.val (.ref y), .val (.int (1 : Int32))] [(.ref b38), (.ref b31), (.ref b31)])) rfl (by rw [hml]; rfl) (Steps.refl _) (a := b31) (argsL := [(.ref b38)]) (rest := [(.ref b31)]) (lenOf pd_8 rfl) rfl (by show 2 * 0 + _ ≤ _; exact Nat.le_of_eq rfl) (hb hby d3_33) (fun _ _ => ⟨rfl, e53, (by decide : 2 + 1 ≤ _), (by decide : 5 + 1 ≤ _)⟩)
    dsimp only [Pt.U, Pt.locs, Pt.cells, Pt.slots] at X61 l61 y61 z61 st61 hQ61
    subst l61 y61 z61
    obtain ⟨rfl, Nq61, K61, E61, Fc61, tn61, kt61, -, ge61, -, Fv61, V61⟩ := hQ61
    have N61 := Fr.app N53 Nq61
    have sf62_b31 := Safe.keep K61 (sfS sf54_b31 sf0) cr54.1 sf54_b31
    have sf62_b38 := Safe.keep K61 (sfS sf54_b31 sf0) cr54.1 sf54_b38
    have cr62 := CHr.trans cr54 (CHr.keep K61 (sfS sf54_b31 sf0) cr54.1)
    have pr63 : ∀ tg, Steps pP.tables eE below (T61.setTop (mkF mM 36 #[.val (.ref y), .val (.int (1 : Int32))] [(.ref b31)])) tg → Steps pP.tables eE below (s₁.setTop (entryFrame mM #[(.ref y), (.int lv)] 2)) tg := fun tg kg => pr55 _ (st61.trans kg)
    have c64 := (Keep.trans (Keep.wr (Keep.ext c45 E38) W53 (Or.inr gs44)) K61 (allS (Or.inr gs34) all0))
    have c65 := (Nat.le_trans (Nat.le_trans (Nat.le_trans (Nat.le_trans (Nat.zero_le _) E31.1) E38.1) (Keep.of_wr W53).1) K61.1)
    obtain ⟨fs, hr, hrun, hended, hW⟩ := Jvm.Stand.leaveW (s := sS) (vm₁ := sS.vm) X61 hS (Nat.le_trans c65 (Nat.le_of_eq (congrArg Array.size (rfl : T61.heap = T61.heap).symm))) (v := some (.ref b31)) (fun h => by rw [Bd.returns] at h; cases h)
    have crE := CHr.trans cr62 (CHv.at (s := sS) (vm0 := sS.vm) X61 hZ hEW cr62.1)
    refine ⟨_, _, pr63 _ (retOut X61 hx (t := (.object "java/lang/String")) Bd.returns rfl (Or.inr (Or.inr (Or.inr (Or.inr ⟨rfl, rfl, rfl⟩)))) (hb hby d3_36) hr), hrun, hended, _, _, rfl, ?_, ?_, hW.1, hW.2.1, hW.2.2.1, hW.2.2.2.mono (by decide) (by decide)⟩
    rotate_left
    · show CHr Z consts_1 sS.vm sS.heap T61.vm T61.heap
      rw [hh]; exact crE
    show Q3 Z cs y ky c0 c1 c2 c3 c4 c5 lv h0 n0 _ T61.heap _
    exact ⟨b31, tn61, _, ([(nar .char c0)] : List Int32), rfl, N61, c64, E61, Fv61, Fc61, V61, hp, Nat.le_of_ble_eq_true rfl⟩
  ·
    have pr66 : ∀ tg, Steps pP.tables eE below (s₁.setTop (mkF mM 42 #[.val (.ref y), .val (.int (2 : Int32))] [])) tg → Steps pP.tables eE below (s₁.setTop (entryFrame mM #[(.ref y), (.int lv)] 2)) tg := fun tg kg => pr2 _ (by
      show Steps pP.tables eE below (s₁.setTop (mkF mM 0 #[.val (.ref y), .val (.int (2 : Int32))] [])) _
      refine XS.iloadN X0.here hx rfl (hb hby d3_0) rfl ?_
      show Steps pP.tables eE below (s₁.setTop (mkF mM 1 #[.val (.ref y), .val (.int (2 : Int32))] [(.int (2 : Int32))])) _
      refine XS.ifYes X0.here hx rfl (pc0 := 1) (pc' := 15) rfl (hb hby d3_1) rfl ((if0 _ _).trans (feq (by decide)).2) (by decide) (by decide) ?_
      show Steps pP.tables eE below (s₁.setTop (mkF mM 15 #[.val (.ref y), .val (.int (2 : Int32))] [])) _
      refine XS.iloadN X0.here hx rfl (hb hby d3_15) rfl ?_
      show Steps pP.tables eE below (s₁.setTop (mkF mM 16 #[.val (.ref y), .val (.int (2 : Int32))] [(.int (2 : Int32))])) _
      refine XS.iconst X0.here hx rfl (hb hby d3_16) ?_
      show Steps pP.tables eE below (s₁.setTop (mkF mM 17 #[.val (.ref y), .val (.int (2 : Int32))] [(.int (1 : Int32)), (.int (2 : Int32))])) _
      refine XS.icmpYes X0.here hx rfl (pc0 := 17) (pc' := 37) rfl (hb hby d3_17) rfl (feq (by decide)).2 (by decide) (by decide) ?_
      show Steps pP.tables eE below (s₁.setTop (mkF mM 37 #[.val (.ref y), .val (.int (2 : Int32))] [])) _
      refine XS.iloadN X0.here hx rfl (hb hby d3_37) rfl ?_
      show Steps pP.tables eE below (s₁.setTop (mkF mM 38 #[.val (.ref y), .val (.int (2 : Int32))] [(.int (2 : Int32))])) _
      refine XS.iconst X0.here hx rfl (hb hby d3_38) ?_
      show Steps pP.tables eE below (s₁.setTop (mkF mM 39 #[.val (.ref y), .val (.int (2 : Int32))] [(.int (2 : Int32)), (.int (2 : Int32))])) _
      refine XS.icmpNo X0.here hx rfl (hb hby d3_39) rfl (teq (by decide)).2 ?_
      exact kg)
    obtain ⟨T67, h67, X67, e67, E67, A67, D67, -, st67⟩ := newO X0 hx hZ hown (hw _ (List.mem_of_getElem? (i := 54) rfl)) (hw _ (List.mem_of_getElem? (i := 2) rfl)) (hw _ (List.mem_of_getElem? (i := 1) rfl)) e0 (g := (mkF mM 42 #[.val (.ref y), .val (.int (2 : Int32))] [])) rfl (hb hby d3_42) (by decide) (by decide)
    obtain ⟨b67, g67⟩ : ∃ z, z = (h0).size := ⟨_, rfl⟩
    rw [← g67] at A67 D67 st67
    have ne68 : y ≠ b67 := Nat.ne_of_lt (Nat.lt_of_lt_of_le (V_y).lt (Nat.le_of_eq g67.symm))
    have gn69 : n0 ≤ b67 := Nat.le_trans Z0 (Nat.le_of_eq g67.symm)
    have gs70 : h0.size ≤ b67 := Nat.le_trans (Keep.refl h0 []).1 (Nat.le_of_eq g67.symm)
    have sf71_b67 : Safe Z consts_1 sS.vm _ b67 := Safe.ext E67 cr0.1 (Safe.new (Nat.le_of_eq g67.symm))
    have cr71 := CHr.trans cr0 (CHr.ext E67 cr0.1)
    have F67_value : Fld Z h67 b67 "java/lang/String" "value" "[B" .null := D67 (Or.inr (hw _ (List.mem_of_getElem? (i := 4) rfl))) (ty := (.array .byte)) (by decide)
    have F67_coder : Fld Z h67 b67 "java/lang/String" "coder" "B" (.int (0 : Int32)) := D67 (Or.inr (hw _ (List.mem_of_getElem? (i := 5) rfl))) (ty := .byte) (by decide)
    have pr72 : ∀ tg, Steps pP.tables eE below (T67.setTop (mkF mM 45 #[.val (.ref y), .val (.int (2 : Int32))] [(.ref b67)])) tg → Steps pP.tables eE below (s₁.setTop (entryFrame mM #[(.ref y), (.int lv)] 2)) tg := fun tg kg => pr66 _ (st67 _ kg)
    have pr73 : ∀ tg, Steps pP.tables eE below (T67.setTop (mkF mM 47 #[.val (.ref y), .val (.int (2 : Int32))] [(.int (2 : Int32)), (.ref b67), (.ref b67)])) tg → Steps pP.tables eE below (s₁.setTop (entryFrame mM #[(.ref y), (.int lv)] 2)) tg := fun tg kg => pr72 _ (by
      show Steps pP.tables eE below (T67.setTop (mkF mM 45 #[.val (.ref y), .val (.int (2 : Int32))] [(.ref b67)])) _
      refine XS.dup X67.here hx rfl (hb hby d3_45) rfl rfl ?_
      show Steps pP.tables eE below (T67.setTop (mkF mM 46 #[.val (.ref y), .val (.int (2 : Int32))] [(.ref b67), (.ref b67)])) _
      refine XS.iconst X67.here hx rfl (hb hby d3_46) ?_
      exact kg)
    obtain ⟨T74, h74, k74, X74, e74, E74, A74, Ex74, st74⟩ := newPE X67 hx hZ (hw _ (List.mem_of_getElem? (i := 21) rfl)) e67 (g := (mkF mM 47 #[.val (.ref y), .val (.int (2 : Int32))] [(.int (2 : Int32)), (.ref b67), (.ref b67)])) rfl (hb hby d3_47) rfl (by decide) (cap := 2) (by decide) (by decide) (by decide) (by decide) (ad := "[C") rfl
    obtain ⟨b74, g74⟩ : ∃ z, z = (h67).size := ⟨_, rfl⟩
    rw [← g74] at A74 Ex74 st74
    have c76 := (Arv.ext V_y E67)
    have ne75 : y ≠ b74 := Nat.ne_of_lt (Nat.lt_of_lt_of_le (c76).lt (Nat.le_of_eq g74.symm))
    have ne77 : b67 ≠ b74 := Nat.ne_of_lt (Nat.lt_of_lt_of_le (A67).lt (Nat.le_of_eq g74.symm))
    have c79 := (Nat.le_trans Z0 E67.1)
    have gn78 : n0 ≤ b74 := Nat.le_trans c79 (Nat.le_of_eq g74.symm)
    have c81 := (Keep.ext (Keep.refl h0 []) E67)
    have gs80 : h0.size ≤ b74 := Nat.le_trans c81.1 (Nat.le_of_eq g74.symm)
    have sf82_b67 := Safe.ext E74 cr71.1 sf71_b67
    have sf82_b74 : Safe Z consts_1 sS.vm _ b74 := Safe.ext E74 cr71.1 (Safe.new (Nat.le_of_eq g74.symm))
    have cr82 := CHr.trans cr71 (CHr.ext E74 cr71.1)
    have V74 : Arv Z h74 b74 k74 .char (2 : Int32) [(.int (0 : Int32)), (.int (0 : Int32))] (.int (0 : Int32)) := (Arv.new A74 (by decide)).pad (pad_rep [] (.int (0 : Int32)) 2)
    have pr83 : ∀ tg, Steps pP.tables eE below (T74.setTop (mkF mM 49 #[.val (.ref y), .val (.int (2 : Int32))] [(.ref b74), (.ref b67), (.ref b67)])) tg → Steps pP.tables eE below (s₁.setTop (entryFrame mM #[(.ref y), (.int lv)] 2)) tg := fun tg kg => pr73 _ (st74 _ kg)
    have c84 := (Arv.ext c76 E74)
    obtain ⟨cla85, Ara85, qa85, Sa85, Ma85, Ha85, Ga85⟩ := id c84
    have hin86 : ¬ ((0 : Int32) < 0 ∨ cla85.slots.size ≤ ((0 : Int32)).toNatClampNeg) := inb_of Sa85 ⟨by decide, by decide⟩
    have hat86 : cla85.slots[((0 : Int32)).toNatClampNeg]? = some (.int c0) := Has.at Ha85 hin86 rfl
    have pr87 : ∀ tg, Steps pP.tables eE below (T74.setTop (mkF mM 54 #[.val (.ref y), .val (.int (2 : Int32))] [(.int c0), (.int (0 : Int32)), (.ref b74), (.ref b74), (.ref b67), (.ref b67)])) tg → Steps pP.tables eE below (s₁.setTop (entryFrame mM #[(.ref y), (.int lv)] 2)) tg := fun tg kg => pr83 _ (by
      show Steps pP.tables eE below (T74.setTop (mkF mM 49 #[.val (.ref y), .val (.int (2 : Int32))] [(.ref b74), (.ref b67), (.ref b67)])) _
      refine XS.dup X74.here hx rfl (hb hby d3_49) rfl rfl ?_
      show Steps pP.tables eE below (T74.setTop (mkF mM 50 #[.val (.ref y), .val (.int (2 : Int32))] [(.ref b74), (.ref b74), (.ref b67), (.ref b67)])) _
      refine XS.iconst X74.here hx rfl (hb hby d3_50) ?_
      show Steps pP.tables eE below (T74.setTop (mkF mM 51 #[.val (.ref y), .val (.int (2 : Int32))] [(.int (0 : Int32)), (.ref b74), (.ref b74), (.ref b67), (.ref b67)])) _
      refine XS.aloadN X74.here hx rfl (hb hby d3_51) rfl rfl ?_
      show Steps pP.tables eE below (T74.setTop (mkF mM 52 #[.val (.ref y), .val (.int (2 : Int32))] [(.ref y), (.int (0 : Int32)), (.ref b74), (.ref b74), (.ref b67), (.ref b67)])) _
      refine XS.iconst X74.here hx rfl (hb hby d3_52) ?_
      show Steps pP.tables eE below (T74.setTop (mkF mM 53 #[.val (.ref y), .val (.int (2 : Int32))] [(.int (0 : Int32)), (.ref y), (.int (0 : Int32)), (.ref b74), (.ref b74), (.ref b67), (.ref b67)])) _
      refine X74.caload hx (j := (0 : Int32)) (v := (.int c0)) (by rw [e74]; exact Ara85.1) (State.isArrayOf_alike hZ.alike Ara85.2.1) Ara85.2.2 hin86 hat86 (g := (mkF mM 53 #[.val (.ref y), .val (.int (2 : Int32))] [(.int (0 : Int32)), (.ref y), (.int (0 : Int32)), (.ref b74), (.ref b74), (.ref b67), (.ref b67)])) rfl rfl (hb hby d3_53) _ ?_
      exact kg)
    obtain ⟨cla88, Ara88, qa88, Sa88, Ma88, Ha88, Ga88⟩ := id V74
    have hin89 : ¬ ((0 : Int32) < 0 ∨ cla88.slots.size ≤ ((0 : Int32)).toNatClampNeg) := inb_of Sa88 ⟨by decide, by decide⟩
    obtain ⟨T89, h89, X89, e89, W89, st89⟩ := stC X74 hx hZ e74 Ara88 (j := (0 : Int32)) hin89 (g := (mkF mM 54 #[.val (.ref y), .val (.int (2 : Int32))] [(.int c0), (.int (0 : Int32)), (.ref b74), (.ref b74), (.ref b67), (.ref b67)])) rfl rfl (hb hby d3_54)
    have V89 : Arv Z h89 b74 k74 .char (2 : Int32) [(.int (nar .char c0)), (.int (0 : Int32))] (.int (0 : Int32)) := Arv.set Ara88 qa88 Sa88 Ma88 Ha88 Ga88 (fits_nar_char _) W89 0 rfl (Nat.le_of_ble_eq_true rfl)
    have N89 := Fr.snoc X89 N0 gn78
    have sf90_b67 := Safe.wr W89 sf82_b74 cr82.1 sf82_b67
    have sf90_b74 := Safe.wr W89 sf82_b74 cr82.1 sf82_b74
    have cr90 := CHr.trans cr82 (CHr.wr W89 sf82_b74 cr82.1)
    have pr91 : ∀ tg, Steps pP.tables eE below (T89.setTop (mkF mM 55 #[.val (.ref y), .val (.int (2 : Int32))] [(.ref b74), (.ref b67), (.ref b67)])) tg → Steps pP.tables eE below (s₁.setTop (entryFrame mM #[(.ref y), (.int lv)] 2)) tg := fun tg kg => pr87 _ (st89 _ kg)
    have c92 := (Arv.other c84 W89 ne75)
    obtain ⟨cla93, Ara93, qa93, Sa93, Ma93, Ha93, Ga93⟩ := id c92
    have hin94 : ¬ ((1 : Int32) < 0 ∨ cla93.slots.size ≤ ((1 : Int32)).toNatClampNeg) := inb_of Sa93 ⟨by decide, by decide⟩
    have hat94 : cla93.slots[((1 : Int32)).toNatClampNeg]? = some (.int c1) := Has.at Ha93 hin94 rfl
    have pr95 : ∀ tg, Steps pP.tables eE below (T89.setTop (mkF mM 60 #[.val (.ref y), .val (.int (2 : Int32))] [(.int c1), (.int (1 : Int32)), (.ref b74), (.ref b74), (.ref b67), (.ref b67)])) tg → Steps pP.tables eE below (s₁.setTop (entryFrame mM #[(.ref y), (.int lv)] 2)) tg := fun tg kg => pr91 _ (by
      show Steps pP.tables eE below (T89.setTop (mkF mM 55 #[.val (.ref y), .val (.int (2 : Int32))] [(.ref b74), (.ref b67), (.ref b67)])) _
      refine XS.dup X89.here hx rfl (hb hby d3_55) rfl rfl ?_
      show Steps pP.tables eE below (T89.setTop (mkF mM 56 #[.val (.ref y), .val (.int (2 : Int32))] [(.ref b74), (.ref b74), (.ref b67), (.ref b67)])) _
      refine XS.iconst X89.here hx rfl (hb hby d3_56) ?_
      show Steps pP.tables eE below (T89.setTop (mkF mM 57 #[.val (.ref y), .val (.int (2 : Int32))] [(.int (1 : Int32)), (.ref b74), (.ref b74), (.ref b67), (.ref b67)])) _
      refine XS.aloadN X89.here hx rfl (hb hby d3_57) rfl rfl ?_
      show Steps pP.tables eE below (T89.setTop (mkF mM 58 #[.val (.ref y), .val (.int (2 : Int32))] [(.ref y), (.int (1 : Int32)), (.ref b74), (.ref b74), (.ref b67), (.ref b67)])) _
      refine XS.iconst X89.here hx rfl (hb hby d3_58) ?_
      show Steps pP.tables eE below (T89.setTop (mkF mM 59 #[.val (.ref y), .val (.int (2 : Int32))] [(.int (1 : Int32)), (.ref y), (.int (1 : Int32)), (.ref b74), (.ref b74), (.ref b67), (.ref b67)])) _
      refine X89.caload hx (j := (1 : Int32)) (v := (.int c1)) (by rw [e89]; exact Ara93.1) (State.isArrayOf_alike hZ.alike Ara93.2.1) Ara93.2.2 hin94 hat94 (g := (mkF mM 59 #[.val (.ref y), .val (.int (2 : Int32))] [(.int (1 : Int32)), (.ref y), (.int (1 : Int32)), (.ref b74), (.ref b74), (.ref b67), (.ref b67)])) rfl rfl (hb hby d3_59) _ ?_
      exact kg)
    obtain ⟨cla96, Ara96, qa96, Sa96, Ma96, Ha96, Ga96⟩ := id V89
    have hin97 : ¬ ((1 : Int32) < 0 ∨ cla96.slots.size ≤ ((1 : Int32)).toNatClampNeg) := inb_of Sa96 ⟨by decide, by decide⟩
    obtain ⟨T97, h97, X97, e97, W97, st97⟩ := stC X89 hx hZ e89 Ara96 (j := (1 : Int32)) hin97 (g := (mkF mM 60 #[.val (.ref y), .val (.int (2 : Int32))] [(.int c1), (.int (1 : Int32)), (.ref b74), (.ref b74), (.ref b67), (.ref b67)])) rfl rfl (hb hby d3_60)
    have V97 : Arv Z h97 b74 k74 .char (2 : Int32) [(.int (nar .char c0)), (.int (nar .char c1))] (.int (0 : Int32)) := Arv.set Ara96 qa96 Sa96 Ma96 Ha96 Ga96 (fits_nar_char _) W97 1 rfl (Nat.le_of_ble_eq_true rfl)
    have N97 := Fr.snoc X97 N89 gn78
    have sf98_b67 := Safe.wr W97 sf90_b74 cr90.1 sf90_b67
    have sf98_b74 := Safe.wr W97 sf90_b74 cr90.1 sf90_b74
    have cr98 := CHr.trans cr90 (CHr.wr W97 sf90_b74 cr90.1)
    have pr99 : ∀ tg, Steps pP.tables eE below (T97.setTop (mkF mM 61 #[.val (.ref y), .val (.int (2 : Int32))] [(.ref b74), (.ref b67), (.ref b67)])) tg → Steps pP.tables eE below (s₁.setTop (entryFrame mM #[(.ref y), (.int lv)] 2)) tg := fun tg kg => pr95 _ (st97 _ kg)
    have hp : ∀ c ∈ ([(nar .char c0), (nar .char c1)] : List Int32), ¬ c < 0 ∧ ¬ (255 : Int32) < c := by
      intro c hc
      simp only [List.mem_cons, List.not_mem_nil, or_false] at hc
      rcases hc with rfl | rfl
      · exact own_nb2 hc0
      · exact own_nb2 hc1
    have c100 := (Exa.wr W97 (Exa.wr W89 (Exa.ext E74 A67)))
    have c101 := (Fld.other W97 (Fld.other W89 (Fld.ext E74 F67_value) (Or.inl ne77)) (Or.inl ne77))
    have c102 := (Fld.other W97 (Fld.other W89 (Fld.ext E74 F67_coder) (Or.inl ne77)) (Or.inl ne77))
    have c103 := (Old.wr (Old.wr (Old.ext (Old.ext O E67) E74) W89 gn78) W97 gn78)
    have c104 := (Nat.le_trans (Nat.le_trans (Nat.le_trans c79 E74.1) (Keep.of_wr W89).1) (Keep.of_wr W97).1)
    obtain ⟨_, _, ⟨T105, L105, kk105, nn105⟩, -, X105, ⟨Lc105, hQ105, l105, y105, z105⟩, st105⟩ := X97.specialBack hx (y := (⟨"java/lang/String", "<init>", "([C)V"⟩ : MethodName)) rfl hown (mvT hZ (hw _ (List.mem_of_getElem? (i := 55) rfl))) (mvT hZ (hw _ (List.mem_of_getElem? (i := 56) rfl))) (mvT hZ (hw _ (List.mem_of_getElem? (i := 57) rfl))) (by decide) (StrChars.Road.backV (W := 1) hZ (own_wB hw) (kI := 4) (hw _ (List.mem_of_getElem? (i := 2) rfl)) (cs := ([(nar .char c0), (nar .char c1)] : List Int32)) (bs := (([(nar .char c0), (nar .char c1)] : List Int32)).map (fun c => c.toInt8.toInt32)) (n := 2) gn69 c104 c100 c101 c102 V97 (Sta.ext (c103).2 S_cs) hcs rfl rfl (by decide) (by decide) hp rfl (by decide) (by decide)) (g := (mkF mM 61 #[.val (.ref y), .val (.int (2 : Int32))] [(.ref b74), (.ref b67), (.ref b67)])) rfl (by rw [hml]; rfl) (Steps.refl _) (a := b67) (argsL := [(.ref b74)]) (rest := [(.ref b67)]) (lenOf pd_8 rfl) rfl (by show 2 * 0 + _ ≤ _; exact Nat.le_of_eq rfl) (hb hby d3_61) (fun _ _ => ⟨rfl, e97, (by decide : 2 + 1 ≤ _), (by decide : 6 + 2 ≤ _)⟩)
    dsimp only [Pt.U, Pt.locs, Pt.cells, Pt.slots] at X105 l105 y105 z105 st105 hQ105
    subst l105 y105 z105
    obtain ⟨rfl, Nq105, K105, E105, Fc105, tn105, kt105, -, ge105, -, Fv105, V105⟩ := hQ105
    have N105 := Fr.app N97 Nq105
    have sf106_b67 := Safe.keep K105 (sfS sf98_b67 sf0) cr98.1 sf98_b67
    have sf106_b74 := Safe.keep K105 (sfS sf98_b67 sf0) cr98.1 sf98_b74
    have cr106 := CHr.trans cr98 (CHr.keep K105 (sfS sf98_b67 sf0) cr98.1)
    have pr107 : ∀ tg, Steps pP.tables eE below (T105.setTop (mkF mM 64 #[.val (.ref y), .val (.int (2 : Int32))] [(.ref b67)])) tg → Steps pP.tables eE below (s₁.setTop (entryFrame mM #[(.ref y), (.int lv)] 2)) tg := fun tg kg => pr99 _ (st105.trans kg)
    have c108 := (Keep.trans (Keep.wr (Keep.wr (Keep.ext c81 E74) W89 (Or.inr gs80)) W97 (Or.inr gs80)) K105 (allS (Or.inr gs70) all0))
    have c109 := (Nat.le_trans (Nat.le_trans (Nat.le_trans (Nat.le_trans (Nat.le_trans (Nat.zero_le _) E67.1) E74.1) (Keep.of_wr W89).1) (Keep.of_wr W97).1) K105.1)
    obtain ⟨fs, hr, hrun, hended, hW⟩ := Jvm.Stand.leaveW (s := sS) (vm₁ := sS.vm) X105 hS (Nat.le_trans c109 (Nat.le_of_eq (congrArg Array.size (rfl : T105.heap = T105.heap).symm))) (v := some (.ref b67)) (fun h => by rw [Bd.returns] at h; cases h)
    have crE := CHr.trans cr106 (CHv.at (s := sS) (vm0 := sS.vm) X105 hZ hEW cr106.1)
    refine ⟨_, _, pr107 _ (retOut X105 hx (t := (.object "java/lang/String")) Bd.returns rfl (Or.inr (Or.inr (Or.inr (Or.inr ⟨rfl, rfl, rfl⟩)))) (hb hby d3_64) hr), hrun, hended, _, _, rfl, ?_, ?_, hW.1, hW.2.1, hW.2.2.1, hW.2.2.2.mono (by decide) (by decide)⟩
    rotate_left
    · show CHr Z consts_1 sS.vm sS.heap T105.vm T105.heap
      rw [hh]; exact crE
    show Q3 Z cs y ky c0 c1 c2 c3 c4 c5 lv h0 n0 _ T105.heap _
    exact ⟨b67, tn105, _, ([(nar .char c0), (nar .char c1)] : List Int32), rfl, N105, c108, E105, Fv105, Fc105, V105, hp, Nat.le_of_ble_eq_true rfl⟩
  ·
    have pr110 : ∀ tg, Steps pP.tables eE below (s₁.setTop (mkF mM 70 #[.val (.ref y), .val (.int (3 : Int32))] [])) tg → Steps pP.tables eE below (s₁.setTop (entryFrame mM #[(.ref y), (.int lv)] 2)) tg := fun tg kg => pr2 _ (by
      show Steps pP.tables eE below (s₁.setTop (mkF mM 0 #[.val (.ref y), .val (.int (3 : Int32))] [])) _
      refine XS.iloadN X0.here hx rfl (hb hby d3_0) rfl ?_
      show Steps pP.tables eE below (s₁.setTop (mkF mM 1 #[.val (.ref y), .val (.int (3 : Int32))] [(.int (3 : Int32))])) _
      refine XS.ifYes X0.here hx rfl (pc0 := 1) (pc' := 15) rfl (hb hby d3_1) rfl ((if0 _ _).trans (feq (by decide)).2) (by decide) (by decide) ?_
      show Steps pP.tables eE below (s₁.setTop (mkF mM 15 #[.val (.ref y), .val (.int (3 : Int32))] [])) _
      refine XS.iloadN X0.here hx rfl (hb hby d3_15) rfl ?_
      show Steps pP.tables eE below (s₁.setTop (mkF mM 16 #[.val (.ref y), .val (.int (3 : Int32))] [(.int (3 : Int32))])) _
      refine XS.iconst X0.here hx rfl (hb hby d3_16) ?_
      show Steps pP.tables eE below (s₁.setTop (mkF mM 17 #[.val (.ref y), .val (.int (3 : Int32))] [(.int (1 : Int32)), (.int (3 : Int32))])) _
      refine XS.icmpYes X0.here hx rfl (pc0 := 17) (pc' := 37) rfl (hb hby d3_17) rfl (feq (by decide)).2 (by decide) (by decide) ?_
      show Steps pP.tables eE below (s₁.setTop (mkF mM 37 #[.val (.ref y), .val (.int (3 : Int32))] [])) _
      refine XS.iloadN X0.here hx rfl (hb hby d3_37) rfl ?_
      show Steps pP.tables eE below (s₁.setTop (mkF mM 38 #[.val (.ref y), .val (.int (3 : Int32))] [(.int (3 : Int32))])) _
      refine XS.iconst X0.here hx rfl (hb hby d3_38) ?_
      show Steps pP.tables eE below (s₁.setTop (mkF mM 39 #[.val (.ref y), .val (.int (3 : Int32))] [(.int (2 : Int32)), (.int (3 : Int32))])) _
      refine XS.icmpYes X0.here hx rfl (pc0 := 39) (pc' := 65) rfl (hb hby d3_39) rfl (feq (by decide)).2 (by decide) (by decide) ?_
      show Steps pP.tables eE below (s₁.setTop (mkF mM 65 #[.val (.ref y), .val (.int (3 : Int32))] [])) _
      refine XS.iloadN X0.here hx rfl (hb hby d3_65) rfl ?_
      show Steps pP.tables eE below (s₁.setTop (mkF mM 66 #[.val (.ref y), .val (.int (3 : Int32))] [(.int (3 : Int32))])) _
      refine XS.iconst X0.here hx rfl (hb hby d3_66) ?_
      show Steps pP.tables eE below (s₁.setTop (mkF mM 67 #[.val (.ref y), .val (.int (3 : Int32))] [(.int (3 : Int32)), (.int (3 : Int32))])) _
      refine XS.icmpNo X0.here hx rfl (hb hby d3_67) rfl (teq (by decide)).2 ?_
      exact kg)
    obtain ⟨T111, h111, X111, e111, E111, A111, D111, -, st111⟩ := newO X0 hx hZ hown (hw _ (List.mem_of_getElem? (i := 54) rfl)) (hw _ (List.mem_of_getElem? (i := 2) rfl)) (hw _ (List.mem_of_getElem? (i := 1) rfl)) e0 (g := (mkF mM 70 #[.val (.ref y), .val (.int (3 : Int32))] [])) rfl (hb hby d3_70) (by decide) (by decide)
    obtain ⟨b111, g111⟩ : ∃ z, z = (h0).size := ⟨_, rfl⟩
    rw [← g111] at A111 D111 st111
    have ne112 : y ≠ b111 := Nat.ne_of_lt (Nat.lt_of_lt_of_le (V_y).lt (Nat.le_of_eq g111.symm))
    have gn113 : n0 ≤ b111 := Nat.le_trans Z0 (Nat.le_of_eq g111.symm)
    have gs114 : h0.size ≤ b111 := Nat.le_trans (Keep.refl h0 []).1 (Nat.le_of_eq g111.symm)
    have sf115_b111 : Safe Z consts_1 sS.vm _ b111 := Safe.ext E111 cr0.1 (Safe.new (Nat.le_of_eq g111.symm))
    have cr115 := CHr.trans cr0 (CHr.ext E111 cr0.1)
    have F111_value : Fld Z h111 b111 "java/lang/String" "value" "[B" .null := D111 (Or.inr (hw _ (List.mem_of_getElem? (i := 4) rfl))) (ty := (.array .byte)) (by decide)
    have F111_coder : Fld Z h111 b111 "java/lang/String" "coder" "B" (.int (0 : Int32)) := D111 (Or.inr (hw _ (List.mem_of_getElem? (i := 5) rfl))) (ty := .byte) (by decide)
    have pr116 : ∀ tg, Steps pP.tables eE below (T111.setTop (mkF mM 73 #[.val (.ref y), .val (.int (3 : Int32))] [(.ref b111)])) tg → Steps pP.tables eE below (s₁.setTop (entryFrame mM #[(.ref y), (.int lv)] 2)) tg := fun tg kg => pr110 _ (st111 _ kg)
    have pr117 : ∀ tg, Steps pP.tables eE below (T111.setTop (mkF mM 75 #[.val (.ref y), .val (.int (3 : Int32))] [(.int (3 : Int32)), (.ref b111), (.ref b111)])) tg → Steps pP.tables eE below (s₁.setTop (entryFrame mM #[(.ref y), (.int lv)] 2)) tg := fun tg kg => pr116 _ (by
      show Steps pP.tables eE below (T111.setTop (mkF mM 73 #[.val (.ref y), .val (.int (3 : Int32))] [(.ref b111)])) _
      refine XS.dup X111.here hx rfl (hb hby d3_73) rfl rfl ?_
      show Steps pP.tables eE below (T111.setTop (mkF mM 74 #[.val (.ref y), .val (.int (3 : Int32))] [(.ref b111), (.ref b111)])) _
      refine XS.iconst X111.here hx rfl (hb hby d3_74) ?_
      exact kg)
    obtain ⟨T118, h118, k118, X118, e118, E118, A118, Ex118, st118⟩ := newPE X111 hx hZ (hw _ (List.mem_of_getElem? (i := 21) rfl)) e111 (g := (mkF mM 75 #[.val (.ref y), .val (.int (3 : Int32))] [(.int (3 : Int32)), (.ref b111), (.ref b111)])) rfl (hb hby d3_75) rfl (by decide) (cap := 3) (by decide) (by decide) (by decide) (by decide) (ad := "[C") rfl
    obtain ⟨b118, g118⟩ : ∃ z, z = (h111).size := ⟨_, rfl⟩
    rw [← g118] at A118 Ex118 st118
    have c120 := (Arv.ext V_y E111)
    have ne119 : y ≠ b118 := Nat.ne_of_lt (Nat.lt_of_lt_of_le (c120).lt (Nat.le_of_eq g118.symm))
    have ne121 : b111 ≠ b118 := Nat.ne_of_lt (Nat.lt_of_lt_of_le (A111).lt (Nat.le_of_eq g118.symm))
    have c123 := (Nat.le_trans Z0 E111.1)
    have gn122 : n0 ≤ b118 := Nat.le_trans c123 (Nat.le_of_eq g118.symm)
    have c125 := (Keep.ext (Keep.refl h0 []) E111)
    have gs124 : h0.size ≤ b118 := Nat.le_trans c125.1 (Nat.le_of_eq g118.symm)
    have sf126_b111 := Safe.ext E118 cr115.1 sf115_b111
    have sf126_b118 : Safe Z consts_1 sS.vm _ b118 := Safe.ext E118 cr115.1 (Safe.new (Nat.le_of_eq g118.symm))
    have cr126 := CHr.trans cr115 (CHr.ext E118 cr115.1)
    have V118 : Arv Z h118 b118 k118 .char (3 : Int32) [(.int (0 : Int32)), (.int (0 : Int32)), (.int (0 : Int32))] (.int (0 : Int32)) := (Arv.new A118 (by decide)).pad (pad_rep [] (.int (0 : Int32)) 3)
    have pr127 : ∀ tg, Steps pP.tables eE below (T118.setTop (mkF mM 77 #[.val (.ref y), .val (.int (3 : Int32))] [(.ref b118), (.ref b111), (.ref b111)])) tg → Steps pP.tables eE below (s₁.setTop (entryFrame mM #[(.ref y), (.int lv)] 2)) tg := fun tg kg => pr117 _ (st118 _ kg)
    have c128 := (Arv.ext c120 E118)
    obtain ⟨cla129, Ara129, qa129, Sa129, Ma129, Ha129, Ga129⟩ := id c128
    have hin130 : ¬ ((0 : Int32) < 0 ∨ cla129.slots.size ≤ ((0 : Int32)).toNatClampNeg) := inb_of Sa129 ⟨by decide, by decide⟩
    have hat130 : cla129.slots[((0 : Int32)).toNatClampNeg]? = some (.int c0) := Has.at Ha129 hin130 rfl
    have pr131 : ∀ tg, Steps pP.tables eE below (T118.setTop (mkF mM 82 #[.val (.ref y), .val (.int (3 : Int32))] [(.int c0), (.int (0 : Int32)), (.ref b118), (.ref b118), (.ref b111), (.ref b111)])) tg → Steps pP.tables eE below (s₁.setTop (entryFrame mM #[(.ref y), (.int lv)] 2)) tg := fun tg kg => pr127 _ (by
      show Steps pP.tables eE below (T118.setTop (mkF mM 77 #[.val (.ref y), .val (.int (3 : Int32))] [(.ref b118), (.ref b111), (.ref b111)])) _
      refine XS.dup X118.here hx rfl (hb hby d3_77) rfl rfl ?_
      show Steps pP.tables eE below (T118.setTop (mkF mM 78 #[.val (.ref y), .val (.int (3 : Int32))] [(.ref b118), (.ref b118), (.ref b111), (.ref b111)])) _
      refine XS.iconst X118.here hx rfl (hb hby d3_78) ?_
      show Steps pP.tables eE below (T118.setTop (mkF mM 79 #[.val (.ref y), .val (.int (3 : Int32))] [(.int (0 : Int32)), (.ref b118), (.ref b118), (.ref b111), (.ref b111)])) _
      refine XS.aloadN X118.here hx rfl (hb hby d3_79) rfl rfl ?_
      show Steps pP.tables eE below (T118.setTop (mkF mM 80 #[.val (.ref y), .val (.int (3 : Int32))] [(.ref y), (.int (0 : Int32)), (.ref b118), (.ref b118), (.ref b111), (.ref b111)])) _
      refine XS.iconst X118.here hx rfl (hb hby d3_80) ?_
      show Steps pP.tables eE below (T118.setTop (mkF mM 81 #[.val (.ref y), .val (.int (3 : Int32))] [(.int (0 : Int32)), (.ref y), (.int (0 : Int32)), (.ref b118), (.ref b118), (.ref b111), (.ref b111)])) _
      refine X118.caload hx (j := (0 : Int32)) (v := (.int c0)) (by rw [e118]; exact Ara129.1) (State.isArrayOf_alike hZ.alike Ara129.2.1) Ara129.2.2 hin130 hat130 (g := (mkF mM 81 #[.val (.ref y), .val (.int (3 : Int32))] [(.int (0 : Int32)), (.ref y), (.int (0 : Int32)), (.ref b118), (.ref b118), (.ref b111), (.ref b111)])) rfl rfl (hb hby d3_81) _ ?_
      exact kg)
    obtain ⟨cla132, Ara132, qa132, Sa132, Ma132, Ha132, Ga132⟩ := id V118
    have hin133 : ¬ ((0 : Int32) < 0 ∨ cla132.slots.size ≤ ((0 : Int32)).toNatClampNeg) := inb_of Sa132 ⟨by decide, by decide⟩
    obtain ⟨T133, h133, X133, e133, W133, st133⟩ := stC X118 hx hZ e118 Ara132 (j := (0 : Int32)) hin133 (g := (mkF mM 82 #[.val (.ref y), .val (.int (3 : Int32))] [(.int c0), (.int (0 : Int32)), (.ref b118), (.ref b118), (.ref b111), (.ref b111)])) rfl rfl (hb hby d3_82)
    have V133 : Arv Z h133 b118 k118 .char (3 : Int32) [(.int (nar .char c0)), (.int (0 : Int32)), (.int (0 : Int32))] (.int (0 : Int32)) := Arv.set Ara132 qa132 Sa132 Ma132 Ha132 Ga132 (fits_nar_char _) W133 0 rfl (Nat.le_of_ble_eq_true rfl)
    have N133 := Fr.snoc X133 N0 gn122
    have sf134_b111 := Safe.wr W133 sf126_b118 cr126.1 sf126_b111
    have sf134_b118 := Safe.wr W133 sf126_b118 cr126.1 sf126_b118
    have cr134 := CHr.trans cr126 (CHr.wr W133 sf126_b118 cr126.1)
    have pr135 : ∀ tg, Steps pP.tables eE below (T133.setTop (mkF mM 83 #[.val (.ref y), .val (.int (3 : Int32))] [(.ref b118), (.ref b111), (.ref b111)])) tg → Steps pP.tables eE below (s₁.setTop (entryFrame mM #[(.ref y), (.int lv)] 2)) tg := fun tg kg => pr131 _ (st133 _ kg)
    have c136 := (Arv.other c128 W133 ne119)
    obtain ⟨cla137, Ara137, qa137, Sa137, Ma137, Ha137, Ga137⟩ := id c136
    have hin138 : ¬ ((1 : Int32) < 0 ∨ cla137.slots.size ≤ ((1 : Int32)).toNatClampNeg) := inb_of Sa137 ⟨by decide, by decide⟩
    have hat138 : cla137.slots[((1 : Int32)).toNatClampNeg]? = some (.int c1) := Has.at Ha137 hin138 rfl
    have pr139 : ∀ tg, Steps pP.tables eE below (T133.setTop (mkF mM 88 #[.val (.ref y), .val (.int (3 : Int32))] [(.int c1), (.int (1 : Int32)), (.ref b118), (.ref b118), (.ref b111), (.ref b111)])) tg → Steps pP.tables eE below (s₁.setTop (entryFrame mM #[(.ref y), (.int lv)] 2)) tg := fun tg kg => pr135 _ (by
      show Steps pP.tables eE below (T133.setTop (mkF mM 83 #[.val (.ref y), .val (.int (3 : Int32))] [(.ref b118), (.ref b111), (.ref b111)])) _
      refine XS.dup X133.here hx rfl (hb hby d3_83) rfl rfl ?_
      show Steps pP.tables eE below (T133.setTop (mkF mM 84 #[.val (.ref y), .val (.int (3 : Int32))] [(.ref b118), (.ref b118), (.ref b111), (.ref b111)])) _
      refine XS.iconst X133.here hx rfl (hb hby d3_84) ?_
      show Steps pP.tables eE below (T133.setTop (mkF mM 85 #[.val (.ref y), .val (.int (3 : Int32))] [(.int (1 : Int32)), (.ref b118), (.ref b118), (.ref b111), (.ref b111)])) _
      refine XS.aloadN X133.here hx rfl (hb hby d3_85) rfl rfl ?_
      show Steps pP.tables eE below (T133.setTop (mkF mM 86 #[.val (.ref y), .val (.int (3 : Int32))] [(.ref y), (.int (1 : Int32)), (.ref b118), (.ref b118), (.ref b111), (.ref b111)])) _
      refine XS.iconst X133.here hx rfl (hb hby d3_86) ?_
      show Steps pP.tables eE below (T133.setTop (mkF mM 87 #[.val (.ref y), .val (.int (3 : Int32))] [(.int (1 : Int32)), (.ref y), (.int (1 : Int32)), (.ref b118), (.ref b118), (.ref b111), (.ref b111)])) _
      refine X133.caload hx (j := (1 : Int32)) (v := (.int c1)) (by rw [e133]; exact Ara137.1) (State.isArrayOf_alike hZ.alike Ara137.2.1) Ara137.2.2 hin138 hat138 (g := (mkF mM 87 #[.val (.ref y), .val (.int (3 : Int32))] [(.int (1 : Int32)), (.ref y), (.int (1 : Int32)), (.ref b118), (.ref b118), (.ref b111), (.ref b111)])) rfl rfl (hb hby d3_87) _ ?_
      exact kg)
    obtain ⟨cla140, Ara140, qa140, Sa140, Ma140, Ha140, Ga140⟩ := id V133
    have hin141 : ¬ ((1 : Int32) < 0 ∨ cla140.slots.size ≤ ((1 : Int32)).toNatClampNeg) := inb_of Sa140 ⟨by decide, by decide⟩
    obtain ⟨T141, h141, X141, e141, W141, st141⟩ := stC X133 hx hZ e133 Ara140 (j := (1 : Int32)) hin141 (g := (mkF mM 88 #[.val (.ref y), .val (.int (3 : Int32))] [(.int c1), (.int (1 : Int32)), (.ref b118), (.ref b118), (.ref b111), (.ref b111)])) rfl rfl (hb hby d3_88)
    have V141 : Arv Z h141 b118 k118 .char (3 : Int32) [(.int (nar .char c0)), (.int (nar .char c1)), (.int (0 : Int32))] (.int (0 : Int32)) := Arv.set Ara140 qa140 Sa140 Ma140 Ha140 Ga140 (fits_nar_char _) W141 1 rfl (Nat.le_of_ble_eq_true rfl)
    have N141 := Fr.snoc X141 N133 gn122
    have sf142_b111 := Safe.wr W141 sf134_b118 cr134.1 sf134_b111
    have sf142_b118 := Safe.wr W141 sf134_b118 cr134.1 sf134_b118
    have cr142 := CHr.trans cr134 (CHr.wr W141 sf134_b118 cr134.1)
    have pr143 : ∀ tg, Steps pP.tables eE below (T141.setTop (mkF mM 89 #[.val (.ref y), .val (.int (3 : Int32))] [(.ref b118), (.ref b111), (.ref b111)])) tg → Steps pP.tables eE below (s₁.setTop (entryFrame mM #[(.ref y), (.int lv)] 2)) tg := fun tg kg => pr139 _ (st141 _ kg)
    have c144 := (Arv.other c136 W141 ne119)
    obtain ⟨cla145, Ara145, qa145, Sa145, Ma145, Ha145, Ga145⟩ := id c144
    have hin146 : ¬ ((2 : Int32) < 0 ∨ cla145.slots.size ≤ ((2 : Int32)).toNatClampNeg) := inb_of Sa145 ⟨by decide, by decide⟩
    have hat146 : cla145.slots[((2 : Int32)).toNatClampNeg]? = some (.int c2) := Has.at Ha145 hin146 rfl
    have pr147 : ∀ tg, Steps pP.tables eE below (T141.setTop (mkF mM 94 #[.val (.ref y), .val (.int (3 : Int32))] [(.int c2), (.int (2 : Int32)), (.ref b118), (.ref b118), (.ref b111), (.ref b111)])) tg → Steps pP.tables eE below (s₁.setTop (entryFrame mM #[(.ref y), (.int lv)] 2)) tg := fun tg kg => pr143 _ (by
      show Steps pP.tables eE below (T141.setTop (mkF mM 89 #[.val (.ref y), .val (.int (3 : Int32))] [(.ref b118), (.ref b111), (.ref b111)])) _
      refine XS.dup X141.here hx rfl (hb hby d3_89) rfl rfl ?_
      show Steps pP.tables eE below (T141.setTop (mkF mM 90 #[.val (.ref y), .val (.int (3 : Int32))] [(.ref b118), (.ref b118), (.ref b111), (.ref b111)])) _
      refine XS.iconst X141.here hx rfl (hb hby d3_90) ?_
      show Steps pP.tables eE below (T141.setTop (mkF mM 91 #[.val (.ref y), .val (.int (3 : Int32))] [(.int (2 : Int32)), (.ref b118), (.ref b118), (.ref b111), (.ref b111)])) _
      refine XS.aloadN X141.here hx rfl (hb hby d3_91) rfl rfl ?_
      show Steps pP.tables eE below (T141.setTop (mkF mM 92 #[.val (.ref y), .val (.int (3 : Int32))] [(.ref y), (.int (2 : Int32)), (.ref b118), (.ref b118), (.ref b111), (.ref b111)])) _
      refine XS.iconst X141.here hx rfl (hb hby d3_92) ?_
      show Steps pP.tables eE below (T141.setTop (mkF mM 93 #[.val (.ref y), .val (.int (3 : Int32))] [(.int (2 : Int32)), (.ref y), (.int (2 : Int32)), (.ref b118), (.ref b118), (.ref b111), (.ref b111)])) _
      refine X141.caload hx (j := (2 : Int32)) (v := (.int c2)) (by rw [e141]; exact Ara145.1) (State.isArrayOf_alike hZ.alike Ara145.2.1) Ara145.2.2 hin146 hat146 (g := (mkF mM 93 #[.val (.ref y), .val (.int (3 : Int32))] [(.int (2 : Int32)), (.ref y), (.int (2 : Int32)), (.ref b118), (.ref b118), (.ref b111), (.ref b111)])) rfl rfl (hb hby d3_93) _ ?_
      exact kg)
    obtain ⟨cla148, Ara148, qa148, Sa148, Ma148, Ha148, Ga148⟩ := id V141
    have hin149 : ¬ ((2 : Int32) < 0 ∨ cla148.slots.size ≤ ((2 : Int32)).toNatClampNeg) := inb_of Sa148 ⟨by decide, by decide⟩
    obtain ⟨T149, h149, X149, e149, W149, st149⟩ := stC X141 hx hZ e141 Ara148 (j := (2 : Int32)) hin149 (g := (mkF mM 94 #[.val (.ref y), .val (.int (3 : Int32))] [(.int c2), (.int (2 : Int32)), (.ref b118), (.ref b118), (.ref b111), (.ref b111)])) rfl rfl (hb hby d3_94)
    have V149 : Arv Z h149 b118 k118 .char (3 : Int32) [(.int (nar .char c0)), (.int (nar .char c1)), (.int (nar .char c2))] (.int (0 : Int32)) := Arv.set Ara148 qa148 Sa148 Ma148 Ha148 Ga148 (fits_nar_char _) W149 2 rfl (Nat.le_of_ble_eq_true rfl)
    have N149 := Fr.snoc X149 N141 gn122
    have sf150_b111 := Safe.wr W149 sf142_b118 cr142.1 sf142_b111
    have sf150_b118 := Safe.wr W149 sf142_b118 cr142.1 sf142_b118
    have cr150 := CHr.trans cr142 (CHr.wr W149 sf142_b118 cr142.1)
    have pr151 : ∀ tg, Steps pP.tables eE below (T149.setTop (mkF mM 95 #[.val (.ref y), .val (.int (3 : Int32))] [(.ref b118), (.ref b111), (.ref b111)])) tg → Steps pP.tables eE below (s₁.setTop (entryFrame mM #[(.ref y), (.int lv)] 2)) tg := fun tg kg => pr147 _ (st149 _ kg)
    have hp : ∀ c ∈ ([(nar .char c0), (nar .char c1), (nar .char c2)] : List Int32), ¬ c < 0 ∧ ¬ (255 : Int32) < c := by
      intro c hc
      simp only [List.mem_cons, List.not_mem_nil, or_false] at hc
      rcases hc with rfl | rfl | rfl
      · exact own_nb2 hc0
      · exact own_nb2 hc1
      · exact own_nb2 hc2
    have c152 := (Exa.wr W149 (Exa.wr W141 (Exa.wr W133 (Exa.ext E118 A111))))
    have c153 := (Fld.other W149 (Fld.other W141 (Fld.other W133 (Fld.ext E118 F111_value) (Or.inl ne121)) (Or.inl ne121)) (Or.inl ne121))
    have c154 := (Fld.other W149 (Fld.other W141 (Fld.other W133 (Fld.ext E118 F111_coder) (Or.inl ne121)) (Or.inl ne121)) (Or.inl ne121))
    have c155 := (Old.wr (Old.wr (Old.wr (Old.ext (Old.ext O E111) E118) W133 gn122) W141 gn122) W149 gn122)
    have c156 := (Nat.le_trans (Nat.le_trans (Nat.le_trans (Nat.le_trans c123 E118.1) (Keep.of_wr W133).1) (Keep.of_wr W141).1) (Keep.of_wr W149).1)
    obtain ⟨_, _, ⟨T157, L157, kk157, nn157⟩, -, X157, ⟨Lc157, hQ157, l157, y157, z157⟩, st157⟩ := X149.specialBack hx (y := (⟨"java/lang/String", "<init>", "([C)V"⟩ : MethodName)) rfl hown (mvT hZ (hw _ (List.mem_of_getElem? (i := 55) rfl))) (mvT hZ (hw _ (List.mem_of_getElem? (i := 56) rfl))) (mvT hZ (hw _ (List.mem_of_getElem? (i := 57) rfl))) (by decide) (StrChars.Road.backV (W := 1) hZ (own_wB hw) (kI := 4) (hw _ (List.mem_of_getElem? (i := 2) rfl)) (cs := ([(nar .char c0), (nar .char c1), (nar .char c2)] : List Int32)) (bs := (([(nar .char c0), (nar .char c1), (nar .char c2)] : List Int32)).map (fun c => c.toInt8.toInt32)) (n := 3) gn113 c156 c152 c153 c154 V149 (Sta.ext (c155).2 S_cs) hcs rfl rfl (by decide) (by decide) hp rfl (by decide) (by decide)) (g := (mkF mM 95 #[.val (.ref y), .val (.int (3 : Int32))] [(.ref b118), (.ref b111), (.ref b111)])) rfl (by rw [hml]; rfl) (Steps.refl _) (a := b111) (argsL := [(.ref b118)]) (rest := [(.ref b111)]) (lenOf pd_8 rfl) rfl (by show 2 * 0 + _ ≤ _; exact Nat.le_of_eq rfl) (hb hby d3_95) (fun _ _ => ⟨rfl, e149, (by decide : 2 + 1 ≤ _), (by decide : 7 + 3 ≤ _)⟩)
    dsimp only [Pt.U, Pt.locs, Pt.cells, Pt.slots] at X157 l157 y157 z157 st157 hQ157
    subst l157 y157 z157
    obtain ⟨rfl, Nq157, K157, E157, Fc157, tn157, kt157, -, ge157, -, Fv157, V157⟩ := hQ157
    have N157 := Fr.app N149 Nq157
    have sf158_b111 := Safe.keep K157 (sfS sf150_b111 sf0) cr150.1 sf150_b111
    have sf158_b118 := Safe.keep K157 (sfS sf150_b111 sf0) cr150.1 sf150_b118
    have cr158 := CHr.trans cr150 (CHr.keep K157 (sfS sf150_b111 sf0) cr150.1)
    have pr159 : ∀ tg, Steps pP.tables eE below (T157.setTop (mkF mM 98 #[.val (.ref y), .val (.int (3 : Int32))] [(.ref b111)])) tg → Steps pP.tables eE below (s₁.setTop (entryFrame mM #[(.ref y), (.int lv)] 2)) tg := fun tg kg => pr151 _ (st157.trans kg)
    have c160 := (Keep.trans (Keep.wr (Keep.wr (Keep.wr (Keep.ext c125 E118) W133 (Or.inr gs124)) W141 (Or.inr gs124)) W149 (Or.inr gs124)) K157 (allS (Or.inr gs114) all0))
    have c161 := (Nat.le_trans (Nat.le_trans (Nat.le_trans (Nat.le_trans (Nat.le_trans (Nat.le_trans (Nat.zero_le _) E111.1) E118.1) (Keep.of_wr W133).1) (Keep.of_wr W141).1) (Keep.of_wr W149).1) K157.1)
    obtain ⟨fs, hr, hrun, hended, hW⟩ := Jvm.Stand.leaveW (s := sS) (vm₁ := sS.vm) X157 hS (Nat.le_trans c161 (Nat.le_of_eq (congrArg Array.size (rfl : T157.heap = T157.heap).symm))) (v := some (.ref b111)) (fun h => by rw [Bd.returns] at h; cases h)
    have crE := CHr.trans cr158 (CHv.at (s := sS) (vm0 := sS.vm) X157 hZ hEW cr158.1)
    refine ⟨_, _, pr159 _ (retOut X157 hx (t := (.object "java/lang/String")) Bd.returns rfl (Or.inr (Or.inr (Or.inr (Or.inr ⟨rfl, rfl, rfl⟩)))) (hb hby d3_98) hr), hrun, hended, _, _, rfl, ?_, ?_, hW.1, hW.2.1, hW.2.2.1, hW.2.2.2.mono (by decide) (by decide)⟩
    rotate_left
    · show CHr Z consts_1 sS.vm sS.heap T157.vm T157.heap
      rw [hh]; exact crE
    show Q3 Z cs y ky c0 c1 c2 c3 c4 c5 lv h0 n0 _ T157.heap _
    exact ⟨b111, tn157, _, ([(nar .char c0), (nar .char c1), (nar .char c2)] : List Int32), rfl, N157, c160, E157, Fv157, Fc157, V157, hp, Nat.le_of_ble_eq_true rfl⟩
  ·
    have pr162 : ∀ tg, Steps pP.tables eE below (s₁.setTop (mkF mM 104 #[.val (.ref y), .val (.int (4 : Int32))] [])) tg → Steps pP.tables eE below (s₁.setTop (entryFrame mM #[(.ref y), (.int lv)] 2)) tg := fun tg kg => pr2 _ (by
      show Steps pP.tables eE below (s₁.setTop (mkF mM 0 #[.val (.ref y), .val (.int (4 : Int32))] [])) _
      refine XS.iloadN X0.here hx rfl (hb hby d3_0) rfl ?_
      show Steps pP.tables eE below (s₁.setTop (mkF mM 1 #[.val (.ref y), .val (.int (4 : Int32))] [(.int (4 : Int32))])) _
      refine XS.ifYes X0.here hx rfl (pc0 := 1) (pc' := 15) rfl (hb hby d3_1) rfl ((if0 _ _).trans (feq (by decide)).2) (by decide) (by decide) ?_
      show Steps pP.tables eE below (s₁.setTop (mkF mM 15 #[.val (.ref y), .val (.int (4 : Int32))] [])) _
      refine XS.iloadN X0.here hx rfl (hb hby d3_15) rfl ?_
      show Steps pP.tables eE below (s₁.setTop (mkF mM 16 #[.val (.ref y), .val (.int (4 : Int32))] [(.int (4 : Int32))])) _
      refine XS.iconst X0.here hx rfl (hb hby d3_16) ?_
      show Steps pP.tables eE below (s₁.setTop (mkF mM 17 #[.val (.ref y), .val (.int (4 : Int32))] [(.int (1 : Int32)), (.int (4 : Int32))])) _
      refine XS.icmpYes X0.here hx rfl (pc0 := 17) (pc' := 37) rfl (hb hby d3_17) rfl (feq (by decide)).2 (by decide) (by decide) ?_
      show Steps pP.tables eE below (s₁.setTop (mkF mM 37 #[.val (.ref y), .val (.int (4 : Int32))] [])) _
      refine XS.iloadN X0.here hx rfl (hb hby d3_37) rfl ?_
      show Steps pP.tables eE below (s₁.setTop (mkF mM 38 #[.val (.ref y), .val (.int (4 : Int32))] [(.int (4 : Int32))])) _
      refine XS.iconst X0.here hx rfl (hb hby d3_38) ?_
      show Steps pP.tables eE below (s₁.setTop (mkF mM 39 #[.val (.ref y), .val (.int (4 : Int32))] [(.int (2 : Int32)), (.int (4 : Int32))])) _
      refine XS.icmpYes X0.here hx rfl (pc0 := 39) (pc' := 65) rfl (hb hby d3_39) rfl (feq (by decide)).2 (by decide) (by decide) ?_
      show Steps pP.tables eE below (s₁.setTop (mkF mM 65 #[.val (.ref y), .val (.int (4 : Int32))] [])) _
      refine XS.iloadN X0.here hx rfl (hb hby d3_65) rfl ?_
      show Steps pP.tables eE below (s₁.setTop (mkF mM 66 #[.val (.ref y), .val (.int (4 : Int32))] [(.int (4 : Int32))])) _
      refine XS.iconst X0.here hx rfl (hb hby d3_66) ?_
      show Steps pP.tables eE below (s₁.setTop (mkF mM 67 #[.val (.ref y), .val (.int (4 : Int32))] [(.int (3 : Int32)), (.int (4 : Int32))])) _
      refine XS.icmpYes X0.here hx rfl (pc0 := 67) (pc' := 99) rfl (hb hby d3_67) rfl (feq (by decide)).2 (by decide) (by decide) ?_
      show Steps pP.tables eE below (s₁.setTop (mkF mM 99 #[.val (.ref y), .val (.int (4 : Int32))] [])) _
      refine XS.iloadN X0.here hx rfl (hb hby d3_99) rfl ?_
      show Steps pP.tables eE below (s₁.setTop (mkF mM 100 #[.val (.ref y), .val (.int (4 : Int32))] [(.int (4 : Int32))])) _
      refine XS.iconst X0.here hx rfl (hb hby d3_100) ?_
      show Steps pP.tables eE below (s₁.setTop (mkF mM 101 #[.val (.ref y), .val (.int (4 : Int32))] [(.int (4 : Int32)), (.int (4 : Int32))])) _
      refine XS.icmpNo X0.here hx rfl (hb hby d3_101) rfl (teq (by decide)).2 ?_
      exact kg)
    obtain ⟨T163, h163, X163, e163, E163, A163, D163, -, st163⟩ := newO X0 hx hZ hown (hw _ (List.mem_of_getElem? (i := 54) rfl)) (hw _ (List.mem_of_getElem? (i := 2) rfl)) (hw _ (List.mem_of_getElem? (i := 1) rfl)) e0 (g := (mkF mM 104 #[.val (.ref y), .val (.int (4 : Int32))] [])) rfl (hb hby d3_104) (by decide) (by decide)
    obtain ⟨b163, g163⟩ : ∃ z, z = (h0).size := ⟨_, rfl⟩
    rw [← g163] at A163 D163 st163
    have ne164 : y ≠ b163 := Nat.ne_of_lt (Nat.lt_of_lt_of_le (V_y).lt (Nat.le_of_eq g163.symm))
    have gn165 : n0 ≤ b163 := Nat.le_trans Z0 (Nat.le_of_eq g163.symm)
    have gs166 : h0.size ≤ b163 := Nat.le_trans (Keep.refl h0 []).1 (Nat.le_of_eq g163.symm)
    have sf167_b163 : Safe Z consts_1 sS.vm _ b163 := Safe.ext E163 cr0.1 (Safe.new (Nat.le_of_eq g163.symm))
    have cr167 := CHr.trans cr0 (CHr.ext E163 cr0.1)
    have F163_value : Fld Z h163 b163 "java/lang/String" "value" "[B" .null := D163 (Or.inr (hw _ (List.mem_of_getElem? (i := 4) rfl))) (ty := (.array .byte)) (by decide)
    have F163_coder : Fld Z h163 b163 "java/lang/String" "coder" "B" (.int (0 : Int32)) := D163 (Or.inr (hw _ (List.mem_of_getElem? (i := 5) rfl))) (ty := .byte) (by decide)
    have pr168 : ∀ tg, Steps pP.tables eE below (T163.setTop (mkF mM 107 #[.val (.ref y), .val (.int (4 : Int32))] [(.ref b163)])) tg → Steps pP.tables eE below (s₁.setTop (entryFrame mM #[(.ref y), (.int lv)] 2)) tg := fun tg kg => pr162 _ (st163 _ kg)
    have pr169 : ∀ tg, Steps pP.tables eE below (T163.setTop (mkF mM 109 #[.val (.ref y), .val (.int (4 : Int32))] [(.int (4 : Int32)), (.ref b163), (.ref b163)])) tg → Steps pP.tables eE below (s₁.setTop (entryFrame mM #[(.ref y), (.int lv)] 2)) tg := fun tg kg => pr168 _ (by
      show Steps pP.tables eE below (T163.setTop (mkF mM 107 #[.val (.ref y), .val (.int (4 : Int32))] [(.ref b163)])) _
      refine XS.dup X163.here hx rfl (hb hby d3_107) rfl rfl ?_
      show Steps pP.tables eE below (T163.setTop (mkF mM 108 #[.val (.ref y), .val (.int (4 : Int32))] [(.ref b163), (.ref b163)])) _
      refine XS.iconst X163.here hx rfl (hb hby d3_108) ?_
      exact kg)
    obtain ⟨T170, h170, k170, X170, e170, E170, A170, Ex170, st170⟩ := newPE X163 hx hZ (hw _ (List.mem_of_getElem? (i := 21) rfl)) e163 (g := (mkF mM 109 #[.val (.ref y), .val (.int (4 : Int32))] [(.int (4 : Int32)), (.ref b163), (.ref b163)])) rfl (hb hby d3_109) rfl (by decide) (cap := 4) (by decide) (by decide) (by decide) (by decide) (ad := "[C") rfl
    obtain ⟨b170, g170⟩ : ∃ z, z = (h163).size := ⟨_, rfl⟩
    rw [← g170] at A170 Ex170 st170
    have c172 := (Arv.ext V_y E163)
    have ne171 : y ≠ b170 := Nat.ne_of_lt (Nat.lt_of_lt_of_le (c172).lt (Nat.le_of_eq g170.symm))
    have ne173 : b163 ≠ b170 := Nat.ne_of_lt (Nat.lt_of_lt_of_le (A163).lt (Nat.le_of_eq g170.symm))
    have c175 := (Nat.le_trans Z0 E163.1)
    have gn174 : n0 ≤ b170 := Nat.le_trans c175 (Nat.le_of_eq g170.symm)
    have c177 := (Keep.ext (Keep.refl h0 []) E163)
    have gs176 : h0.size ≤ b170 := Nat.le_trans c177.1 (Nat.le_of_eq g170.symm)
    have sf178_b163 := Safe.ext E170 cr167.1 sf167_b163
    have sf178_b170 : Safe Z consts_1 sS.vm _ b170 := Safe.ext E170 cr167.1 (Safe.new (Nat.le_of_eq g170.symm))
    have cr178 := CHr.trans cr167 (CHr.ext E170 cr167.1)
    have V170 : Arv Z h170 b170 k170 .char (4 : Int32) [(.int (0 : Int32)), (.int (0 : Int32)), (.int (0 : Int32)), (.int (0 : Int32))] (.int (0 : Int32)) := (Arv.new A170 (by decide)).pad (pad_rep [] (.int (0 : Int32)) 4)
    have pr179 : ∀ tg, Steps pP.tables eE below (T170.setTop (mkF mM 111 #[.val (.ref y), .val (.int (4 : Int32))] [(.ref b170), (.ref b163), (.ref b163)])) tg → Steps pP.tables eE below (s₁.setTop (entryFrame mM #[(.ref y), (.int lv)] 2)) tg := fun tg kg => pr169 _ (st170 _ kg)
    have c180 := (Arv.ext c172 E170)
    obtain ⟨cla181, Ara181, qa181, Sa181, Ma181, Ha181, Ga181⟩ := id c180
    have hin182 : ¬ ((0 : Int32) < 0 ∨ cla181.slots.size ≤ ((0 : Int32)).toNatClampNeg) := inb_of Sa181 ⟨by decide, by decide⟩
    have hat182 : cla181.slots[((0 : Int32)).toNatClampNeg]? = some (.int c0) := Has.at Ha181 hin182 rfl
    have pr183 : ∀ tg, Steps pP.tables eE below (T170.setTop (mkF mM 116 #[.val (.ref y), .val (.int (4 : Int32))] [(.int c0), (.int (0 : Int32)), (.ref b170), (.ref b170), (.ref b163), (.ref b163)])) tg → Steps pP.tables eE below (s₁.setTop (entryFrame mM #[(.ref y), (.int lv)] 2)) tg := fun tg kg => pr179 _ (by
      show Steps pP.tables eE below (T170.setTop (mkF mM 111 #[.val (.ref y), .val (.int (4 : Int32))] [(.ref b170), (.ref b163), (.ref b163)])) _
      refine XS.dup X170.here hx rfl (hb hby d3_111) rfl rfl ?_
      show Steps pP.tables eE below (T170.setTop (mkF mM 112 #[.val (.ref y), .val (.int (4 : Int32))] [(.ref b170), (.ref b170), (.ref b163), (.ref b163)])) _
      refine XS.iconst X170.here hx rfl (hb hby d3_112) ?_
      show Steps pP.tables eE below (T170.setTop (mkF mM 113 #[.val (.ref y), .val (.int (4 : Int32))] [(.int (0 : Int32)), (.ref b170), (.ref b170), (.ref b163), (.ref b163)])) _
      refine XS.aloadN X170.here hx rfl (hb hby d3_113) rfl rfl ?_
      show Steps pP.tables eE below (T170.setTop (mkF mM 114 #[.val (.ref y), .val (.int (4 : Int32))] [(.ref y), (.int (0 : Int32)), (.ref b170), (.ref b170), (.ref b163), (.ref b163)])) _
      refine XS.iconst X170.here hx rfl (hb hby d3_114) ?_
      show Steps pP.tables eE below (T170.setTop (mkF mM 115 #[.val (.ref y), .val (.int (4 : Int32))] [(.int (0 : Int32)), (.ref y), (.int (0 : Int32)), (.ref b170), (.ref b170), (.ref b163), (.ref b163)])) _
      refine X170.caload hx (j := (0 : Int32)) (v := (.int c0)) (by rw [e170]; exact Ara181.1) (State.isArrayOf_alike hZ.alike Ara181.2.1) Ara181.2.2 hin182 hat182 (g := (mkF mM 115 #[.val (.ref y), .val (.int (4 : Int32))] [(.int (0 : Int32)), (.ref y), (.int (0 : Int32)), (.ref b170), (.ref b170), (.ref b163), (.ref b163)])) rfl rfl (hb hby d3_115) _ ?_
      exact kg)
    obtain ⟨cla184, Ara184, qa184, Sa184, Ma184, Ha184, Ga184⟩ := id V170
    have hin185 : ¬ ((0 : Int32) < 0 ∨ cla184.slots.size ≤ ((0 : Int32)).toNatClampNeg) := inb_of Sa184 ⟨by decide, by decide⟩
    obtain ⟨T185, h185, X185, e185, W185, st185⟩ := stC X170 hx hZ e170 Ara184 (j := (0 : Int32)) hin185 (g := (mkF mM 116 #[.val (.ref y), .val (.int (4 : Int32))] [(.int c0), (.int (0 : Int32)), (.ref b170), (.ref b170), (.ref b163), (.ref b163)])) rfl rfl (hb hby d3_116)
    have V185 : Arv Z h185 b170 k170 .char (4 : Int32) [(.int (nar .char c0)), (.int (0 : Int32)), (.int (0 : Int32)), (.int (0 : Int32))] (.int (0 : Int32)) := Arv.set Ara184 qa184 Sa184 Ma184 Ha184 Ga184 (fits_nar_char _) W185 0 rfl (Nat.le_of_ble_eq_true rfl)
    have N185 := Fr.snoc X185 N0 gn174
    have sf186_b163 := Safe.wr W185 sf178_b170 cr178.1 sf178_b163
    have sf186_b170 := Safe.wr W185 sf178_b170 cr178.1 sf178_b170
    have cr186 := CHr.trans cr178 (CHr.wr W185 sf178_b170 cr178.1)
    have pr187 : ∀ tg, Steps pP.tables eE below (T185.setTop (mkF mM 117 #[.val (.ref y), .val (.int (4 : Int32))] [(.ref b170), (.ref b163), (.ref b163)])) tg → Steps pP.tables eE below (s₁.setTop (entryFrame mM #[(.ref y), (.int lv)] 2)) tg := fun tg kg => pr183 _ (st185 _ kg)
    have c188 := (Arv.other c180 W185 ne171)
    obtain ⟨cla189, Ara189, qa189, Sa189, Ma189, Ha189, Ga189⟩ := id c188
    have hin190 : ¬ ((1 : Int32) < 0 ∨ cla189.slots.size ≤ ((1 : Int32)).toNatClampNeg) := inb_of Sa189 ⟨by decide, by decide⟩
    have hat190 : cla189.slots[((1 : Int32)).toNatClampNeg]? = some (.int c1) := Has.at Ha189 hin190 rfl
    have pr191 : ∀ tg, Steps pP.tables eE below (T185.setTop (mkF mM 122 #[.val (.ref y), .val (.int (4 : Int32))] [(.int c1), (.int (1 : Int32)), (.ref b170), (.ref b170), (.ref b163), (.ref b163)])) tg → Steps pP.tables eE below (s₁.setTop (entryFrame mM #[(.ref y), (.int lv)] 2)) tg := fun tg kg => pr187 _ (by
      show Steps pP.tables eE below (T185.setTop (mkF mM 117 #[.val (.ref y), .val (.int (4 : Int32))] [(.ref b170), (.ref b163), (.ref b163)])) _
      refine XS.dup X185.here hx rfl (hb hby d3_117) rfl rfl ?_
      show Steps pP.tables eE below (T185.setTop (mkF mM 118 #[.val (.ref y), .val (.int (4 : Int32))] [(.ref b170), (.ref b170), (.ref b163), (.ref b163)])) _
      refine XS.iconst X185.here hx rfl (hb hby d3_118) ?_
      show Steps pP.tables eE below (T185.setTop (mkF mM 119 #[.val (.ref y), .val (.int (4 : Int32))] [(.int (1 : Int32)), (.ref b170), (.ref b170), (.ref b163), (.ref b163)])) _
      refine XS.aloadN X185.here hx rfl (hb hby d3_119) rfl rfl ?_
      show Steps pP.tables eE below (T185.setTop (mkF mM 120 #[.val (.ref y), .val (.int (4 : Int32))] [(.ref y), (.int (1 : Int32)), (.ref b170), (.ref b170), (.ref b163), (.ref b163)])) _
      refine XS.iconst X185.here hx rfl (hb hby d3_120) ?_
      show Steps pP.tables eE below (T185.setTop (mkF mM 121 #[.val (.ref y), .val (.int (4 : Int32))] [(.int (1 : Int32)), (.ref y), (.int (1 : Int32)), (.ref b170), (.ref b170), (.ref b163), (.ref b163)])) _
      refine X185.caload hx (j := (1 : Int32)) (v := (.int c1)) (by rw [e185]; exact Ara189.1) (State.isArrayOf_alike hZ.alike Ara189.2.1) Ara189.2.2 hin190 hat190 (g := (mkF mM 121 #[.val (.ref y), .val (.int (4 : Int32))] [(.int (1 : Int32)), (.ref y), (.int (1 : Int32)), (.ref b170), (.ref b170), (.ref b163), (.ref b163)])) rfl rfl (hb hby d3_121) _ ?_
      exact kg)
    obtain ⟨cla192, Ara192, qa192, Sa192, Ma192, Ha192, Ga192⟩ := id V185
    have hin193 : ¬ ((1 : Int32) < 0 ∨ cla192.slots.size ≤ ((1 : Int32)).toNatClampNeg) := inb_of Sa192 ⟨by decide, by decide⟩
    obtain ⟨T193, h193, X193, e193, W193, st193⟩ := stC X185 hx hZ e185 Ara192 (j := (1 : Int32)) hin193 (g := (mkF mM 122 #[.val (.ref y), .val (.int (4 : Int32))] [(.int c1), (.int (1 : Int32)), (.ref b170), (.ref b170), (.ref b163), (.ref b163)])) rfl rfl (hb hby d3_122)
    have V193 : Arv Z h193 b170 k170 .char (4 : Int32) [(.int (nar .char c0)), (.int (nar .char c1)), (.int (0 : Int32)), (.int (0 : Int32))] (.int (0 : Int32)) := Arv.set Ara192 qa192 Sa192 Ma192 Ha192 Ga192 (fits_nar_char _) W193 1 rfl (Nat.le_of_ble_eq_true rfl)
    have N193 := Fr.snoc X193 N185 gn174
    have sf194_b163 := Safe.wr W193 sf186_b170 cr186.1 sf186_b163
    have sf194_b170 := Safe.wr W193 sf186_b170 cr186.1 sf186_b170
    have cr194 := CHr.trans cr186 (CHr.wr W193 sf186_b170 cr186.1)
    have pr195 : ∀ tg, Steps pP.tables eE below (T193.setTop (mkF mM 123 #[.val (.ref y), .val (.int (4 : Int32))] [(.ref b170), (.ref b163), (.ref b163)])) tg → Steps pP.tables eE below (s₁.setTop (entryFrame mM #[(.ref y), (.int lv)] 2)) tg := fun tg kg => pr191 _ (st193 _ kg)
    have c196 := (Arv.other c188 W193 ne171)
    obtain ⟨cla197, Ara197, qa197, Sa197, Ma197, Ha197, Ga197⟩ := id c196
    have hin198 : ¬ ((2 : Int32) < 0 ∨ cla197.slots.size ≤ ((2 : Int32)).toNatClampNeg) := inb_of Sa197 ⟨by decide, by decide⟩
    have hat198 : cla197.slots[((2 : Int32)).toNatClampNeg]? = some (.int c2) := Has.at Ha197 hin198 rfl
    have pr199 : ∀ tg, Steps pP.tables eE below (T193.setTop (mkF mM 128 #[.val (.ref y), .val (.int (4 : Int32))] [(.int c2), (.int (2 : Int32)), (.ref b170), (.ref b170), (.ref b163), (.ref b163)])) tg → Steps pP.tables eE below (s₁.setTop (entryFrame mM #[(.ref y), (.int lv)] 2)) tg := fun tg kg => pr195 _ (by
      show Steps pP.tables eE below (T193.setTop (mkF mM 123 #[.val (.ref y), .val (.int (4 : Int32))] [(.ref b170), (.ref b163), (.ref b163)])) _
      refine XS.dup X193.here hx rfl (hb hby d3_123) rfl rfl ?_
      show Steps pP.tables eE below (T193.setTop (mkF mM 124 #[.val (.ref y), .val (.int (4 : Int32))] [(.ref b170), (.ref b170), (.ref b163), (.ref b163)])) _
      refine XS.iconst X193.here hx rfl (hb hby d3_124) ?_
      show Steps pP.tables eE below (T193.setTop (mkF mM 125 #[.val (.ref y), .val (.int (4 : Int32))] [(.int (2 : Int32)), (.ref b170), (.ref b170), (.ref b163), (.ref b163)])) _
      refine XS.aloadN X193.here hx rfl (hb hby d3_125) rfl rfl ?_
      show Steps pP.tables eE below (T193.setTop (mkF mM 126 #[.val (.ref y), .val (.int (4 : Int32))] [(.ref y), (.int (2 : Int32)), (.ref b170), (.ref b170), (.ref b163), (.ref b163)])) _
      refine XS.iconst X193.here hx rfl (hb hby d3_126) ?_
      show Steps pP.tables eE below (T193.setTop (mkF mM 127 #[.val (.ref y), .val (.int (4 : Int32))] [(.int (2 : Int32)), (.ref y), (.int (2 : Int32)), (.ref b170), (.ref b170), (.ref b163), (.ref b163)])) _
      refine X193.caload hx (j := (2 : Int32)) (v := (.int c2)) (by rw [e193]; exact Ara197.1) (State.isArrayOf_alike hZ.alike Ara197.2.1) Ara197.2.2 hin198 hat198 (g := (mkF mM 127 #[.val (.ref y), .val (.int (4 : Int32))] [(.int (2 : Int32)), (.ref y), (.int (2 : Int32)), (.ref b170), (.ref b170), (.ref b163), (.ref b163)])) rfl rfl (hb hby d3_127) _ ?_
      exact kg)
    obtain ⟨cla200, Ara200, qa200, Sa200, Ma200, Ha200, Ga200⟩ := id V193
    have hin201 : ¬ ((2 : Int32) < 0 ∨ cla200.slots.size ≤ ((2 : Int32)).toNatClampNeg) := inb_of Sa200 ⟨by decide, by decide⟩
    obtain ⟨T201, h201, X201, e201, W201, st201⟩ := stC X193 hx hZ e193 Ara200 (j := (2 : Int32)) hin201 (g := (mkF mM 128 #[.val (.ref y), .val (.int (4 : Int32))] [(.int c2), (.int (2 : Int32)), (.ref b170), (.ref b170), (.ref b163), (.ref b163)])) rfl rfl (hb hby d3_128)
    have V201 : Arv Z h201 b170 k170 .char (4 : Int32) [(.int (nar .char c0)), (.int (nar .char c1)), (.int (nar .char c2)), (.int (0 : Int32))] (.int (0 : Int32)) := Arv.set Ara200 qa200 Sa200 Ma200 Ha200 Ga200 (fits_nar_char _) W201 2 rfl (Nat.le_of_ble_eq_true rfl)
    have N201 := Fr.snoc X201 N193 gn174
    have sf202_b163 := Safe.wr W201 sf194_b170 cr194.1 sf194_b163
    have sf202_b170 := Safe.wr W201 sf194_b170 cr194.1 sf194_b170
    have cr202 := CHr.trans cr194 (CHr.wr W201 sf194_b170 cr194.1)
    have pr203 : ∀ tg, Steps pP.tables eE below (T201.setTop (mkF mM 129 #[.val (.ref y), .val (.int (4 : Int32))] [(.ref b170), (.ref b163), (.ref b163)])) tg → Steps pP.tables eE below (s₁.setTop (entryFrame mM #[(.ref y), (.int lv)] 2)) tg := fun tg kg => pr199 _ (st201 _ kg)
    have c204 := (Arv.other c196 W201 ne171)
    obtain ⟨cla205, Ara205, qa205, Sa205, Ma205, Ha205, Ga205⟩ := id c204
    have hin206 : ¬ ((3 : Int32) < 0 ∨ cla205.slots.size ≤ ((3 : Int32)).toNatClampNeg) := inb_of Sa205 ⟨by decide, by decide⟩
    have hat206 : cla205.slots[((3 : Int32)).toNatClampNeg]? = some (.int c3) := Has.at Ha205 hin206 rfl
    have pr207 : ∀ tg, Steps pP.tables eE below (T201.setTop (mkF mM 134 #[.val (.ref y), .val (.int (4 : Int32))] [(.int c3), (.int (3 : Int32)), (.ref b170), (.ref b170), (.ref b163), (.ref b163)])) tg → Steps pP.tables eE below (s₁.setTop (entryFrame mM #[(.ref y), (.int lv)] 2)) tg := fun tg kg => pr203 _ (by
      show Steps pP.tables eE below (T201.setTop (mkF mM 129 #[.val (.ref y), .val (.int (4 : Int32))] [(.ref b170), (.ref b163), (.ref b163)])) _
      refine XS.dup X201.here hx rfl (hb hby d3_129) rfl rfl ?_
      show Steps pP.tables eE below (T201.setTop (mkF mM 130 #[.val (.ref y), .val (.int (4 : Int32))] [(.ref b170), (.ref b170), (.ref b163), (.ref b163)])) _
      refine XS.iconst X201.here hx rfl (hb hby d3_130) ?_
      show Steps pP.tables eE below (T201.setTop (mkF mM 131 #[.val (.ref y), .val (.int (4 : Int32))] [(.int (3 : Int32)), (.ref b170), (.ref b170), (.ref b163), (.ref b163)])) _
      refine XS.aloadN X201.here hx rfl (hb hby d3_131) rfl rfl ?_
      show Steps pP.tables eE below (T201.setTop (mkF mM 132 #[.val (.ref y), .val (.int (4 : Int32))] [(.ref y), (.int (3 : Int32)), (.ref b170), (.ref b170), (.ref b163), (.ref b163)])) _
      refine XS.iconst X201.here hx rfl (hb hby d3_132) ?_
      show Steps pP.tables eE below (T201.setTop (mkF mM 133 #[.val (.ref y), .val (.int (4 : Int32))] [(.int (3 : Int32)), (.ref y), (.int (3 : Int32)), (.ref b170), (.ref b170), (.ref b163), (.ref b163)])) _
      refine X201.caload hx (j := (3 : Int32)) (v := (.int c3)) (by rw [e201]; exact Ara205.1) (State.isArrayOf_alike hZ.alike Ara205.2.1) Ara205.2.2 hin206 hat206 (g := (mkF mM 133 #[.val (.ref y), .val (.int (4 : Int32))] [(.int (3 : Int32)), (.ref y), (.int (3 : Int32)), (.ref b170), (.ref b170), (.ref b163), (.ref b163)])) rfl rfl (hb hby d3_133) _ ?_
      exact kg)
    obtain ⟨cla208, Ara208, qa208, Sa208, Ma208, Ha208, Ga208⟩ := id V201
    have hin209 : ¬ ((3 : Int32) < 0 ∨ cla208.slots.size ≤ ((3 : Int32)).toNatClampNeg) := inb_of Sa208 ⟨by decide, by decide⟩
    obtain ⟨T209, h209, X209, e209, W209, st209⟩ := stC X201 hx hZ e201 Ara208 (j := (3 : Int32)) hin209 (g := (mkF mM 134 #[.val (.ref y), .val (.int (4 : Int32))] [(.int c3), (.int (3 : Int32)), (.ref b170), (.ref b170), (.ref b163), (.ref b163)])) rfl rfl (hb hby d3_134)
    have V209 : Arv Z h209 b170 k170 .char (4 : Int32) [(.int (nar .char c0)), (.int (nar .char c1)), (.int (nar .char c2)), (.int (nar .char c3))] (.int (0 : Int32)) := Arv.set Ara208 qa208 Sa208 Ma208 Ha208 Ga208 (fits_nar_char _) W209 3 rfl (Nat.le_of_ble_eq_true rfl)
    have N209 := Fr.snoc X209 N201 gn174
    have sf210_b163 := Safe.wr W209 sf202_b170 cr202.1 sf202_b163
    have sf210_b170 := Safe.wr W209 sf202_b170 cr202.1 sf202_b170
    have cr210 := CHr.trans cr202 (CHr.wr W209 sf202_b170 cr202.1)
    have pr211 : ∀ tg, Steps pP.tables eE below (T209.setTop (mkF mM 135 #[.val (.ref y), .val (.int (4 : Int32))] [(.ref b170), (.ref b163), (.ref b163)])) tg → Steps pP.tables eE below (s₁.setTop (entryFrame mM #[(.ref y), (.int lv)] 2)) tg := fun tg kg => pr207 _ (st209 _ kg)
    have hp : ∀ c ∈ ([(nar .char c0), (nar .char c1), (nar .char c2), (nar .char c3)] : List Int32), ¬ c < 0 ∧ ¬ (255 : Int32) < c := by
      intro c hc
      simp only [List.mem_cons, List.not_mem_nil, or_false] at hc
      rcases hc with rfl | rfl | rfl | rfl
      · exact own_nb2 hc0
      · exact own_nb2 hc1
      · exact own_nb2 hc2
      · exact own_nb2 hc3
    have c212 := (Exa.wr W209 (Exa.wr W201 (Exa.wr W193 (Exa.wr W185 (Exa.ext E170 A163)))))
    have c213 := (Fld.other W209 (Fld.other W201 (Fld.other W193 (Fld.other W185 (Fld.ext E170 F163_value) (Or.inl ne173)) (Or.inl ne173)) (Or.inl ne173)) (Or.inl ne173))
    have c214 := (Fld.other W209 (Fld.other W201 (Fld.other W193 (Fld.other W185 (Fld.ext E170 F163_coder) (Or.inl ne173)) (Or.inl ne173)) (Or.inl ne173)) (Or.inl ne173))
    have c215 := (Old.wr (Old.wr (Old.wr (Old.wr (Old.ext (Old.ext O E163) E170) W185 gn174) W193 gn174) W201 gn174) W209 gn174)
    have c216 := (Nat.le_trans (Nat.le_trans (Nat.le_trans (Nat.le_trans (Nat.le_trans c175 E170.1) (Keep.of_wr W185).1) (Keep.of_wr W193).1) (Keep.of_wr W201).1) (Keep.of_wr W209).1)
    obtain ⟨_, _, ⟨T217, L217, kk217, nn217⟩, -, X217, ⟨Lc217, hQ217, l217, y217, z217⟩, st217⟩ := X209.specialBack hx (y := (⟨"java/lang/String", "<init>", "([C)V"⟩ : MethodName)) rfl hown (mvT hZ (hw _ (List.mem_of_getElem? (i := 55) rfl))) (mvT hZ (hw _ (List.mem_of_getElem? (i := 56) rfl))) (mvT hZ (hw _ (List.mem_of_getElem? (i := 57) rfl))) (by decide) (StrChars.Road.backV (W := 1) hZ (own_wB hw) (kI := 4) (hw _ (List.mem_of_getElem? (i := 2) rfl)) (cs := ([(nar .char c0), (nar .char c1), (nar .char c2), (nar .char c3)] : List Int32)) (bs := (([(nar .char c0), (nar .char c1), (nar .char c2), (nar .char c3)] : List Int32)).map (fun c => c.toInt8.toInt32)) (n := 4) gn165 c216 c212 c213 c214 V209 (Sta.ext (c215).2 S_cs) hcs rfl rfl (by decide) (by decide) hp rfl (by decide) (by decide)) (g := (mkF mM 135 #[.val (.ref y), .val (.int (4 : Int32))] [(.ref b170), (.ref b163), (.ref b163)])) rfl (by rw [hml]; rfl) (Steps.refl _) (a := b163) (argsL := [(.ref b170)]) (rest := [(.ref b163)]) (lenOf pd_8 rfl) rfl (by show 2 * 0 + _ ≤ _; exact Nat.le_of_eq rfl) (hb hby d3_135) (fun _ _ => ⟨rfl, e209, (by decide : 2 + 1 ≤ _), (by decide : 8 + 4 ≤ _)⟩)
    dsimp only [Pt.U, Pt.locs, Pt.cells, Pt.slots] at X217 l217 y217 z217 st217 hQ217
    subst l217 y217 z217
    obtain ⟨rfl, Nq217, K217, E217, Fc217, tn217, kt217, -, ge217, -, Fv217, V217⟩ := hQ217
    have N217 := Fr.app N209 Nq217
    have sf218_b163 := Safe.keep K217 (sfS sf210_b163 sf0) cr210.1 sf210_b163
    have sf218_b170 := Safe.keep K217 (sfS sf210_b163 sf0) cr210.1 sf210_b170
    have cr218 := CHr.trans cr210 (CHr.keep K217 (sfS sf210_b163 sf0) cr210.1)
    have pr219 : ∀ tg, Steps pP.tables eE below (T217.setTop (mkF mM 138 #[.val (.ref y), .val (.int (4 : Int32))] [(.ref b163)])) tg → Steps pP.tables eE below (s₁.setTop (entryFrame mM #[(.ref y), (.int lv)] 2)) tg := fun tg kg => pr211 _ (st217.trans kg)
    have c220 := (Keep.trans (Keep.wr (Keep.wr (Keep.wr (Keep.wr (Keep.ext c177 E170) W185 (Or.inr gs176)) W193 (Or.inr gs176)) W201 (Or.inr gs176)) W209 (Or.inr gs176)) K217 (allS (Or.inr gs166) all0))
    have c221 := (Nat.le_trans (Nat.le_trans (Nat.le_trans (Nat.le_trans (Nat.le_trans (Nat.le_trans (Nat.le_trans (Nat.zero_le _) E163.1) E170.1) (Keep.of_wr W185).1) (Keep.of_wr W193).1) (Keep.of_wr W201).1) (Keep.of_wr W209).1) K217.1)
    obtain ⟨fs, hr, hrun, hended, hW⟩ := Jvm.Stand.leaveW (s := sS) (vm₁ := sS.vm) X217 hS (Nat.le_trans c221 (Nat.le_of_eq (congrArg Array.size (rfl : T217.heap = T217.heap).symm))) (v := some (.ref b163)) (fun h => by rw [Bd.returns] at h; cases h)
    have crE := CHr.trans cr218 (CHv.at (s := sS) (vm0 := sS.vm) X217 hZ hEW cr218.1)
    refine ⟨_, _, pr219 _ (retOut X217 hx (t := (.object "java/lang/String")) Bd.returns rfl (Or.inr (Or.inr (Or.inr (Or.inr ⟨rfl, rfl, rfl⟩)))) (hb hby d3_138) hr), hrun, hended, _, _, rfl, ?_, ?_, hW.1, hW.2.1, hW.2.2.1, hW.2.2.2.mono (by decide) (by decide)⟩
    rotate_left
    · show CHr Z consts_1 sS.vm sS.heap T217.vm T217.heap
      rw [hh]; exact crE
    show Q3 Z cs y ky c0 c1 c2 c3 c4 c5 lv h0 n0 _ T217.heap _
    exact ⟨b163, tn217, _, ([(nar .char c0), (nar .char c1), (nar .char c2), (nar .char c3)] : List Int32), rfl, N217, c220, E217, Fv217, Fc217, V217, hp, Nat.le_of_ble_eq_true rfl⟩
  ·
    have pr222 : ∀ tg, Steps pP.tables eE below (s₁.setTop (mkF mM 144 #[.val (.ref y), .val (.int (5 : Int32))] [])) tg → Steps pP.tables eE below (s₁.setTop (entryFrame mM #[(.ref y), (.int lv)] 2)) tg := fun tg kg => pr2 _ (by
      show Steps pP.tables eE below (s₁.setTop (mkF mM 0 #[.val (.ref y), .val (.int (5 : Int32))] [])) _
      refine XS.iloadN X0.here hx rfl (hb hby d3_0) rfl ?_
      show Steps pP.tables eE below (s₁.setTop (mkF mM 1 #[.val (.ref y), .val (.int (5 : Int32))] [(.int (5 : Int32))])) _
      refine XS.ifYes X0.here hx rfl (pc0 := 1) (pc' := 15) rfl (hb hby d3_1) rfl ((if0 _ _).trans (feq (by decide)).2) (by decide) (by decide) ?_
      show Steps pP.tables eE below (s₁.setTop (mkF mM 15 #[.val (.ref y), .val (.int (5 : Int32))] [])) _
      refine XS.iloadN X0.here hx rfl (hb hby d3_15) rfl ?_
      show Steps pP.tables eE below (s₁.setTop (mkF mM 16 #[.val (.ref y), .val (.int (5 : Int32))] [(.int (5 : Int32))])) _
      refine XS.iconst X0.here hx rfl (hb hby d3_16) ?_
      show Steps pP.tables eE below (s₁.setTop (mkF mM 17 #[.val (.ref y), .val (.int (5 : Int32))] [(.int (1 : Int32)), (.int (5 : Int32))])) _
      refine XS.icmpYes X0.here hx rfl (pc0 := 17) (pc' := 37) rfl (hb hby d3_17) rfl (feq (by decide)).2 (by decide) (by decide) ?_
      show Steps pP.tables eE below (s₁.setTop (mkF mM 37 #[.val (.ref y), .val (.int (5 : Int32))] [])) _
      refine XS.iloadN X0.here hx rfl (hb hby d3_37) rfl ?_
      show Steps pP.tables eE below (s₁.setTop (mkF mM 38 #[.val (.ref y), .val (.int (5 : Int32))] [(.int (5 : Int32))])) _
      refine XS.iconst X0.here hx rfl (hb hby d3_38) ?_
      show Steps pP.tables eE below (s₁.setTop (mkF mM 39 #[.val (.ref y), .val (.int (5 : Int32))] [(.int (2 : Int32)), (.int (5 : Int32))])) _
      refine XS.icmpYes X0.here hx rfl (pc0 := 39) (pc' := 65) rfl (hb hby d3_39) rfl (feq (by decide)).2 (by decide) (by decide) ?_
      show Steps pP.tables eE below (s₁.setTop (mkF mM 65 #[.val (.ref y), .val (.int (5 : Int32))] [])) _
      refine XS.iloadN X0.here hx rfl (hb hby d3_65) rfl ?_
      show Steps pP.tables eE below (s₁.setTop (mkF mM 66 #[.val (.ref y), .val (.int (5 : Int32))] [(.int (5 : Int32))])) _
      refine XS.iconst X0.here hx rfl (hb hby d3_66) ?_
      show Steps pP.tables eE below (s₁.setTop (mkF mM 67 #[.val (.ref y), .val (.int (5 : Int32))] [(.int (3 : Int32)), (.int (5 : Int32))])) _
      refine XS.icmpYes X0.here hx rfl (pc0 := 67) (pc' := 99) rfl (hb hby d3_67) rfl (feq (by decide)).2 (by decide) (by decide) ?_
      show Steps pP.tables eE below (s₁.setTop (mkF mM 99 #[.val (.ref y), .val (.int (5 : Int32))] [])) _
      refine XS.iloadN X0.here hx rfl (hb hby d3_99) rfl ?_
      show Steps pP.tables eE below (s₁.setTop (mkF mM 100 #[.val (.ref y), .val (.int (5 : Int32))] [(.int (5 : Int32))])) _
      refine XS.iconst X0.here hx rfl (hb hby d3_100) ?_
      show Steps pP.tables eE below (s₁.setTop (mkF mM 101 #[.val (.ref y), .val (.int (5 : Int32))] [(.int (4 : Int32)), (.int (5 : Int32))])) _
      refine XS.icmpYes X0.here hx rfl (pc0 := 101) (pc' := 139) rfl (hb hby d3_101) rfl (feq (by decide)).2 (by decide) (by decide) ?_
      show Steps pP.tables eE below (s₁.setTop (mkF mM 139 #[.val (.ref y), .val (.int (5 : Int32))] [])) _
      refine XS.iloadN X0.here hx rfl (hb hby d3_139) rfl ?_
      show Steps pP.tables eE below (s₁.setTop (mkF mM 140 #[.val (.ref y), .val (.int (5 : Int32))] [(.int (5 : Int32))])) _
      refine XS.iconst X0.here hx rfl (hb hby d3_140) ?_
      show Steps pP.tables eE below (s₁.setTop (mkF mM 141 #[.val (.ref y), .val (.int (5 : Int32))] [(.int (5 : Int32)), (.int (5 : Int32))])) _
      refine XS.icmpNo X0.here hx rfl (hb hby d3_141) rfl (teq (by decide)).2 ?_
      exact kg)
    obtain ⟨T223, h223, X223, e223, E223, A223, D223, -, st223⟩ := newO X0 hx hZ hown (hw _ (List.mem_of_getElem? (i := 54) rfl)) (hw _ (List.mem_of_getElem? (i := 2) rfl)) (hw _ (List.mem_of_getElem? (i := 1) rfl)) e0 (g := (mkF mM 144 #[.val (.ref y), .val (.int (5 : Int32))] [])) rfl (hb hby d3_144) (by decide) (by decide)
    obtain ⟨b223, g223⟩ : ∃ z, z = (h0).size := ⟨_, rfl⟩
    rw [← g223] at A223 D223 st223
    have ne224 : y ≠ b223 := Nat.ne_of_lt (Nat.lt_of_lt_of_le (V_y).lt (Nat.le_of_eq g223.symm))
    have gn225 : n0 ≤ b223 := Nat.le_trans Z0 (Nat.le_of_eq g223.symm)
    have gs226 : h0.size ≤ b223 := Nat.le_trans (Keep.refl h0 []).1 (Nat.le_of_eq g223.symm)
    have sf227_b223 : Safe Z consts_1 sS.vm _ b223 := Safe.ext E223 cr0.1 (Safe.new (Nat.le_of_eq g223.symm))
    have cr227 := CHr.trans cr0 (CHr.ext E223 cr0.1)
    have F223_value : Fld Z h223 b223 "java/lang/String" "value" "[B" .null := D223 (Or.inr (hw _ (List.mem_of_getElem? (i := 4) rfl))) (ty := (.array .byte)) (by decide)
    have F223_coder : Fld Z h223 b223 "java/lang/String" "coder" "B" (.int (0 : Int32)) := D223 (Or.inr (hw _ (List.mem_of_getElem? (i := 5) rfl))) (ty := .byte) (by decide)
    have pr228 : ∀ tg, Steps pP.tables eE below (T223.setTop (mkF mM 147 #[.val (.ref y), .val (.int (5 : Int32))] [(.ref b223)])) tg → Steps pP.tables eE below (s₁.setTop (entryFrame mM #[(.ref y), (.int lv)] 2)) tg := fun tg kg => pr222 _ (st223 _ kg)
    have pr229 : ∀ tg, Steps pP.tables eE below (T223.setTop (mkF mM 149 #[.val (.ref y), .val (.int (5 : Int32))] [(.int (5 : Int32)), (.ref b223), (.ref b223)])) tg → Steps pP.tables eE below (s₁.setTop (entryFrame mM #[(.ref y), (.int lv)] 2)) tg := fun tg kg => pr228 _ (by
      show Steps pP.tables eE below (T223.setTop (mkF mM 147 #[.val (.ref y), .val (.int (5 : Int32))] [(.ref b223)])) _
      refine XS.dup X223.here hx rfl (hb hby d3_147) rfl rfl ?_
      show Steps pP.tables eE below (T223.setTop (mkF mM 148 #[.val (.ref y), .val (.int (5 : Int32))] [(.ref b223), (.ref b223)])) _
      refine XS.iconst X223.here hx rfl (hb hby d3_148) ?_
      exact kg)
    obtain ⟨T230, h230, k230, X230, e230, E230, A230, Ex230, st230⟩ := newPE X223 hx hZ (hw _ (List.mem_of_getElem? (i := 21) rfl)) e223 (g := (mkF mM 149 #[.val (.ref y), .val (.int (5 : Int32))] [(.int (5 : Int32)), (.ref b223), (.ref b223)])) rfl (hb hby d3_149) rfl (by decide) (cap := 5) (by decide) (by decide) (by decide) (by decide) (ad := "[C") rfl
    obtain ⟨b230, g230⟩ : ∃ z, z = (h223).size := ⟨_, rfl⟩
    rw [← g230] at A230 Ex230 st230
    have c232 := (Arv.ext V_y E223)
    have ne231 : y ≠ b230 := Nat.ne_of_lt (Nat.lt_of_lt_of_le (c232).lt (Nat.le_of_eq g230.symm))
    have ne233 : b223 ≠ b230 := Nat.ne_of_lt (Nat.lt_of_lt_of_le (A223).lt (Nat.le_of_eq g230.symm))
    have c235 := (Nat.le_trans Z0 E223.1)
    have gn234 : n0 ≤ b230 := Nat.le_trans c235 (Nat.le_of_eq g230.symm)
    have c237 := (Keep.ext (Keep.refl h0 []) E223)
    have gs236 : h0.size ≤ b230 := Nat.le_trans c237.1 (Nat.le_of_eq g230.symm)
    have sf238_b223 := Safe.ext E230 cr227.1 sf227_b223
    have sf238_b230 : Safe Z consts_1 sS.vm _ b230 := Safe.ext E230 cr227.1 (Safe.new (Nat.le_of_eq g230.symm))
    have cr238 := CHr.trans cr227 (CHr.ext E230 cr227.1)
    have V230 : Arv Z h230 b230 k230 .char (5 : Int32) [(.int (0 : Int32)), (.int (0 : Int32)), (.int (0 : Int32)), (.int (0 : Int32)), (.int (0 : Int32))] (.int (0 : Int32)) := (Arv.new A230 (by decide)).pad (pad_rep [] (.int (0 : Int32)) 5)
    have pr239 : ∀ tg, Steps pP.tables eE below (T230.setTop (mkF mM 151 #[.val (.ref y), .val (.int (5 : Int32))] [(.ref b230), (.ref b223), (.ref b223)])) tg → Steps pP.tables eE below (s₁.setTop (entryFrame mM #[(.ref y), (.int lv)] 2)) tg := fun tg kg => pr229 _ (st230 _ kg)
    have c240 := (Arv.ext c232 E230)
    obtain ⟨cla241, Ara241, qa241, Sa241, Ma241, Ha241, Ga241⟩ := id c240
    have hin242 : ¬ ((0 : Int32) < 0 ∨ cla241.slots.size ≤ ((0 : Int32)).toNatClampNeg) := inb_of Sa241 ⟨by decide, by decide⟩
    have hat242 : cla241.slots[((0 : Int32)).toNatClampNeg]? = some (.int c0) := Has.at Ha241 hin242 rfl
    have pr243 : ∀ tg, Steps pP.tables eE below (T230.setTop (mkF mM 156 #[.val (.ref y), .val (.int (5 : Int32))] [(.int c0), (.int (0 : Int32)), (.ref b230), (.ref b230), (.ref b223), (.ref b223)])) tg → Steps pP.tables eE below (s₁.setTop (entryFrame mM #[(.ref y), (.int lv)] 2)) tg := fun tg kg => pr239 _ (by
      show Steps pP.tables eE below (T230.setTop (mkF mM 151 #[.val (.ref y), .val (.int (5 : Int32))] [(.ref b230), (.ref b223), (.ref b223)])) _
      refine XS.dup X230.here hx rfl (hb hby d3_151) rfl rfl ?_
      show Steps pP.tables eE below (T230.setTop (mkF mM 152 #[.val (.ref y), .val (.int (5 : Int32))] [(.ref b230), (.ref b230), (.ref b223), (.ref b223)])) _
      refine XS.iconst X230.here hx rfl (hb hby d3_152) ?_
      show Steps pP.tables eE below (T230.setTop (mkF mM 153 #[.val (.ref y), .val (.int (5 : Int32))] [(.int (0 : Int32)), (.ref b230), (.ref b230), (.ref b223), (.ref b223)])) _
      refine XS.aloadN X230.here hx rfl (hb hby d3_153) rfl rfl ?_
      show Steps pP.tables eE below (T230.setTop (mkF mM 154 #[.val (.ref y), .val (.int (5 : Int32))] [(.ref y), (.int (0 : Int32)), (.ref b230), (.ref b230), (.ref b223), (.ref b223)])) _
      refine XS.iconst X230.here hx rfl (hb hby d3_154) ?_
      show Steps pP.tables eE below (T230.setTop (mkF mM 155 #[.val (.ref y), .val (.int (5 : Int32))] [(.int (0 : Int32)), (.ref y), (.int (0 : Int32)), (.ref b230), (.ref b230), (.ref b223), (.ref b223)])) _
      refine X230.caload hx (j := (0 : Int32)) (v := (.int c0)) (by rw [e230]; exact Ara241.1) (State.isArrayOf_alike hZ.alike Ara241.2.1) Ara241.2.2 hin242 hat242 (g := (mkF mM 155 #[.val (.ref y), .val (.int (5 : Int32))] [(.int (0 : Int32)), (.ref y), (.int (0 : Int32)), (.ref b230), (.ref b230), (.ref b223), (.ref b223)])) rfl rfl (hb hby d3_155) _ ?_
      exact kg)
    obtain ⟨cla244, Ara244, qa244, Sa244, Ma244, Ha244, Ga244⟩ := id V230
    have hin245 : ¬ ((0 : Int32) < 0 ∨ cla244.slots.size ≤ ((0 : Int32)).toNatClampNeg) := inb_of Sa244 ⟨by decide, by decide⟩
    obtain ⟨T245, h245, X245, e245, W245, st245⟩ := stC X230 hx hZ e230 Ara244 (j := (0 : Int32)) hin245 (g := (mkF mM 156 #[.val (.ref y), .val (.int (5 : Int32))] [(.int c0), (.int (0 : Int32)), (.ref b230), (.ref b230), (.ref b223), (.ref b223)])) rfl rfl (hb hby d3_156)
    have V245 : Arv Z h245 b230 k230 .char (5 : Int32) [(.int (nar .char c0)), (.int (0 : Int32)), (.int (0 : Int32)), (.int (0 : Int32)), (.int (0 : Int32))] (.int (0 : Int32)) := Arv.set Ara244 qa244 Sa244 Ma244 Ha244 Ga244 (fits_nar_char _) W245 0 rfl (Nat.le_of_ble_eq_true rfl)
    have N245 := Fr.snoc X245 N0 gn234
    have sf246_b223 := Safe.wr W245 sf238_b230 cr238.1 sf238_b223
    have sf246_b230 := Safe.wr W245 sf238_b230 cr238.1 sf238_b230
    have cr246 := CHr.trans cr238 (CHr.wr W245 sf238_b230 cr238.1)
    have pr247 : ∀ tg, Steps pP.tables eE below (T245.setTop (mkF mM 157 #[.val (.ref y), .val (.int (5 : Int32))] [(.ref b230), (.ref b223), (.ref b223)])) tg → Steps pP.tables eE below (s₁.setTop (entryFrame mM #[(.ref y), (.int lv)] 2)) tg := fun tg kg => pr243 _ (st245 _ kg)
    have c248 := (Arv.other c240 W245 ne231)
    obtain ⟨cla249, Ara249, qa249, Sa249, Ma249, Ha249, Ga249⟩ := id c248
    have hin250 : ¬ ((1 : Int32) < 0 ∨ cla249.slots.size ≤ ((1 : Int32)).toNatClampNeg) := inb_of Sa249 ⟨by decide, by decide⟩
    have hat250 : cla249.slots[((1 : Int32)).toNatClampNeg]? = some (.int c1) := Has.at Ha249 hin250 rfl
    have pr251 : ∀ tg, Steps pP.tables eE below (T245.setTop (mkF mM 162 #[.val (.ref y), .val (.int (5 : Int32))] [(.int c1), (.int (1 : Int32)), (.ref b230), (.ref b230), (.ref b223), (.ref b223)])) tg → Steps pP.tables eE below (s₁.setTop (entryFrame mM #[(.ref y), (.int lv)] 2)) tg := fun tg kg => pr247 _ (by
      show Steps pP.tables eE below (T245.setTop (mkF mM 157 #[.val (.ref y), .val (.int (5 : Int32))] [(.ref b230), (.ref b223), (.ref b223)])) _
      refine XS.dup X245.here hx rfl (hb hby d3_157) rfl rfl ?_
      show Steps pP.tables eE below (T245.setTop (mkF mM 158 #[.val (.ref y), .val (.int (5 : Int32))] [(.ref b230), (.ref b230), (.ref b223), (.ref b223)])) _
      refine XS.iconst X245.here hx rfl (hb hby d3_158) ?_
      show Steps pP.tables eE below (T245.setTop (mkF mM 159 #[.val (.ref y), .val (.int (5 : Int32))] [(.int (1 : Int32)), (.ref b230), (.ref b230), (.ref b223), (.ref b223)])) _
      refine XS.aloadN X245.here hx rfl (hb hby d3_159) rfl rfl ?_
      show Steps pP.tables eE below (T245.setTop (mkF mM 160 #[.val (.ref y), .val (.int (5 : Int32))] [(.ref y), (.int (1 : Int32)), (.ref b230), (.ref b230), (.ref b223), (.ref b223)])) _
      refine XS.iconst X245.here hx rfl (hb hby d3_160) ?_
      show Steps pP.tables eE below (T245.setTop (mkF mM 161 #[.val (.ref y), .val (.int (5 : Int32))] [(.int (1 : Int32)), (.ref y), (.int (1 : Int32)), (.ref b230), (.ref b230), (.ref b223), (.ref b223)])) _
      refine X245.caload hx (j := (1 : Int32)) (v := (.int c1)) (by rw [e245]; exact Ara249.1) (State.isArrayOf_alike hZ.alike Ara249.2.1) Ara249.2.2 hin250 hat250 (g := (mkF mM 161 #[.val (.ref y), .val (.int (5 : Int32))] [(.int (1 : Int32)), (.ref y), (.int (1 : Int32)), (.ref b230), (.ref b230), (.ref b223), (.ref b223)])) rfl rfl (hb hby d3_161) _ ?_
      exact kg)
    obtain ⟨cla252, Ara252, qa252, Sa252, Ma252, Ha252, Ga252⟩ := id V245
    have hin253 : ¬ ((1 : Int32) < 0 ∨ cla252.slots.size ≤ ((1 : Int32)).toNatClampNeg) := inb_of Sa252 ⟨by decide, by decide⟩
    obtain ⟨T253, h253, X253, e253, W253, st253⟩ := stC X245 hx hZ e245 Ara252 (j := (1 : Int32)) hin253 (g := (mkF mM 162 #[.val (.ref y), .val (.int (5 : Int32))] [(.int c1), (.int (1 : Int32)), (.ref b230), (.ref b230), (.ref b223), (.ref b223)])) rfl rfl (hb hby d3_162)
    have V253 : Arv Z h253 b230 k230 .char (5 : Int32) [(.int (nar .char c0)), (.int (nar .char c1)), (.int (0 : Int32)), (.int (0 : Int32)), (.int (0 : Int32))] (.int (0 : Int32)) := Arv.set Ara252 qa252 Sa252 Ma252 Ha252 Ga252 (fits_nar_char _) W253 1 rfl (Nat.le_of_ble_eq_true rfl)
    have N253 := Fr.snoc X253 N245 gn234
    have sf254_b223 := Safe.wr W253 sf246_b230 cr246.1 sf246_b223
    have sf254_b230 := Safe.wr W253 sf246_b230 cr246.1 sf246_b230
    have cr254 := CHr.trans cr246 (CHr.wr W253 sf246_b230 cr246.1)
    have pr255 : ∀ tg, Steps pP.tables eE below (T253.setTop (mkF mM 163 #[.val (.ref y), .val (.int (5 : Int32))] [(.ref b230), (.ref b223), (.ref b223)])) tg → Steps pP.tables eE below (s₁.setTop (entryFrame mM #[(.ref y), (.int lv)] 2)) tg := fun tg kg => pr251 _ (st253 _ kg)
    have c256 := (Arv.other c248 W253 ne231)
    obtain ⟨cla257, Ara257, qa257, Sa257, Ma257, Ha257, Ga257⟩ := id c256
    have hin258 : ¬ ((2 : Int32) < 0 ∨ cla257.slots.size ≤ ((2 : Int32)).toNatClampNeg) := inb_of Sa257 ⟨by decide, by decide⟩
    have hat258 : cla257.slots[((2 : Int32)).toNatClampNeg]? = some (.int c2) := Has.at Ha257 hin258 rfl
    have pr259 : ∀ tg, Steps pP.tables eE below (T253.setTop (mkF mM 168 #[.val (.ref y), .val (.int (5 : Int32))] [(.int c2), (.int (2 : Int32)), (.ref b230), (.ref b230), (.ref b223), (.ref b223)])) tg → Steps pP.tables eE below (s₁.setTop (entryFrame mM #[(.ref y), (.int lv)] 2)) tg := fun tg kg => pr255 _ (by
      show Steps pP.tables eE below (T253.setTop (mkF mM 163 #[.val (.ref y), .val (.int (5 : Int32))] [(.ref b230), (.ref b223), (.ref b223)])) _
      refine XS.dup X253.here hx rfl (hb hby d3_163) rfl rfl ?_
      show Steps pP.tables eE below (T253.setTop (mkF mM 164 #[.val (.ref y), .val (.int (5 : Int32))] [(.ref b230), (.ref b230), (.ref b223), (.ref b223)])) _
      refine XS.iconst X253.here hx rfl (hb hby d3_164) ?_
      show Steps pP.tables eE below (T253.setTop (mkF mM 165 #[.val (.ref y), .val (.int (5 : Int32))] [(.int (2 : Int32)), (.ref b230), (.ref b230), (.ref b223), (.ref b223)])) _
      refine XS.aloadN X253.here hx rfl (hb hby d3_165) rfl rfl ?_
      show Steps pP.tables eE below (T253.setTop (mkF mM 166 #[.val (.ref y), .val (.int (5 : Int32))] [(.ref y), (.int (2 : Int32)), (.ref b230), (.ref b230), (.ref b223), (.ref b223)])) _
      refine XS.iconst X253.here hx rfl (hb hby d3_166) ?_
      show Steps pP.tables eE below (T253.setTop (mkF mM 167 #[.val (.ref y), .val (.int (5 : Int32))] [(.int (2 : Int32)), (.ref y), (.int (2 : Int32)), (.ref b230), (.ref b230), (.ref b223), (.ref b223)])) _
      refine X253.caload hx (j := (2 : Int32)) (v := (.int c2)) (by rw [e253]; exact Ara257.1) (State.isArrayOf_alike hZ.alike Ara257.2.1) Ara257.2.2 hin258 hat258 (g := (mkF mM 167 #[.val (.ref y), .val (.int (5 : Int32))] [(.int (2 : Int32)), (.ref y), (.int (2 : Int32)), (.ref b230), (.ref b230), (.ref b223), (.ref b223)])) rfl rfl (hb hby d3_167) _ ?_
      exact kg)
    obtain ⟨cla260, Ara260, qa260, Sa260, Ma260, Ha260, Ga260⟩ := id V253
    have hin261 : ¬ ((2 : Int32) < 0 ∨ cla260.slots.size ≤ ((2 : Int32)).toNatClampNeg) := inb_of Sa260 ⟨by decide, by decide⟩
    obtain ⟨T261, h261, X261, e261, W261, st261⟩ := stC X253 hx hZ e253 Ara260 (j := (2 : Int32)) hin261 (g := (mkF mM 168 #[.val (.ref y), .val (.int (5 : Int32))] [(.int c2), (.int (2 : Int32)), (.ref b230), (.ref b230), (.ref b223), (.ref b223)])) rfl rfl (hb hby d3_168)
    have V261 : Arv Z h261 b230 k230 .char (5 : Int32) [(.int (nar .char c0)), (.int (nar .char c1)), (.int (nar .char c2)), (.int (0 : Int32)), (.int (0 : Int32))] (.int (0 : Int32)) := Arv.set Ara260 qa260 Sa260 Ma260 Ha260 Ga260 (fits_nar_char _) W261 2 rfl (Nat.le_of_ble_eq_true rfl)
    have N261 := Fr.snoc X261 N253 gn234
    have sf262_b223 := Safe.wr W261 sf254_b230 cr254.1 sf254_b223
    have sf262_b230 := Safe.wr W261 sf254_b230 cr254.1 sf254_b230
    have cr262 := CHr.trans cr254 (CHr.wr W261 sf254_b230 cr254.1)
    have pr263 : ∀ tg, Steps pP.tables eE below (T261.setTop (mkF mM 169 #[.val (.ref y), .val (.int (5 : Int32))] [(.ref b230), (.ref b223), (.ref b223)])) tg → Steps pP.tables eE below (s₁.setTop (entryFrame mM #[(.ref y), (.int lv)] 2)) tg := fun tg kg => pr259 _ (st261 _ kg)
    have c264 := (Arv.other c256 W261 ne231)
    obtain ⟨cla265, Ara265, qa265, Sa265, Ma265, Ha265, Ga265⟩ := id c264
    have hin266 : ¬ ((3 : Int32) < 0 ∨ cla265.slots.size ≤ ((3 : Int32)).toNatClampNeg) := inb_of Sa265 ⟨by decide, by decide⟩
    have hat266 : cla265.slots[((3 : Int32)).toNatClampNeg]? = some (.int c3) := Has.at Ha265 hin266 rfl
    have pr267 : ∀ tg, Steps pP.tables eE below (T261.setTop (mkF mM 174 #[.val (.ref y), .val (.int (5 : Int32))] [(.int c3), (.int (3 : Int32)), (.ref b230), (.ref b230), (.ref b223), (.ref b223)])) tg → Steps pP.tables eE below (s₁.setTop (entryFrame mM #[(.ref y), (.int lv)] 2)) tg := fun tg kg => pr263 _ (by
      show Steps pP.tables eE below (T261.setTop (mkF mM 169 #[.val (.ref y), .val (.int (5 : Int32))] [(.ref b230), (.ref b223), (.ref b223)])) _
      refine XS.dup X261.here hx rfl (hb hby d3_169) rfl rfl ?_
      show Steps pP.tables eE below (T261.setTop (mkF mM 170 #[.val (.ref y), .val (.int (5 : Int32))] [(.ref b230), (.ref b230), (.ref b223), (.ref b223)])) _
      refine XS.iconst X261.here hx rfl (hb hby d3_170) ?_
      show Steps pP.tables eE below (T261.setTop (mkF mM 171 #[.val (.ref y), .val (.int (5 : Int32))] [(.int (3 : Int32)), (.ref b230), (.ref b230), (.ref b223), (.ref b223)])) _
      refine XS.aloadN X261.here hx rfl (hb hby d3_171) rfl rfl ?_
      show Steps pP.tables eE below (T261.setTop (mkF mM 172 #[.val (.ref y), .val (.int (5 : Int32))] [(.ref y), (.int (3 : Int32)), (.ref b230), (.ref b230), (.ref b223), (.ref b223)])) _
      refine XS.iconst X261.here hx rfl (hb hby d3_172) ?_
      show Steps pP.tables eE below (T261.setTop (mkF mM 173 #[.val (.ref y), .val (.int (5 : Int32))] [(.int (3 : Int32)), (.ref y), (.int (3 : Int32)), (.ref b230), (.ref b230), (.ref b223), (.ref b223)])) _
      refine X261.caload hx (j := (3 : Int32)) (v := (.int c3)) (by rw [e261]; exact Ara265.1) (State.isArrayOf_alike hZ.alike Ara265.2.1) Ara265.2.2 hin266 hat266 (g := (mkF mM 173 #[.val (.ref y), .val (.int (5 : Int32))] [(.int (3 : Int32)), (.ref y), (.int (3 : Int32)), (.ref b230), (.ref b230), (.ref b223), (.ref b223)])) rfl rfl (hb hby d3_173) _ ?_
      exact kg)
    obtain ⟨cla268, Ara268, qa268, Sa268, Ma268, Ha268, Ga268⟩ := id V261
    have hin269 : ¬ ((3 : Int32) < 0 ∨ cla268.slots.size ≤ ((3 : Int32)).toNatClampNeg) := inb_of Sa268 ⟨by decide, by decide⟩
    obtain ⟨T269, h269, X269, e269, W269, st269⟩ := stC X261 hx hZ e261 Ara268 (j := (3 : Int32)) hin269 (g := (mkF mM 174 #[.val (.ref y), .val (.int (5 : Int32))] [(.int c3), (.int (3 : Int32)), (.ref b230), (.ref b230), (.ref b223), (.ref b223)])) rfl rfl (hb hby d3_174)
    have V269 : Arv Z h269 b230 k230 .char (5 : Int32) [(.int (nar .char c0)), (.int (nar .char c1)), (.int (nar .char c2)), (.int (nar .char c3)), (.int (0 : Int32))] (.int (0 : Int32)) := Arv.set Ara268 qa268 Sa268 Ma268 Ha268 Ga268 (fits_nar_char _) W269 3 rfl (Nat.le_of_ble_eq_true rfl)
    have N269 := Fr.snoc X269 N261 gn234
    have sf270_b223 := Safe.wr W269 sf262_b230 cr262.1 sf262_b223
    have sf270_b230 := Safe.wr W269 sf262_b230 cr262.1 sf262_b230
    have cr270 := CHr.trans cr262 (CHr.wr W269 sf262_b230 cr262.1)
    have pr271 : ∀ tg, Steps pP.tables eE below (T269.setTop (mkF mM 175 #[.val (.ref y), .val (.int (5 : Int32))] [(.ref b230), (.ref b223), (.ref b223)])) tg → Steps pP.tables eE below (s₁.setTop (entryFrame mM #[(.ref y), (.int lv)] 2)) tg := fun tg kg => pr267 _ (st269 _ kg)
    have c272 := (Arv.other c264 W269 ne231)
    obtain ⟨cla273, Ara273, qa273, Sa273, Ma273, Ha273, Ga273⟩ := id c272
    have hin274 : ¬ ((4 : Int32) < 0 ∨ cla273.slots.size ≤ ((4 : Int32)).toNatClampNeg) := inb_of Sa273 ⟨by decide, by decide⟩
    have hat274 : cla273.slots[((4 : Int32)).toNatClampNeg]? = some (.int c4) := Has.at Ha273 hin274 rfl
    have pr275 : ∀ tg, Steps pP.tables eE below (T269.setTop (mkF mM 180 #[.val (.ref y), .val (.int (5 : Int32))] [(.int c4), (.int (4 : Int32)), (.ref b230), (.ref b230), (.ref b223), (.ref b223)])) tg → Steps pP.tables eE below (s₁.setTop (entryFrame mM #[(.ref y), (.int lv)] 2)) tg := fun tg kg => pr271 _ (by
      show Steps pP.tables eE below (T269.setTop (mkF mM 175 #[.val (.ref y), .val (.int (5 : Int32))] [(.ref b230), (.ref b223), (.ref b223)])) _
      refine XS.dup X269.here hx rfl (hb hby d3_175) rfl rfl ?_
      show Steps pP.tables eE below (T269.setTop (mkF mM 176 #[.val (.ref y), .val (.int (5 : Int32))] [(.ref b230), (.ref b230), (.ref b223), (.ref b223)])) _
      refine XS.iconst X269.here hx rfl (hb hby d3_176) ?_
      show Steps pP.tables eE below (T269.setTop (mkF mM 177 #[.val (.ref y), .val (.int (5 : Int32))] [(.int (4 : Int32)), (.ref b230), (.ref b230), (.ref b223), (.ref b223)])) _
      refine XS.aloadN X269.here hx rfl (hb hby d3_177) rfl rfl ?_
      show Steps pP.tables eE below (T269.setTop (mkF mM 178 #[.val (.ref y), .val (.int (5 : Int32))] [(.ref y), (.int (4 : Int32)), (.ref b230), (.ref b230), (.ref b223), (.ref b223)])) _
      refine XS.iconst X269.here hx rfl (hb hby d3_178) ?_
      show Steps pP.tables eE below (T269.setTop (mkF mM 179 #[.val (.ref y), .val (.int (5 : Int32))] [(.int (4 : Int32)), (.ref y), (.int (4 : Int32)), (.ref b230), (.ref b230), (.ref b223), (.ref b223)])) _
      refine X269.caload hx (j := (4 : Int32)) (v := (.int c4)) (by rw [e269]; exact Ara273.1) (State.isArrayOf_alike hZ.alike Ara273.2.1) Ara273.2.2 hin274 hat274 (g := (mkF mM 179 #[.val (.ref y), .val (.int (5 : Int32))] [(.int (4 : Int32)), (.ref y), (.int (4 : Int32)), (.ref b230), (.ref b230), (.ref b223), (.ref b223)])) rfl rfl (hb hby d3_179) _ ?_
      exact kg)
    obtain ⟨cla276, Ara276, qa276, Sa276, Ma276, Ha276, Ga276⟩ := id V269
    have hin277 : ¬ ((4 : Int32) < 0 ∨ cla276.slots.size ≤ ((4 : Int32)).toNatClampNeg) := inb_of Sa276 ⟨by decide, by decide⟩
    obtain ⟨T277, h277, X277, e277, W277, st277⟩ := stC X269 hx hZ e269 Ara276 (j := (4 : Int32)) hin277 (g := (mkF mM 180 #[.val (.ref y), .val (.int (5 : Int32))] [(.int c4), (.int (4 : Int32)), (.ref b230), (.ref b230), (.ref b223), (.ref b223)])) rfl rfl (hb hby d3_180)
    have V277 : Arv Z h277 b230 k230 .char (5 : Int32) [(.int (nar .char c0)), (.int (nar .char c1)), (.int (nar .char c2)), (.int (nar .char c3)), (.int (nar .char c4))] (.int (0 : Int32)) := Arv.set Ara276 qa276 Sa276 Ma276 Ha276 Ga276 (fits_nar_char _) W277 4 rfl (Nat.le_of_ble_eq_true rfl)
    have N277 := Fr.snoc X277 N269 gn234
    have sf278_b223 := Safe.wr W277 sf270_b230 cr270.1 sf270_b223
    have sf278_b230 := Safe.wr W277 sf270_b230 cr270.1 sf270_b230
    have cr278 := CHr.trans cr270 (CHr.wr W277 sf270_b230 cr270.1)
    have pr279 : ∀ tg, Steps pP.tables eE below (T277.setTop (mkF mM 181 #[.val (.ref y), .val (.int (5 : Int32))] [(.ref b230), (.ref b223), (.ref b223)])) tg → Steps pP.tables eE below (s₁.setTop (entryFrame mM #[(.ref y), (.int lv)] 2)) tg := fun tg kg => pr275 _ (st277 _ kg)
    have hp : ∀ c ∈ ([(nar .char c0), (nar .char c1), (nar .char c2), (nar .char c3), (nar .char c4)] : List Int32), ¬ c < 0 ∧ ¬ (255 : Int32) < c := by
      intro c hc
      simp only [List.mem_cons, List.not_mem_nil, or_false] at hc
      rcases hc with rfl | rfl | rfl | rfl | rfl
      · exact own_nb2 hc0
      · exact own_nb2 hc1
      · exact own_nb2 hc2
      · exact own_nb2 hc3
      · exact own_nb2 hc4
    have c280 := (Exa.wr W277 (Exa.wr W269 (Exa.wr W261 (Exa.wr W253 (Exa.wr W245 (Exa.ext E230 A223))))))
    have c281 := (Fld.other W277 (Fld.other W269 (Fld.other W261 (Fld.other W253 (Fld.other W245 (Fld.ext E230 F223_value) (Or.inl ne233)) (Or.inl ne233)) (Or.inl ne233)) (Or.inl ne233)) (Or.inl ne233))
    have c282 := (Fld.other W277 (Fld.other W269 (Fld.other W261 (Fld.other W253 (Fld.other W245 (Fld.ext E230 F223_coder) (Or.inl ne233)) (Or.inl ne233)) (Or.inl ne233)) (Or.inl ne233)) (Or.inl ne233))
    have c283 := (Old.wr (Old.wr (Old.wr (Old.wr (Old.wr (Old.ext (Old.ext O E223) E230) W245 gn234) W253 gn234) W261 gn234) W269 gn234) W277 gn234)
    have c284 := (Nat.le_trans (Nat.le_trans (Nat.le_trans (Nat.le_trans (Nat.le_trans (Nat.le_trans c235 E230.1) (Keep.of_wr W245).1) (Keep.of_wr W253).1) (Keep.of_wr W261).1) (Keep.of_wr W269).1) (Keep.of_wr W277).1)
    obtain ⟨_, _, ⟨T285, L285, kk285, nn285⟩, -, X285, ⟨Lc285, hQ285, l285, y285, z285⟩, st285⟩ := X277.specialBack hx (y := (⟨"java/lang/String", "<init>", "([C)V"⟩ : MethodName)) rfl hown (mvT hZ (hw _ (List.mem_of_getElem? (i := 55) rfl))) (mvT hZ (hw _ (List.mem_of_getElem? (i := 56) rfl))) (mvT hZ (hw _ (List.mem_of_getElem? (i := 57) rfl))) (by decide) (StrChars.Road.backV (W := 1) hZ (own_wB hw) (kI := 4) (hw _ (List.mem_of_getElem? (i := 2) rfl)) (cs := ([(nar .char c0), (nar .char c1), (nar .char c2), (nar .char c3), (nar .char c4)] : List Int32)) (bs := (([(nar .char c0), (nar .char c1), (nar .char c2), (nar .char c3), (nar .char c4)] : List Int32)).map (fun c => c.toInt8.toInt32)) (n := 5) gn225 c284 c280 c281 c282 V277 (Sta.ext (c283).2 S_cs) hcs rfl rfl (by decide) (by decide) hp rfl (by decide) (by decide)) (g := (mkF mM 181 #[.val (.ref y), .val (.int (5 : Int32))] [(.ref b230), (.ref b223), (.ref b223)])) rfl (by rw [hml]; rfl) (Steps.refl _) (a := b223) (argsL := [(.ref b230)]) (rest := [(.ref b223)]) (lenOf pd_8 rfl) rfl (by show 2 * 0 + _ ≤ _; exact Nat.le_of_eq rfl) (hb hby d3_181) (fun _ _ => ⟨rfl, e277, (by decide : 2 + 1 ≤ _), (by decide : 9 + 5 ≤ _)⟩)
    dsimp only [Pt.U, Pt.locs, Pt.cells, Pt.slots] at X285 l285 y285 z285 st285 hQ285
    subst l285 y285 z285
    obtain ⟨rfl, Nq285, K285, E285, Fc285, tn285, kt285, -, ge285, -, Fv285, V285⟩ := hQ285
    have N285 := Fr.app N277 Nq285
    have sf286_b223 := Safe.keep K285 (sfS sf278_b223 sf0) cr278.1 sf278_b223
    have sf286_b230 := Safe.keep K285 (sfS sf278_b223 sf0) cr278.1 sf278_b230
    have cr286 := CHr.trans cr278 (CHr.keep K285 (sfS sf278_b223 sf0) cr278.1)
    have pr287 : ∀ tg, Steps pP.tables eE below (T285.setTop (mkF mM 184 #[.val (.ref y), .val (.int (5 : Int32))] [(.ref b223)])) tg → Steps pP.tables eE below (s₁.setTop (entryFrame mM #[(.ref y), (.int lv)] 2)) tg := fun tg kg => pr279 _ (st285.trans kg)
    have c288 := (Keep.trans (Keep.wr (Keep.wr (Keep.wr (Keep.wr (Keep.wr (Keep.ext c237 E230) W245 (Or.inr gs236)) W253 (Or.inr gs236)) W261 (Or.inr gs236)) W269 (Or.inr gs236)) W277 (Or.inr gs236)) K285 (allS (Or.inr gs226) all0))
    have c289 := (Nat.le_trans (Nat.le_trans (Nat.le_trans (Nat.le_trans (Nat.le_trans (Nat.le_trans (Nat.le_trans (Nat.le_trans (Nat.zero_le _) E223.1) E230.1) (Keep.of_wr W245).1) (Keep.of_wr W253).1) (Keep.of_wr W261).1) (Keep.of_wr W269).1) (Keep.of_wr W277).1) K285.1)
    obtain ⟨fs, hr, hrun, hended, hW⟩ := Jvm.Stand.leaveW (s := sS) (vm₁ := sS.vm) X285 hS (Nat.le_trans c289 (Nat.le_of_eq (congrArg Array.size (rfl : T285.heap = T285.heap).symm))) (v := some (.ref b223)) (fun h => by rw [Bd.returns] at h; cases h)
    have crE := CHr.trans cr286 (CHv.at (s := sS) (vm0 := sS.vm) X285 hZ hEW cr286.1)
    refine ⟨_, _, pr287 _ (retOut X285 hx (t := (.object "java/lang/String")) Bd.returns rfl (Or.inr (Or.inr (Or.inr (Or.inr ⟨rfl, rfl, rfl⟩)))) (hb hby d3_184) hr), hrun, hended, _, _, rfl, ?_, ?_, hW.1, hW.2.1, hW.2.2.1, hW.2.2.2.mono (by decide) (by decide)⟩
    rotate_left
    · show CHr Z consts_1 sS.vm sS.heap T285.vm T285.heap
      rw [hh]; exact crE
    show Q3 Z cs y ky c0 c1 c2 c3 c4 c5 lv h0 n0 _ T285.heap _
    exact ⟨b223, tn285, _, ([(nar .char c0), (nar .char c1), (nar .char c2), (nar .char c3), (nar .char c4)] : List Int32), rfl, N285, c288, E285, Fv285, Fc285, V285, hp, Nat.le_of_ble_eq_true rfl⟩
  ·
    have pr290 : ∀ tg, Steps pP.tables eE below (s₁.setTop (mkF mM 185 #[.val (.ref y), .val (.int (6 : Int32))] [])) tg → Steps pP.tables eE below (s₁.setTop (entryFrame mM #[(.ref y), (.int lv)] 2)) tg := fun tg kg => pr2 _ (by
      show Steps pP.tables eE below (s₁.setTop (mkF mM 0 #[.val (.ref y), .val (.int (6 : Int32))] [])) _
      refine XS.iloadN X0.here hx rfl (hb hby d3_0) rfl ?_
      show Steps pP.tables eE below (s₁.setTop (mkF mM 1 #[.val (.ref y), .val (.int (6 : Int32))] [(.int (6 : Int32))])) _
      refine XS.ifYes X0.here hx rfl (pc0 := 1) (pc' := 15) rfl (hb hby d3_1) rfl ((if0 _ _).trans (feq (by decide)).2) (by decide) (by decide) ?_
      show Steps pP.tables eE below (s₁.setTop (mkF mM 15 #[.val (.ref y), .val (.int (6 : Int32))] [])) _
      refine XS.iloadN X0.here hx rfl (hb hby d3_15) rfl ?_
      show Steps pP.tables eE below (s₁.setTop (mkF mM 16 #[.val (.ref y), .val (.int (6 : Int32))] [(.int (6 : Int32))])) _
      refine XS.iconst X0.here hx rfl (hb hby d3_16) ?_
      show Steps pP.tables eE below (s₁.setTop (mkF mM 17 #[.val (.ref y), .val (.int (6 : Int32))] [(.int (1 : Int32)), (.int (6 : Int32))])) _
      refine XS.icmpYes X0.here hx rfl (pc0 := 17) (pc' := 37) rfl (hb hby d3_17) rfl (feq (by decide)).2 (by decide) (by decide) ?_
      show Steps pP.tables eE below (s₁.setTop (mkF mM 37 #[.val (.ref y), .val (.int (6 : Int32))] [])) _
      refine XS.iloadN X0.here hx rfl (hb hby d3_37) rfl ?_
      show Steps pP.tables eE below (s₁.setTop (mkF mM 38 #[.val (.ref y), .val (.int (6 : Int32))] [(.int (6 : Int32))])) _
      refine XS.iconst X0.here hx rfl (hb hby d3_38) ?_
      show Steps pP.tables eE below (s₁.setTop (mkF mM 39 #[.val (.ref y), .val (.int (6 : Int32))] [(.int (2 : Int32)), (.int (6 : Int32))])) _
      refine XS.icmpYes X0.here hx rfl (pc0 := 39) (pc' := 65) rfl (hb hby d3_39) rfl (feq (by decide)).2 (by decide) (by decide) ?_
      show Steps pP.tables eE below (s₁.setTop (mkF mM 65 #[.val (.ref y), .val (.int (6 : Int32))] [])) _
      refine XS.iloadN X0.here hx rfl (hb hby d3_65) rfl ?_
      show Steps pP.tables eE below (s₁.setTop (mkF mM 66 #[.val (.ref y), .val (.int (6 : Int32))] [(.int (6 : Int32))])) _
      refine XS.iconst X0.here hx rfl (hb hby d3_66) ?_
      show Steps pP.tables eE below (s₁.setTop (mkF mM 67 #[.val (.ref y), .val (.int (6 : Int32))] [(.int (3 : Int32)), (.int (6 : Int32))])) _
      refine XS.icmpYes X0.here hx rfl (pc0 := 67) (pc' := 99) rfl (hb hby d3_67) rfl (feq (by decide)).2 (by decide) (by decide) ?_
      show Steps pP.tables eE below (s₁.setTop (mkF mM 99 #[.val (.ref y), .val (.int (6 : Int32))] [])) _
      refine XS.iloadN X0.here hx rfl (hb hby d3_99) rfl ?_
      show Steps pP.tables eE below (s₁.setTop (mkF mM 100 #[.val (.ref y), .val (.int (6 : Int32))] [(.int (6 : Int32))])) _
      refine XS.iconst X0.here hx rfl (hb hby d3_100) ?_
      show Steps pP.tables eE below (s₁.setTop (mkF mM 101 #[.val (.ref y), .val (.int (6 : Int32))] [(.int (4 : Int32)), (.int (6 : Int32))])) _
      refine XS.icmpYes X0.here hx rfl (pc0 := 101) (pc' := 139) rfl (hb hby d3_101) rfl (feq (by decide)).2 (by decide) (by decide) ?_
      show Steps pP.tables eE below (s₁.setTop (mkF mM 139 #[.val (.ref y), .val (.int (6 : Int32))] [])) _
      refine XS.iloadN X0.here hx rfl (hb hby d3_139) rfl ?_
      show Steps pP.tables eE below (s₁.setTop (mkF mM 140 #[.val (.ref y), .val (.int (6 : Int32))] [(.int (6 : Int32))])) _
      refine XS.iconst X0.here hx rfl (hb hby d3_140) ?_
      show Steps pP.tables eE below (s₁.setTop (mkF mM 141 #[.val (.ref y), .val (.int (6 : Int32))] [(.int (5 : Int32)), (.int (6 : Int32))])) _
      refine XS.icmpYes X0.here hx rfl (pc0 := 141) (pc' := 185) rfl (hb hby d3_141) rfl (feq (by decide)).2 (by decide) (by decide) ?_
      exact kg)
    obtain ⟨T291, h291, X291, e291, E291, A291, D291, -, st291⟩ := newO X0 hx hZ hown (hw _ (List.mem_of_getElem? (i := 54) rfl)) (hw _ (List.mem_of_getElem? (i := 2) rfl)) (hw _ (List.mem_of_getElem? (i := 1) rfl)) e0 (g := (mkF mM 185 #[.val (.ref y), .val (.int (6 : Int32))] [])) rfl (hb hby d3_185) (by decide) (by decide)
    obtain ⟨b291, g291⟩ : ∃ z, z = (h0).size := ⟨_, rfl⟩
    rw [← g291] at A291 D291 st291
    have ne292 : y ≠ b291 := Nat.ne_of_lt (Nat.lt_of_lt_of_le (V_y).lt (Nat.le_of_eq g291.symm))
    have gn293 : n0 ≤ b291 := Nat.le_trans Z0 (Nat.le_of_eq g291.symm)
    have gs294 : h0.size ≤ b291 := Nat.le_trans (Keep.refl h0 []).1 (Nat.le_of_eq g291.symm)
    have sf295_b291 : Safe Z consts_1 sS.vm _ b291 := Safe.ext E291 cr0.1 (Safe.new (Nat.le_of_eq g291.symm))
    have cr295 := CHr.trans cr0 (CHr.ext E291 cr0.1)
    have F291_value : Fld Z h291 b291 "java/lang/String" "value" "[B" .null := D291 (Or.inr (hw _ (List.mem_of_getElem? (i := 4) rfl))) (ty := (.array .byte)) (by decide)
    have F291_coder : Fld Z h291 b291 "java/lang/String" "coder" "B" (.int (0 : Int32)) := D291 (Or.inr (hw _ (List.mem_of_getElem? (i := 5) rfl))) (ty := .byte) (by decide)
    have pr296 : ∀ tg, Steps pP.tables eE below (T291.setTop (mkF mM 188 #[.val (.ref y), .val (.int (6 : Int32))] [(.ref b291)])) tg → Steps pP.tables eE below (s₁.setTop (entryFrame mM #[(.ref y), (.int lv)] 2)) tg := fun tg kg => pr290 _ (st291 _ kg)
    have pr297 : ∀ tg, Steps pP.tables eE below (T291.setTop (mkF mM 191 #[.val (.ref y), .val (.int (6 : Int32))] [(.int (6 : Int32)), (.ref b291), (.ref b291)])) tg → Steps pP.tables eE below (s₁.setTop (entryFrame mM #[(.ref y), (.int lv)] 2)) tg := fun tg kg => pr296 _ (by
      show Steps pP.tables eE below (T291.setTop (mkF mM 188 #[.val (.ref y), .val (.int (6 : Int32))] [(.ref b291)])) _
      refine XS.dup X291.here hx rfl (hb hby d3_188) rfl rfl ?_
      show Steps pP.tables eE below (T291.setTop (mkF mM 189 #[.val (.ref y), .val (.int (6 : Int32))] [(.ref b291), (.ref b291)])) _
      refine XS.bipush X291.here hx rfl (hb hby d3_189) ?_
      exact kg)
    obtain ⟨T298, h298, k298, X298, e298, E298, A298, Ex298, st298⟩ := newPE X291 hx hZ (hw _ (List.mem_of_getElem? (i := 21) rfl)) e291 (g := (mkF mM 191 #[.val (.ref y), .val (.int (6 : Int32))] [(.int (6 : Int32)), (.ref b291), (.ref b291)])) rfl (hb hby d3_191) rfl (by decide) (cap := 6) (by decide) (by decide) (by decide) (by decide) (ad := "[C") rfl
    obtain ⟨b298, g298⟩ : ∃ z, z = (h291).size := ⟨_, rfl⟩
    rw [← g298] at A298 Ex298 st298
    have c300 := (Arv.ext V_y E291)
    have ne299 : y ≠ b298 := Nat.ne_of_lt (Nat.lt_of_lt_of_le (c300).lt (Nat.le_of_eq g298.symm))
    have ne301 : b291 ≠ b298 := Nat.ne_of_lt (Nat.lt_of_lt_of_le (A291).lt (Nat.le_of_eq g298.symm))
    have c303 := (Nat.le_trans Z0 E291.1)
    have gn302 : n0 ≤ b298 := Nat.le_trans c303 (Nat.le_of_eq g298.symm)
    have c305 := (Keep.ext (Keep.refl h0 []) E291)
    have gs304 : h0.size ≤ b298 := Nat.le_trans c305.1 (Nat.le_of_eq g298.symm)
    have sf306_b291 := Safe.ext E298 cr295.1 sf295_b291
    have sf306_b298 : Safe Z consts_1 sS.vm _ b298 := Safe.ext E298 cr295.1 (Safe.new (Nat.le_of_eq g298.symm))
    have cr306 := CHr.trans cr295 (CHr.ext E298 cr295.1)
    have V298 : Arv Z h298 b298 k298 .char (6 : Int32) [(.int (0 : Int32)), (.int (0 : Int32)), (.int (0 : Int32)), (.int (0 : Int32)), (.int (0 : Int32)), (.int (0 : Int32))] (.int (0 : Int32)) := (Arv.new A298 (by decide)).pad (pad_rep [] (.int (0 : Int32)) 6)
    have pr307 : ∀ tg, Steps pP.tables eE below (T298.setTop (mkF mM 193 #[.val (.ref y), .val (.int (6 : Int32))] [(.ref b298), (.ref b291), (.ref b291)])) tg → Steps pP.tables eE below (s₁.setTop (entryFrame mM #[(.ref y), (.int lv)] 2)) tg := fun tg kg => pr297 _ (st298 _ kg)
    have c308 := (Arv.ext c300 E298)
    obtain ⟨cla309, Ara309, qa309, Sa309, Ma309, Ha309, Ga309⟩ := id c308
    have hin310 : ¬ ((0 : Int32) < 0 ∨ cla309.slots.size ≤ ((0 : Int32)).toNatClampNeg) := inb_of Sa309 ⟨by decide, by decide⟩
    have hat310 : cla309.slots[((0 : Int32)).toNatClampNeg]? = some (.int c0) := Has.at Ha309 hin310 rfl
    have pr311 : ∀ tg, Steps pP.tables eE below (T298.setTop (mkF mM 198 #[.val (.ref y), .val (.int (6 : Int32))] [(.int c0), (.int (0 : Int32)), (.ref b298), (.ref b298), (.ref b291), (.ref b291)])) tg → Steps pP.tables eE below (s₁.setTop (entryFrame mM #[(.ref y), (.int lv)] 2)) tg := fun tg kg => pr307 _ (by
      show Steps pP.tables eE below (T298.setTop (mkF mM 193 #[.val (.ref y), .val (.int (6 : Int32))] [(.ref b298), (.ref b291), (.ref b291)])) _
      refine XS.dup X298.here hx rfl (hb hby d3_193) rfl rfl ?_
      show Steps pP.tables eE below (T298.setTop (mkF mM 194 #[.val (.ref y), .val (.int (6 : Int32))] [(.ref b298), (.ref b298), (.ref b291), (.ref b291)])) _
      refine XS.iconst X298.here hx rfl (hb hby d3_194) ?_
      show Steps pP.tables eE below (T298.setTop (mkF mM 195 #[.val (.ref y), .val (.int (6 : Int32))] [(.int (0 : Int32)), (.ref b298), (.ref b298), (.ref b291), (.ref b291)])) _
      refine XS.aloadN X298.here hx rfl (hb hby d3_195) rfl rfl ?_
      show Steps pP.tables eE below (T298.setTop (mkF mM 196 #[.val (.ref y), .val (.int (6 : Int32))] [(.ref y), (.int (0 : Int32)), (.ref b298), (.ref b298), (.ref b291), (.ref b291)])) _
      refine XS.iconst X298.here hx rfl (hb hby d3_196) ?_
      show Steps pP.tables eE below (T298.setTop (mkF mM 197 #[.val (.ref y), .val (.int (6 : Int32))] [(.int (0 : Int32)), (.ref y), (.int (0 : Int32)), (.ref b298), (.ref b298), (.ref b291), (.ref b291)])) _
      refine X298.caload hx (j := (0 : Int32)) (v := (.int c0)) (by rw [e298]; exact Ara309.1) (State.isArrayOf_alike hZ.alike Ara309.2.1) Ara309.2.2 hin310 hat310 (g := (mkF mM 197 #[.val (.ref y), .val (.int (6 : Int32))] [(.int (0 : Int32)), (.ref y), (.int (0 : Int32)), (.ref b298), (.ref b298), (.ref b291), (.ref b291)])) rfl rfl (hb hby d3_197) _ ?_
      exact kg)
    obtain ⟨cla312, Ara312, qa312, Sa312, Ma312, Ha312, Ga312⟩ := id V298
    have hin313 : ¬ ((0 : Int32) < 0 ∨ cla312.slots.size ≤ ((0 : Int32)).toNatClampNeg) := inb_of Sa312 ⟨by decide, by decide⟩
    obtain ⟨T313, h313, X313, e313, W313, st313⟩ := stC X298 hx hZ e298 Ara312 (j := (0 : Int32)) hin313 (g := (mkF mM 198 #[.val (.ref y), .val (.int (6 : Int32))] [(.int c0), (.int (0 : Int32)), (.ref b298), (.ref b298), (.ref b291), (.ref b291)])) rfl rfl (hb hby d3_198)
    have V313 : Arv Z h313 b298 k298 .char (6 : Int32) [(.int (nar .char c0)), (.int (0 : Int32)), (.int (0 : Int32)), (.int (0 : Int32)), (.int (0 : Int32)), (.int (0 : Int32))] (.int (0 : Int32)) := Arv.set Ara312 qa312 Sa312 Ma312 Ha312 Ga312 (fits_nar_char _) W313 0 rfl (Nat.le_of_ble_eq_true rfl)
    have N313 := Fr.snoc X313 N0 gn302
    have sf314_b291 := Safe.wr W313 sf306_b298 cr306.1 sf306_b291
    have sf314_b298 := Safe.wr W313 sf306_b298 cr306.1 sf306_b298
    have cr314 := CHr.trans cr306 (CHr.wr W313 sf306_b298 cr306.1)
    have pr315 : ∀ tg, Steps pP.tables eE below (T313.setTop (mkF mM 199 #[.val (.ref y), .val (.int (6 : Int32))] [(.ref b298), (.ref b291), (.ref b291)])) tg → Steps pP.tables eE below (s₁.setTop (entryFrame mM #[(.ref y), (.int lv)] 2)) tg := fun tg kg => pr311 _ (st313 _ kg)
    have c316 := (Arv.other c308 W313 ne299)
    obtain ⟨cla317, Ara317, qa317, Sa317, Ma317, Ha317, Ga317⟩ := id c316
    have hin318 : ¬ ((1 : Int32) < 0 ∨ cla317.slots.size ≤ ((1 : Int32)).toNatClampNeg) := inb_of Sa317 ⟨by decide, by decide⟩
    have hat318 : cla317.slots[((1 : Int32)).toNatClampNeg]? = some (.int c1) := Has.at Ha317 hin318 rfl
    have pr319 : ∀ tg, Steps pP.tables eE below (T313.setTop (mkF mM 204 #[.val (.ref y), .val (.int (6 : Int32))] [(.int c1), (.int (1 : Int32)), (.ref b298), (.ref b298), (.ref b291), (.ref b291)])) tg → Steps pP.tables eE below (s₁.setTop (entryFrame mM #[(.ref y), (.int lv)] 2)) tg := fun tg kg => pr315 _ (by
      show Steps pP.tables eE below (T313.setTop (mkF mM 199 #[.val (.ref y), .val (.int (6 : Int32))] [(.ref b298), (.ref b291), (.ref b291)])) _
      refine XS.dup X313.here hx rfl (hb hby d3_199) rfl rfl ?_
      show Steps pP.tables eE below (T313.setTop (mkF mM 200 #[.val (.ref y), .val (.int (6 : Int32))] [(.ref b298), (.ref b298), (.ref b291), (.ref b291)])) _
      refine XS.iconst X313.here hx rfl (hb hby d3_200) ?_
      show Steps pP.tables eE below (T313.setTop (mkF mM 201 #[.val (.ref y), .val (.int (6 : Int32))] [(.int (1 : Int32)), (.ref b298), (.ref b298), (.ref b291), (.ref b291)])) _
      refine XS.aloadN X313.here hx rfl (hb hby d3_201) rfl rfl ?_
      show Steps pP.tables eE below (T313.setTop (mkF mM 202 #[.val (.ref y), .val (.int (6 : Int32))] [(.ref y), (.int (1 : Int32)), (.ref b298), (.ref b298), (.ref b291), (.ref b291)])) _
      refine XS.iconst X313.here hx rfl (hb hby d3_202) ?_
      show Steps pP.tables eE below (T313.setTop (mkF mM 203 #[.val (.ref y), .val (.int (6 : Int32))] [(.int (1 : Int32)), (.ref y), (.int (1 : Int32)), (.ref b298), (.ref b298), (.ref b291), (.ref b291)])) _
      refine X313.caload hx (j := (1 : Int32)) (v := (.int c1)) (by rw [e313]; exact Ara317.1) (State.isArrayOf_alike hZ.alike Ara317.2.1) Ara317.2.2 hin318 hat318 (g := (mkF mM 203 #[.val (.ref y), .val (.int (6 : Int32))] [(.int (1 : Int32)), (.ref y), (.int (1 : Int32)), (.ref b298), (.ref b298), (.ref b291), (.ref b291)])) rfl rfl (hb hby d3_203) _ ?_
      exact kg)
    obtain ⟨cla320, Ara320, qa320, Sa320, Ma320, Ha320, Ga320⟩ := id V313
    have hin321 : ¬ ((1 : Int32) < 0 ∨ cla320.slots.size ≤ ((1 : Int32)).toNatClampNeg) := inb_of Sa320 ⟨by decide, by decide⟩
    obtain ⟨T321, h321, X321, e321, W321, st321⟩ := stC X313 hx hZ e313 Ara320 (j := (1 : Int32)) hin321 (g := (mkF mM 204 #[.val (.ref y), .val (.int (6 : Int32))] [(.int c1), (.int (1 : Int32)), (.ref b298), (.ref b298), (.ref b291), (.ref b291)])) rfl rfl (hb hby d3_204)
    have V321 : Arv Z h321 b298 k298 .char (6 : Int32) [(.int (nar .char c0)), (.int (nar .char c1)), (.int (0 : Int32)), (.int (0 : Int32)), (.int (0 : Int32)), (.int (0 : Int32))] (.int (0 : Int32)) := Arv.set Ara320 qa320 Sa320 Ma320 Ha320 Ga320 (fits_nar_char _) W321 1 rfl (Nat.le_of_ble_eq_true rfl)
    have N321 := Fr.snoc X321 N313 gn302
    have sf322_b291 := Safe.wr W321 sf314_b298 cr314.1 sf314_b291
    have sf322_b298 := Safe.wr W321 sf314_b298 cr314.1 sf314_b298
    have cr322 := CHr.trans cr314 (CHr.wr W321 sf314_b298 cr314.1)
    have pr323 : ∀ tg, Steps pP.tables eE below (T321.setTop (mkF mM 205 #[.val (.ref y), .val (.int (6 : Int32))] [(.ref b298), (.ref b291), (.ref b291)])) tg → Steps pP.tables eE below (s₁.setTop (entryFrame mM #[(.ref y), (.int lv)] 2)) tg := fun tg kg => pr319 _ (st321 _ kg)
    have c324 := (Arv.other c316 W321 ne299)
    obtain ⟨cla325, Ara325, qa325, Sa325, Ma325, Ha325, Ga325⟩ := id c324
    have hin326 : ¬ ((2 : Int32) < 0 ∨ cla325.slots.size ≤ ((2 : Int32)).toNatClampNeg) := inb_of Sa325 ⟨by decide, by decide⟩
    have hat326 : cla325.slots[((2 : Int32)).toNatClampNeg]? = some (.int c2) := Has.at Ha325 hin326 rfl
    have pr327 : ∀ tg, Steps pP.tables eE below (T321.setTop (mkF mM 210 #[.val (.ref y), .val (.int (6 : Int32))] [(.int c2), (.int (2 : Int32)), (.ref b298), (.ref b298), (.ref b291), (.ref b291)])) tg → Steps pP.tables eE below (s₁.setTop (entryFrame mM #[(.ref y), (.int lv)] 2)) tg := fun tg kg => pr323 _ (by
      show Steps pP.tables eE below (T321.setTop (mkF mM 205 #[.val (.ref y), .val (.int (6 : Int32))] [(.ref b298), (.ref b291), (.ref b291)])) _
      refine XS.dup X321.here hx rfl (hb hby d3_205) rfl rfl ?_
      show Steps pP.tables eE below (T321.setTop (mkF mM 206 #[.val (.ref y), .val (.int (6 : Int32))] [(.ref b298), (.ref b298), (.ref b291), (.ref b291)])) _
      refine XS.iconst X321.here hx rfl (hb hby d3_206) ?_
      show Steps pP.tables eE below (T321.setTop (mkF mM 207 #[.val (.ref y), .val (.int (6 : Int32))] [(.int (2 : Int32)), (.ref b298), (.ref b298), (.ref b291), (.ref b291)])) _
      refine XS.aloadN X321.here hx rfl (hb hby d3_207) rfl rfl ?_
      show Steps pP.tables eE below (T321.setTop (mkF mM 208 #[.val (.ref y), .val (.int (6 : Int32))] [(.ref y), (.int (2 : Int32)), (.ref b298), (.ref b298), (.ref b291), (.ref b291)])) _
      refine XS.iconst X321.here hx rfl (hb hby d3_208) ?_
      show Steps pP.tables eE below (T321.setTop (mkF mM 209 #[.val (.ref y), .val (.int (6 : Int32))] [(.int (2 : Int32)), (.ref y), (.int (2 : Int32)), (.ref b298), (.ref b298), (.ref b291), (.ref b291)])) _
      refine X321.caload hx (j := (2 : Int32)) (v := (.int c2)) (by rw [e321]; exact Ara325.1) (State.isArrayOf_alike hZ.alike Ara325.2.1) Ara325.2.2 hin326 hat326 (g := (mkF mM 209 #[.val (.ref y), .val (.int (6 : Int32))] [(.int (2 : Int32)), (.ref y), (.int (2 : Int32)), (.ref b298), (.ref b298), (.ref b291), (.ref b291)])) rfl rfl (hb hby d3_209) _ ?_
      exact kg)
    obtain ⟨cla328, Ara328, qa328, Sa328, Ma328, Ha328, Ga328⟩ := id V321
    have hin329 : ¬ ((2 : Int32) < 0 ∨ cla328.slots.size ≤ ((2 : Int32)).toNatClampNeg) := inb_of Sa328 ⟨by decide, by decide⟩
    obtain ⟨T329, h329, X329, e329, W329, st329⟩ := stC X321 hx hZ e321 Ara328 (j := (2 : Int32)) hin329 (g := (mkF mM 210 #[.val (.ref y), .val (.int (6 : Int32))] [(.int c2), (.int (2 : Int32)), (.ref b298), (.ref b298), (.ref b291), (.ref b291)])) rfl rfl (hb hby d3_210)
    have V329 : Arv Z h329 b298 k298 .char (6 : Int32) [(.int (nar .char c0)), (.int (nar .char c1)), (.int (nar .char c2)), (.int (0 : Int32)), (.int (0 : Int32)), (.int (0 : Int32))] (.int (0 : Int32)) := Arv.set Ara328 qa328 Sa328 Ma328 Ha328 Ga328 (fits_nar_char _) W329 2 rfl (Nat.le_of_ble_eq_true rfl)
    have N329 := Fr.snoc X329 N321 gn302
    have sf330_b291 := Safe.wr W329 sf322_b298 cr322.1 sf322_b291
    have sf330_b298 := Safe.wr W329 sf322_b298 cr322.1 sf322_b298
    have cr330 := CHr.trans cr322 (CHr.wr W329 sf322_b298 cr322.1)
    have pr331 : ∀ tg, Steps pP.tables eE below (T329.setTop (mkF mM 211 #[.val (.ref y), .val (.int (6 : Int32))] [(.ref b298), (.ref b291), (.ref b291)])) tg → Steps pP.tables eE below (s₁.setTop (entryFrame mM #[(.ref y), (.int lv)] 2)) tg := fun tg kg => pr327 _ (st329 _ kg)
    have c332 := (Arv.other c324 W329 ne299)
    obtain ⟨cla333, Ara333, qa333, Sa333, Ma333, Ha333, Ga333⟩ := id c332
    have hin334 : ¬ ((3 : Int32) < 0 ∨ cla333.slots.size ≤ ((3 : Int32)).toNatClampNeg) := inb_of Sa333 ⟨by decide, by decide⟩
    have hat334 : cla333.slots[((3 : Int32)).toNatClampNeg]? = some (.int c3) := Has.at Ha333 hin334 rfl
    have pr335 : ∀ tg, Steps pP.tables eE below (T329.setTop (mkF mM 216 #[.val (.ref y), .val (.int (6 : Int32))] [(.int c3), (.int (3 : Int32)), (.ref b298), (.ref b298), (.ref b291), (.ref b291)])) tg → Steps pP.tables eE below (s₁.setTop (entryFrame mM #[(.ref y), (.int lv)] 2)) tg := fun tg kg => pr331 _ (by
      show Steps pP.tables eE below (T329.setTop (mkF mM 211 #[.val (.ref y), .val (.int (6 : Int32))] [(.ref b298), (.ref b291), (.ref b291)])) _
      refine XS.dup X329.here hx rfl (hb hby d3_211) rfl rfl ?_
      show Steps pP.tables eE below (T329.setTop (mkF mM 212 #[.val (.ref y), .val (.int (6 : Int32))] [(.ref b298), (.ref b298), (.ref b291), (.ref b291)])) _
      refine XS.iconst X329.here hx rfl (hb hby d3_212) ?_
      show Steps pP.tables eE below (T329.setTop (mkF mM 213 #[.val (.ref y), .val (.int (6 : Int32))] [(.int (3 : Int32)), (.ref b298), (.ref b298), (.ref b291), (.ref b291)])) _
      refine XS.aloadN X329.here hx rfl (hb hby d3_213) rfl rfl ?_
      show Steps pP.tables eE below (T329.setTop (mkF mM 214 #[.val (.ref y), .val (.int (6 : Int32))] [(.ref y), (.int (3 : Int32)), (.ref b298), (.ref b298), (.ref b291), (.ref b291)])) _
      refine XS.iconst X329.here hx rfl (hb hby d3_214) ?_
      show Steps pP.tables eE below (T329.setTop (mkF mM 215 #[.val (.ref y), .val (.int (6 : Int32))] [(.int (3 : Int32)), (.ref y), (.int (3 : Int32)), (.ref b298), (.ref b298), (.ref b291), (.ref b291)])) _
      refine X329.caload hx (j := (3 : Int32)) (v := (.int c3)) (by rw [e329]; exact Ara333.1) (State.isArrayOf_alike hZ.alike Ara333.2.1) Ara333.2.2 hin334 hat334 (g := (mkF mM 215 #[.val (.ref y), .val (.int (6 : Int32))] [(.int (3 : Int32)), (.ref y), (.int (3 : Int32)), (.ref b298), (.ref b298), (.ref b291), (.ref b291)])) rfl rfl (hb hby d3_215) _ ?_
      exact kg)
    obtain ⟨cla336, Ara336, qa336, Sa336, Ma336, Ha336, Ga336⟩ := id V329
    have hin337 : ¬ ((3 : Int32) < 0 ∨ cla336.slots.size ≤ ((3 : Int32)).toNatClampNeg) := inb_of Sa336 ⟨by decide, by decide⟩
    obtain ⟨T337, h337, X337, e337, W337, st337⟩ := stC X329 hx hZ e329 Ara336 (j := (3 : Int32)) hin337 (g := (mkF mM 216 #[.val (.ref y), .val (.int (6 : Int32))] [(.int c3), (.int (3 : Int32)), (.ref b298), (.ref b298), (.ref b291), (.ref b291)])) rfl rfl (hb hby d3_216)
    have V337 : Arv Z h337 b298 k298 .char (6 : Int32) [(.int (nar .char c0)), (.int (nar .char c1)), (.int (nar .char c2)), (.int (nar .char c3)), (.int (0 : Int32)), (.int (0 : Int32))] (.int (0 : Int32)) := Arv.set Ara336 qa336 Sa336 Ma336 Ha336 Ga336 (fits_nar_char _) W337 3 rfl (Nat.le_of_ble_eq_true rfl)
    have N337 := Fr.snoc X337 N329 gn302
    have sf338_b291 := Safe.wr W337 sf330_b298 cr330.1 sf330_b291
    have sf338_b298 := Safe.wr W337 sf330_b298 cr330.1 sf330_b298
    have cr338 := CHr.trans cr330 (CHr.wr W337 sf330_b298 cr330.1)
    have pr339 : ∀ tg, Steps pP.tables eE below (T337.setTop (mkF mM 217 #[.val (.ref y), .val (.int (6 : Int32))] [(.ref b298), (.ref b291), (.ref b291)])) tg → Steps pP.tables eE below (s₁.setTop (entryFrame mM #[(.ref y), (.int lv)] 2)) tg := fun tg kg => pr335 _ (st337 _ kg)
    have c340 := (Arv.other c332 W337 ne299)
    obtain ⟨cla341, Ara341, qa341, Sa341, Ma341, Ha341, Ga341⟩ := id c340
    have hin342 : ¬ ((4 : Int32) < 0 ∨ cla341.slots.size ≤ ((4 : Int32)).toNatClampNeg) := inb_of Sa341 ⟨by decide, by decide⟩
    have hat342 : cla341.slots[((4 : Int32)).toNatClampNeg]? = some (.int c4) := Has.at Ha341 hin342 rfl
    have pr343 : ∀ tg, Steps pP.tables eE below (T337.setTop (mkF mM 222 #[.val (.ref y), .val (.int (6 : Int32))] [(.int c4), (.int (4 : Int32)), (.ref b298), (.ref b298), (.ref b291), (.ref b291)])) tg → Steps pP.tables eE below (s₁.setTop (entryFrame mM #[(.ref y), (.int lv)] 2)) tg := fun tg kg => pr339 _ (by
      show Steps pP.tables eE below (T337.setTop (mkF mM 217 #[.val (.ref y), .val (.int (6 : Int32))] [(.ref b298), (.ref b291), (.ref b291)])) _
      refine XS.dup X337.here hx rfl (hb hby d3_217) rfl rfl ?_
      show Steps pP.tables eE below (T337.setTop (mkF mM 218 #[.val (.ref y), .val (.int (6 : Int32))] [(.ref b298), (.ref b298), (.ref b291), (.ref b291)])) _
      refine XS.iconst X337.here hx rfl (hb hby d3_218) ?_
      show Steps pP.tables eE below (T337.setTop (mkF mM 219 #[.val (.ref y), .val (.int (6 : Int32))] [(.int (4 : Int32)), (.ref b298), (.ref b298), (.ref b291), (.ref b291)])) _
      refine XS.aloadN X337.here hx rfl (hb hby d3_219) rfl rfl ?_
      show Steps pP.tables eE below (T337.setTop (mkF mM 220 #[.val (.ref y), .val (.int (6 : Int32))] [(.ref y), (.int (4 : Int32)), (.ref b298), (.ref b298), (.ref b291), (.ref b291)])) _
      refine XS.iconst X337.here hx rfl (hb hby d3_220) ?_
      show Steps pP.tables eE below (T337.setTop (mkF mM 221 #[.val (.ref y), .val (.int (6 : Int32))] [(.int (4 : Int32)), (.ref y), (.int (4 : Int32)), (.ref b298), (.ref b298), (.ref b291), (.ref b291)])) _
      refine X337.caload hx (j := (4 : Int32)) (v := (.int c4)) (by rw [e337]; exact Ara341.1) (State.isArrayOf_alike hZ.alike Ara341.2.1) Ara341.2.2 hin342 hat342 (g := (mkF mM 221 #[.val (.ref y), .val (.int (6 : Int32))] [(.int (4 : Int32)), (.ref y), (.int (4 : Int32)), (.ref b298), (.ref b298), (.ref b291), (.ref b291)])) rfl rfl (hb hby d3_221) _ ?_
      exact kg)
    obtain ⟨cla344, Ara344, qa344, Sa344, Ma344, Ha344, Ga344⟩ := id V337
    have hin345 : ¬ ((4 : Int32) < 0 ∨ cla344.slots.size ≤ ((4 : Int32)).toNatClampNeg) := inb_of Sa344 ⟨by decide, by decide⟩
    obtain ⟨T345, h345, X345, e345, W345, st345⟩ := stC X337 hx hZ e337 Ara344 (j := (4 : Int32)) hin345 (g := (mkF mM 222 #[.val (.ref y), .val (.int (6 : Int32))] [(.int c4), (.int (4 : Int32)), (.ref b298), (.ref b298), (.ref b291), (.ref b291)])) rfl rfl (hb hby d3_222)
    have V345 : Arv Z h345 b298 k298 .char (6 : Int32) [(.int (nar .char c0)), (.int (nar .char c1)), (.int (nar .char c2)), (.int (nar .char c3)), (.int (nar .char c4)), (.int (0 : Int32))] (.int (0 : Int32)) := Arv.set Ara344 qa344 Sa344 Ma344 Ha344 Ga344 (fits_nar_char _) W345 4 rfl (Nat.le_of_ble_eq_true rfl)
    have N345 := Fr.snoc X345 N337 gn302
    have sf346_b291 := Safe.wr W345 sf338_b298 cr338.1 sf338_b291
    have sf346_b298 := Safe.wr W345 sf338_b298 cr338.1 sf338_b298
    have cr346 := CHr.trans cr338 (CHr.wr W345 sf338_b298 cr338.1)
    have pr347 : ∀ tg, Steps pP.tables eE below (T345.setTop (mkF mM 223 #[.val (.ref y), .val (.int (6 : Int32))] [(.ref b298), (.ref b291), (.ref b291)])) tg → Steps pP.tables eE below (s₁.setTop (entryFrame mM #[(.ref y), (.int lv)] 2)) tg := fun tg kg => pr343 _ (st345 _ kg)
    have c348 := (Arv.other c340 W345 ne299)
    obtain ⟨cla349, Ara349, qa349, Sa349, Ma349, Ha349, Ga349⟩ := id c348
    have hin350 : ¬ ((5 : Int32) < 0 ∨ cla349.slots.size ≤ ((5 : Int32)).toNatClampNeg) := inb_of Sa349 ⟨by decide, by decide⟩
    have hat350 : cla349.slots[((5 : Int32)).toNatClampNeg]? = some (.int c5) := Has.at Ha349 hin350 rfl
    have pr351 : ∀ tg, Steps pP.tables eE below (T345.setTop (mkF mM 228 #[.val (.ref y), .val (.int (6 : Int32))] [(.int c5), (.int (5 : Int32)), (.ref b298), (.ref b298), (.ref b291), (.ref b291)])) tg → Steps pP.tables eE below (s₁.setTop (entryFrame mM #[(.ref y), (.int lv)] 2)) tg := fun tg kg => pr347 _ (by
      show Steps pP.tables eE below (T345.setTop (mkF mM 223 #[.val (.ref y), .val (.int (6 : Int32))] [(.ref b298), (.ref b291), (.ref b291)])) _
      refine XS.dup X345.here hx rfl (hb hby d3_223) rfl rfl ?_
      show Steps pP.tables eE below (T345.setTop (mkF mM 224 #[.val (.ref y), .val (.int (6 : Int32))] [(.ref b298), (.ref b298), (.ref b291), (.ref b291)])) _
      refine XS.iconst X345.here hx rfl (hb hby d3_224) ?_
      show Steps pP.tables eE below (T345.setTop (mkF mM 225 #[.val (.ref y), .val (.int (6 : Int32))] [(.int (5 : Int32)), (.ref b298), (.ref b298), (.ref b291), (.ref b291)])) _
      refine XS.aloadN X345.here hx rfl (hb hby d3_225) rfl rfl ?_
      show Steps pP.tables eE below (T345.setTop (mkF mM 226 #[.val (.ref y), .val (.int (6 : Int32))] [(.ref y), (.int (5 : Int32)), (.ref b298), (.ref b298), (.ref b291), (.ref b291)])) _
      refine XS.iconst X345.here hx rfl (hb hby d3_226) ?_
      show Steps pP.tables eE below (T345.setTop (mkF mM 227 #[.val (.ref y), .val (.int (6 : Int32))] [(.int (5 : Int32)), (.ref y), (.int (5 : Int32)), (.ref b298), (.ref b298), (.ref b291), (.ref b291)])) _
      refine X345.caload hx (j := (5 : Int32)) (v := (.int c5)) (by rw [e345]; exact Ara349.1) (State.isArrayOf_alike hZ.alike Ara349.2.1) Ara349.2.2 hin350 hat350 (g := (mkF mM 227 #[.val (.ref y), .val (.int (6 : Int32))] [(.int (5 : Int32)), (.ref y), (.int (5 : Int32)), (.ref b298), (.ref b298), (.ref b291), (.ref b291)])) rfl rfl (hb hby d3_227) _ ?_
      exact kg)
    obtain ⟨cla352, Ara352, qa352, Sa352, Ma352, Ha352, Ga352⟩ := id V345
    have hin353 : ¬ ((5 : Int32) < 0 ∨ cla352.slots.size ≤ ((5 : Int32)).toNatClampNeg) := inb_of Sa352 ⟨by decide, by decide⟩
    obtain ⟨T353, h353, X353, e353, W353, st353⟩ := stC X345 hx hZ e345 Ara352 (j := (5 : Int32)) hin353 (g := (mkF mM 228 #[.val (.ref y), .val (.int (6 : Int32))] [(.int c5), (.int (5 : Int32)), (.ref b298), (.ref b298), (.ref b291), (.ref b291)])) rfl rfl (hb hby d3_228)
    have V353 : Arv Z h353 b298 k298 .char (6 : Int32) [(.int (nar .char c0)), (.int (nar .char c1)), (.int (nar .char c2)), (.int (nar .char c3)), (.int (nar .char c4)), (.int (nar .char c5))] (.int (0 : Int32)) := Arv.set Ara352 qa352 Sa352 Ma352 Ha352 Ga352 (fits_nar_char _) W353 5 rfl (Nat.le_of_ble_eq_true rfl)
    have N353 := Fr.snoc X353 N345 gn302
    have sf354_b291 := Safe.wr W353 sf346_b298 cr346.1 sf346_b291
    have sf354_b298 := Safe.wr W353 sf346_b298 cr346.1 sf346_b298
    have cr354 := CHr.trans cr346 (CHr.wr W353 sf346_b298 cr346.1)
    have pr355 : ∀ tg, Steps pP.tables eE below (T353.setTop (mkF mM 229 #[.val (.ref y), .val (.int (6 : Int32))] [(.ref b298), (.ref b291), (.ref b291)])) tg → Steps pP.tables eE below (s₁.setTop (entryFrame mM #[(.ref y), (.int lv)] 2)) tg := fun tg kg => pr351 _ (st353 _ kg)
    have hp : ∀ c ∈ ([(nar .char c0), (nar .char c1), (nar .char c2), (nar .char c3), (nar .char c4), (nar .char c5)] : List Int32), ¬ c < 0 ∧ ¬ (255 : Int32) < c := by
      intro c hc
      simp only [List.mem_cons, List.not_mem_nil, or_false] at hc
      rcases hc with rfl | rfl | rfl | rfl | rfl | rfl
      · exact own_nb2 hc0
      · exact own_nb2 hc1
      · exact own_nb2 hc2
      · exact own_nb2 hc3
      · exact own_nb2 hc4
      · exact own_nb2 hc5
    have c356 := (Exa.wr W353 (Exa.wr W345 (Exa.wr W337 (Exa.wr W329 (Exa.wr W321 (Exa.wr W313 (Exa.ext E298 A291)))))))
    have c357 := (Fld.other W353 (Fld.other W345 (Fld.other W337 (Fld.other W329 (Fld.other W321 (Fld.other W313 (Fld.ext E298 F291_value) (Or.inl ne301)) (Or.inl ne301)) (Or.inl ne301)) (Or.inl ne301)) (Or.inl ne301)) (Or.inl ne301))
    have c358 := (Fld.other W353 (Fld.other W345 (Fld.other W337 (Fld.other W329 (Fld.other W321 (Fld.other W313 (Fld.ext E298 F291_coder) (Or.inl ne301)) (Or.inl ne301)) (Or.inl ne301)) (Or.inl ne301)) (Or.inl ne301)) (Or.inl ne301))
    have c359 := (Old.wr (Old.wr (Old.wr (Old.wr (Old.wr (Old.wr (Old.ext (Old.ext O E291) E298) W313 gn302) W321 gn302) W329 gn302) W337 gn302) W345 gn302) W353 gn302)
    have c360 := (Nat.le_trans (Nat.le_trans (Nat.le_trans (Nat.le_trans (Nat.le_trans (Nat.le_trans (Nat.le_trans c303 E298.1) (Keep.of_wr W313).1) (Keep.of_wr W321).1) (Keep.of_wr W329).1) (Keep.of_wr W337).1) (Keep.of_wr W345).1) (Keep.of_wr W353).1)
    obtain ⟨_, _, ⟨T361, L361, kk361, nn361⟩, -, X361, ⟨Lc361, hQ361, l361, y361, z361⟩, st361⟩ := X353.specialBack hx (y := (⟨"java/lang/String", "<init>", "([C)V"⟩ : MethodName)) rfl hown (mvT hZ (hw _ (List.mem_of_getElem? (i := 55) rfl))) (mvT hZ (hw _ (List.mem_of_getElem? (i := 56) rfl))) (mvT hZ (hw _ (List.mem_of_getElem? (i := 57) rfl))) (by decide) (StrChars.Road.backV (W := 1) hZ (own_wB hw) (kI := 4) (hw _ (List.mem_of_getElem? (i := 2) rfl)) (cs := ([(nar .char c0), (nar .char c1), (nar .char c2), (nar .char c3), (nar .char c4), (nar .char c5)] : List Int32)) (bs := (([(nar .char c0), (nar .char c1), (nar .char c2), (nar .char c3), (nar .char c4), (nar .char c5)] : List Int32)).map (fun c => c.toInt8.toInt32)) (n := 6) gn293 c360 c356 c357 c358 V353 (Sta.ext (c359).2 S_cs) hcs rfl rfl (by decide) (by decide) hp rfl (by decide) (by decide)) (g := (mkF mM 229 #[.val (.ref y), .val (.int (6 : Int32))] [(.ref b298), (.ref b291), (.ref b291)])) rfl (by rw [hml]; rfl) (Steps.refl _) (a := b291) (argsL := [(.ref b298)]) (rest := [(.ref b291)]) (lenOf pd_8 rfl) rfl (by show 2 * 0 + _ ≤ _; exact Nat.le_of_eq rfl) (hb hby d3_229) (fun _ _ => ⟨rfl, e353, (by decide : 2 + 1 ≤ _), (by decide : 10 + 6 ≤ _)⟩)
    dsimp only [Pt.U, Pt.locs, Pt.cells, Pt.slots] at X361 l361 y361 z361 st361 hQ361
    subst l361 y361 z361
    obtain ⟨rfl, Nq361, K361, E361, Fc361, tn361, kt361, -, ge361, -, Fv361, V361⟩ := hQ361
    have N361 := Fr.app N353 Nq361
    have sf362_b291 := Safe.keep K361 (sfS sf354_b291 sf0) cr354.1 sf354_b291
    have sf362_b298 := Safe.keep K361 (sfS sf354_b291 sf0) cr354.1 sf354_b298
    have cr362 := CHr.trans cr354 (CHr.keep K361 (sfS sf354_b291 sf0) cr354.1)
    have pr363 : ∀ tg, Steps pP.tables eE below (T361.setTop (mkF mM 232 #[.val (.ref y), .val (.int (6 : Int32))] [(.ref b291)])) tg → Steps pP.tables eE below (s₁.setTop (entryFrame mM #[(.ref y), (.int lv)] 2)) tg := fun tg kg => pr355 _ (st361.trans kg)
    have c364 := (Keep.trans (Keep.wr (Keep.wr (Keep.wr (Keep.wr (Keep.wr (Keep.wr (Keep.ext c305 E298) W313 (Or.inr gs304)) W321 (Or.inr gs304)) W329 (Or.inr gs304)) W337 (Or.inr gs304)) W345 (Or.inr gs304)) W353 (Or.inr gs304)) K361 (allS (Or.inr gs294) all0))
    have c365 := (Nat.le_trans (Nat.le_trans (Nat.le_trans (Nat.le_trans (Nat.le_trans (Nat.le_trans (Nat.le_trans (Nat.le_trans (Nat.le_trans (Nat.zero_le _) E291.1) E298.1) (Keep.of_wr W313).1) (Keep.of_wr W321).1) (Keep.of_wr W329).1) (Keep.of_wr W337).1) (Keep.of_wr W345).1) (Keep.of_wr W353).1) K361.1)
    obtain ⟨fs, hr, hrun, hended, hW⟩ := Jvm.Stand.leaveW (s := sS) (vm₁ := sS.vm) X361 hS (Nat.le_trans c365 (Nat.le_of_eq (congrArg Array.size (rfl : T361.heap = T361.heap).symm))) (v := some (.ref b291)) (fun h => by rw [Bd.returns] at h; cases h)
    have crE := CHr.trans cr362 (CHv.at (s := sS) (vm0 := sS.vm) X361 hZ hEW cr362.1)
    refine ⟨_, _, pr363 _ (retOut X361 hx (t := (.object "java/lang/String")) Bd.returns rfl (Or.inr (Or.inr (Or.inr (Or.inr ⟨rfl, rfl, rfl⟩)))) (hb hby d3_232) hr), hrun, hended, _, _, rfl, ?_, ?_, hW.1, hW.2.1, hW.2.2.1, hW.2.2.2.mono (by decide) (by decide)⟩
    rotate_left
    · show CHr Z consts_1 sS.vm sS.heap T361.vm T361.heap
      rw [hh]; exact crE
    show Q3 Z cs y ky c0 c1 c2 c3 c4 c5 lv h0 n0 _ T361.heap _
    exact ⟨b291, tn361, _, ([(nar .char c0), (nar .char c1), (nar .char c2), (nar .char c3), (nar .char c4), (nar .char c5)] : List Int32), rfl, N361, c364, E361, Fv361, Fc361, V361, hp, Nat.le_of_ble_eq_true rfl⟩
theorem pd_9 : parseMethodDescriptor "(Ljava/lang/Object;)Z" = some ⟨[(.object "java/lang/Object")], some .boolean⟩ := by decide +kernel
theorem d40_0 : decode prog_14_method_8_code 0 = .ok (.getstatic 58, 3) := by decide +kernel
theorem d40_3 : decode prog_14_method_8_code 3 = .ok (.astore_n 1, 1) := by decide +kernel
theorem d40_4 : decode prog_14_method_8_code 4 = .ok (.aload_n 1, 1) := by decide +kernel
theorem d40_5 : decode prog_14_method_8_code 5 = .ok (.arraylength, 1) := by decide +kernel
theorem d40_6 : decode prog_14_method_8_code 6 = .ok (.istore_n 2, 1) := by decide +kernel
theorem d40_7 : decode prog_14_method_8_code 7 = .ok (.iconst 0, 1) := by decide +kernel
theorem d40_8 : decode prog_14_method_8_code 8 = .ok (.istore_n 3, 1) := by decide +kernel
theorem d40_9 : decode prog_14_method_8_code 9 = .ok (.iload_n 3, 1) := by decide +kernel
theorem d40_10 : decode prog_14_method_8_code 10 = .ok (.iload_n 2, 1) := by decide +kernel
theorem d40_11 : decode prog_14_method_8_code 11 = .ok (.if_icmp .ge 29, 3) := by decide +kernel
theorem d40_14 : decode prog_14_method_8_code 14 = .ok (.aload_n 1, 1) := by decide +kernel
theorem d40_15 : decode prog_14_method_8_code 15 = .ok (.iload_n 3, 1) := by decide +kernel
theorem d40_16 : decode prog_14_method_8_code 16 = .ok (.aaload, 1) := by decide +kernel
theorem d40_17 : decode prog_14_method_8_code 17 = .ok (.astore 4, 2) := by decide +kernel
theorem d40_19 : decode prog_14_method_8_code 19 = .ok (.aload 4, 2) := by decide +kernel
theorem d40_21 : decode prog_14_method_8_code 21 = .ok (.getfield 35, 3) := by decide +kernel
theorem d40_24 : decode prog_14_method_8_code 24 = .ok (.aload_n 0, 1) := by decide +kernel
theorem d40_25 : decode prog_14_method_8_code 25 = .ok (.invokevirtual 61, 3) := by decide +kernel
theorem d40_28 : decode prog_14_method_8_code 28 = .ok (.ifCond .eq 6, 3) := by decide +kernel
theorem d40_31 : decode prog_14_method_8_code 31 = .ok (.aload 4, 2) := by decide +kernel
theorem d40_33 : decode prog_14_method_8_code 33 = .ok (.areturn, 1) := by decide +kernel
theorem pn_4 : plainName "com/example/thawline/thawline/CandidateType" = true := by first | (simp [plainName, overriddenIn]; done) | decide +kernel
theorem ef_40 (mM : MethodId) (x0 : Addr) : entryFrame mM #[(.ref x0)] 5 = mkF mM 0 #[.val (.ref x0), .unset, .unset, .unset, .unset] [] := by first | (simp [entryFrame, mkF, argsToLocals, Value.category]; done) | rfl
def Q40 (Z : State) (cs : Int32) (al : Addr) (kal : ClassId) (a_HOST : Addr) (t_HOST : Addr) (u_HOST : Addr) (k_HOST : ClassId) (a_SERVER_REFLEXIVE : Addr) (t_SERVER_REFLEXIVE : Addr) (u_SERVER_REFLEXIVE : Addr) (k_SERVER_REFLEXIVE : ClassId) (a_PEER_REFLEXIVE : Addr) (t_PEER_REFLEXIVE : Addr) (u_PEER_REFLEXIVE : Addr) (k_PEER_REFLEXIVE : ClassId) (a_RELAYED : Addr) (t_RELAYED : Addr) (u_RELAYED : Addr) (k_RELAYED : ClassId) (x : Addr) (t : Addr) (kt : ClassId) (tx : List Int32) (h0 : Heap) (n0 : Nat) (v : Option Value) (h : Heap) (L : List Loc) : Prop := v = some (.ref a_HOST) ∧ Fr n0 L ∧ h = h0
set_option maxRecDepth 65536 in
set_option maxHeartbeats 40000000 in
theorem rm40 (l : Launch) (Z : State) (a0 : Array Value) (hw : ∀ d ∈ tables_1, d.before a0 Z = true) (ws : List Jvm.Cond) (cs : Int32) (al : Addr) (kal : ClassId) (a_HOST : Addr) (t_HOST : Addr) (u_HOST : Addr) (k_HOST : ClassId) (a_SERVER_REFLEXIVE : Addr) (t_SERVER_REFLEXIVE : Addr) (u_SERVER_REFLEXIVE : Addr) (k_SERVER_REFLEXIVE : ClassId) (a_PEER_REFLEXIVE : Addr) (t_PEER_REFLEXIVE : Addr) (u_PEER_REFLEXIVE : Addr) (k_PEER_REFLEXIVE : ClassId) (a_RELAYED : Addr) (t_RELAYED : Addr) (u_RELAYED : Addr) (k_RELAYED : ClassId) (x : Addr) (t : Addr) (kt : ClassId) (tx : List Int32) (h0 : Heap) (n0 : Nat) (Z0 : n0 ≤ h0.size) (O : Old Z n0 h0) (S_cs : Sta Z Z.heap "java/lang/String" "COMPACT_STRINGS" "Z" (.int cs)) (hcs : ¬ cs = (0 : Int32)) (S_ALL : Sta Z Z.heap "com/example/thawline/thawline/CandidateType" "ALL" "[Lcom/example/thawline/thawline/CandidateType;" (.ref al)) (V_ALL : Arv Z Z.heap al kal (.object "com/example/thawline/thawline/CandidateType") (4 : Int32) [(.ref a_HOST), (.ref a_SERVER_REFLEXIVE), (.ref a_PEER_REFLEXIVE), (.ref a_RELAYED)] .null) (S_HOST : Sta Z Z.heap "com/example/thawline/thawline/CandidateType" "HOST" "Lcom/example/thawline/thawline/CandidateType;" (.ref a_HOST)) (E_HOST : Exa Z Z.heap a_HOST "com/example/thawline/thawline/CandidateType") (F_HOST : Fld Z Z.heap a_HOST "com/example/thawline/thawline/CandidateType" "token" "Ljava/lang/String;" (.ref t_HOST)) (Et_HOST : Exa Z Z.heap t_HOST "java/lang/String") (Fc_HOST : Fld Z Z.heap t_HOST "java/lang/String" "coder" "B" (.int (0 : Int32))) (Fv_HOST : Fld Z Z.heap t_HOST "java/lang/String" "value" "[B" (.ref u_HOST)) (Vt_HOST : Arv Z Z.heap u_HOST k_HOST .byte (4 : Int32) [(.int (104 : Int32)), (.int (111 : Int32)), (.int (115 : Int32)), (.int (116 : Int32))] (.int (0 : Int32))) (S_SERVER_REFLEXIVE : Sta Z Z.heap "com/example/thawline/thawline/CandidateType" "SERVER_REFLEXIVE" "Lcom/example/thawline/thawline/CandidateType;" (.ref a_SERVER_REFLEXIVE)) (E_SERVER_REFLEXIVE : Exa Z Z.heap a_SERVER_REFLEXIVE "com/example/thawline/thawline/CandidateType") (F_SERVER_REFLEXIVE : Fld Z Z.heap a_SERVER_REFLEXIVE "com/example/thawline/thawline/CandidateType" "token" "Ljava/lang/String;" (.ref t_SERVER_REFLEXIVE)) (Et_SERVER_REFLEXIVE : Exa Z Z.heap t_SERVER_REFLEXIVE "java/lang/String") (Fc_SERVER_REFLEXIVE : Fld Z Z.heap t_SERVER_REFLEXIVE "java/lang/String" "coder" "B" (.int (0 : Int32))) (Fv_SERVER_REFLEXIVE : Fld Z Z.heap t_SERVER_REFLEXIVE "java/lang/String" "value" "[B" (.ref u_SERVER_REFLEXIVE)) (Vt_SERVER_REFLEXIVE : Arv Z Z.heap u_SERVER_REFLEXIVE k_SERVER_REFLEXIVE .byte (5 : Int32) [(.int (115 : Int32)), (.int (114 : Int32)), (.int (102 : Int32)), (.int (108 : Int32)), (.int (120 : Int32))] (.int (0 : Int32))) (S_PEER_REFLEXIVE : Sta Z Z.heap "com/example/thawline/thawline/CandidateType" "PEER_REFLEXIVE" "Lcom/example/thawline/thawline/CandidateType;" (.ref a_PEER_REFLEXIVE)) (E_PEER_REFLEXIVE : Exa Z Z.heap a_PEER_REFLEXIVE "com/example/thawline/thawline/CandidateType") (F_PEER_REFLEXIVE : Fld Z Z.heap a_PEER_REFLEXIVE "com/example/thawline/thawline/CandidateType" "token" "Ljava/lang/String;" (.ref t_PEER_REFLEXIVE)) (Et_PEER_REFLEXIVE : Exa Z Z.heap t_PEER_REFLEXIVE "java/lang/String") (Fc_PEER_REFLEXIVE : Fld Z Z.heap t_PEER_REFLEXIVE "java/lang/String" "coder" "B" (.int (0 : Int32))) (Fv_PEER_REFLEXIVE : Fld Z Z.heap t_PEER_REFLEXIVE "java/lang/String" "value" "[B" (.ref u_PEER_REFLEXIVE)) (Vt_PEER_REFLEXIVE : Arv Z Z.heap u_PEER_REFLEXIVE k_PEER_REFLEXIVE .byte (5 : Int32) [(.int (112 : Int32)), (.int (114 : Int32)), (.int (102 : Int32)), (.int (108 : Int32)), (.int (120 : Int32))] (.int (0 : Int32))) (S_RELAYED : Sta Z Z.heap "com/example/thawline/thawline/CandidateType" "RELAYED" "Lcom/example/thawline/thawline/CandidateType;" (.ref a_RELAYED)) (E_RELAYED : Exa Z Z.heap a_RELAYED "com/example/thawline/thawline/CandidateType") (F_RELAYED : Fld Z Z.heap a_RELAYED "com/example/thawline/thawline/CandidateType" "token" "Ljava/lang/String;" (.ref t_RELAYED)) (Et_RELAYED : Exa Z Z.heap t_RELAYED "java/lang/String") (Fc_RELAYED : Fld Z Z.heap t_RELAYED "java/lang/String" "coder" "B" (.int (0 : Int32))) (Fv_RELAYED : Fld Z Z.heap t_RELAYED "java/lang/String" "value" "[B" (.ref u_RELAYED)) (Vt_RELAYED : Arv Z Z.heap u_RELAYED k_RELAYED .byte (5 : Int32) [(.int (114 : Int32)), (.int (101 : Int32)), (.int (108 : Int32)), (.int (97 : Int32)), (.int (121 : Int32))] (.int (0 : Int32))) (E_x : Exa Z h0 x "java/lang/String") (F_xv : Fld Z h0 x "java/lang/String" "value" "[B" (.ref t)) (F_xc : Fld Z h0 x "java/lang/String" "coder" "B" (.int (0 : Int32))) (V_t : Arv Z h0 t kt .byte (Int32.ofNat tx.length) ((tx.map StrChars.lo8).map Value.int) (.int (0 : Int32))) (hp : ∀ c ∈ tx, ¬ c < 0 ∧ ¬ (255 : Int32) < c) (hlen : tx.length ≤ 4000) (hk0 : tx = ([(104 : Int32), (111 : Int32), (115 : Int32), (116 : Int32)] : List Int32)) :
    MetFree l (⟨"com/example/thawline/thawline/CandidateType", "ofToken", "(Ljava/lang/String;)Lcom/example/thawline/thawline/CandidateType;"⟩ : MethodName) (head1 (Jvm.Cond.code (⟨"com/example/thawline/thawline/CandidateType", "ofToken", "(Ljava/lang/String;)Lcom/example/thawline/thawline/CandidateType;"⟩ : MethodName) prog_14_method_8_code 5 (some (.object "com/example/thawline/thawline/CandidateType")) :: ws) ({ frames := 2, cells := 0, slots := 0, locals := 28 } : Room)) (fun aA uU => aA = #[(.ref x)] ∧ Z.Warmed39 uU.vm ∧ uU.heap = h0) (fun _ _ _ _ _ => True) (fun _ uU oO uU' => ∃ vV lL, oO = .returned vV ∧ Q40 Z cs al kal a_HOST t_HOST u_HOST k_HOST a_SERVER_REFLEXIVE t_SERVER_REFLEXIVE u_SERVER_REFLEXIVE k_SERVER_REFLEXIVE a_PEER_REFLEXIVE t_PEER_REFLEXIVE u_PEER_REFLEXIVE k_PEER_REFLEXIVE a_RELAYED t_RELAYED u_RELAYED k_RELAYED x t kt tx h0 n0 vV uU'.heap lL ∧ FrameEnd uU oO uU' lL ({ frames := 2, cells := 0, slots := 0, locals := 28 } : Room).cells ({ frames := 2, cells := 0, slots := 0, locals := 28 } : Room).slots) := by
  refine MetFree.of_bodySF (plainFor_of_name pn_4) hisR ?_
  intro pP eE sS mM args below meth cC s₁ Bd hml0 hP hK
  obtain ⟨rfl, hZ, hh⟩ := hP
  have hx := Bd.exec
  have hby := Bd.bytes
  have hml : cC.maxLocals = 5 := hml0
  have hown : sS.vm.findClass "com/example/thawline/thawline/CandidateType" = some mM.cls := findClass_of_methodNamed Bd.named
  have hnm := (name_of_methodNamed Bd.named Bd.method).1
  have X0 : Stand pP l eE ({ frames := 2, cells := 0, slots := 0, locals := 28 } : Room) sS mM #[(.ref x)] below meth cC s₁ [] 0 0 := Stand.of_body Bd
  have e0 : s₁.heap = h0 := by rw [← hh, Bd.state]; rfl
  have N0 := Fr.nil n0
  have pre0 : ∀ tg, Steps pP.tables eE below (s₁.setTop (mkF mM 0 #[.val (.ref x), .unset, .unset, .unset, .unset] [])) tg → Steps pP.tables eE below (s₁.setTop (entryFrame mM #[(.ref x)] 5)) tg := fun tg kg => castTop (ef_40 mM x) kg
  obtain ⟨T1, X1, e1, st1⟩ := getS2 X0 hx hZ hown (host := "") (Or.inl (hw _ (List.mem_of_getElem? (i := 90) rfl))) Via.refl e0 (Sta.ext (O).2 S_ALL) (g := (mkF mM 0 #[.val (.ref x), .unset, .unset, .unset, .unset] [])) rfl (hb hby d40_0)
  have pr2 : ∀ tg, Steps pP.tables eE below (T1.setTop (mkF mM 3 #[.val (.ref x), .unset, .unset, .unset, .unset] [(.ref al)])) tg → Steps pP.tables eE below (s₁.setTop (entryFrame mM #[(.ref x)] 5)) tg := fun tg kg => pre0 _ (st1 _ kg)
  obtain ⟨cla3, Ara3, qa3, Sa3, Ma3, Ha3, Ga3⟩ := id (Arv.ext V_ALL (O).2)
  have hin4 : ¬ ((0 : Int32) < 0 ∨ cla3.slots.size ≤ ((0 : Int32)).toNatClampNeg) := inb_of Sa3 ⟨by decide, by decide⟩
  have hat4 : cla3.slots[((0 : Int32)).toNatClampNeg]? = some (.ref a_HOST) := Has.at Ha3 hin4 rfl
  have pr5 : ∀ tg, Steps pP.tables eE below (T1.setTop (mkF mM 21 #[.val (.ref x), .val (.ref al), .val (.int (4 : Int32)), .val (.int (0 : Int32)), .val (.ref a_HOST)] [(.ref a_HOST)])) tg → Steps pP.tables eE below (s₁.setTop (entryFrame mM #[(.ref x)] 5)) tg := fun tg kg => pr2 _ (by
    show Steps pP.tables eE below (T1.setTop (mkF mM 3 #[.val (.ref x), .unset, .unset, .unset, .unset] [(.ref al)])) _
    refine XS.astoreN X1.here hx rfl (hb hby d40_3) rfl rfl (l' := #[.val (.ref x), .val (.ref al), .unset, .unset, .unset]) rfl ?_
    show Steps pP.tables eE below (T1.setTop (mkF mM 4 #[.val (.ref x), .val (.ref al), .unset, .unset, .unset] [])) _
    refine XS.aloadN X1.here hx rfl (hb hby d40_4) rfl rfl ?_
    show Steps pP.tables eE below (T1.setTop (mkF mM 5 #[.val (.ref x), .val (.ref al), .unset, .unset, .unset] [(.ref al)])) _
    refine X1.arraylength hx (by rw [e1]; exact Ara3.1) (State.isArrayOf_alike hZ.alike Ara3.2.1) (g := (mkF mM 5 #[.val (.ref x), .val (.ref al), .unset, .unset, .unset] [(.ref al)])) rfl rfl (hb hby d40_5) _ ?_
    rw [len_of Sa3 Ma3]
    show Steps pP.tables eE below (T1.setTop (mkF mM 6 #[.val (.ref x), .val (.ref al), .unset, .unset, .unset] [(.int (4 : Int32))])) _
    refine XS.istoreN X1.here hx rfl (hb hby d40_6) rfl (l' := #[.val (.ref x), .val (.ref al), .val (.int (4 : Int32)), .unset, .unset]) rfl ?_
    show Steps pP.tables eE below (T1.setTop (mkF mM 7 #[.val (.ref x), .val (.ref al), .val (.int (4 : Int32)), .unset, .unset] [])) _
    refine XS.iconst X1.here hx rfl (hb hby d40_7) ?_
    show Steps pP.tables eE below (T1.setTop (mkF mM 8 #[.val (.ref x), .val (.ref al), .val (.int (4 : Int32)), .unset, .unset] [(.int (0 : Int32))])) _
    refine XS.istoreN X1.here hx rfl (hb hby d40_8) rfl (l' := #[.val (.ref x), .val (.ref al), .val (.int (4 : Int32)), .val (.int (0 : Int32)), .unset]) rfl ?_
    show Steps pP.tables eE below (T1.setTop (mkF mM 9 #[.val (.ref x), .val (.ref al), .val (.int (4 : Int32)), .val (.int (0 : Int32)), .unset] [])) _
    refine XS.iloadN X1.here hx rfl (hb hby d40_9) rfl ?_
    show Steps pP.tables eE below (T1.setTop (mkF mM 10 #[.val (.ref x), .val (.ref al), .val (.int (4 : Int32)), .val (.int (0 : Int32)), .unset] [(.int (0 : Int32))])) _
    refine XS.iloadN X1.here hx rfl (hb hby d40_10) rfl ?_
    show Steps pP.tables eE below (T1.setTop (mkF mM 11 #[.val (.ref x), .val (.ref al), .val (.int (4 : Int32)), .val (.int (0 : Int32)), .unset] [(.int (4 : Int32)), (.int (0 : Int32))])) _
    refine XS.icmpNo X1.here hx rfl (hb hby d40_11) rfl (tlt (by decide)).2.1 ?_
    show Steps pP.tables eE below (T1.setTop (mkF mM 14 #[.val (.ref x), .val (.ref al), .val (.int (4 : Int32)), .val (.int (0 : Int32)), .unset] [])) _
    refine XS.aloadN X1.here hx rfl (hb hby d40_14) rfl rfl ?_
    show Steps pP.tables eE below (T1.setTop (mkF mM 15 #[.val (.ref x), .val (.ref al), .val (.int (4 : Int32)), .val (.int (0 : Int32)), .unset] [(.ref al)])) _
    refine XS.iloadN X1.here hx rfl (hb hby d40_15) rfl ?_
    show Steps pP.tables eE below (T1.setTop (mkF mM 16 #[.val (.ref x), .val (.ref al), .val (.int (4 : Int32)), .val (.int (0 : Int32)), .unset] [(.int (0 : Int32)), (.ref al)])) _
    refine X1.aaload hx (j := (0 : Int32)) (v := (.ref a_HOST)) (by rw [e1]; exact Ara3.1) (State.isArrayOf_alike hZ.alike Ara3.2.1) rfl Ara3.2.2 hin4 hat4 (g := (mkF mM 16 #[.val (.ref x), .val (.ref al), .val (.int (4 : Int32)), .val (.int (0 : Int32)), .unset] [(.int (0 : Int32)), (.ref al)])) rfl rfl (hb hby d40_16) _ ?_
    show Steps pP.tables eE below (T1.setTop (mkF mM 17 #[.val (.ref x), .val (.ref al), .val (.int (4 : Int32)), .val (.int (0 : Int32)), .unset] [(.ref a_HOST)])) _
    refine XS.astore X1.here hx rfl (hb hby d40_17) rfl rfl (l' := #[.val (.ref x), .val (.ref al), .val (.int (4 : Int32)), .val (.int (0 : Int32)), .val (.ref a_HOST)]) rfl ?_
    show Steps pP.tables eE below (T1.setTop (mkF mM 19 #[.val (.ref x), .val (.ref al), .val (.int (4 : Int32)), .val (.int (0 : Int32)), .val (.ref a_HOST)] [])) _
    refine XS.aload X1.here hx rfl (hb hby d40_19) rfl rfl ?_
    exact kg)
  obtain ⟨T6, X6, e6, st6⟩ := getF X1 hx hZ hown (host := "") (Or.inl (hw _ (List.mem_of_getElem? (i := 92) rfl))) Via.refl e1 (Fld.ext (O).2 F_HOST) (g := (mkF mM 21 #[.val (.ref x), .val (.ref al), .val (.int (4 : Int32)), .val (.int (0 : Int32)), .val (.ref a_HOST)] [(.ref a_HOST)])) rfl rfl (hb hby d40_21)
  have pr7 : ∀ tg, Steps pP.tables eE below (T6.setTop (mkF mM 24 #[.val (.ref x), .val (.ref al), .val (.int (4 : Int32)), .val (.int (0 : Int32)), .val (.ref a_HOST)] [(.ref t_HOST)])) tg → Steps pP.tables eE below (s₁.setTop (entryFrame mM #[(.ref x)] 5)) tg := fun tg kg => pr5 _ (st6 _ kg)
  have pr8 : ∀ tg, Steps pP.tables eE below (T6.setTop (mkF mM 25 #[.val (.ref x), .val (.ref al), .val (.int (4 : Int32)), .val (.int (0 : Int32)), .val (.ref a_HOST)] [(.ref x), (.ref t_HOST)])) tg → Steps pP.tables eE below (s₁.setTop (entryFrame mM #[(.ref x)] 5)) tg := fun tg kg => pr7 _ (by
    show Steps pP.tables eE below (T6.setTop (mkF mM 24 #[.val (.ref x), .val (.ref al), .val (.int (4 : Int32)), .val (.int (0 : Int32)), .val (.ref a_HOST)] [(.ref t_HOST)])) _
    refine XS.aloadN X6.here hx rfl (hb hby d40_24) rfl rfl ?_
    exact kg)
  obtain ⟨cq9, kq9, qa9, qb9, qc9⟩ := isOf hZ e6 (Exa.ext (O).2 Et_HOST)
  obtain ⟨vq9, _, ⟨T9, L9, kk9, nn9⟩, -, X9, ⟨Lc9, hQ9, l9, y9, z9⟩, st9⟩ := X6.virtualBack hx (y := (⟨"java/lang/String", "equals", "(Ljava/lang/Object;)Z"⟩ : MethodName)) (z := (⟨"java/lang/String", "equals", "(Ljava/lang/Object;)Z"⟩ : MethodName)) hown (mvT hZ (hw _ (List.mem_of_getElem? (i := 94) rfl))) (mvT hZ (hw _ (List.mem_of_getElem? (i := 76) rfl))) (notFace_of_selects (args := #[]) (mvT hZ (hw _ (List.mem_of_getElem? (i := 78) rfl)))) (mvT hZ (hw _ (List.mem_of_getElem? (i := 78) rfl))) (mvT hZ (hw _ (List.mem_of_getElem? (i := 77) rfl))) (by decide) (StrChars.Road.eqW (W := 0) hZ (own_wE hw) (kI := 4) (hw _ (List.mem_of_getElem? (i := 2) rfl)) (cs := ([(104 : Int32), (111 : Int32), (115 : Int32), (116 : Int32)] : List Int32)) (Exa.ext (O).2 Et_HOST) (Fld.ext (O).2 Fv_HOST) (Fld.ext (O).2 Fc_HOST) (Arv.ext Vt_HOST (O).2) own_cod_host own_bd_host (Nat.le_of_ble_eq_true rfl) (ds := tx) E_x F_xv F_xc V_t (StrChars.Road.codOf (n := tx.length) rfl (fun c hc => (hp c hc).2)) (own_up hp) hlen (Sta.ext (O).2 S_cs) hcs (by decide) (by decide)) qa9 qc9 (g := (mkF mM 25 #[.val (.ref x), .val (.ref al), .val (.int (4 : Int32)), .val (.int (0 : Int32)), .val (.ref a_HOST)] [(.ref x), (.ref t_HOST)])) rfl (by rw [hml]; rfl) (Steps.refl _) (argsL := [(.ref x)]) (rest := []) (lenOf pd_9 rfl) rfl (by show 2 * 0 + _ ≤ _; exact Nat.le_of_eq rfl) (hb hby d40_25) (fun _ _ => ⟨rfl, e6, (by decide : 0 + 0 ≤ _), (by decide : 0 + 0 ≤ _)⟩)
  dsimp only [Pt.U, Pt.locs, Pt.cells, Pt.slots] at X9 l9 y9 z9 st9 hQ9
  subst l9 y9 z9
  obtain ⟨hq9, hL9, e9⟩ := hQ9
  subst hL9
  obtain ⟨r9, hv9, hr9⟩ : ∃ r : Int32, vq9 = some (.int r) ∧ r = (if ([(104 : Int32), (111 : Int32), (115 : Int32), (116 : Int32)] : List Int32) = tx then (1 : Int32) else (0 : Int32)) := hq9.elim (fun q => ⟨1, q.1, (if_pos q.2).symm⟩) (fun q => ⟨0, q.1, (if_neg q.2).symm⟩)
  subst hv9
  have N9 := Fr.app N0 (Fr.nil n0)
  have pr10 : ∀ tg, Steps pP.tables eE below (T9.setTop (mkF mM 28 #[.val (.ref x), .val (.ref al), .val (.int (4 : Int32)), .val (.int (0 : Int32)), .val (.ref a_HOST)] [(.int r9)])) tg → Steps pP.tables eE below (s₁.setTop (entryFrame mM #[(.ref x)] 5)) tg := fun tg kg => pr8 _ (st9.trans kg)
  rw [if_pos hk0.symm] at hr9
  subst hr9
  have pr11 : ∀ tg, Steps pP.tables eE below (T9.setTop (mkF mM 33 #[.val (.ref x), .val (.ref al), .val (.int (4 : Int32)), .val (.int (0 : Int32)), .val (.ref a_HOST)] [(.ref a_HOST)])) tg → Steps pP.tables eE below (s₁.setTop (entryFrame mM #[(.ref x)] 5)) tg := fun tg kg => pr10 _ (by
    show Steps pP.tables eE below (T9.setTop (mkF mM 28 #[.val (.ref x), .val (.ref al), .val (.int (4 : Int32)), .val (.int (0 : Int32)), .val (.ref a_HOST)] [(.int (1 : Int32))])) _
    refine XS.ifNo X9.here hx rfl (hb hby d40_28) rfl ((if0 _ _).trans (feq (by decide)).1) ?_
    show Steps pP.tables eE below (T9.setTop (mkF mM 31 #[.val (.ref x), .val (.ref al), .val (.int (4 : Int32)), .val (.int (0 : Int32)), .val (.ref a_HOST)] [])) _
    refine XS.aload X9.here hx rfl (hb hby d40_31) rfl rfl ?_
    exact kg)
  obtain ⟨fs, hr, hrun, hended, hW, hsame⟩ := X9.leave (v := some (.ref a_HOST)) (fun h => by rw [Bd.returns] at h; cases h)
  refine ⟨_, _, pr11 _ (retOut X9 hx (t := (.object "com/example/thawline/thawline/CandidateType")) Bd.returns rfl (Or.inr (Or.inr (Or.inr (Or.inr ⟨rfl, rfl, rfl⟩)))) (hb hby d40_33) hr), hrun, hended, _, _, rfl, ?_, ⟨_, rfl⟩, hW, hsame.mono (by decide) (by decide)⟩
  show Q40 Z cs al kal a_HOST t_HOST u_HOST k_HOST a_SERVER_REFLEXIVE t_SERVER_REFLEXIVE u_SERVER_REFLEXIVE k_SERVER_REFLEXIVE a_PEER_REFLEXIVE t_PEER_REFLEXIVE u_PEER_REFLEXIVE k_PEER_REFLEXIVE a_RELAYED t_RELAYED u_RELAYED k_RELAYED x t kt tx h0 n0 _ T9.heap _
  rw [e9]
  exact ⟨rfl, N9, rfl⟩
theorem d41_0 : decode prog_14_method_8_code 0 = .ok (.getstatic 58, 3) := by decide +kernel
theorem d41_3 : decode prog_14_method_8_code 3 = .ok (.astore_n 1, 1) := by decide +kernel
theorem d41_4 : decode prog_14_method_8_code 4 = .ok (.aload_n 1, 1) := by decide +kernel
theorem d41_5 : decode prog_14_method_8_code 5 = .ok (.arraylength, 1) := by decide +kernel
theorem d41_6 : decode prog_14_method_8_code 6 = .ok (.istore_n 2, 1) := by decide +kernel
theorem d41_7 : decode prog_14_method_8_code 7 = .ok (.iconst 0, 1) := by decide +kernel
theorem d41_8 : decode prog_14_method_8_code 8 = .ok (.istore_n 3, 1) := by decide +kernel
theorem d41_9 : decode prog_14_method_8_code 9 = .ok (.iload_n 3, 1) := by decide +kernel
theorem d41_10 : decode prog_14_method_8_code 10 = .ok (.iload_n 2, 1) := by decide +kernel
theorem d41_11 : decode prog_14_method_8_code 11 = .ok (.if_icmp .ge 29, 3) := by decide +kernel
theorem d41_14 : decode prog_14_method_8_code 14 = .ok (.aload_n 1, 1) := by decide +kernel
theorem d41_15 : decode prog_14_method_8_code 15 = .ok (.iload_n 3, 1) := by decide +kernel
theorem d41_16 : decode prog_14_method_8_code 16 = .ok (.aaload, 1) := by decide +kernel
theorem d41_17 : decode prog_14_method_8_code 17 = .ok (.astore 4, 2) := by decide +kernel
theorem d41_19 : decode prog_14_method_8_code 19 = .ok (.aload 4, 2) := by decide +kernel
theorem d41_21 : decode prog_14_method_8_code 21 = .ok (.getfield 35, 3) := by decide +kernel
theorem d41_24 : decode prog_14_method_8_code 24 = .ok (.aload_n 0, 1) := by decide +kernel
theorem d41_25 : decode prog_14_method_8_code 25 = .ok (.invokevirtual 61, 3) := by decide +kernel
theorem d41_28 : decode prog_14_method_8_code 28 = .ok (.ifCond .eq 6, 3) := by decide +kernel
theorem d41_31 : decode prog_14_method_8_code 31 = .ok (.aload 4, 2) := by decide +kernel
theorem d41_33 : decode prog_14_method_8_code 33 = .ok (.areturn, 1) := by decide +kernel
theorem d41_34 : decode prog_14_method_8_code 34 = .ok (.iinc 3 1, 3) := by decide +kernel
theorem d41_37 : decode prog_14_method_8_code 37 = .ok (.goto (-28), 3) := by decide +kernel
theorem ef_41 (mM : MethodId) (x0 : Addr) : entryFrame mM #[(.ref x0)] 5 = mkF mM 0 #[.val (.ref x0), .unset, .unset, .unset, .unset] [] := by first | (simp [entryFrame, mkF, argsToLocals, Value.category]; done) | rfl
def Q41 (Z : State) (cs : Int32) (al : Addr) (kal : ClassId) (a_HOST : Addr) (t_HOST : Addr) (u_HOST : Addr) (k_HOST : ClassId) (a_SERVER_REFLEXIVE : Addr) (t_SERVER_REFLEXIVE : Addr) (u_SERVER_REFLEXIVE : Addr) (k_SERVER_REFLEXIVE : ClassId) (a_PEER_REFLEXIVE : Addr) (t_PEER_REFLEXIVE : Addr) (u_PEER_REFLEXIVE : Addr) (k_PEER_REFLEXIVE : ClassId) (a_RELAYED : Addr) (t_RELAYED : Addr) (u_RELAYED : Addr) (k_RELAYED : ClassId) (x : Addr) (t : Addr) (kt : ClassId) (tx : List Int32) (h0 : Heap) (n0 : Nat) (v : Option Value) (h : Heap) (L : List Loc) : Prop := v = some (.ref a_SERVER_REFLEXIVE) ∧ Fr n0 L ∧ h = h0
set_option maxRecDepth 65536 in
set_option maxHeartbeats 40000000 in
theorem rm41 (l : Launch) (Z : State) (a0 : Array Value) (hw : ∀ d ∈ tables_1, d.before a0 Z = true) (ws : List Jvm.Cond) (cs : Int32) (al : Addr) (kal : ClassId) (a_HOST : Addr) (t_HOST : Addr) (u_HOST : Addr) (k_HOST : ClassId) (a_SERVER_REFLEXIVE : Addr) (t_SERVER_REFLEXIVE : Addr) (u_SERVER_REFLEXIVE : Addr) (k_SERVER_REFLEXIVE : ClassId) (a_PEER_REFLEXIVE : Addr) (t_PEER_REFLEXIVE : Addr) (u_PEER_REFLEXIVE : Addr) (k_PEER_REFLEXIVE : ClassId) (a_RELAYED : Addr) (t_RELAYED : Addr) (u_RELAYED : Addr) (k_RELAYED : ClassId) (x : Addr) (t : Addr) (kt : ClassId) (tx : List Int32) (h0 : Heap) (n0 : Nat) (Z0 : n0 ≤ h0.size) (O : Old Z n0 h0) (S_cs : Sta Z Z.heap "java/lang/String" "COMPACT_STRINGS" "Z" (.int cs)) (hcs : ¬ cs = (0 : Int32)) (S_ALL : Sta Z Z.heap "com/example/thawline/thawline/CandidateType" "ALL" "[Lcom/example/thawline/thawline/CandidateType;" (.ref al)) (V_ALL : Arv Z Z.heap al kal (.object "com/example/thawline/thawline/CandidateType") (4 : Int32) [(.ref a_HOST), (.ref a_SERVER_REFLEXIVE), (.ref a_PEER_REFLEXIVE), (.ref a_RELAYED)] .null) (S_HOST : Sta Z Z.heap "com/example/thawline/thawline/CandidateType" "HOST" "Lcom/example/thawline/thawline/CandidateType;" (.ref a_HOST)) (E_HOST : Exa Z Z.heap a_HOST "com/example/thawline/thawline/CandidateType") (F_HOST : Fld Z Z.heap a_HOST "com/example/thawline/thawline/CandidateType" "token" "Ljava/lang/String;" (.ref t_HOST)) (Et_HOST : Exa Z Z.heap t_HOST "java/lang/String") (Fc_HOST : Fld Z Z.heap t_HOST "java/lang/String" "coder" "B" (.int (0 : Int32))) (Fv_HOST : Fld Z Z.heap t_HOST "java/lang/String" "value" "[B" (.ref u_HOST)) (Vt_HOST : Arv Z Z.heap u_HOST k_HOST .byte (4 : Int32) [(.int (104 : Int32)), (.int (111 : Int32)), (.int (115 : Int32)), (.int (116 : Int32))] (.int (0 : Int32))) (S_SERVER_REFLEXIVE : Sta Z Z.heap "com/example/thawline/thawline/CandidateType" "SERVER_REFLEXIVE" "Lcom/example/thawline/thawline/CandidateType;" (.ref a_SERVER_REFLEXIVE)) (E_SERVER_REFLEXIVE : Exa Z Z.heap a_SERVER_REFLEXIVE "com/example/thawline/thawline/CandidateType") (F_SERVER_REFLEXIVE : Fld Z Z.heap a_SERVER_REFLEXIVE "com/example/thawline/thawline/CandidateType" "token" "Ljava/lang/String;" (.ref t_SERVER_REFLEXIVE)) (Et_SERVER_REFLEXIVE : Exa Z Z.heap t_SERVER_REFLEXIVE "java/lang/String") (Fc_SERVER_REFLEXIVE : Fld Z Z.heap t_SERVER_REFLEXIVE "java/lang/String" "coder" "B" (.int (0 : Int32))) (Fv_SERVER_REFLEXIVE : Fld Z Z.heap t_SERVER_REFLEXIVE "java/lang/String" "value" "[B" (.ref u_SERVER_REFLEXIVE)) (Vt_SERVER_REFLEXIVE : Arv Z Z.heap u_SERVER_REFLEXIVE k_SERVER_REFLEXIVE .byte (5 : Int32) [(.int (115 : Int32)), (.int (114 : Int32)), (.int (102 : Int32)), (.int (108 : Int32)), (.int (120 : Int32))] (.int (0 : Int32))) (S_PEER_REFLEXIVE : Sta Z Z.heap "com/example/thawline/thawline/CandidateType" "PEER_REFLEXIVE" "Lcom/example/thawline/thawline/CandidateType;" (.ref a_PEER_REFLEXIVE)) (E_PEER_REFLEXIVE : Exa Z Z.heap a_PEER_REFLEXIVE "com/example/thawline/thawline/CandidateType") (F_PEER_REFLEXIVE : Fld Z Z.heap a_PEER_REFLEXIVE "com/example/thawline/thawline/CandidateType" "token" "Ljava/lang/String;" (.ref t_PEER_REFLEXIVE)) (Et_PEER_REFLEXIVE : Exa Z Z.heap t_PEER_REFLEXIVE "java/lang/String") (Fc_PEER_REFLEXIVE : Fld Z Z.heap t_PEER_REFLEXIVE "java/lang/String" "coder" "B" (.int (0 : Int32))) (Fv_PEER_REFLEXIVE : Fld Z Z.heap t_PEER_REFLEXIVE "java/lang/String" "value" "[B" (.ref u_PEER_REFLEXIVE)) (Vt_PEER_REFLEXIVE : Arv Z Z.heap u_PEER_REFLEXIVE k_PEER_REFLEXIVE .byte (5 : Int32) [(.int (112 : Int32)), (.int (114 : Int32)), (.int (102 : Int32)), (.int (108 : Int32)), (.int (120 : Int32))] (.int (0 : Int32))) (S_RELAYED : Sta Z Z.heap "com/example/thawline/thawline/CandidateType" "RELAYED" "Lcom/example/thawline/thawline/CandidateType;" (.ref a_RELAYED)) (E_RELAYED : Exa Z Z.heap a_RELAYED "com/example/thawline/thawline/CandidateType") (F_RELAYED : Fld Z Z.heap a_RELAYED "com/example/thawline/thawline/CandidateType" "token" "Ljava/lang/String;" (.ref t_RELAYED)) (Et_RELAYED : Exa Z Z.heap t_RELAYED "java/lang/String") (Fc_RELAYED : Fld Z Z.heap t_RELAYED "java/lang/String" "coder" "B" (.int (0 : Int32))) (Fv_RELAYED : Fld Z Z.heap t_RELAYED "java/lang/String" "value" "[B" (.ref u_RELAYED)) (Vt_RELAYED : Arv Z Z.heap u_RELAYED k_RELAYED .byte (5 : Int32) [(.int (114 : Int32)), (.int (101 : Int32)), (.int (108 : Int32)), (.int (97 : Int32)), (.int (121 : Int32))] (.int (0 : Int32))) (E_x : Exa Z h0 x "java/lang/String") (F_xv : Fld Z h0 x "java/lang/String" "value" "[B" (.ref t)) (F_xc : Fld Z h0 x "java/lang/String" "coder" "B" (.int (0 : Int32))) (V_t : Arv Z h0 t kt .byte (Int32.ofNat tx.length) ((tx.map StrChars.lo8).map Value.int) (.int (0 : Int32))) (hp : ∀ c ∈ tx, ¬ c < 0 ∧ ¬ (255 : Int32) < c) (hlen : tx.length ≤ 4000) (hk0 : ¬ tx = ([(104 : Int32), (111 : Int32), (115 : Int32), (116 : Int32)] : List Int32)) (hk1 : tx = ([(115 : Int32), (114 : Int32), (102 : Int32), (108 : Int32), (120 : Int32)] : List Int32)) :
    MetFree l (⟨"com/example/thawline/thawline/CandidateType", "ofToken", "(Ljava/lang/String;)Lcom/example/thawline/thawline/CandidateType;"⟩ : MethodName) (head1 (Jvm.Cond.code (⟨"com/example/thawline/thawline/CandidateType", "ofToken", "(Ljava/lang/String;)Lcom/example/thawline/thawline/CandidateType;"⟩ : MethodName) prog_14_method_8_code 5 (some (.object "com/example/thawline/thawline/CandidateType")) :: ws) ({ frames := 2, cells := 0, slots := 0, locals := 28 } : Room)) (fun aA uU => aA = #[(.ref x)] ∧ Z.Warmed39 uU.vm ∧ uU.heap = h0) (fun _ _ _ _ _ => True) (fun _ uU oO uU' => ∃ vV lL, oO = .returned vV ∧ Q41 Z cs al kal a_HOST t_HOST u_HOST k_HOST a_SERVER_REFLEXIVE t_SERVER_REFLEXIVE u_SERVER_REFLEXIVE k_SERVER_REFLEXIVE a_PEER_REFLEXIVE t_PEER_REFLEXIVE u_PEER_REFLEXIVE k_PEER_REFLEXIVE a_RELAYED t_RELAYED u_RELAYED k_RELAYED x t kt tx h0 n0 vV uU'.heap lL ∧ FrameEnd uU oO uU' lL ({ frames := 2, cells := 0, slots := 0, locals := 28 } : Room).cells ({ frames := 2, cells := 0, slots := 0, locals := 28 } : Room).slots) := by
  refine MetFree.of_bodySF (plainFor_of_name pn_4) hisR ?_
  intro pP eE sS mM args below meth cC s₁ Bd hml0 hP hK
  obtain ⟨rfl, hZ, hh⟩ := hP
  have hx := Bd.exec
  have hby := Bd.bytes
  have hml : cC.maxLocals = 5 := hml0
  have hown : sS.vm.findClass "com/example/thawline/thawline/CandidateType" = some mM.cls := findClass_of_methodNamed Bd.named
  have hnm := (name_of_methodNamed Bd.named Bd.method).1
  have X0 : Stand pP l eE ({ frames := 2, cells := 0, slots := 0, locals := 28 } : Room) sS mM #[(.ref x)] below meth cC s₁ [] 0 0 := Stand.of_body Bd
  have e0 : s₁.heap = h0 := by rw [← hh, Bd.state]; rfl
  have N0 := Fr.nil n0
  have pre0 : ∀ tg, Steps pP.tables eE below (s₁.setTop (mkF mM 0 #[.val (.ref x), .unset, .unset, .unset, .unset] [])) tg → Steps pP.tables eE below (s₁.setTop (entryFrame mM #[(.ref x)] 5)) tg := fun tg kg => castTop (ef_41 mM x) kg
  obtain ⟨T1, X1, e1, st1⟩ := getS2 X0 hx hZ hown (host := "") (Or.inl (hw _ (List.mem_of_getElem? (i := 90) rfl))) Via.refl e0 (Sta.ext (O).2 S_ALL) (g := (mkF mM 0 #[.val (.ref x), .unset, .unset, .unset, .unset] [])) rfl (hb hby d41_0)
  have pr2 : ∀ tg, Steps pP.tables eE below (T1.setTop (mkF mM 3 #[.val (.ref x), .unset, .unset, .unset, .unset] [(.ref al)])) tg → Steps pP.tables eE below (s₁.setTop (entryFrame mM #[(.ref x)] 5)) tg := fun tg kg => pre0 _ (st1 _ kg)
  obtain ⟨cla3, Ara3, qa3, Sa3, Ma3, Ha3, Ga3⟩ := id (Arv.ext V_ALL (O).2)
  have hin4 : ¬ ((0 : Int32) < 0 ∨ cla3.slots.size ≤ ((0 : Int32)).toNatClampNeg) := inb_of Sa3 ⟨by decide, by decide⟩
  have hat4 : cla3.slots[((0 : Int32)).toNatClampNeg]? = some (.ref a_HOST) := Has.at Ha3 hin4 rfl
  have pr5 : ∀ tg, Steps pP.tables eE below (T1.setTop (mkF mM 21 #[.val (.ref x), .val (.ref al), .val (.int (4 : Int32)), .val (.int (0 : Int32)), .val (.ref a_HOST)] [(.ref a_HOST)])) tg → Steps pP.tables eE below (s₁.setTop (entryFrame mM #[(.ref x)] 5)) tg := fun tg kg => pr2 _ (by
    show Steps pP.tables eE below (T1.setTop (mkF mM 3 #[.val (.ref x), .unset, .unset, .unset, .unset] [(.ref al)])) _
    refine XS.astoreN X1.here hx rfl (hb hby d41_3) rfl rfl (l' := #[.val (.ref x), .val (.ref al), .unset, .unset, .unset]) rfl ?_
    show Steps pP.tables eE below (T1.setTop (mkF mM 4 #[.val (.ref x), .val (.ref al), .unset, .unset, .unset] [])) _
    refine XS.aloadN X1.here hx rfl (hb hby d41_4) rfl rfl ?_
    show Steps pP.tables eE below (T1.setTop (mkF mM 5 #[.val (.ref x), .val (.ref al), .unset, .unset, .unset] [(.ref al)])) _
    refine X1.arraylength hx (by rw [e1]; exact Ara3.1) (State.isArrayOf_alike hZ.alike Ara3.2.1) (g := (mkF mM 5 #[.val (.ref x), .val (.ref al), .unset, .unset, .unset] [(.ref al)])) rfl rfl (hb hby d41_5) _ ?_
    rw [len_of Sa3 Ma3]
    show Steps pP.tables eE below (T1.setTop (mkF mM 6 #[.val (.ref x), .val (.ref al), .unset, .unset, .unset] [(.int (4 : Int32))])) _
    refine XS.istoreN X1.here hx rfl (hb hby d41_6) rfl (l' := #[.val (.ref x), .val (.ref al), .val (.int (4 : Int32)), .unset, .unset]) rfl ?_
    show Steps pP.tables eE below (T1.setTop (mkF mM 7 #[.val (.ref x), .val (.ref al), .val (.int (4 : Int32)), .unset, .unset] [])) _
    refine XS.iconst X1.here hx rfl (hb hby d41_7) ?_
    show Steps pP.tables eE below (T1.setTop (mkF mM 8 #[.val (.ref x), .val (.ref al), .val (.int (4 : Int32)), .unset, .unset] [(.int (0 : Int32))])) _
    refine XS.istoreN X1.here hx rfl (hb hby d41_8) rfl (l' := #[.val (.ref x), .val (.ref al), .val (.int (4 : Int32)), .val (.int (0 : Int32)), .unset]) rfl ?_
    show Steps pP.tables eE below (T1.setTop (mkF mM 9 #[.val (.ref x), .val (.ref al), .val (.int (4 : Int32)), .val (.int (0 : Int32)), .unset] [])) _
    refine XS.iloadN X1.here hx rfl (hb hby d41_9) rfl ?_
    show Steps pP.tables eE below (T1.setTop (mkF mM 10 #[.val (.ref x), .val (.ref al), .val (.int (4 : Int32)), .val (.int (0 : Int32)), .unset] [(.int (0 : Int32))])) _
    refine XS.iloadN X1.here hx rfl (hb hby d41_10) rfl ?_
    show Steps pP.tables eE below (T1.setTop (mkF mM 11 #[.val (.ref x), .val (.ref al), .val (.int (4 : Int32)), .val (.int (0 : Int32)), .unset] [(.int (4 : Int32)), (.int (0 : Int32))])) _
    refine XS.icmpNo X1.here hx rfl (hb hby d41_11) rfl (tlt (by decide)).2.1 ?_
    show Steps pP.tables eE below (T1.setTop (mkF mM 14 #[.val (.ref x), .val (.ref al), .val (.int (4 : Int32)), .val (.int (0 : Int32)), .unset] [])) _
    refine XS.aloadN X1.here hx rfl (hb hby d41_14) rfl rfl ?_
    show Steps pP.tables eE below (T1.setTop (mkF mM 15 #[.val (.ref x), .val (.ref al), .val (.int (4 : Int32)), .val (.int (0 : Int32)), .unset] [(.ref al)])) _
    refine XS.iloadN X1.here hx rfl (hb hby d41_15) rfl ?_
    show Steps pP.tables eE below (T1.setTop (mkF mM 16 #[.val (.ref x), .val (.ref al), .val (.int (4 : Int32)), .val (.int (0 : Int32)), .unset] [(.int (0 : Int32)), (.ref al)])) _
    refine X1.aaload hx (j := (0 : Int32)) (v := (.ref a_HOST)) (by rw [e1]; exact Ara3.1) (State.isArrayOf_alike hZ.alike Ara3.2.1) rfl Ara3.2.2 hin4 hat4 (g := (mkF mM 16 #[.val (.ref x), .val (.ref al), .val (.int (4 : Int32)), .val (.int (0 : Int32)), .unset] [(.int (0 : Int32)), (.ref al)])) rfl rfl (hb hby d41_16) _ ?_
    show Steps pP.tables eE below (T1.setTop (mkF mM 17 #[.val (.ref x), .val (.ref al), .val (.int (4 : Int32)), .val (.int (0 : Int32)), .unset] [(.ref a_HOST)])) _
    refine XS.astore X1.here hx rfl (hb hby d41_17) rfl rfl (l' := #[.val (.ref x), .val (.ref al), .val (.int (4 : Int32)), .val (.int (0 : Int32)), .val (.ref a_HOST)]) rfl ?_
    show Steps pP.tables eE below (T1.setTop (mkF mM 19 #[.val (.ref x), .val (.ref al), .val (.int (4 : Int32)), .val (.int (0 : Int32)), .val (.ref a_HOST)] [])) _
    refine XS.aload X1.here hx rfl (hb hby d41_19) rfl rfl ?_
    exact kg)
  obtain ⟨T6, X6, e6, st6⟩ := getF X1 hx hZ hown (host := "") (Or.inl (hw _ (List.mem_of_getElem? (i := 92) rfl))) Via.refl e1 (Fld.ext (O).2 F_HOST) (g := (mkF mM 21 #[.val (.ref x), .val (.ref al), .val (.int (4 : Int32)), .val (.int (0 : Int32)), .val (.ref a_HOST)] [(.ref a_HOST)])) rfl rfl (hb hby d41_21)
  have pr7 : ∀ tg, Steps pP.tables eE below (T6.setTop (mkF mM 24 #[.val (.ref x), .val (.ref al), .val (.int (4 : Int32)), .val (.int (0 : Int32)), .val (.ref a_HOST)] [(.ref t_HOST)])) tg → Steps pP.tables eE below (s₁.setTop (entryFrame mM #[(.ref x)] 5)) tg := fun tg kg => pr5 _ (st6 _ kg)
  have pr8 : ∀ tg, Steps pP.tables eE below (T6.setTop (mkF mM 25 #[.val (.ref x), .val (.ref al), .val (.int (4 : Int32)), .val (.int (0 : Int32)), .val (.ref a_HOST)] [(.ref x), (.ref t_HOST)])) tg → Steps pP.tables eE below (s₁.setTop (entryFrame mM #[(.ref x)] 5)) tg := fun tg kg => pr7 _ (by
    show Steps pP.tables eE below (T6.setTop (mkF mM 24 #[.val (.ref x), .val (.ref al), .val (.int (4 : Int32)), .val (.int (0 : Int32)), .val (.ref a_HOST)] [(.ref t_HOST)])) _
    refine XS.aloadN X6.here hx rfl (hb hby d41_24) rfl rfl ?_
    exact kg)
  obtain ⟨cq9, kq9, qa9, qb9, qc9⟩ := isOf hZ e6 (Exa.ext (O).2 Et_HOST)
  obtain ⟨vq9, _, ⟨T9, L9, kk9, nn9⟩, -, X9, ⟨Lc9, hQ9, l9, y9, z9⟩, st9⟩ := X6.virtualBack hx (y := (⟨"java/lang/String", "equals", "(Ljava/lang/Object;)Z"⟩ : MethodName)) (z := (⟨"java/lang/String", "equals", "(Ljava/lang/Object;)Z"⟩ : MethodName)) hown (mvT hZ (hw _ (List.mem_of_getElem? (i := 94) rfl))) (mvT hZ (hw _ (List.mem_of_getElem? (i := 76) rfl))) (notFace_of_selects (args := #[]) (mvT hZ (hw _ (List.mem_of_getElem? (i := 78) rfl)))) (mvT hZ (hw _ (List.mem_of_getElem? (i := 78) rfl))) (mvT hZ (hw _ (List.mem_of_getElem? (i := 77) rfl))) (by decide) (StrChars.Road.eqW (W := 0) hZ (own_wE hw) (kI := 4) (hw _ (List.mem_of_getElem? (i := 2) rfl)) (cs := ([(104 : Int32), (111 : Int32), (115 : Int32), (116 : Int32)] : List Int32)) (Exa.ext (O).2 Et_HOST) (Fld.ext (O).2 Fv_HOST) (Fld.ext (O).2 Fc_HOST) (Arv.ext Vt_HOST (O).2) own_cod_host own_bd_host (Nat.le_of_ble_eq_true rfl) (ds := tx) E_x F_xv F_xc V_t (StrChars.Road.codOf (n := tx.length) rfl (fun c hc => (hp c hc).2)) (own_up hp) hlen (Sta.ext (O).2 S_cs) hcs (by decide) (by decide)) qa9 qc9 (g := (mkF mM 25 #[.val (.ref x), .val (.ref al), .val (.int (4 : Int32)), .val (.int (0 : Int32)), .val (.ref a_HOST)] [(.ref x), (.ref t_HOST)])) rfl (by rw [hml]; rfl) (Steps.refl _) (argsL := [(.ref x)]) (rest := []) (lenOf pd_9 rfl) rfl (by show 2 * 0 + _ ≤ _; exact Nat.le_of_eq rfl) (hb hby d41_25) (fun _ _ => ⟨rfl, e6, (by decide : 0 + 0 ≤ _), (by decide : 0 + 0 ≤ _)⟩)
  dsimp only [Pt.U, Pt.locs, Pt.cells, Pt.slots] at X9 l9 y9 z9 st9 hQ9
  subst l9 y9 z9
  obtain ⟨hq9, hL9, e9⟩ := hQ9
  subst hL9
  obtain ⟨r9, hv9, hr9⟩ : ∃ r : Int32, vq9 = some (.int r) ∧ r = (if ([(104 : Int32), (111 : Int32), (115 : Int32), (116 : Int32)] : List Int32) = tx then (1 : Int32) else (0 : Int32)) := hq9.elim (fun q => ⟨1, q.1, (if_pos q.2).symm⟩) (fun q => ⟨0, q.1, (if_neg q.2).symm⟩)
  subst hv9
  have N9 := Fr.app N0 (Fr.nil n0)
  have pr10 : ∀ tg, Steps pP.tables eE below (T9.setTop (mkF mM 28 #[.val (.ref x), .val (.ref al), .val (.int (4 : Int32)), .val (.int (0 : Int32)), .val (.ref a_HOST)] [(.int r9)])) tg → Steps pP.tables eE below (s₁.setTop (entryFrame mM #[(.ref x)] 5)) tg := fun tg kg => pr8 _ (st9.trans kg)
  rw [if_neg (fun q => hk0 q.symm)] at hr9
  subst hr9
  have hin11 : ¬ ((1 : Int32) < 0 ∨ cla3.slots.size ≤ ((1 : Int32)).toNatClampNeg) := inb_of Sa3 ⟨by decide, by decide⟩
  have hat11 : cla3.slots[((1 : Int32)).toNatClampNeg]? = some (.ref a_SERVER_REFLEXIVE) := Has.at Ha3 hin11 rfl
  have pr12 : ∀ tg, Steps pP.tables eE below (T9.setTop (mkF mM 21 #[.val (.ref x), .val (.ref al), .val (.int (4 : Int32)), .val (.int (1 : Int32)), .val (.ref a_SERVER_REFLEXIVE)] [(.ref a_SERVER_REFLEXIVE)])) tg → Steps pP.tables eE below (s₁.setTop (entryFrame mM #[(.ref x)] 5)) tg := fun tg kg => pr10 _ (by
    show Steps pP.tables eE below (T9.setTop (mkF mM 28 #[.val (.ref x), .val (.ref al), .val (.int (4 : Int32)), .val (.int (0 : Int32)), .val (.ref a_HOST)] [(.int (0 : Int32))])) _
    refine XS.ifYes X9.here hx rfl (pc0 := 28) (pc' := 34) rfl (hb hby d41_28) rfl ((if0 _ _).trans (teq (by decide)).1) (by decide) (by decide) ?_
    show Steps pP.tables eE below (T9.setTop (mkF mM 34 #[.val (.ref x), .val (.ref al), .val (.int (4 : Int32)), .val (.int (0 : Int32)), .val (.ref a_HOST)] [])) _
    refine XS.iinc X9.here hx rfl (hb hby d41_34) rfl (l' := #[.val (.ref x), .val (.ref al), .val (.int (4 : Int32)), .val (.int (1 : Int32)), .val (.ref a_HOST)]) rfl ?_
    show Steps pP.tables eE below (T9.setTop (mkF mM 37 #[.val (.ref x), .val (.ref al), .val (.int (4 : Int32)), .val (.int (1 : Int32)), .val (.ref a_HOST)] [])) _
    refine XS.goto X9.here hx rfl (pc0 := 37) (pc' := 9) rfl (hb hby d41_37) (by decide) (by decide) ?_
    show Steps pP.tables eE below (T9.setTop (mkF mM 9 #[.val (.ref x), .val (.ref al), .val (.int (4 : Int32)), .val (.int (1 : Int32)), .val (.ref a_HOST)] [])) _
    refine XS.iloadN X9.here hx rfl (hb hby d41_9) rfl ?_
    show Steps pP.tables eE below (T9.setTop (mkF mM 10 #[.val (.ref x), .val (.ref al), .val (.int (4 : Int32)), .val (.int (1 : Int32)), .val (.ref a_HOST)] [(.int (1 : Int32))])) _
    refine XS.iloadN X9.here hx rfl (hb hby d41_10) rfl ?_
    show Steps pP.tables eE below (T9.setTop (mkF mM 11 #[.val (.ref x), .val (.ref al), .val (.int (4 : Int32)), .val (.int (1 : Int32)), .val (.ref a_HOST)] [(.int (4 : Int32)), (.int (1 : Int32))])) _
    refine XS.icmpNo X9.here hx rfl (hb hby d41_11) rfl (tlt (by decide)).2.1 ?_
    show Steps pP.tables eE below (T9.setTop (mkF mM 14 #[.val (.ref x), .val (.ref al), .val (.int (4 : Int32)), .val (.int (1 : Int32)), .val (.ref a_HOST)] [])) _
    refine XS.aloadN X9.here hx rfl (hb hby d41_14) rfl rfl ?_
    show Steps pP.tables eE below (T9.setTop (mkF mM 15 #[.val (.ref x), .val (.ref al), .val (.int (4 : Int32)), .val (.int (1 : Int32)), .val (.ref a_HOST)] [(.ref al)])) _
    refine XS.iloadN X9.here hx rfl (hb hby d41_15) rfl ?_
    show Steps pP.tables eE below (T9.setTop (mkF mM 16 #[.val (.ref x), .val (.ref al), .val (.int (4 : Int32)), .val (.int (1 : Int32)), .val (.ref a_HOST)] [(.int (1 : Int32)), (.ref al)])) _
    refine X9.aaload hx (j := (1 : Int32)) (v := (.ref a_SERVER_REFLEXIVE)) (by rw [e9]; exact Ara3.1) (State.isArrayOf_alike hZ.alike Ara3.2.1) rfl Ara3.2.2 hin11 hat11 (g := (mkF mM 16 #[.val (.ref x), .val (.ref al), .val (.int (4 : Int32)), .val (.int (1 : Int32)), .val (.ref a_HOST)] [(.int (1 : Int32)), (.ref al)])) rfl rfl (hb hby d41_16) _ ?_
    show Steps pP.tables eE below (T9.setTop (mkF mM 17 #[.val (.ref x), .val (.ref al), .val (.int (4 : Int32)), .val (.int (1 : Int32)), .val (.ref a_HOST)] [(.ref a_SERVER_REFLEXIVE)])) _
    refine XS.astore X9.here hx rfl (hb hby d41_17) rfl rfl (l' := #[.val (.ref x), .val (.ref al), .val (.int (4 : Int32)), .val (.int (1 : Int32)), .val (.ref a_SERVER_REFLEXIVE)]) rfl ?_
    show Steps pP.tables eE below (T9.setTop (mkF mM 19 #[.val (.ref x), .val (.ref al), .val (.int (4 : Int32)), .val (.int (1 : Int32)), .val (.ref a_SERVER_REFLEXIVE)] [])) _
    refine XS.aload X9.here hx rfl (hb hby d41_19) rfl rfl ?_
    exact kg)
  obtain ⟨T13, X13, e13, st13⟩ := getF X9 hx hZ hown (host := "") (Or.inl (hw _ (List.mem_of_getElem? (i := 92) rfl))) Via.refl e9 (Fld.ext (O).2 F_SERVER_REFLEXIVE) (g := (mkF mM 21 #[.val (.ref x), .val (.ref al), .val (.int (4 : Int32)), .val (.int (1 : Int32)), .val (.ref a_SERVER_REFLEXIVE)] [(.ref a_SERVER_REFLEXIVE)])) rfl rfl (hb hby d41_21)
  have pr14 : ∀ tg, Steps pP.tables eE below (T13.setTop (mkF mM 24 #[.val (.ref x), .val (.ref al), .val (.int (4 : Int32)), .val (.int (1 : Int32)), .val (.ref a_SERVER_REFLEXIVE)] [(.ref t_SERVER_REFLEXIVE)])) tg → Steps pP.tables eE below (s₁.setTop (entryFrame mM #[(.ref x)] 5)) tg := fun tg kg => pr12 _ (st13 _ kg)
  have pr15 : ∀ tg, Steps pP.tables eE below (T13.setTop (mkF mM 25 #[.val (.ref x), .val (.ref al), .val (.int (4 : Int32)), .val (.int (1 : Int32)), .val (.ref a_SERVER_REFLEXIVE)] [(.ref x), (.ref t_SERVER_REFLEXIVE)])) tg → Steps pP.tables eE below (s₁.setTop (entryFrame mM #[(.ref x)] 5)) tg := fun tg kg => pr14 _ (by
    show Steps pP.tables eE below (T13.setTop (mkF mM 24 #[.val (.ref x), .val (.ref al), .val (.int (4 : Int32)), .val (.int (1 : Int32)), .val (.ref a_SERVER_REFLEXIVE)] [(.ref t_SERVER_REFLEXIVE)])) _
    refine XS.aloadN X13.here hx rfl (hb hby d41_24) rfl rfl ?_
    exact kg)
  obtain ⟨cq16, kq16, qa16, qb16, qc16⟩ := isOf hZ e13 (Exa.ext (O).2 Et_SERVER_REFLEXIVE)
  obtain ⟨vq16, _, ⟨T16, L16, kk16, nn16⟩, -, X16, ⟨Lc16, hQ16, l16, y16, z16⟩, st16⟩ := X13.virtualBack hx (y := (⟨"java/lang/String", "equals", "(Ljava/lang/Object;)Z"⟩ : MethodName)) (z := (⟨"java/lang/String", "equals", "(Ljava/lang/Object;)Z"⟩ : MethodName)) hown (mvT hZ (hw _ (List.mem_of_getElem? (i := 94) rfl))) (mvT hZ (hw _ (List.mem_of_getElem? (i := 76) rfl))) (notFace_of_selects (args := #[]) (mvT hZ (hw _ (List.mem_of_getElem? (i := 78) rfl)))) (mvT hZ (hw _ (List.mem_of_getElem? (i := 78) rfl))) (mvT hZ (hw _ (List.mem_of_getElem? (i := 77) rfl))) (by decide) (StrChars.Road.eqW (W := 0) hZ (own_wE hw) (kI := 4) (hw _ (List.mem_of_getElem? (i := 2) rfl)) (cs := ([(115 : Int32), (114 : Int32), (102 : Int32), (108 : Int32), (120 : Int32)] : List Int32)) (Exa.ext (O).2 Et_SERVER_REFLEXIVE) (Fld.ext (O).2 Fv_SERVER_REFLEXIVE) (Fld.ext (O).2 Fc_SERVER_REFLEXIVE) (Arv.ext Vt_SERVER_REFLEXIVE (O).2) own_cod_srflx own_bd_srflx (Nat.le_of_ble_eq_true rfl) (ds := tx) E_x F_xv F_xc V_t (StrChars.Road.codOf (n := tx.length) rfl (fun c hc => (hp c hc).2)) (own_up hp) hlen (Sta.ext (O).2 S_cs) hcs (by decide) (by decide)) qa16 qc16 (g := (mkF mM 25 #[.val (.ref x), .val (.ref al), .val (.int (4 : Int32)), .val (.int (1 : Int32)), .val (.ref a_SERVER_REFLEXIVE)] [(.ref x), (.ref t_SERVER_REFLEXIVE)])) rfl (by rw [hml]; rfl) (Steps.refl _) (argsL := [(.ref x)]) (rest := []) (lenOf pd_9 rfl) rfl (by show 2 * 0 + _ ≤ _; exact Nat.le_of_eq rfl) (hb hby d41_25) (fun _ _ => ⟨rfl, e13, (by decide : 0 + 0 ≤ _), (by decide : 0 + 0 ≤ _)⟩)
  dsimp only [Pt.U, Pt.locs, Pt.cells, Pt.slots] at X16 l16 y16 z16 st16 hQ16
  subst l16 y16 z16
  obtain ⟨hq16, hL16, e16⟩ := hQ16
  subst hL16
  obtain ⟨r16, hv16, hr16⟩ : ∃ r : Int32, vq16 = some (.int r) ∧ r = (if ([(115 : Int32), (114 : Int32), (102 : Int32), (108 : Int32), (120 : Int32)] : List Int32) = tx then (1 : Int32) else (0 : Int32)) := hq16.elim (fun q => ⟨1, q.1, (if_pos q.2).symm⟩) (fun q => ⟨0, q.1, (if_neg q.2).symm⟩)
  subst hv16
  have N16 := Fr.app N9 (Fr.nil n0)
  have pr17 : ∀ tg, Steps pP.tables eE below (T16.setTop (mkF mM 28 #[.val (.ref x), .val (.ref al), .val (.int (4 : Int32)), .val (.int (1 : Int32)), .val (.ref a_SERVER_REFLEXIVE)] [(.int r16)])) tg → Steps pP.tables eE below (s₁.setTop (entryFrame mM #[(.ref x)] 5)) tg := fun tg kg => pr15 _ (st16.trans kg)
  rw [if_pos hk1.symm] at hr16
  subst hr16
  have pr18 : ∀ tg, Steps pP.tables eE below (T16.setTop (mkF mM 33 #[.val (.ref x), .val (.ref al), .val (.int (4 : Int32)), .val (.int (1 : Int32)), .val (.ref a_SERVER_REFLEXIVE)] [(.ref a_SERVER_REFLEXIVE)])) tg → Steps pP.tables eE below (s₁.setTop (entryFrame mM #[(.ref x)] 5)) tg := fun tg kg => pr17 _ (by
    show Steps pP.tables eE below (T16.setTop (mkF mM 28 #[.val (.ref x), .val (.ref al), .val (.int (4 : Int32)), .val (.int (1 : Int32)), .val (.ref a_SERVER_REFLEXIVE)] [(.int (1 : Int32))])) _
    refine XS.ifNo X16.here hx rfl (hb hby d41_28) rfl ((if0 _ _).trans (feq (by decide)).1) ?_
    show Steps pP.tables eE below (T16.setTop (mkF mM 31 #[.val (.ref x), .val (.ref al), .val (.int (4 : Int32)), .val (.int (1 : Int32)), .val (.ref a_SERVER_REFLEXIVE)] [])) _
    refine XS.aload X16.here hx rfl (hb hby d41_31) rfl rfl ?_
    exact kg)
  obtain ⟨fs, hr, hrun, hended, hW, hsame⟩ := X16.leave (v := some (.ref a_SERVER_REFLEXIVE)) (fun h => by rw [Bd.returns] at h; cases h)
  refine ⟨_, _, pr18 _ (retOut X16 hx (t := (.object "com/example/thawline/thawline/CandidateType")) Bd.returns rfl (Or.inr (Or.inr (Or.inr (Or.inr ⟨rfl, rfl, rfl⟩)))) (hb hby d41_33) hr), hrun, hended, _, _, rfl, ?_, ⟨_, rfl⟩, hW, hsame.mono (by decide) (by decide)⟩
  show Q41 Z cs al kal a_HOST t_HOST u_HOST k_HOST a_SERVER_REFLEXIVE t_SERVER_REFLEXIVE u_SERVER_REFLEXIVE k_SERVER_REFLEXIVE a_PEER_REFLEXIVE t_PEER_REFLEXIVE u_PEER_REFLEXIVE k_PEER_REFLEXIVE a_RELAYED t_RELAYED u_RELAYED k_RELAYED x t kt tx h0 n0 _ T16.heap _
  rw [e16]
  exact ⟨rfl, N16, rfl⟩
theorem d42_0 : decode prog_14_method_8_code 0 = .ok (.getstatic 58, 3) := by decide +kernel
theorem d42_3 : decode prog_14_method_8_code 3 = .ok (.astore_n 1, 1) := by decide +kernel
theorem d42_4 : decode prog_14_method_8_code 4 = .ok (.aload_n 1, 1) := by decide +kernel
theorem d42_5 : decode prog_14_method_8_code 5 = .ok (.arraylength, 1) := by decide +kernel
theorem d42_6 : decode prog_14_method_8_code 6 = .ok (.istore_n 2, 1) := by decide +kernel
theorem d42_7 : decode prog_14_method_8_code 7 = .ok (.iconst 0, 1) := by decide +kernel
theorem d42_8 : decode prog_14_method_8_code 8 = .ok (.istore_n 3, 1) := by decide +kernel
theorem d42_9 : decode prog_14_method_8_code 9 = .ok (.iload_n 3, 1) := by decide +kernel
theorem d42_10 : decode prog_14_method_8_code 10 = .ok (.iload_n 2, 1) := by decide +kernel
theorem d42_11 : decode prog_14_method_8_code 11 = .ok (.if_icmp .ge 29, 3) := by decide +kernel
theorem d42_14 : decode prog_14_method_8_code 14 = .ok (.aload_n 1, 1) := by decide +kernel
theorem d42_15 : decode prog_14_method_8_code 15 = .ok (.iload_n 3, 1) := by decide +kernel
theorem d42_16 : decode prog_14_method_8_code 16 = .ok (.aaload, 1) := by decide +kernel
theorem d42_17 : decode prog_14_method_8_code 17 = .ok (.astore 4, 2) := by decide +kernel
theorem d42_19 : decode prog_14_method_8_code 19 = .ok (.aload 4, 2) := by decide +kernel
theorem d42_21 : decode prog_14_method_8_code 21 = .ok (.getfield 35, 3) := by decide +kernel
theorem d42_24 : decode prog_14_method_8_code 24 = .ok (.aload_n 0, 1) := by decide +kernel
theorem d42_25 : decode prog_14_method_8_code 25 = .ok (.invokevirtual 61, 3) := by decide +kernel
theorem d42_28 : decode prog_14_method_8_code 28 = .ok (.ifCond .eq 6, 3) := by decide +kernel
theorem d42_31 : decode prog_14_method_8_code 31 = .ok (.aload 4, 2) := by decide +kernel
theorem d42_33 : decode prog_14_method_8_code 33 = .ok (.areturn, 1) := by decide +kernel
theorem d42_34 : decode prog_14_method_8_code 34 = .ok (.iinc 3 1, 3) := by decide +kernel
theorem d42_37 : decode prog_14_method_8_code 37 = .ok (.goto (-28), 3) := by decide +kernel
theorem ef_42 (mM : MethodId) (x0 : Addr) : entryFrame mM #[(.ref x0)] 5 = mkF mM 0 #[.val (.ref x0), .unset, .unset, .unset, .unset] [] := by first | (simp [entryFrame, mkF, argsToLocals, Value.category]; done) | rfl
def Q42 (Z : State) (cs : Int32) (al : Addr) (kal : ClassId) (a_HOST : Addr) (t_HOST : Addr) (u_HOST : Addr) (k_HOST : ClassId) (a_SERVER_REFLEXIVE : Addr) (t_SERVER_REFLEXIVE : Addr) (u_SERVER_REFLEXIVE : Addr) (k_SERVER_REFLEXIVE : ClassId) (a_PEER_REFLEXIVE : Addr) (t_PEER_REFLEXIVE : Addr) (u_PEER_REFLEXIVE : Addr) (k_PEER_REFLEXIVE : ClassId) (a_RELAYED : Addr) (t_RELAYED : Addr) (u_RELAYED : Addr) (k_RELAYED : ClassId) (x : Addr) (t : Addr) (kt : ClassId) (tx : List Int32) (h0 : Heap) (n0 : Nat) (v : Option Value) (h : Heap) (L : List Loc) : Prop := v = some (.ref a_PEER_REFLEXIVE) ∧ Fr n0 L ∧ h = h0
set_option maxRecDepth 65536 in
set_option maxHeartbeats 40000000 in
theorem rm42 (l : Launch) (Z : State) (a0 : Array Value) (hw : ∀ d ∈ tables_1, d.before a0 Z = true) (ws : List Jvm.Cond) (cs : Int32) (al : Addr) (kal : ClassId) (a_HOST : Addr) (t_HOST : Addr) (u_HOST : Addr) (k_HOST : ClassId) (a_SERVER_REFLEXIVE : Addr) (t_SERVER_REFLEXIVE : Addr) (u_SERVER_REFLEXIVE : Addr) (k_SERVER_REFLEXIVE : ClassId) (a_PEER_REFLEXIVE : Addr) (t_PEER_REFLEXIVE : Addr) (u_PEER_REFLEXIVE : Addr) (k_PEER_REFLEXIVE : ClassId) (a_RELAYED : Addr) (t_RELAYED : Addr) (u_RELAYED : Addr) (k_RELAYED : ClassId) (x : Addr) (t : Addr) (kt : ClassId) (tx : List Int32) (h0 : Heap) (n0 : Nat) (Z0 : n0 ≤ h0.size) (O : Old Z n0 h0) (S_cs : Sta Z Z.heap "java/lang/String" "COMPACT_STRINGS" "Z" (.int cs)) (hcs : ¬ cs = (0 : Int32)) (S_ALL : Sta Z Z.heap "com/example/thawline/thawline/CandidateType" "ALL" "[Lcom/example/thawline/thawline/CandidateType;" (.ref al)) (V_ALL : Arv Z Z.heap al kal (.object "com/example/thawline/thawline/CandidateType") (4 : Int32) [(.ref a_HOST), (.ref a_SERVER_REFLEXIVE), (.ref a_PEER_REFLEXIVE), (.ref a_RELAYED)] .null) (S_HOST : Sta Z Z.heap "com/example/thawline/thawline/CandidateType" "HOST" "Lcom/example/thawline/thawline/CandidateType;" (.ref a_HOST)) (E_HOST : Exa Z Z.heap a_HOST "com/example/thawline/thawline/CandidateType") (F_HOST : Fld Z Z.heap a_HOST "com/example/thawline/thawline/CandidateType" "token" "Ljava/lang/String;" (.ref t_HOST)) (Et_HOST : Exa Z Z.heap t_HOST "java/lang/String") (Fc_HOST : Fld Z Z.heap t_HOST "java/lang/String" "coder" "B" (.int (0 : Int32))) (Fv_HOST : Fld Z Z.heap t_HOST "java/lang/String" "value" "[B" (.ref u_HOST)) (Vt_HOST : Arv Z Z.heap u_HOST k_HOST .byte (4 : Int32) [(.int (104 : Int32)), (.int (111 : Int32)), (.int (115 : Int32)), (.int (116 : Int32))] (.int (0 : Int32))) (S_SERVER_REFLEXIVE : Sta Z Z.heap "com/example/thawline/thawline/CandidateType" "SERVER_REFLEXIVE" "Lcom/example/thawline/thawline/CandidateType;" (.ref a_SERVER_REFLEXIVE)) (E_SERVER_REFLEXIVE : Exa Z Z.heap a_SERVER_REFLEXIVE "com/example/thawline/thawline/CandidateType") (F_SERVER_REFLEXIVE : Fld Z Z.heap a_SERVER_REFLEXIVE "com/example/thawline/thawline/CandidateType" "token" "Ljava/lang/String;" (.ref t_SERVER_REFLEXIVE)) (Et_SERVER_REFLEXIVE : Exa Z Z.heap t_SERVER_REFLEXIVE "java/lang/String") (Fc_SERVER_REFLEXIVE : Fld Z Z.heap t_SERVER_REFLEXIVE "java/lang/String" "coder" "B" (.int (0 : Int32))) (Fv_SERVER_REFLEXIVE : Fld Z Z.heap t_SERVER_REFLEXIVE "java/lang/String" "value" "[B" (.ref u_SERVER_REFLEXIVE)) (Vt_SERVER_REFLEXIVE : Arv Z Z.heap u_SERVER_REFLEXIVE k_SERVER_REFLEXIVE .byte (5 : Int32) [(.int (115 : Int32)), (.int (114 : Int32)), (.int (102 : Int32)), (.int (108 : Int32)), (.int (120 : Int32))] (.int (0 : Int32))) (S_PEER_REFLEXIVE : Sta Z Z.heap "com/example/thawline/thawline/CandidateType" "PEER_REFLEXIVE" "Lcom/example/thawline/thawline/CandidateType;" (.ref a_PEER_REFLEXIVE)) (E_PEER_REFLEXIVE : Exa Z Z.heap a_PEER_REFLEXIVE "com/example/thawline/thawline/CandidateType") (F_PEER_REFLEXIVE : Fld Z Z.heap a_PEER_REFLEXIVE "com/example/thawline/thawline/CandidateType" "token" "Ljava/lang/String;" (.ref t_PEER_REFLEXIVE)) (Et_PEER_REFLEXIVE : Exa Z Z.heap t_PEER_REFLEXIVE "java/lang/String") (Fc_PEER_REFLEXIVE : Fld Z Z.heap t_PEER_REFLEXIVE "java/lang/String" "coder" "B" (.int (0 : Int32))) (Fv_PEER_REFLEXIVE : Fld Z Z.heap t_PEER_REFLEXIVE "java/lang/String" "value" "[B" (.ref u_PEER_REFLEXIVE)) (Vt_PEER_REFLEXIVE : Arv Z Z.heap u_PEER_REFLEXIVE k_PEER_REFLEXIVE .byte (5 : Int32) [(.int (112 : Int32)), (.int (114 : Int32)), (.int (102 : Int32)), (.int (108 : Int32)), (.int (120 : Int32))] (.int (0 : Int32))) (S_RELAYED : Sta Z Z.heap "com/example/thawline/thawline/CandidateType" "RELAYED" "Lcom/example/thawline/thawline/CandidateType;" (.ref a_RELAYED)) (E_RELAYED : Exa Z Z.heap a_RELAYED "com/example/thawline/thawline/CandidateType") (F_RELAYED : Fld Z Z.heap a_RELAYED "com/example/thawline/thawline/CandidateType" "token" "Ljava/lang/String;" (.ref t_RELAYED)) (Et_RELAYED : Exa Z Z.heap t_RELAYED "java/lang/String") (Fc_RELAYED : Fld Z Z.heap t_RELAYED "java/lang/String" "coder" "B" (.int (0 : Int32))) (Fv_RELAYED : Fld Z Z.heap t_RELAYED "java/lang/String" "value" "[B" (.ref u_RELAYED)) (Vt_RELAYED : Arv Z Z.heap u_RELAYED k_RELAYED .byte (5 : Int32) [(.int (114 : Int32)), (.int (101 : Int32)), (.int (108 : Int32)), (.int (97 : Int32)), (.int (121 : Int32))] (.int (0 : Int32))) (E_x : Exa Z h0 x "java/lang/String") (F_xv : Fld Z h0 x "java/lang/String" "value" "[B" (.ref t)) (F_xc : Fld Z h0 x "java/lang/String" "coder" "B" (.int (0 : Int32))) (V_t : Arv Z h0 t kt .byte (Int32.ofNat tx.length) ((tx.map StrChars.lo8).map Value.int) (.int (0 : Int32))) (hp : ∀ c ∈ tx, ¬ c < 0 ∧ ¬ (255 : Int32) < c) (hlen : tx.length ≤ 4000) (hk0 : ¬ tx = ([(104 : Int32), (111 : Int32), (115 : Int32), (116 : Int32)] : List Int32)) (hk1 : ¬ tx = ([(115 : Int32), (114 : Int32), (102 : Int32), (108 : Int32), (120 : Int32)] : List Int32)) (hk2 : tx = ([(112 : Int32), (114 : Int32), (102 : Int32), (108 : Int32), (120 : Int32)] : List Int32)) :
    MetFree l (⟨"com/example/thawline/thawline/CandidateType", "ofToken", "(Ljava/lang/String;)Lcom/example/thawline/thawline/CandidateType;"⟩ : MethodName) (head1 (Jvm.Cond.code (⟨"com/example/thawline/thawline/CandidateType", "ofToken", "(Ljava/lang/String;)Lcom/example/thawline/thawline/CandidateType;"⟩ : MethodName) prog_14_method_8_code 5 (some (.object "com/example/thawline/thawline/CandidateType")) :: ws) ({ frames := 2, cells := 0, slots := 0, locals := 28 } : Room)) (fun aA uU => aA = #[(.ref x)] ∧ Z.Warmed39 uU.vm ∧ uU.heap = h0) (fun _ _ _ _ _ => True) (fun _ uU oO uU' => ∃ vV lL, oO = .returned vV ∧ Q42 Z cs al kal a_HOST t_HOST u_HOST k_HOST a_SERVER_REFLEXIVE t_SERVER_REFLEXIVE u_SERVER_REFLEXIVE k_SERVER_REFLEXIVE a_PEER_REFLEXIVE t_PEER_REFLEXIVE u_PEER_REFLEXIVE k_PEER_REFLEXIVE a_RELAYED t_RELAYED u_RELAYED k_RELAYED x t kt tx h0 n0 vV uU'.heap lL ∧ FrameEnd uU oO uU' lL ({ frames := 2, cells := 0, slots := 0, locals := 28 } : Room).cells ({ frames := 2, cells := 0, slots := 0, locals := 28 } : Room).slots) := by
  refine MetFree.of_bodySF (plainFor_of_name pn_4) hisR ?_
  intro pP eE sS mM args below meth cC s₁ Bd hml0 hP hK
  obtain ⟨rfl, hZ, hh⟩ := hP
  have hx := Bd.exec
  have hby := Bd.bytes
  have hml : cC.maxLocals = 5 := hml0
  have hown : sS.vm.findClass "com/example/thawline/thawline/CandidateType" = some mM.cls := findClass_of_methodNamed Bd.named
  have hnm := (name_of_methodNamed Bd.named Bd.method).1
  have X0 : Stand pP l eE ({ frames := 2, cells := 0, slots := 0, locals := 28 } : Room) sS mM #[(.ref x)] below meth cC s₁ [] 0 0 := Stand.of_body Bd
  have e0 : s₁.heap = h0 := by rw [← hh, Bd.state]; rfl
  have N0 := Fr.nil n0
  have pre0 : ∀ tg, Steps pP.tables eE below (s₁.setTop (mkF mM 0 #[.val (.ref x), .unset, .unset, .unset, .unset] [])) tg → Steps pP.tables eE below (s₁.setTop (entryFrame mM #[(.ref x)] 5)) tg := fun tg kg => castTop (ef_42 mM x) kg
  obtain ⟨T1, X1, e1, st1⟩ := getS2 X0 hx hZ hown (host := "") (Or.inl (hw _ (List.mem_of_getElem? (i := 90) rfl))) Via.refl e0 (Sta.ext (O).2 S_ALL) (g := (mkF mM 0 #[.val (.ref x), .unset, .unset, .unset, .unset] [])) rfl (hb hby d42_0)
  have pr2 : ∀ tg, Steps pP.tables eE below (T1.setTop (mkF mM 3 #[.val (.ref x), .unset, .unset, .unset, .unset] [(.ref al)])) tg → Steps pP.tables eE below (s₁.setTop (entryFrame mM #[(.ref x)] 5)) tg := fun tg kg => pre0 _ (st1 _ kg)
  obtain ⟨cla3, Ara3, qa3, Sa3, Ma3, Ha3, Ga3⟩ := id (Arv.ext V_ALL (O).2)
  have hin4 : ¬ ((0 : Int32) < 0 ∨ cla3.slots.size ≤ ((0 : Int32)).toNatClampNeg) := inb_of Sa3 ⟨by decide, by decide⟩
  have hat4 : cla3.slots[((0 : Int32)).toNatClampNeg]? = some (.ref a_HOST) := Has.at Ha3 hin4 rfl
  have pr5 : ∀ tg, Steps pP.tables eE below (T1.setTop (mkF mM 21 #[.val (.ref x), .val (.ref al), .val (.int (4 : Int32)), .val (.int (0 : Int32)), .val (.ref a_HOST)] [(.ref a_HOST)])) tg → Steps pP.tables eE below (s₁.setTop (entryFrame mM #[(.ref x)] 5)) tg := fun tg kg => pr2 _ (by
    show Steps pP.tables eE below (T1.setTop (mkF mM 3 #[.val (.ref x), .unset, .unset, .unset, .unset] [(.ref al)])) _
    refine XS.astoreN X1.here hx rfl (hb hby d42_3) rfl rfl (l' := #[.val (.ref x), .val (.ref al), .unset, .unset, .unset]) rfl ?_
    show Steps pP.tables eE below (T1.setTop (mkF mM 4 #[.val (.ref x), .val (.ref al), .unset, .unset, .unset] [])) _
    refine XS.aloadN X1.here hx rfl (hb hby d42_4) rfl rfl ?_
    show Steps pP.tables eE below (T1.setTop (mkF mM 5 #[.val (.ref x), .val (.ref al), .unset, .unset, .unset] [(.ref al)])) _
    refine X1.arraylength hx (by rw [e1]; exact Ara3.1) (State.isArrayOf_alike hZ.alike Ara3.2.1) (g := (mkF mM 5 #[.val (.ref x), .val (.ref al), .unset, .unset, .unset] [(.ref al)])) rfl rfl (hb hby d42_5) _ ?_
    rw [len_of Sa3 Ma3]
    show Steps pP.tables eE below (T1.setTop (mkF mM 6 #[.val (.ref x), .val (.ref al), .unset, .unset, .unset] [(.int (4 : Int32))])) _
    refine XS.istoreN X1.here hx rfl (hb hby d42_6) rfl (l' := #[.val (.ref x), .val (.ref al), .val (.int (4 : Int32)), .unset, .unset]) rfl ?_
    show Steps pP.tables eE below (T1.setTop (mkF mM 7 #[.val (.ref x), .val (.ref al), .val (.int (4 : Int32)), .unset, .unset] [])) _
    refine XS.iconst X1.here hx rfl (hb hby d42_7) ?_
    show Steps pP.tables eE below (T1.setTop (mkF mM 8 #[.val (.ref x), .val (.ref al), .val (.int (4 : Int32)), .unset, .unset] [(.int (0 : Int32))])) _
    refine XS.istoreN X1.here hx rfl (hb hby d42_8) rfl (l' := #[.val (.ref x), .val (.ref al), .val (.int (4 : Int32)), .val (.int (0 : Int32)), .unset]) rfl ?_
    show Steps pP.tables eE below (T1.setTop (mkF mM 9 #[.val (.ref x), .val (.ref al), .val (.int (4 : Int32)), .val (.int (0 : Int32)), .unset] [])) _
    refine XS.iloadN X1.here hx rfl (hb hby d42_9) rfl ?_
    show Steps pP.tables eE below (T1.setTop (mkF mM 10 #[.val (.ref x), .val (.ref al), .val (.int (4 : Int32)), .val (.int (0 : Int32)), .unset] [(.int (0 : Int32))])) _
    refine XS.iloadN X1.here hx rfl (hb hby d42_10) rfl ?_
    show Steps pP.tables eE below (T1.setTop (mkF mM 11 #[.val (.ref x), .val (.ref al), .val (.int (4 : Int32)), .val (.int (0 : Int32)), .unset] [(.int (4 : Int32)), (.int (0 : Int32))])) _
    refine XS.icmpNo X1.here hx rfl (hb hby d42_11) rfl (tlt (by decide)).2.1 ?_
    show Steps pP.tables eE below (T1.setTop (mkF mM 14 #[.val (.ref x), .val (.ref al), .val (.int (4 : Int32)), .val (.int (0 : Int32)), .unset] [])) _
    refine XS.aloadN X1.here hx rfl (hb hby d42_14) rfl rfl ?_
    show Steps pP.tables eE below (T1.setTop (mkF mM 15 #[.val (.ref x), .val (.ref al), .val (.int (4 : Int32)), .val (.int (0 : Int32)), .unset] [(.ref al)])) _
    refine XS.iloadN X1.here hx rfl (hb hby d42_15) rfl ?_
    show Steps pP.tables eE below (T1.setTop (mkF mM 16 #[.val (.ref x), .val (.ref al), .val (.int (4 : Int32)), .val (.int (0 : Int32)), .unset] [(.int (0 : Int32)), (.ref al)])) _
    refine X1.aaload hx (j := (0 : Int32)) (v := (.ref a_HOST)) (by rw [e1]; exact Ara3.1) (State.isArrayOf_alike hZ.alike Ara3.2.1) rfl Ara3.2.2 hin4 hat4 (g := (mkF mM 16 #[.val (.ref x), .val (.ref al), .val (.int (4 : Int32)), .val (.int (0 : Int32)), .unset] [(.int (0 : Int32)), (.ref al)])) rfl rfl (hb hby d42_16) _ ?_
    show Steps pP.tables eE below (T1.setTop (mkF mM 17 #[.val (.ref x), .val (.ref al), .val (.int (4 : Int32)), .val (.int (0 : Int32)), .unset] [(.ref a_HOST)])) _
    refine XS.astore X1.here hx rfl (hb hby d42_17) rfl rfl (l' := #[.val (.ref x), .val (.ref al), .val (.int (4 : Int32)), .val (.int (0 : Int32)), .val (.ref a_HOST)]) rfl ?_
    show Steps pP.tables eE below (T1.setTop (mkF mM 19 #[.val (.ref x), .val (.ref al), .val (.int (4 : Int32)), .val (.int (0 : Int32)), .val (.ref a_HOST)] [])) _
    refine XS.aload X1.here hx rfl (hb hby d42_19) rfl rfl ?_
    exact kg)
  obtain ⟨T6, X6, e6, st6⟩ := getF X1 hx hZ hown (host := "") (Or.inl (hw _ (List.mem_of_getElem? (i := 92) rfl))) Via.refl e1 (Fld.ext (O).2 F_HOST) (g := (mkF mM 21 #[.val (.ref x), .val (.ref al), .val (.int (4 : Int32)), .val (.int (0 : Int32)), .val (.ref a_HOST)] [(.ref a_HOST)])) rfl rfl (hb hby d42_21)
  have pr7 : ∀ tg, Steps pP.tables eE below (T6.setTop (mkF mM 24 #[.val (.ref x), .val (.ref al), .val (.int (4 : Int32)), .val (.int (0 : Int32)), .val (.ref a_HOST)] [(.ref t_HOST)])) tg → Steps pP.tables eE below (s₁.setTop (entryFrame mM #[(.ref x)] 5)) tg := fun tg kg => pr5 _ (st6 _ kg)
  have pr8 : ∀ tg, Steps pP.tables eE below (T6.setTop (mkF mM 25 #[.val (.ref x), .val (.ref al), .val (.int (4 : Int32)), .val (.int (0 : Int32)), .val (.ref a_HOST)] [(.ref x), (.ref t_HOST)])) tg → Steps pP.tables eE below (s₁.setTop (entryFrame mM #[(.ref x)] 5)) tg := fun tg kg => pr7 _ (by
    show Steps pP.tables eE below (T6.setTop (mkF mM 24 #[.val (.ref x), .val (.ref al), .val (.int (4 : Int32)), .val (.int (0 : Int32)), .val (.ref a_HOST)] [(.ref t_HOST)])) _
    refine XS.aloadN X6.here hx rfl (hb hby d42_24) rfl rfl ?_
    exact kg)
  obtain ⟨cq9, kq9, qa9, qb9, qc9⟩ := isOf hZ e6 (Exa.ext (O).2 Et_HOST)
  obtain ⟨vq9, _, ⟨T9, L9, kk9, nn9⟩, -, X9, ⟨Lc9, hQ9, l9, y9, z9⟩, st9⟩ := X6.virtualBack hx (y := (⟨"java/lang/String", "equals", "(Ljava/lang/Object;)Z"⟩ : MethodName)) (z := (⟨"java/lang/String", "equals", "(Ljava/lang/Object;)Z"⟩ : MethodName)) hown (mvT hZ (hw _ (List.mem_of_getElem? (i := 94) rfl))) (mvT hZ (hw _ (List.mem_of_getElem? (i := 76) rfl))) (notFace_of_selects (args := #[]) (mvT hZ (hw _ (List.mem_of_getElem? (i := 78) rfl)))) (mvT hZ (hw _ (List.mem_of_getElem? (i := 78) rfl))) (mvT hZ (hw _ (List.mem_of_getElem? (i := 77) rfl))) (by decide) (StrChars.Road.eqW (W := 0) hZ (own_wE hw) (kI := 4) (hw _ (List.mem_of_getElem? (i := 2) rfl)) (cs := ([(104 : Int32), (111 : Int32), (115 : Int32), (116 : Int32)] : List Int32)) (Exa.ext (O).2 Et_HOST) (Fld.ext (O).2 Fv_HOST) (Fld.ext (O).2 Fc_HOST) (Arv.ext Vt_HOST (O).2) own_cod_host own_bd_host (Nat.le_of_ble_eq_true rfl) (ds := tx) E_x F_xv F_xc V_t (StrChars.Road.codOf (n := tx.length) rfl (fun c hc => (hp c hc).2)) (own_up hp) hlen (Sta.ext (O).2 S_cs) hcs (by decide) (by decide)) qa9 qc9 (g := (mkF mM 25 #[.val (.ref x), .val (.ref al), .val (.int (4 : Int32)), .val (.int (0 : Int32)), .val (.ref a_HOST)] [(.ref x), (.ref t_HOST)])) rfl (by rw [hml]; rfl) (Steps.refl _) (argsL := [(.ref x)]) (rest := []) (lenOf pd_9 rfl) rfl (by show 2 * 0 + _ ≤ _; exact Nat.le_of_eq rfl) (hb hby d42_25) (fun _ _ => ⟨rfl, e6, (by decide : 0 + 0 ≤ _), (by decide : 0 + 0 ≤ _)⟩)
  dsimp only [Pt.U, Pt.locs, Pt.cells, Pt.slots] at X9 l9 y9 z9 st9 hQ9
  subst l9 y9 z9
  obtain ⟨hq9, hL9, e9⟩ := hQ9
  subst hL9
  obtain ⟨r9, hv9, hr9⟩ : ∃ r : Int32, vq9 = some (.int r) ∧ r = (if ([(104 : Int32), (111 : Int32), (115 : Int32), (116 : Int32)] : List Int32) = tx then (1 : Int32) else (0 : Int32)) := hq9.elim (fun q => ⟨1, q.1, (if_pos q.2).symm⟩) (fun q => ⟨0, q.1, (if_neg q.2).symm⟩)
  subst hv9
  have N9 := Fr.app N0 (Fr.nil n0)
  have pr10 : ∀ tg, Steps pP.tables eE below (T9.setTop (mkF mM 28 #[.val (.ref x), .val (.ref al), .val (.int (4 : Int32)), .val (.int (0 : Int32)), .val (.ref a_HOST)] [(.int r9)])) tg → Steps pP.tables eE below (s₁.setTop (entryFrame mM #[(.ref x)] 5)) tg := fun tg kg => pr8 _ (st9.trans kg)
  rw [if_neg (fun q => hk0 q.symm)] at hr9
  subst hr9
  have hin11 : ¬ ((1 : Int32) < 0 ∨ cla3.slots.size ≤ ((1 : Int32)).toNatClampNeg) := inb_of Sa3 ⟨by decide, by decide⟩
  have hat11 : cla3.slots[((1 : Int32)).toNatClampNeg]? = some (.ref a_SERVER_REFLEXIVE) := Has.at Ha3 hin11 rfl
  have pr12 : ∀ tg, Steps pP.tables eE below (T9.setTop (mkF mM 21 #[.val (.ref x), .val (.ref al), .val (.int (4 : Int32)), .val (.int (1 : Int32)), .val (.ref a_SERVER_REFLEXIVE)] [(.ref a_SERVER_REFLEXIVE)])) tg → Steps pP.tables eE below (s₁.setTop (entryFrame mM #[(.ref x)] 5)) tg := fun tg kg => pr10 _ (by
    show Steps pP.tables eE below (T9.setTop (mkF mM 28 #[.val (.ref x), .val (.ref al), .val (.int (4 : Int32)), .val (.int (0 : Int32)), .val (.ref a_HOST)] [(.int (0 : Int32))])) _
    refine XS.ifYes X9.here hx rfl (pc0 := 28) (pc' := 34) rfl (hb hby d42_28) rfl ((if0 _ _).trans (teq (by decide)).1) (by decide) (by decide) ?_
    show Steps pP.tables eE below (T9.setTop (mkF mM 34 #[.val (.ref x), .val (.ref al), .val (.int (4 : Int32)), .val (.int (0 : Int32)), .val (.ref a_HOST)] [])) _
    refine XS.iinc X9.here hx rfl (hb hby d42_34) rfl (l' := #[.val (.ref x), .val (.ref al), .val (.int (4 : Int32)), .val (.int (1 : Int32)), .val (.ref a_HOST)]) rfl ?_
    show Steps pP.tables eE below (T9.setTop (mkF mM 37 #[.val (.ref x), .val (.ref al), .val (.int (4 : Int32)), .val (.int (1 : Int32)), .val (.ref a_HOST)] [])) _
    refine XS.goto X9.here hx rfl (pc0 := 37) (pc' := 9) rfl (hb hby d42_37) (by decide) (by decide) ?_
    show Steps pP.tables eE below (T9.setTop (mkF mM 9 #[.val (.ref x), .val (.ref al), .val (.int (4 : Int32)), .val (.int (1 : Int32)), .val (.ref a_HOST)] [])) _
    refine XS.iloadN X9.here hx rfl (hb hby d42_9) rfl ?_
    show Steps pP.tables eE below (T9.setTop (mkF mM 10 #[.val (.ref x), .val (.ref al), .val (.int (4 : Int32)), .val (.int (1 : Int32)), .val (.ref a_HOST)] [(.int (1 : Int32))])) _
    refine XS.iloadN X9.here hx rfl (hb hby d42_10) rfl ?_
    show Steps pP.tables eE below (T9.setTop (mkF mM 11 #[.val (.ref x), .val (.ref al), .val (.int (4 : Int32)), .val (.int (1 : Int32)), .val (.ref a_HOST)] [(.int (4 : Int32)), (.int (1 : Int32))])) _
    refine XS.icmpNo X9.here hx rfl (hb hby d42_11) rfl (tlt (by decide)).2.1 ?_
    show Steps pP.tables eE below (T9.setTop (mkF mM 14 #[.val (.ref x), .val (.ref al), .val (.int (4 : Int32)), .val (.int (1 : Int32)), .val (.ref a_HOST)] [])) _
    refine XS.aloadN X9.here hx rfl (hb hby d42_14) rfl rfl ?_
    show Steps pP.tables eE below (T9.setTop (mkF mM 15 #[.val (.ref x), .val (.ref al), .val (.int (4 : Int32)), .val (.int (1 : Int32)), .val (.ref a_HOST)] [(.ref al)])) _
    refine XS.iloadN X9.here hx rfl (hb hby d42_15) rfl ?_
    show Steps pP.tables eE below (T9.setTop (mkF mM 16 #[.val (.ref x), .val (.ref al), .val (.int (4 : Int32)), .val (.int (1 : Int32)), .val (.ref a_HOST)] [(.int (1 : Int32)), (.ref al)])) _
    refine X9.aaload hx (j := (1 : Int32)) (v := (.ref a_SERVER_REFLEXIVE)) (by rw [e9]; exact Ara3.1) (State.isArrayOf_alike hZ.alike Ara3.2.1) rfl Ara3.2.2 hin11 hat11 (g := (mkF mM 16 #[.val (.ref x), .val (.ref al), .val (.int (4 : Int32)), .val (.int (1 : Int32)), .val (.ref a_HOST)] [(.int (1 : Int32)), (.ref al)])) rfl rfl (hb hby d42_16) _ ?_
    show Steps pP.tables eE below (T9.setTop (mkF mM 17 #[.val (.ref x), .val (.ref al), .val (.int (4 : Int32)), .val (.int (1 : Int32)), .val (.ref a_HOST)] [(.ref a_SERVER_REFLEXIVE)])) _
    refine XS.astore X9.here hx rfl (hb hby d42_17) rfl rfl (l' := #[.val (.ref x), .val (.ref al), .val (.int (4 : Int32)), .val (.int (1 : Int32)), .val (.ref a_SERVER_REFLEXIVE)]) rfl ?_
    show Steps pP.tables eE below (T9.setTop (mkF mM 19 #[.val (.ref x), .val (.ref al), .val (.int (4 : Int32)), .val (.int (1 : Int32)), .val (.ref a_SERVER_REFLEXIVE)] [])) _
    refine XS.aload X9.here hx rfl (hb hby d42_19) rfl rfl ?_
    exact kg)
  obtain ⟨T13, X13, e13, st13⟩ := getF X9 hx hZ hown (host := "") (Or.inl (hw _ (List.mem_of_getElem? (i := 92) rfl))) Via.refl e9 (Fld.ext (O).2 F_SERVER_REFLEXIVE) (g := (mkF mM 21 #[.val (.ref x), .val (.ref al), .val (.int (4 : Int32)), .val (.int (1 : Int32)), .val (.ref a_SERVER_REFLEXIVE)] [(.ref a_SERVER_REFLEXIVE)])) rfl rfl (hb hby d42_21)
  have pr14 : ∀ tg, Steps pP.tables eE below (T13.setTop (mkF mM 24 #[.val (.ref x), .val (.ref al), .val (.int (4 : Int32)), .val (.int (1 : Int32)), .val (.ref a_SERVER_REFLEXIVE)] [(.ref t_SERVER_REFLEXIVE)])) tg → Steps pP.tables eE below (s₁.setTop (entryFrame mM #[(.ref x)] 5)) tg := fun tg kg => pr12 _ (st13 _ kg)
  have pr15 : ∀ tg, Steps pP.tables eE below (T13.setTop (mkF mM 25 #[.val (.ref x), .val (.ref al), .val (.int (4 : Int32)), .val (.int (1 : Int32)), .val (.ref a_SERVER_REFLEXIVE)] [(.ref x), (.ref t_SERVER_REFLEXIVE)])) tg → Steps pP.tables eE below (s₁.setTop (entryFrame mM #[(.ref x)] 5)) tg := fun tg kg => pr14 _ (by
    show Steps pP.tables eE below (T13.setTop (mkF mM 24 #[.val (.ref x), .val (.ref al), .val (.int (4 : Int32)), .val (.int (1 : Int32)), .val (.ref a_SERVER_REFLEXIVE)] [(.ref t_SERVER_REFLEXIVE)])) _
    refine XS.aloadN X13.here hx rfl (hb hby d42_24) rfl rfl ?_
    exact kg)
  obtain ⟨cq16, kq16, qa16, qb16, qc16⟩ := isOf hZ e13 (Exa.ext (O).2 Et_SERVER_REFLEXIVE)
  obtain ⟨vq16, _, ⟨T16, L16, kk16, nn16⟩, -, X16, ⟨Lc16, hQ16, l16, y16, z16⟩, st16⟩ := X13.virtualBack hx (y := (⟨"java/lang/String", "equals", "(Ljava/lang/Object;)Z"⟩ : MethodName)) (z := (⟨"java/lang/String", "equals", "(Ljava/lang/Object;)Z"⟩ : MethodName)) hown (mvT hZ (hw _ (List.mem_of_getElem? (i := 94) rfl))) (mvT hZ (hw _ (List.mem_of_getElem? (i := 76) rfl))) (notFace_of_selects (args := #[]) (mvT hZ (hw _ (List.mem_of_getElem? (i := 78) rfl)))) (mvT hZ (hw _ (List.mem_of_getElem? (i := 78) rfl))) (mvT hZ (hw _ (List.mem_of_getElem? (i := 77) rfl))) (by decide) (StrChars.Road.eqW (W := 0) hZ (own_wE hw) (kI := 4) (hw _ (List.mem_of_getElem? (i := 2) rfl)) (cs := ([(115 : Int32), (114 : Int32), (102 : Int32), (108 : Int32), (120 : Int32)] : List Int32)) (Exa.ext (O).2 Et_SERVER_REFLEXIVE) (Fld.ext (O).2 Fv_SERVER_REFLEXIVE) (Fld.ext (O).2 Fc_SERVER_REFLEXIVE) (Arv.ext Vt_SERVER_REFLEXIVE (O).2) own_cod_srflx own_bd_srflx (Nat.le_of_ble_eq_true rfl) (ds := tx) E_x F_xv F_xc V_t (StrChars.Road.codOf (n := tx.length) rfl (fun c hc => (hp c hc).2)) (own_up hp) hlen (Sta.ext (O).2 S_cs) hcs (by decide) (by decide)) qa16 qc16 (g := (mkF mM 25 #[.val (.ref x), .val (.ref al), .val (.int (4 : Int32)), .val (.int (1 : Int32)), .val (.ref a_SERVER_REFLEXIVE)] [(.ref x), (.ref t_SERVER_REFLEXIVE)])) rfl (by rw [hml]; rfl) (Steps.refl _) (argsL := [(.ref x)]) (rest := []) (lenOf pd_9 rfl) rfl (by show 2 * 0 + _ ≤ _; exact Nat.le_of_eq rfl) (hb hby d42_25) (fun _ _ => ⟨rfl, e13, (by decide : 0 + 0 ≤ _), (by decide : 0 + 0 ≤ _)⟩)
  dsimp only [Pt.U, Pt.locs, Pt.cells, Pt.slots] at X16 l16 y16 z16 st16 hQ16
  subst l16 y16 z16
  obtain ⟨hq16, hL16, e16⟩ := hQ16
  subst hL16
  obtain ⟨r16, hv16, hr16⟩ : ∃ r : Int32, vq16 = some (.int r) ∧ r = (if ([(115 : Int32), (114 : Int32), (102 : Int32), (108 : Int32), (120 : Int32)] : List Int32) = tx then (1 : Int32) else (0 : Int32)) := hq16.elim (fun q => ⟨1, q.1, (if_pos q.2).symm⟩) (fun q => ⟨0, q.1, (if_neg q.2).symm⟩)
  subst hv16
  have N16 := Fr.app N9 (Fr.nil n0)
  have pr17 : ∀ tg, Steps pP.tables eE below (T16.setTop (mkF mM 28 #[.val (.ref x), .val (.ref al), .val (.int (4 : Int32)), .val (.int (1 : Int32)), .val (.ref a_SERVER_REFLEXIVE)] [(.int r16)])) tg → Steps pP.tables eE below (s₁.setTop (entryFrame mM #[(.ref x)] 5)) tg := fun tg kg => pr15 _ (st16.trans kg)
  rw [if_neg (fun q => hk1 q.symm)] at hr16
  subst hr16
  have hin18 : ¬ ((2 : Int32) < 0 ∨ cla3.slots.size ≤ ((2 : Int32)).toNatClampNeg) := inb_of Sa3 ⟨by decide, by decide⟩
  have hat18 : cla3.slots[((2 : Int32)).toNatClampNeg]? = some (.ref a_PEER_REFLEXIVE) := Has.at Ha3 hin18 rfl
  have pr19 : ∀ tg, Steps pP.tables eE below (T16.setTop (mkF mM 21 #[.val (.ref x), .val (.ref al), .val (.int (4 : Int32)), .val (.int (2 : Int32)), .val (.ref a_PEER_REFLEXIVE)] [(.ref a_PEER_REFLEXIVE)])) tg → Steps pP.tables eE below (s₁.setTop (entryFrame mM #[(.ref x)] 5)) tg := fun tg kg => pr17 _ (by
    show Steps pP.tables eE below (T16.setTop (mkF mM 28 #[.val (.ref x), .val (.ref al), .val (.int (4 : Int32)), .val (.int (1 : Int32)), .val (.ref a_SERVER_REFLEXIVE)] [(.int (0 : Int32))])) _
    refine XS.ifYes X16.here hx rfl (pc0 := 28) (pc' := 34) rfl (hb hby d42_28) rfl ((if0 _ _).trans (teq (by decide)).1) (by decide) (by decide) ?_
    show Steps pP.tables eE below (T16.setTop (mkF mM 34 #[.val (.ref x), .val (.ref al), .val (.int (4 : Int32)), .val (.int (1 : Int32)), .val (.ref a_SERVER_REFLEXIVE)] [])) _
    refine XS.iinc X16.here hx rfl (hb hby d42_34) rfl (l' := #[.val (.ref x), .val (.ref al), .val (.int (4 : Int32)), .val (.int (2 : Int32)), .val (.ref a_SERVER_REFLEXIVE)]) rfl ?_
    show Steps pP.tables eE below (T16.setTop (mkF mM 37 #[.val (.ref x), .val (.ref al), .val (.int (4 : Int32)), .val (.int (2 : Int32)), .val (.ref a_SERVER_REFLEXIVE)] [])) _
    refine XS.goto X16.here hx rfl (pc0 := 37) (pc' := 9) rfl (hb hby d42_37) (by decide) (by decide) ?_
    show Steps pP.tables eE below (T16.setTop (mkF mM 9 #[.val (.ref x), .val (.ref al), .val (.int (4 : Int32)), .val (.int (2 : Int32)), .val (.ref a_SERVER_REFLEXIVE)] [])) _
    refine XS.iloadN X16.here hx rfl (hb hby d42_9) rfl ?_
    show Steps pP.tables eE below (T16.setTop (mkF mM 10 #[.val (.ref x), .val (.ref al), .val (.int (4 : Int32)), .val (.int (2 : Int32)), .val (.ref a_SERVER_REFLEXIVE)] [(.int (2 : Int32))])) _
    refine XS.iloadN X16.here hx rfl (hb hby d42_10) rfl ?_
    show Steps pP.tables eE below (T16.setTop (mkF mM 11 #[.val (.ref x), .val (.ref al), .val (.int (4 : Int32)), .val (.int (2 : Int32)), .val (.ref a_SERVER_REFLEXIVE)] [(.int (4 : Int32)), (.int (2 : Int32))])) _
    refine XS.icmpNo X16.here hx rfl (hb hby d42_11) rfl (tlt (by decide)).2.1 ?_
    show Steps pP.tables eE below (T16.setTop (mkF mM 14 #[.val (.ref x), .val (.ref al), .val (.int (4 : Int32)), .val (.int (2 : Int32)), .val (.ref a_SERVER_REFLEXIVE)] [])) _
    refine XS.aloadN X16.here hx rfl (hb hby d42_14) rfl rfl ?_
    show Steps pP.tables eE below (T16.setTop (mkF mM 15 #[.val (.ref x), .val (.ref al), .val (.int (4 : Int32)), .val (.int (2 : Int32)), .val (.ref a_SERVER_REFLEXIVE)] [(.ref al)])) _
    refine XS.iloadN X16.here hx rfl (hb hby d42_15) rfl ?_
    show Steps pP.tables eE below (T16.setTop (mkF mM 16 #[.val (.ref x), .val (.ref al), .val (.int (4 : Int32)), .val (.int (2 : Int32)), .val (.ref a_SERVER_REFLEXIVE)] [(.int (2 : Int32)), (.ref al)])) _
    refine X16.aaload hx (j := (2 : Int32)) (v := (.ref a_PEER_REFLEXIVE)) (by rw [e16]; exact Ara3.1) (State.isArrayOf_alike hZ.alike Ara3.2.1) rfl Ara3.2.2 hin18 hat18 (g := (mkF mM 16 #[.val (.ref x), .val (.ref al), .val (.int (4 : Int32)), .val (.int (2 : Int32)), .val (.ref a_SERVER_REFLEXIVE)] [(.int (2 : Int32)), (.ref al)])) rfl rfl (hb hby d42_16) _ ?_
    show Steps pP.tables eE below (T16.setTop (mkF mM 17 #[.val (.ref x), .val (.ref al), .val (.int (4 : Int32)), .val (.int (2 : Int32)), .val (.ref a_SERVER_REFLEXIVE)] [(.ref a_PEER_REFLEXIVE)])) _
    refine XS.astore X16.here hx rfl (hb hby d42_17) rfl rfl (l' := #[.val (.ref x), .val (.ref al), .val (.int (4 : Int32)), .val (.int (2 : Int32)), .val (.ref a_PEER_REFLEXIVE)]) rfl ?_
    show Steps pP.tables eE below (T16.setTop (mkF mM 19 #[.val (.ref x), .val (.ref al), .val (.int (4 : Int32)), .val (.int (2 : Int32)), .val (.ref a_PEER_REFLEXIVE)] [])) _
    refine XS.aload X16.here hx rfl (hb hby d42_19) rfl rfl ?_
    exact kg)
  obtain ⟨T20, X20, e20, st20⟩ := getF X16 hx hZ hown (host := "") (Or.inl (hw _ (List.mem_of_getElem? (i := 92) rfl))) Via.refl e16 (Fld.ext (O).2 F_PEER_REFLEXIVE) (g := (mkF mM 21 #[.val (.ref x), .val (.ref al), .val (.int (4 : Int32)), .val (.int (2 : Int32)), .val (.ref a_PEER_REFLEXIVE)] [(.ref a_PEER_REFLEXIVE)])) rfl rfl (hb hby d42_21)
  have pr21 : ∀ tg, Steps pP.tables eE below (T20.setTop (mkF mM 24 #[.val (.ref x), .val (.ref al), .val (.int (4 : Int32)), .val (.int (2 : Int32)), .val (.ref a_PEER_REFLEXIVE)] [(.ref t_PEER_REFLEXIVE)])) tg → Steps pP.tables eE below (s₁.setTop (entryFrame mM #[(.ref x)] 5)) tg := fun tg kg => pr19 _ (st20 _ kg)
  have pr22 : ∀ tg, Steps pP.tables eE below (T20.setTop (mkF mM 25 #[.val (.ref x), .val (.ref al), .val (.int (4 : Int32)), .val (.int (2 : Int32)), .val (.ref a_PEER_REFLEXIVE)] [(.ref x), (.ref t_PEER_REFLEXIVE)])) tg → Steps pP.tables eE below (s₁.setTop (entryFrame mM #[(.ref x)] 5)) tg := fun tg kg => pr21 _ (by
    show Steps pP.tables eE below (T20.setTop (mkF mM 24 #[.val (.ref x), .val (.ref al), .val (.int (4 : Int32)), .val (.int (2 : Int32)), .val (.ref a_PEER_REFLEXIVE)] [(.ref t_PEER_REFLEXIVE)])) _
    refine XS.aloadN X20.here hx rfl (hb hby d42_24) rfl rfl ?_
    exact kg)
  obtain ⟨cq23, kq23, qa23, qb23, qc23⟩ := isOf hZ e20 (Exa.ext (O).2 Et_PEER_REFLEXIVE)
  obtain ⟨vq23, _, ⟨T23, L23, kk23, nn23⟩, -, X23, ⟨Lc23, hQ23, l23, y23, z23⟩, st23⟩ := X20.virtualBack hx (y := (⟨"java/lang/String", "equals", "(Ljava/lang/Object;)Z"⟩ : MethodName)) (z := (⟨"java/lang/String", "equals", "(Ljava/lang/Object;)Z"⟩ : MethodName)) hown (mvT hZ (hw _ (List.mem_of_getElem? (i := 94) rfl))) (mvT hZ (hw _ (List.mem_of_getElem? (i := 76) rfl))) (notFace_of_selects (args := #[]) (mvT hZ (hw _ (List.mem_of_getElem? (i := 78) rfl)))) (mvT hZ (hw _ (List.mem_of_getElem? (i := 78) rfl))) (mvT hZ (hw _ (List.mem_of_getElem? (i := 77) rfl))) (by decide) (StrChars.Road.eqW (W := 0) hZ (own_wE hw) (kI := 4) (hw _ (List.mem_of_getElem? (i := 2) rfl)) (cs := ([(112 : Int32), (114 : Int32), (102 : Int32), (108 : Int32), (120 : Int32)] : List Int32)) (Exa.ext (O).2 Et_PEER_REFLEXIVE) (Fld.ext (O).2 Fv_PEER_REFLEXIVE) (Fld.ext (O).2 Fc_PEER_REFLEXIVE) (Arv.ext Vt_PEER_REFLEXIVE (O).2) own_cod_prflx own_bd_prflx (Nat.le_of_ble_eq_true rfl) (ds := tx) E_x F_xv F_xc V_t (StrChars.Road.codOf (n := tx.length) rfl (fun c hc => (hp c hc).2)) (own_up hp) hlen (Sta.ext (O).2 S_cs) hcs (by decide) (by decide)) qa23 qc23 (g := (mkF mM 25 #[.val (.ref x), .val (.ref al), .val (.int (4 : Int32)), .val (.int (2 : Int32)), .val (.ref a_PEER_REFLEXIVE)] [(.ref x), (.ref t_PEER_REFLEXIVE)])) rfl (by rw [hml]; rfl) (Steps.refl _) (argsL := [(.ref x)]) (rest := []) (lenOf pd_9 rfl) rfl (by show 2 * 0 + _ ≤ _; exact Nat.le_of_eq rfl) (hb hby d42_25) (fun _ _ => ⟨rfl, e20, (by decide : 0 + 0 ≤ _), (by decide : 0 + 0 ≤ _)⟩)
  dsimp only [Pt.U, Pt.locs, Pt.cells, Pt.slots] at X23 l23 y23 z23 st23 hQ23
  subst l23 y23 z23
  obtain ⟨hq23, hL23, e23⟩ := hQ23
  subst hL23
  obtain ⟨r23, hv23, hr23⟩ : ∃ r : Int32, vq23 = some (.int r) ∧ r = (if ([(112 : Int32), (114 : Int32), (102 : Int32), (108 : Int32), (120 : Int32)] : List Int32) = tx then (1 : Int32) else (0 : Int32)) := hq23.elim (fun q => ⟨1, q.1, (if_pos q.2).symm⟩) (fun q => ⟨0, q.1, (if_neg q.2).symm⟩)
  subst hv23
  have N23 := Fr.app N16 (Fr.nil n0)
  have pr24 : ∀ tg, Steps pP.tables eE below (T23.setTop (mkF mM 28 #[.val (.ref x), .val (.ref al), .val (.int (4 : Int32)), .val (.int (2 : Int32)), .val (.ref a_PEER_REFLEXIVE)] [(.int r23)])) tg → Steps pP.tables eE below (s₁.setTop (entryFrame mM #[(.ref x)] 5)) tg := fun tg kg => pr22 _ (st23.trans kg)
  rw [if_pos hk2.symm] at hr23
  subst hr23
  have pr25 : ∀ tg, Steps pP.tables eE below (T23.setTop (mkF mM 33 #[.val (.ref x), .val (.ref al), .val (.int (4 : Int32)), .val (.int (2 : Int32)), .val (.ref a_PEER_REFLEXIVE)] [(.ref a_PEER_REFLEXIVE)])) tg → Steps pP.tables eE below (s₁.setTop (entryFrame mM #[(.ref x)] 5)) tg := fun tg kg => pr24 _ (by
    show Steps pP.tables eE below (T23.setTop (mkF mM 28 #[.val (.ref x), .val (.ref al), .val (.int (4 : Int32)), .val (.int (2 : Int32)), .val (.ref a_PEER_REFLEXIVE)] [(.int (1 : Int32))])) _
    refine XS.ifNo X23.here hx rfl (hb hby d42_28) rfl ((if0 _ _).trans (feq (by decide)).1) ?_
    show Steps pP.tables eE below (T23.setTop (mkF mM 31 #[.val (.ref x), .val (.ref al), .val (.int (4 : Int32)), .val (.int (2 : Int32)), .val (.ref a_PEER_REFLEXIVE)] [])) _
    refine XS.aload X23.here hx rfl (hb hby d42_31) rfl rfl ?_
    exact kg)
  obtain ⟨fs, hr, hrun, hended, hW, hsame⟩ := X23.leave (v := some (.ref a_PEER_REFLEXIVE)) (fun h => by rw [Bd.returns] at h; cases h)
  refine ⟨_, _, pr25 _ (retOut X23 hx (t := (.object "com/example/thawline/thawline/CandidateType")) Bd.returns rfl (Or.inr (Or.inr (Or.inr (Or.inr ⟨rfl, rfl, rfl⟩)))) (hb hby d42_33) hr), hrun, hended, _, _, rfl, ?_, ⟨_, rfl⟩, hW, hsame.mono (by decide) (by decide)⟩
  show Q42 Z cs al kal a_HOST t_HOST u_HOST k_HOST a_SERVER_REFLEXIVE t_SERVER_REFLEXIVE u_SERVER_REFLEXIVE k_SERVER_REFLEXIVE a_PEER_REFLEXIVE t_PEER_REFLEXIVE u_PEER_REFLEXIVE k_PEER_REFLEXIVE a_RELAYED t_RELAYED u_RELAYED k_RELAYED x t kt tx h0 n0 _ T23.heap _
  rw [e23]
  exact ⟨rfl, N23, rfl⟩
theorem d43_0 : decode prog_14_method_8_code 0 = .ok (.getstatic 58, 3) := by decide +kernel
theorem d43_3 : decode prog_14_method_8_code 3 = .ok (.astore_n 1, 1) := by decide +kernel
theorem d43_4 : decode prog_14_method_8_code 4 = .ok (.aload_n 1, 1) := by decide +kernel
theorem d43_5 : decode prog_14_method_8_code 5 = .ok (.arraylength, 1) := by decide +kernel
theorem d43_6 : decode prog_14_method_8_code 6 = .ok (.istore_n 2, 1) := by decide +kernel
theorem d43_7 : decode prog_14_method_8_code 7 = .ok (.iconst 0, 1) := by decide +kernel
theorem d43_8 : decode prog_14_method_8_code 8 = .ok (.istore_n 3, 1) := by decide +kernel
theorem d43_9 : decode prog_14_method_8_code 9 = .ok (.iload_n 3, 1) := by decide +kernel
theorem d43_10 : decode prog_14_method_8_code 10 = .ok (.iload_n 2, 1) := by decide +kernel
theorem d43_11 : decode prog_14_method_8_code 11 = .ok (.if_icmp .ge 29, 3) := by decide +kernel
theorem d43_14 : decode prog_14_method_8_code 14 = .ok (.aload_n 1, 1) := by decide +kernel
theorem d43_15 : decode prog_14_method_8_code 15 = .ok (.iload_n 3, 1) := by decide +kernel
theorem d43_16 : decode prog_14_method_8_code 16 = .ok (.aaload, 1) := by decide +kernel
theorem d43_17 : decode prog_14_method_8_code 17 = .ok (.astore 4, 2) := by decide +kernel
theorem d43_19 : decode prog_14_method_8_code 19 = .ok (.aload 4, 2) := by decide +kernel
theorem d43_21 : decode prog_14_method_8_code 21 = .ok (.getfield 35, 3) := by decide +kernel
theorem d43_24 : decode prog_14_method_8_code 24 = .ok (.aload_n 0, 1) := by decide +kernel
theorem d43_25 : decode prog_14_method_8_code 25 = .ok (.invokevirtual 61, 3) := by decide +kernel
theorem d43_28 : decode prog_14_method_8_code 28 = .ok (.ifCond .eq 6, 3) := by decide +kernel
theorem d43_31 : decode prog_14_method_8_code 31 = .ok (.aload 4, 2) := by decide +kernel
theorem d43_33 : decode prog_14_method_8_code 33 = .ok (.areturn, 1) := by decide +kernel
theorem d43_34 : decode prog_14_method_8_code 34 = .ok (.iinc 3 1, 3) := by decide +kernel
theorem d43_37 : decode prog_14_method_8_code 37 = .ok (.goto (-28), 3) := by decide +kernel
theorem ef_43 (mM : MethodId) (x0 : Addr) : entryFrame mM #[(.ref x0)] 5 = mkF mM 0 #[.val (.ref x0), .unset, .unset, .unset, .unset] [] := by first | (simp [entryFrame, mkF, argsToLocals, Value.category]; done) | rfl
def Q43 (Z : State) (cs : Int32) (al : Addr) (kal : ClassId) (a_HOST : Addr) (t_HOST : Addr) (u_HOST : Addr) (k_HOST : ClassId) (a_SERVER_REFLEXIVE : Addr) (t_SERVER_REFLEXIVE : Addr) (u_SERVER_REFLEXIVE : Addr) (k_SERVER_REFLEXIVE : ClassId) (a_PEER_REFLEXIVE : Addr) (t_PEER_REFLEXIVE : Addr) (u_PEER_REFLEXIVE : Addr) (k_PEER_REFLEXIVE : ClassId) (a_RELAYED : Addr) (t_RELAYED : Addr) (u_RELAYED : Addr) (k_RELAYED : ClassId) (x : Addr) (t : Addr) (kt : ClassId) (tx : List Int32) (h0 : Heap) (n0 : Nat) (v : Option Value) (h : Heap) (L : List Loc) : Prop := v = some (.ref a_RELAYED) ∧ Fr n0 L ∧ h = h0
set_option maxRecDepth 65536 in
set_option maxHeartbeats 40000000 in
theorem rm43 (l : Launch) (Z : State) (a0 : Array Value) (hw : ∀ d ∈ tables_1, d.before a0 Z = true) (ws : List Jvm.Cond) (cs : Int32) (al : Addr) (kal : ClassId) (a_HOST : Addr) (t_HOST : Addr) (u_HOST : Addr) (k_HOST : ClassId) (a_SERVER_REFLEXIVE : Addr) (t_SERVER_REFLEXIVE : Addr) (u_SERVER_REFLEXIVE : Addr) (k_SERVER_REFLEXIVE : ClassId) (a_PEER_REFLEXIVE : Addr) (t_PEER_REFLEXIVE : Addr) (u_PEER_REFLEXIVE : Addr) (k_PEER_REFLEXIVE : ClassId) (a_RELAYED : Addr) (t_RELAYED : Addr) (u_RELAYED : Addr) (k_RELAYED : ClassId) (x : Addr) (t : Addr) (kt : ClassId) (tx : List Int32) (h0 : Heap) (n0 : Nat) (Z0 : n0 ≤ h0.size) (O : Old Z n0 h0) (S_cs : Sta Z Z.heap "java/lang/String" "COMPACT_STRINGS" "Z" (.int cs)) (hcs : ¬ cs = (0 : Int32)) (S_ALL : Sta Z Z.heap "com/example/thawline/thawline/CandidateType" "ALL" "[Lcom/example/thawline/thawline/CandidateType;" (.ref al)) (V_ALL : Arv Z Z.heap al kal (.object "com/example/thawline/thawline/CandidateType") (4 : Int32) [(.ref a_HOST), (.ref a_SERVER_REFLEXIVE), (.ref a_PEER_REFLEXIVE), (.ref a_RELAYED)] .null) (S_HOST : Sta Z Z.heap "com/example/thawline/thawline/CandidateType" "HOST" "Lcom/example/thawline/thawline/CandidateType;" (.ref a_HOST)) (E_HOST : Exa Z Z.heap a_HOST "com/example/thawline/thawline/CandidateType") (F_HOST : Fld Z Z.heap a_HOST "com/example/thawline/thawline/CandidateType" "token" "Ljava/lang/String;" (.ref t_HOST)) (Et_HOST : Exa Z Z.heap t_HOST "java/lang/String") (Fc_HOST : Fld Z Z.heap t_HOST "java/lang/String" "coder" "B" (.int (0 : Int32))) (Fv_HOST : Fld Z Z.heap t_HOST "java/lang/String" "value" "[B" (.ref u_HOST)) (Vt_HOST : Arv Z Z.heap u_HOST k_HOST .byte (4 : Int32) [(.int (104 : Int32)), (.int (111 : Int32)), (.int (115 : Int32)), (.int (116 : Int32))] (.int (0 : Int32))) (S_SERVER_REFLEXIVE : Sta Z Z.heap "com/example/thawline/thawline/CandidateType" "SERVER_REFLEXIVE" "Lcom/example/thawline/thawline/CandidateType;" (.ref a_SERVER_REFLEXIVE)) (E_SERVER_REFLEXIVE : Exa Z Z.heap a_SERVER_REFLEXIVE "com/example/thawline/thawline/CandidateType") (F_SERVER_REFLEXIVE : Fld Z Z.heap a_SERVER_REFLEXIVE "com/example/thawline/thawline/CandidateType" "token" "Ljava/lang/String;" (.ref t_SERVER_REFLEXIVE)) (Et_SERVER_REFLEXIVE : Exa Z Z.heap t_SERVER_REFLEXIVE "java/lang/String") (Fc_SERVER_REFLEXIVE : Fld Z Z.heap t_SERVER_REFLEXIVE "java/lang/String" "coder" "B" (.int (0 : Int32))) (Fv_SERVER_REFLEXIVE : Fld Z Z.heap t_SERVER_REFLEXIVE "java/lang/String" "value" "[B" (.ref u_SERVER_REFLEXIVE)) (Vt_SERVER_REFLEXIVE : Arv Z Z.heap u_SERVER_REFLEXIVE k_SERVER_REFLEXIVE .byte (5 : Int32) [(.int (115 : Int32)), (.int (114 : Int32)), (.int (102 : Int32)), (.int (108 : Int32)), (.int (120 : Int32))] (.int (0 : Int32))) (S_PEER_REFLEXIVE : Sta Z Z.heap "com/example/thawline/thawline/CandidateType" "PEER_REFLEXIVE" "Lcom/example/thawline/thawline/CandidateType;" (.ref a_PEER_REFLEXIVE)) (E_PEER_REFLEXIVE : Exa Z Z.heap a_PEER_REFLEXIVE "com/example/thawline/thawline/CandidateType") (F_PEER_REFLEXIVE : Fld Z Z.heap a_PEER_REFLEXIVE "com/example/thawline/thawline/CandidateType" "token" "Ljava/lang/String;" (.ref t_PEER_REFLEXIVE)) (Et_PEER_REFLEXIVE : Exa Z Z.heap t_PEER_REFLEXIVE "java/lang/String") (Fc_PEER_REFLEXIVE : Fld Z Z.heap t_PEER_REFLEXIVE "java/lang/String" "coder" "B" (.int (0 : Int32))) (Fv_PEER_REFLEXIVE : Fld Z Z.heap t_PEER_REFLEXIVE "java/lang/String" "value" "[B" (.ref u_PEER_REFLEXIVE)) (Vt_PEER_REFLEXIVE : Arv Z Z.heap u_PEER_REFLEXIVE k_PEER_REFLEXIVE .byte (5 : Int32) [(.int (112 : Int32)), (.int (114 : Int32)), (.int (102 : Int32)), (.int (108 : Int32)), (.int (120 : Int32))] (.int (0 : Int32))) (S_RELAYED : Sta Z Z.heap "com/example/thawline/thawline/CandidateType" "RELAYED" "Lcom/example/thawline/thawline/CandidateType;" (.ref a_RELAYED)) (E_RELAYED : Exa Z Z.heap a_RELAYED "com/example/thawline/thawline/CandidateType") (F_RELAYED : Fld Z Z.heap a_RELAYED "com/example/thawline/thawline/CandidateType" "token" "Ljava/lang/String;" (.ref t_RELAYED)) (Et_RELAYED : Exa Z Z.heap t_RELAYED "java/lang/String") (Fc_RELAYED : Fld Z Z.heap t_RELAYED "java/lang/String" "coder" "B" (.int (0 : Int32))) (Fv_RELAYED : Fld Z Z.heap t_RELAYED "java/lang/String" "value" "[B" (.ref u_RELAYED)) (Vt_RELAYED : Arv Z Z.heap u_RELAYED k_RELAYED .byte (5 : Int32) [(.int (114 : Int32)), (.int (101 : Int32)), (.int (108 : Int32)), (.int (97 : Int32)), (.int (121 : Int32))] (.int (0 : Int32))) (E_x : Exa Z h0 x "java/lang/String") (F_xv : Fld Z h0 x "java/lang/String" "value" "[B" (.ref t)) (F_xc : Fld Z h0 x "java/lang/String" "coder" "B" (.int (0 : Int32))) (V_t : Arv Z h0 t kt .byte (Int32.ofNat tx.length) ((tx.map StrChars.lo8).map Value.int) (.int (0 : Int32))) (hp : ∀ c ∈ tx, ¬ c < 0 ∧ ¬ (255 : Int32) < c) (hlen : tx.length ≤ 4000) (hk0 : ¬ tx = ([(104 : Int32), (111 : Int32), (115 : Int32), (116 : Int32)] : List Int32)) (hk1 : ¬ tx = ([(115 : Int32), (114 : Int32), (102 : Int32), (108 : Int32), (120 : Int32)] : List Int32)) (hk2 : ¬ tx = ([(112 : Int32), (114 : Int32), (102 : Int32), (108 : Int32), (120 : Int32)] : List Int32)) (hk3 : tx = ([(114 : Int32), (101 : Int32), (108 : Int32), (97 : Int32), (121 : Int32)] : List Int32)) :
    MetFree l (⟨"com/example/thawline/thawline/CandidateType", "ofToken", "(Ljava/lang/String;)Lcom/example/thawline/thawline/CandidateType;"⟩ : MethodName) (head1 (Jvm.Cond.code (⟨"com/example/thawline/thawline/CandidateType", "ofToken", "(Ljava/lang/String;)Lcom/example/thawline/thawline/CandidateType;"⟩ : MethodName) prog_14_method_8_code 5 (some (.object "com/example/thawline/thawline/CandidateType")) :: ws) ({ frames := 2, cells := 0, slots := 0, locals := 28 } : Room)) (fun aA uU => aA = #[(.ref x)] ∧ Z.Warmed39 uU.vm ∧ uU.heap = h0) (fun _ _ _ _ _ => True) (fun _ uU oO uU' => ∃ vV lL, oO = .returned vV ∧ Q43 Z cs al kal a_HOST t_HOST u_HOST k_HOST a_SERVER_REFLEXIVE t_SERVER_REFLEXIVE u_SERVER_REFLEXIVE k_SERVER_REFLEXIVE a_PEER_REFLEXIVE t_PEER_REFLEXIVE u_PEER_REFLEXIVE k_PEER_REFLEXIVE a_RELAYED t_RELAYED u_RELAYED k_RELAYED x t kt tx h0 n0 vV uU'.heap lL ∧ FrameEnd uU oO uU' lL ({ frames := 2, cells := 0, slots := 0, locals := 28 } : Room).cells ({ frames := 2, cells := 0, slots := 0, locals := 28 } : Room).slots) := by
  refine MetFree.of_bodySF (plainFor_of_name pn_4) hisR ?_
  intro pP eE sS mM args below meth cC s₁ Bd hml0 hP hK
  obtain ⟨rfl, hZ, hh⟩ := hP
  have hx := Bd.exec
  have hby := Bd.bytes
  have hml : cC.maxLocals = 5 := hml0
  have hown : sS.vm.findClass "com/example/thawline/thawline/CandidateType" = some mM.cls := findClass_of_methodNamed Bd.named
  have hnm := (name_of_methodNamed Bd.named Bd.method).1
  have X0 : Stand pP l eE ({ frames := 2, cells := 0, slots := 0, locals := 28 } : Room) sS mM #[(.ref x)] below meth cC s₁ [] 0 0 := Stand.of_body Bd
  have e0 : s₁.heap = h0 := by rw [← hh, Bd.state]; rfl
  have N0 := Fr.nil n0
  have pre0 : ∀ tg, Steps pP.tables eE below (s₁.setTop (mkF mM 0 #[.val (.ref x), .unset, .unset, .unset, .unset] [])) tg → Steps pP.tables eE below (s₁.setTop (entryFrame mM #[(.ref x)] 5)) tg := fun tg kg => castTop (ef_43 mM x) kg
  obtain ⟨T1, X1, e1, st1⟩ := getS2 X0 hx hZ hown (host := "") (Or.inl (hw _ (List.mem_of_getElem? (i := 90) rfl))) Via.refl e0 (Sta.ext (O).2 S_ALL) (g := (mkF mM 0 #[.val (.ref x), .unset, .unset, .unset, .unset] [])) rfl (hb hby d43_0)
  have pr2 : ∀ tg, Steps pP.tables eE below (T1.setTop (mkF mM 3 #[.val (.ref x), .unset, .unset, .unset, .unset] [(.ref al)])) tg → Steps pP.tables eE below (s₁.setTop (entryFrame mM #[(.ref x)] 5)) tg := fun tg kg => pre0 _ (st1 _ kg)
  obtain ⟨cla3, Ara3, qa3, Sa3, Ma3, Ha3, Ga3⟩ := id (Arv.ext V_ALL (O).2)
  have hin4 : ¬ ((0 : Int32) < 0 ∨ cla3.slots.size ≤ ((0 : Int32)).toNatClampNeg) := inb_of Sa3 ⟨by decide, by decide⟩
  have hat4 : cla3.slots[((0 : Int32)).toNatClampNeg]? = some (.ref a_HOST) := Has.at Ha3 hin4 rfl
  have pr5 : ∀ tg, Steps pP.tables eE below (T1.setTop (mkF mM 21 #[.val (.ref x), .val (.ref al), .val (.int (4 : Int32)), .val (.int (0 : Int32)), .val (.ref a_HOST)] [(.ref a_HOST)])) tg → Steps pP.tables eE below (s₁.setTop (entryFrame mM #[(.ref x)] 5)) tg := fun tg kg => pr2 _ (by
    show Steps pP.tables eE below (T1.setTop (mkF mM 3 #[.val (.ref x), .unset, .unset, .unset, .unset] [(.ref al)])) _
    refine XS.astoreN X1.here hx rfl (hb hby d43_3) rfl rfl (l' := #[.val (.ref x), .val (.ref al), .unset, .unset, .unset]) rfl ?_
    show Steps pP.tables eE below (T1.setTop (mkF mM 4 #[.val (.ref x), .val (.ref al), .unset, .unset, .unset] [])) _
    refine XS.aloadN X1.here hx rfl (hb hby d43_4) rfl rfl ?_
    show Steps pP.tables eE below (T1.setTop (mkF mM 5 #[.val (.ref x), .val (.ref al), .unset, .unset, .unset] [(.ref al)])) _
    refine X1.arraylength hx (by rw [e1]; exact Ara3.1) (State.isArrayOf_alike hZ.alike Ara3.2.1) (g := (mkF mM 5 #[.val (.ref x), .val (.ref al), .unset, .unset, .unset] [(.ref al)])) rfl rfl (hb hby d43_5) _ ?_
    rw [len_of Sa3 Ma3]
    show Steps pP.tables eE below (T1.setTop (mkF mM 6 #[.val (.ref x), .val (.ref al), .unset, .unset, .unset] [(.int (4 : Int32))])) _
    refine XS.istoreN X1.here hx rfl (hb hby d43_6) rfl (l' := #[.val (.ref x), .val (.ref al), .val (.int (4 : Int32)), .unset, .unset]) rfl ?_
    show Steps pP.tables eE below (T1.setTop (mkF mM 7 #[.val (.ref x), .val (.ref al), .val (.int (4 : Int32)), .unset, .unset] [])) _
    refine XS.iconst X1.here hx rfl (hb hby d43_7) ?_
    show Steps pP.tables eE below (T1.setTop (mkF mM 8 #[.val (.ref x), .val (.ref al), .val (.int (4 : Int32)), .unset, .unset] [(.int (0 : Int32))])) _
    refine XS.istoreN X1.here hx rfl (hb hby d43_8) rfl (l' := #[.val (.ref x), .val (.ref al), .val (.int (4 : Int32)), .val (.int (0 : Int32)), .unset]) rfl ?_
    show Steps pP.tables eE below (T1.setTop (mkF mM 9 #[.val (.ref x), .val (.ref al), .val (.int (4 : Int32)), .val (.int (0 : Int32)), .unset] [])) _
    refine XS.iloadN X1.here hx rfl (hb hby d43_9) rfl ?_
    show Steps pP.tables eE below (T1.setTop (mkF mM 10 #[.val (.ref x), .val (.ref al), .val (.int (4 : Int32)), .val (.int (0 : Int32)), .unset] [(.int (0 : Int32))])) _
    refine XS.iloadN X1.here hx rfl (hb hby d43_10) rfl ?_
    show Steps pP.tables eE below (T1.setTop (mkF mM 11 #[.val (.ref x), .val (.ref al), .val (.int (4 : Int32)), .val (.int (0 : Int32)), .unset] [(.int (4 : Int32)), (.int (0 : Int32))])) _
    refine XS.icmpNo X1.here hx rfl (hb hby d43_11) rfl (tlt (by decide)).2.1 ?_
    show Steps pP.tables eE below (T1.setTop (mkF mM 14 #[.val (.ref x), .val (.ref al), .val (.int (4 : Int32)), .val (.int (0 : Int32)), .unset] [])) _
    refine XS.aloadN X1.here hx rfl (hb hby d43_14) rfl rfl ?_
    show Steps pP.tables eE below (T1.setTop (mkF mM 15 #[.val (.ref x), .val (.ref al), .val (.int (4 : Int32)), .val (.int (0 : Int32)), .unset] [(.ref al)])) _
    refine XS.iloadN X1.here hx rfl (hb hby d43_15) rfl ?_
    show Steps pP.tables eE below (T1.setTop (mkF mM 16 #[.val (.ref x), .val (.ref al), .val (.int (4 : Int32)), .val (.int (0 : Int32)), .unset] [(.int (0 : Int32)), (.ref al)])) _
    refine X1.aaload hx (j := (0 : Int32)) (v := (.ref a_HOST)) (by rw [e1]; exact Ara3.1) (State.isArrayOf_alike hZ.alike Ara3.2.1) rfl Ara3.2.2 hin4 hat4 (g := (mkF mM 16 #[.val (.ref x), .val (.ref al), .val (.int (4 : Int32)), .val (.int (0 : Int32)), .unset] [(.int (0 : Int32)), (.ref al)])) rfl rfl (hb hby d43_16) _ ?_
    show Steps pP.tables eE below (T1.setTop (mkF mM 17 #[.val (.ref x), .val (.ref al), .val (.int (4 : Int32)), .val (.int (0 : Int32)), .unset] [(.ref a_HOST)])) _
    refine XS.astore X1.here hx rfl (hb hby d43_17) rfl rfl (l' := #[.val (.ref x), .val (.ref al), .val (.int (4 : Int32)), .val (.int (0 : Int32)), .val (.ref a_HOST)]) rfl ?_
    show Steps pP.tables eE below (T1.setTop (mkF mM 19 #[.val (.ref x), .val (.ref al), .val (.int (4 : Int32)), .val (.int (0 : Int32)), .val (.ref a_HOST)] [])) _
    refine XS.aload X1.here hx rfl (hb hby d43_19) rfl rfl ?_
    exact kg)
  obtain ⟨T6, X6, e6, st6⟩ := getF X1 hx hZ hown (host := "") (Or.inl (hw _ (List.mem_of_getElem? (i := 92) rfl))) Via.refl e1 (Fld.ext (O).2 F_HOST) (g := (mkF mM 21 #[.val (.ref x), .val (.ref al), .val (.int (4 : Int32)), .val (.int (0 : Int32)), .val (.ref a_HOST)] [(.ref a_HOST)])) rfl rfl (hb hby d43_21)
  have pr7 : ∀ tg, Steps pP.tables eE below (T6.setTop (mkF mM 24 #[.val (.ref x), .val (.ref al), .val (.int (4 : Int32)), .val (.int (0 : Int32)), .val (.ref a_HOST)] [(.ref t_HOST)])) tg → Steps pP.tables eE below (s₁.setTop (entryFrame mM #[(.ref x)] 5)) tg := fun tg kg => pr5 _ (st6 _ kg)
  have pr8 : ∀ tg, Steps pP.tables eE below (T6.setTop (mkF mM 25 #[.val (.ref x), .val (.ref al), .val (.int (4 : Int32)), .val (.int (0 : Int32)), .val (.ref a_HOST)] [(.ref x), (.ref t_HOST)])) tg → Steps pP.tables eE below (s₁.setTop (entryFrame mM #[(.ref x)] 5)) tg := fun tg kg => pr7 _ (by
    show Steps pP.tables eE below (T6.setTop (mkF mM 24 #[.val (.ref x), .val (.ref al), .val (.int (4 : Int32)), .val (.int (0 : Int32)), .val (.ref a_HOST)] [(.ref t_HOST)])) _
    refine XS.aloadN X6.here hx rfl (hb hby d43_24) rfl rfl ?_
    exact kg)
  obtain ⟨cq9, kq9, qa9, qb9, qc9⟩ := isOf hZ e6 (Exa.ext (O).2 Et_HOST)
  obtain ⟨vq9, _, ⟨T9, L9, kk9, nn9⟩, -, X9, ⟨Lc9, hQ9, l9, y9, z9⟩, st9⟩ := X6.virtualBack hx (y := (⟨"java/lang/String", "equals", "(Ljava/lang/Object;)Z"⟩ : MethodName)) (z := (⟨"java/lang/String", "equals", "(Ljava/lang/Object;)Z"⟩ : MethodName)) hown (mvT hZ (hw _ (List.mem_of_getElem? (i := 94) rfl))) (mvT hZ (hw _ (List.mem_of_getElem? (i := 76) rfl))) (notFace_of_selects (args := #[]) (mvT hZ (hw _ (List.mem_of_getElem? (i := 78) rfl)))) (mvT hZ (hw _ (List.mem_of_getElem? (i := 78) rfl))) (mvT hZ (hw _ (List.mem_of_getElem? (i := 77) rfl))) (by decide) (StrChars.Road.eqW (W := 0) hZ (own_wE hw) (kI := 4) (hw _ (List.mem_of_getElem? (i := 2) rfl)) (cs := ([(104 : Int32), (111 : Int32), (115 : Int32), (116 : Int32)] : List Int32)) (Exa.ext (O).2 Et_HOST) (Fld.ext (O).2 Fv_HOST) (Fld.ext (O).2 Fc_HOST) (Arv.ext Vt_HOST (O).2) own_cod_host own_bd_host (Nat.le_of_ble_eq_true rfl) (ds := tx) E_x F_xv F_xc V_t (StrChars.Road.codOf (n := tx.length) rfl (fun c hc => (hp c hc).2)) (own_up hp) hlen (Sta.ext (O).2 S_cs) hcs (by decide) (by decide)) qa9 qc9 (g := (mkF mM 25 #[.val (.ref x), .val (.ref al), .val (.int (4 : Int32)), .val (.int (0 : Int32)), .val (.ref a_HOST)] [(.ref x), (.ref t_HOST)])) rfl (by rw [hml]; rfl) (Steps.refl _) (argsL := [(.ref x)]) (rest := []) (lenOf pd_9 rfl) rfl (by show 2 * 0 + _ ≤ _; exact Nat.le_of_eq rfl) (hb hby d43_25) (fun _ _ => ⟨rfl, e6, (by decide : 0 + 0 ≤ _), (by decide : 0 + 0 ≤ _)⟩)
  dsimp only [Pt.U, Pt.locs, Pt.cells, Pt.slots] at X9 l9 y9 z9 st9 hQ9
  subst l9 y9 z9
  obtain ⟨hq9, hL9, e9⟩ := hQ9
  subst hL9
  obtain ⟨r9, hv9, hr9⟩ : ∃ r : Int32, vq9 = some (.int r) ∧ r = (if ([(104 : Int32), (111 : Int32), (115 : Int32), (116 : Int32)] : List Int32) = tx then (1 : Int32) else (0 : Int32)) := hq9.elim (fun q => ⟨1, q.1, (if_pos q.2).symm⟩) (fun q => ⟨0, q.1, (if_neg q.2).symm⟩)
  subst hv9
  have N9 := Fr.app N0 (Fr.nil n0)
  have pr10 : ∀ tg, Steps pP.tables eE below (T9.setTop (mkF mM 28 #[.val (.ref x), .val (.ref al), .val (.int (4 : Int32)), .val (.int (0 : Int32)), .val (.ref a_HOST)] [(.int r9)])) tg → Steps pP.tables eE below (s₁.setTop (entryFrame mM #[(.ref x)] 5)) tg := fun tg kg => pr8 _ (st9.trans kg)
  rw [if_neg (fun q => hk0 q.symm)] at hr9
  subst hr9
  have hin11 : ¬ ((1 : Int32) < 0 ∨ cla3.slots.size ≤ ((1 : Int32)).toNatClampNeg) := inb_of Sa3 ⟨by decide, by decide⟩
  have hat11 : cla3.slots[((1 : Int32)).toNatClampNeg]? = some (.ref a_SERVER_REFLEXIVE) := Has.at Ha3 hin11 rfl
  have pr12 : ∀ tg, Steps pP.tables eE below (T9.setTop (mkF mM 21 #[.val (.ref x), .val (.ref al), .val (.int (4 : Int32)), .val (.int (1 : Int32)), .val (.ref a_SERVER_REFLEXIVE)] [(.ref a_SERVER_REFLEXIVE)])) tg → Steps pP.tables eE below (s₁.setTop (entryFrame mM #[(.ref x)] 5)) tg := fun tg kg => pr10 _ (by
    show Steps pP.tables eE below (T9.setTop (mkF mM 28 #[.val (.ref x), .val (.ref al), .val (.int (4 : Int32)), .val (.int (0 : Int32)), .val (.ref a_HOST)] [(.int (0 : Int32))])) _
    refine XS.ifYes X9.here hx rfl (pc0 := 28) (pc' := 34) rfl (hb hby d43_28) rfl ((if0 _ _).trans (teq (by decide)).1) (by decide) (by decide) ?_
    show Steps pP.tables eE below (T9.setTop (mkF mM 34 #[.val (.ref x), .val (.ref al), .val (.int (4 : Int32)), .val (.int (0 : Int32)), .val (.ref a_HOST)] [])) _
    refine XS.iinc X9.here hx rfl (hb hby d43_34) rfl (l' := #[.val (.ref x), .val (.ref al), .val (.int (4 : Int32)), .val (.int (1 : Int32)), .val (.ref a_HOST)]) rfl ?_
    show Steps pP.tables eE below (T9.setTop (mkF mM 37 #[.val (.ref x), .val (.ref al), .val (.int (4 : Int32)), .val (.int (1 : Int32)), .val (.ref a_HOST)] [])) _
    refine XS.goto X9.here hx rfl (pc0 := 37) (pc' := 9) rfl (hb hby d43_37) (by decide) (by decide) ?_
    show Steps pP.tables eE below (T9.setTop (mkF mM 9 #[.val (.ref x), .val (.ref al), .val (.int (4 : Int32)), .val (.int (1 : Int32)), .val (.ref a_HOST)] [])) _
    refine XS.iloadN X9.here hx rfl (hb hby d43_9) rfl ?_
    show Steps pP.tables eE below (T9.setTop (mkF mM 10 #[.val (.ref x), .val (.ref al), .val (.int (4 : Int32)), .val (.int (1 : Int32)), .val (.ref a_HOST)] [(.int (1 : Int32))])) _
    refine XS.iloadN X9.here hx rfl (hb hby d43_10) rfl ?_
    show Steps pP.tables eE below (T9.setTop (mkF mM 11 #[.val (.ref x), .val (.ref al), .val (.int (4 : Int32)), .val (.int (1 : Int32)), .val (.ref a_HOST)] [(.int (4 : Int32)), (.int (1 : Int32))])) _
    refine XS.icmpNo X9.here hx rfl (hb hby d43_11) rfl (tlt (by decide)).2.1 ?_
    show Steps pP.tables eE below (T9.setTop (mkF mM 14 #[.val (.ref x), .val (.ref al), .val (.int (4 : Int32)), .val (.int (1 : Int32)), .val (.ref a_HOST)] [])) _
    refine XS.aloadN X9.here hx rfl (hb hby d43_14) rfl rfl ?_
    show Steps pP.tables eE below (T9.setTop (mkF mM 15 #[.val (.ref x), .val (.ref al), .val (.int (4 : Int32)), .val (.int (1 : Int32)), .val (.ref a_HOST)] [(.ref al)])) _
    refine XS.iloadN X9.here hx rfl (hb hby d43_15) rfl ?_
    show Steps pP.tables eE below (T9.setTop (mkF mM 16 #[.val (.ref x), .val (.ref al), .val (.int (4 : Int32)), .val (.int (1 : Int32)), .val (.ref a_HOST)] [(.int (1 : Int32)), (.ref al)])) _
    refine X9.aaload hx (j := (1 : Int32)) (v := (.ref a_SERVER_REFLEXIVE)) (by rw [e9]; exact Ara3.1) (State.isArrayOf_alike hZ.alike Ara3.2.1) rfl Ara3.2.2 hin11 hat11 (g := (mkF mM 16 #[.val (.ref x), .val (.ref al), .val (.int (4 : Int32)), .val (.int (1 : Int32)), .val (.ref a_HOST)] [(.int (1 : Int32)), (.ref al)])) rfl rfl (hb hby d43_16) _ ?_
    show Steps pP.tables eE below (T9.setTop (mkF mM 17 #[.val (.ref x), .val (.ref al), .val (.int (4 : Int32)), .val (.int (1 : Int32)), .val (.ref a_HOST)] [(.ref a_SERVER_REFLEXIVE)])) _
    refine XS.astore X9.here hx rfl (hb hby d43_17) rfl rfl (l' := #[.val (.ref x), .val (.ref al), .val (.int (4 : Int32)), .val (.int (1 : Int32)), .val (.ref a_SERVER_REFLEXIVE)]) rfl ?_
    show Steps pP.tables eE below (T9.setTop (mkF mM 19 #[.val (.ref x), .val (.ref al), .val (.int (4 : Int32)), .val (.int (1 : Int32)), .val (.ref a_SERVER_REFLEXIVE)] [])) _
    refine XS.aload X9.here hx rfl (hb hby d43_19) rfl rfl ?_
    exact kg)
  obtain ⟨T13, X13, e13, st13⟩ := getF X9 hx hZ hown (host := "") (Or.inl (hw _ (List.mem_of_getElem? (i := 92) rfl))) Via.refl e9 (Fld.ext (O).2 F_SERVER_REFLEXIVE) (g := (mkF mM 21 #[.val (.ref x), .val (.ref al), .val (.int (4 : Int32)), .val (.int (1 : Int32)), .val (.ref a_SERVER_REFLEXIVE)] [(.ref a_SERVER_REFLEXIVE)])) rfl rfl (hb hby d43_21)
  have pr14 : ∀ tg, Steps pP.tables eE below (T13.setTop (mkF mM 24 #[.val (.ref x), .val (.ref al), .val (.int (4 : Int32)), .val (.int (1 : Int32)), .val (.ref a_SERVER_REFLEXIVE)] [(.ref t_SERVER_REFLEXIVE)])) tg → Steps pP.tables eE below (s₁.setTop (entryFrame mM #[(.ref x)] 5)) tg := fun tg kg => pr12 _ (st13 _ kg)
  have pr15 : ∀ tg, Steps pP.tables eE below (T13.setTop (mkF mM 25 #[.val (.ref x), .val (.ref al), .val (.int (4 : Int32)), .val (.int (1 : Int32)), .val (.ref a_SERVER_REFLEXIVE)] [(.ref x), (.ref t_SERVER_REFLEXIVE)])) tg → Steps pP.tables eE below (s₁.setTop (entryFrame mM #[(.ref x)] 5)) tg := fun tg kg => pr14 _ (by
    show Steps pP.tables eE below (T13.setTop (mkF mM 24 #[.val (.ref x), .val (.ref al), .val (.int (4 : Int32)), .val (.int (1 : Int32)), .val (.ref a_SERVER_REFLEXIVE)] [(.ref t_SERVER_REFLEXIVE)])) _
    refine XS.aloadN X13.here hx rfl (hb hby d43_24) rfl rfl ?_
    exact kg)
  obtain ⟨cq16, kq16, qa16, qb16, qc16⟩ := isOf hZ e13 (Exa.ext (O).2 Et_SERVER_REFLEXIVE)
  obtain ⟨vq16, _, ⟨T16, L16, kk16, nn16⟩, -, X16, ⟨Lc16, hQ16, l16, y16, z16⟩, st16⟩ := X13.virtualBack hx (y := (⟨"java/lang/String", "equals", "(Ljava/lang/Object;)Z"⟩ : MethodName)) (z := (⟨"java/lang/String", "equals", "(Ljava/lang/Object;)Z"⟩ : MethodName)) hown (mvT hZ (hw _ (List.mem_of_getElem? (i := 94) rfl))) (mvT hZ (hw _ (List.mem_of_getElem? (i := 76) rfl))) (notFace_of_selects (args := #[]) (mvT hZ (hw _ (List.mem_of_getElem? (i := 78) rfl)))) (mvT hZ (hw _ (List.mem_of_getElem? (i := 78) rfl))) (mvT hZ (hw _ (List.mem_of_getElem? (i := 77) rfl))) (by decide) (StrChars.Road.eqW (W := 0) hZ (own_wE hw) (kI := 4) (hw _ (List.mem_of_getElem? (i := 2) rfl)) (cs := ([(115 : Int32), (114 : Int32), (102 : Int32), (108 : Int32), (120 : Int32)] : List Int32)) (Exa.ext (O).2 Et_SERVER_REFLEXIVE) (Fld.ext (O).2 Fv_SERVER_REFLEXIVE) (Fld.ext (O).2 Fc_SERVER_REFLEXIVE) (Arv.ext Vt_SERVER_REFLEXIVE (O).2) own_cod_srflx own_bd_srflx (Nat.le_of_ble_eq_true rfl) (ds := tx) E_x F_xv F_xc V_t (StrChars.Road.codOf (n := tx.length) rfl (fun c hc => (hp c hc).2)) (own_up hp) hlen (Sta.ext (O).2 S_cs) hcs (by decide) (by decide)) qa16 qc16 (g := (mkF mM 25 #[.val (.ref x), .val (.ref al), .val (.int (4 : Int32)), .val (.int (1 : Int32)), .val (.ref a_SERVER_REFLEXIVE)] [(.ref x), (.ref t_SERVER_REFLEXIVE)])) rfl (by rw [hml]; rfl) (Steps.refl _) (argsL := [(.ref x)]) (rest := []) (lenOf pd_9 rfl) rfl (by show 2 * 0 + _ ≤ _; exact Nat.le_of_eq rfl) (hb hby d43_25) (fun _ _ => ⟨rfl, e13, (by decide : 0 + 0 ≤ _), (by decide : 0 + 0 ≤ _)⟩)
  dsimp only [Pt.U, Pt.locs, Pt.cells, Pt.slots] at X16 l16 y16 z16 st16 hQ16
  subst l16 y16 z16
  obtain ⟨hq16, hL16, e16⟩ := hQ16
  subst hL16
  obtain ⟨r16, hv16, hr16⟩ : ∃ r : Int32, vq16 = some (.int r) ∧ r = (if ([(115 : Int32), (114 : Int32), (102 : Int32), (108 : Int32), (120 : Int32)] : List Int32) = tx then (1 : Int32) else (0 : Int32)) := hq16.elim (fun q => ⟨1, q.1, (if_pos q.2).symm⟩) (fun q => ⟨0, q.1, (if_neg q.2).symm⟩)
  subst hv16
  have N16 := Fr.app N9 (Fr.nil n0)
  have pr17 : ∀ tg, Steps pP.tables eE below (T16.setTop (mkF mM 28 #[.val (.ref x), .val (.ref al), .val (.int (4 : Int32)), .val (.int (1 : Int32)), .val (.ref a_SERVER_REFLEXIVE)] [(.int r16)])) tg → Steps pP.tables eE below (s₁.setTop (entryFrame mM #[(.ref x)] 5)) tg := fun tg kg => pr15 _ (st16.trans kg)
  rw [if_neg (fun q => hk1 q.symm)] at hr16
  subst hr16
  have hin18 : ¬ ((2 : Int32) < 0 ∨ cla3.slots.size ≤ ((2 : Int32)).toNatClampNeg) := inb_of Sa3 ⟨by decide, by decide⟩
  have hat18 : cla3.slots[((2 : Int32)).toNatClampNeg]? = some (.ref a_PEER_REFLEXIVE) := Has.at Ha3 hin18 rfl
  have pr19 : ∀ tg, Steps pP.tables eE below (T16.setTop (mkF mM 21 #[.val (.ref x), .val (.ref al), .val (.int (4 : Int32)), .val (.int (2 : Int32)), .val (.ref a_PEER_REFLEXIVE)] [(.ref a_PEER_REFLEXIVE)])) tg → Steps pP.tables eE below (s₁.setTop (entryFrame mM #[(.ref x)] 5)) tg := fun tg kg => pr17 _ (by
    show Steps pP.tables eE below (T16.setTop (mkF mM 28 #[.val (.ref x), .val (.ref al), .val (.int (4 : Int32)), .val (.int (1 : Int32)), .val (.ref a_SERVER_REFLEXIVE)] [(.int (0 : Int32))])) _
    refine XS.ifYes X16.here hx rfl (pc0 := 28) (pc' := 34) rfl (hb hby d43_28) rfl ((if0 _ _).trans (teq (by decide)).1) (by decide) (by decide) ?_
    show Steps pP.tables eE below (T16.setTop (mkF mM 34 #[.val (.ref x), .val (.ref al), .val (.int (4 : Int32)), .val (.int (1 : Int32)), .val (.ref a_SERVER_REFLEXIVE)] [])) _
    refine XS.iinc X16.here hx rfl (hb hby d43_34) rfl (l' := #[.val (.ref x), .val (.ref al), .val (.int (4 : Int32)), .val (.int (2 : Int32)), .val (.ref a_SERVER_REFLEXIVE)]) rfl ?_
    show Steps pP.tables eE below (T16.setTop (mkF mM 37 #[.val (.ref x), .val (.ref al), .val (.int (4 : Int32)), .val (.int (2 : Int32)), .val (.ref a_SERVER_REFLEXIVE)] [])) _
    refine XS.goto X16.here hx rfl (pc0 := 37) (pc' := 9) rfl (hb hby d43_37) (by decide) (by decide) ?_
    show Steps pP.tables eE below (T16.setTop (mkF mM 9 #[.val (.ref x), .val (.ref al), .val (.int (4 : Int32)), .val (.int (2 : Int32)), .val (.ref a_SERVER_REFLEXIVE)] [])) _
    refine XS.iloadN X16.here hx rfl (hb hby d43_9) rfl ?_
    show Steps pP.tables eE below (T16.setTop (mkF mM 10 #[.val (.ref x), .val (.ref al), .val (.int (4 : Int32)), .val (.int (2 : Int32)), .val (.ref a_SERVER_REFLEXIVE)] [(.int (2 : Int32))])) _
    refine XS.iloadN X16.here hx rfl (hb hby d43_10) rfl ?_
    show Steps pP.tables eE below (T16.setTop (mkF mM 11 #[.val (.ref x), .val (.ref al), .val (.int (4 : Int32)), .val (.int (2 : Int32)), .val (.ref a_SERVER_REFLEXIVE)] [(.int (4 : Int32)), (.int (2 : Int32))])) _
    refine XS.icmpNo X16.here hx rfl (hb hby d43_11) rfl (tlt (by decide)).2.1 ?_
    show Steps pP.tables eE below (T16.setTop (mkF mM 14 #[.val (.ref x), .val (.ref al), .val (.int (4 : Int32)), .val (.int (2 : Int32)), .val (.ref a_SERVER_REFLEXIVE)] [])) _
    refine XS.aloadN X16.here hx rfl (hb hby d43_14) rfl rfl ?_
    show Steps pP.tables eE below (T16.setTop (mkF mM 15 #[.val (.ref x), .val (.ref al), .val (.int (4 : Int32)), .val (.int (2 : Int32)), .val (.ref a_SERVER_REFLEXIVE)] [(.ref al)])) _
    refine XS.iloadN X16.here hx rfl (hb hby d43_15) rfl ?_
    show Steps pP.tables eE below (T16.setTop (mkF mM 16 #[.val (.ref x), .val (.ref al), .val (.int (4 : Int32)), .val (.int (2 : Int32)), .val (.ref a_SERVER_REFLEXIVE)] [(.int (2 : Int32)), (.ref al)])) _
    refine X16.aaload hx (j := (2 : Int32)) (v := (.ref a_PEER_REFLEXIVE)) (by rw [e16]; exact Ara3.1) (State.isArrayOf_alike hZ.alike Ara3.2.1) rfl Ara3.2.2 hin18 hat18 (g := (mkF mM 16 #[.val (.ref x), .val (.ref al), .val (.int (4 : Int32)), .val (.int (2 : Int32)), .val (.ref a_SERVER_REFLEXIVE)] [(.int (2 : Int32)), (.ref al)])) rfl rfl (hb hby d43_16) _ ?_
    show Steps pP.tables eE below (T16.setTop (mkF mM 17 #[.val (.ref x), .val (.ref al), .val (.int (4 : Int32)), .val (.int (2 : Int32)), .val (.ref a_SERVER_REFLEXIVE)] [(.ref a_PEER_REFLEXIVE)])) _
    refine XS.astore X16.here hx rfl (hb hby d43_17) rfl rfl (l' := #[.val (.ref x), .val (.ref al), .val (.int (4 : Int32)), .val (.int (2 : Int32)), .val (.ref a_PEER_REFLEXIVE)]) rfl ?_
    show Steps pP.tables eE below (T16.setTop (mkF mM 19 #[.val (.ref x), .val (.ref al), .val (.int (4 : Int32)), .val (.int (2 : Int32)), .val (.ref a_PEER_REFLEXIVE)] [])) _
    refine XS.aload X16.here hx rfl (hb hby d43_19) rfl rfl ?_
    exact kg)
  obtain ⟨T20, X20, e20, st20⟩ := getF X16 hx hZ hown (host := "") (Or.inl (hw _ (List.mem_of_getElem? (i := 92) rfl))) Via.refl e16 (Fld.ext (O).2 F_PEER_REFLEXIVE) (g := (mkF mM 21 #[.val (.ref x), .val (.ref al), .val (.int (4 : Int32)), .val (.int (2 : Int32)), .val (.ref a_PEER_REFLEXIVE)] [(.ref a_PEER_REFLEXIVE)])) rfl rfl (hb hby d43_21)
  have pr21 : ∀ tg, Steps pP.tables eE below (T20.setTop (mkF mM 24 #[.val (.ref x), .val (.ref al), .val (.int (4 : Int32)), .val (.int (2 : Int32)), .val (.ref a_PEER_REFLEXIVE)] [(.ref t_PEER_REFLEXIVE)])) tg → Steps pP.tables eE below (s₁.setTop (entryFrame mM #[(.ref x)] 5)) tg := fun tg kg => pr19 _ (st20 _ kg)
  have pr22 : ∀ tg, Steps pP.tables eE below (T20.setTop (mkF mM 25 #[.val (.ref x), .val (.ref al), .val (.int (4 : Int32)), .val (.int (2 : Int32)), .val (.ref a_PEER_REFLEXIVE)] [(.ref x), (.ref t_PEER_REFLEXIVE)])) tg → Steps pP.tables eE below (s₁.setTop (entryFrame mM #[(.ref x)] 5)) tg := fun tg kg => pr21 _ (by
    show Steps pP.tables eE below (T20.setTop (mkF mM 24 #[.val (.ref x), .val (.ref al), .val (.int (4 : Int32)), .val (.int (2 : Int32)), .val (.ref a_PEER_REFLEXIVE)] [(.ref t_PEER_REFLEXIVE)])) _
    refine XS.aloadN X20.here hx rfl (hb hby d43_24) rfl rfl ?_
    exact kg)
  obtain ⟨cq23, kq23, qa23, qb23, qc23⟩ := isOf hZ e20 (Exa.ext (O).2 Et_PEER_REFLEXIVE)
  obtain ⟨vq23, _, ⟨T23, L23, kk23, nn23⟩, -, X23, ⟨Lc23, hQ23, l23, y23, z23⟩, st23⟩ := X20.virtualBack hx (y := (⟨"java/lang/String", "equals", "(Ljava/lang/Object;)Z"⟩ : MethodName)) (z := (⟨"java/lang/String", "equals", "(Ljava/lang/Object;)Z"⟩ : MethodName)) hown (mvT hZ (hw _ (List.mem_of_getElem? (i := 94) rfl))) (mvT hZ (hw _ (List.mem_of_getElem? (i := 76) rfl))) (notFace_of_selects (args := #[]) (mvT hZ (hw _ (List.mem_of_getElem? (i := 78) rfl)))) (mvT hZ (hw _ (List.mem_of_getElem? (i := 78) rfl))) (mvT hZ (hw _ (List.mem_of_getElem? (i := 77) rfl))) (by decide) (StrChars.Road.eqW (W := 0) hZ (own_wE hw) (kI := 4) (hw _ (List.mem_of_getElem? (i := 2) rfl)) (cs := ([(112 : Int32), (114 : Int32), (102 : Int32), (108 : Int32), (120 : Int32)] : List Int32)) (Exa.ext (O).2 Et_PEER_REFLEXIVE) (Fld.ext (O).2 Fv_PEER_REFLEXIVE) (Fld.ext (O).2 Fc_PEER_REFLEXIVE) (Arv.ext Vt_PEER_REFLEXIVE (O).2) own_cod_prflx own_bd_prflx (Nat.le_of_ble_eq_true rfl) (ds := tx) E_x F_xv F_xc V_t (StrChars.Road.codOf (n := tx.length) rfl (fun c hc => (hp c hc).2)) (own_up hp) hlen (Sta.ext (O).2 S_cs) hcs (by decide) (by decide)) qa23 qc23 (g := (mkF mM 25 #[.val (.ref x), .val (.ref al), .val (.int (4 : Int32)), .val (.int (2 : Int32)), .val (.ref a_PEER_REFLEXIVE)] [(.ref x), (.ref t_PEER_REFLEXIVE)])) rfl (by rw [hml]; rfl) (Steps.refl _) (argsL := [(.ref x)]) (rest := []) (lenOf pd_9 rfl) rfl (by show 2 * 0 + _ ≤ _; exact Nat.le_of_eq rfl) (hb hby d43_25) (fun _ _ => ⟨rfl, e20, (by decide : 0 + 0 ≤ _), (by decide : 0 + 0 ≤ _)⟩)
  dsimp only [Pt.U, Pt.locs, Pt.cells, Pt.slots] at X23 l23 y23 z23 st23 hQ23
  subst l23 y23 z23
  obtain ⟨hq23, hL23, e23⟩ := hQ23
  subst hL23
  obtain ⟨r23, hv23, hr23⟩ : ∃ r : Int32, vq23 = some (.int r) ∧ r = (if ([(112 : Int32), (114 : Int32), (102 : Int32), (108 : Int32), (120 : Int32)] : List Int32) = tx then (1 : Int32) else (0 : Int32)) := hq23.elim (fun q => ⟨1, q.1, (if_pos q.2).symm⟩) (fun q => ⟨0, q.1, (if_neg q.2).symm⟩)
  subst hv23
  have N23 := Fr.app N16 (Fr.nil n0)
  have pr24 : ∀ tg, Steps pP.tables eE below (T23.setTop (mkF mM 28 #[.val (.ref x), .val (.ref al), .val (.int (4 : Int32)), .val (.int (2 : Int32)), .val (.ref a_PEER_REFLEXIVE)] [(.int r23)])) tg → Steps pP.tables eE below (s₁.setTop (entryFrame mM #[(.ref x)] 5)) tg := fun tg kg => pr22 _ (st23.trans kg)
  rw [if_neg (fun q => hk2 q.symm)] at hr23
  subst hr23
  have hin25 : ¬ ((3 : Int32) < 0 ∨ cla3.slots.size ≤ ((3 : Int32)).toNatClampNeg) := inb_of Sa3 ⟨by decide, by decide⟩
  have hat25 : cla3.slots[((3 : Int32)).toNatClampNeg]? = some (.ref a_RELAYED) := Has.at Ha3 hin25 rfl
  have pr26 : ∀ tg, Steps pP.tables eE below (T23.setTop (mkF mM 21 #[.val (.ref x), .val (.ref al), .val (.int (4 : Int32)), .val (.int (3 : Int32)), .val (.ref a_RELAYED)] [(.ref a_RELAYED)])) tg → Steps pP.tables eE below (s₁.setTop (entryFrame mM #[(.ref x)] 5)) tg := fun tg kg => pr24 _ (by
    show Steps pP.tables eE below (T23.setTop (mkF mM 28 #[.val (.ref x), .val (.ref al), .val (.int (4 : Int32)), .val (.int (2 : Int32)), .val (.ref a_PEER_REFLEXIVE)] [(.int (0 : Int32))])) _
    refine XS.ifYes X23.here hx rfl (pc0 := 28) (pc' := 34) rfl (hb hby d43_28) rfl ((if0 _ _).trans (teq (by decide)).1) (by decide) (by decide) ?_
    show Steps pP.tables eE below (T23.setTop (mkF mM 34 #[.val (.ref x), .val (.ref al), .val (.int (4 : Int32)), .val (.int (2 : Int32)), .val (.ref a_PEER_REFLEXIVE)] [])) _
    refine XS.iinc X23.here hx rfl (hb hby d43_34) rfl (l' := #[.val (.ref x), .val (.ref al), .val (.int (4 : Int32)), .val (.int (3 : Int32)), .val (.ref a_PEER_REFLEXIVE)]) rfl ?_
    show Steps pP.tables eE below (T23.setTop (mkF mM 37 #[.val (.ref x), .val (.ref al), .val (.int (4 : Int32)), .val (.int (3 : Int32)), .val (.ref a_PEER_REFLEXIVE)] [])) _
    refine XS.goto X23.here hx rfl (pc0 := 37) (pc' := 9) rfl (hb hby d43_37) (by decide) (by decide) ?_
    show Steps pP.tables eE below (T23.setTop (mkF mM 9 #[.val (.ref x), .val (.ref al), .val (.int (4 : Int32)), .val (.int (3 : Int32)), .val (.ref a_PEER_REFLEXIVE)] [])) _
    refine XS.iloadN X23.here hx rfl (hb hby d43_9) rfl ?_
    show Steps pP.tables eE below (T23.setTop (mkF mM 10 #[.val (.ref x), .val (.ref al), .val (.int (4 : Int32)), .val (.int (3 : Int32)), .val (.ref a_PEER_REFLEXIVE)] [(.int (3 : Int32))])) _
    refine XS.iloadN X23.here hx rfl (hb hby d43_10) rfl ?_
    show Steps pP.tables eE below (T23.setTop (mkF mM 11 #[.val (.ref x), .val (.ref al), .val (.int (4 : Int32)), .val (.int (3 : Int32)), .val (.ref a_PEER_REFLEXIVE)] [(.int (4 : Int32)), (.int (3 : Int32))])) _
    refine XS.icmpNo X23.here hx rfl (hb hby d43_11) rfl (tlt (by decide)).2.1 ?_
    show Steps pP.tables eE below (T23.setTop (mkF mM 14 #[.val (.ref x), .val (.ref al), .val (.int (4 : Int32)), .val (.int (3 : Int32)), .val (.ref a_PEER_REFLEXIVE)] [])) _
    refine XS.aloadN X23.here hx rfl (hb hby d43_14) rfl rfl ?_
    show Steps pP.tables eE below (T23.setTop (mkF mM 15 #[.val (.ref x), .val (.ref al), .val (.int (4 : Int32)), .val (.int (3 : Int32)), .val (.ref a_PEER_REFLEXIVE)] [(.ref al)])) _
    refine XS.iloadN X23.here hx rfl (hb hby d43_15) rfl ?_
    show Steps pP.tables eE below (T23.setTop (mkF mM 16 #[.val (.ref x), .val (.ref al), .val (.int (4 : Int32)), .val (.int (3 : Int32)), .val (.ref a_PEER_REFLEXIVE)] [(.int (3 : Int32)), (.ref al)])) _
    refine X23.aaload hx (j := (3 : Int32)) (v := (.ref a_RELAYED)) (by rw [e23]; exact Ara3.1) (State.isArrayOf_alike hZ.alike Ara3.2.1) rfl Ara3.2.2 hin25 hat25 (g := (mkF mM 16 #[.val (.ref x), .val (.ref al), .val (.int (4 : Int32)), .val (.int (3 : Int32)), .val (.ref a_PEER_REFLEXIVE)] [(.int (3 : Int32)), (.ref al)])) rfl rfl (hb hby d43_16) _ ?_
    show Steps pP.tables eE below (T23.setTop (mkF mM 17 #[.val (.ref x), .val (.ref al), .val (.int (4 : Int32)), .val (.int (3 : Int32)), .val (.ref a_PEER_REFLEXIVE)] [(.ref a_RELAYED)])) _
    refine XS.astore X23.here hx rfl (hb hby d43_17) rfl rfl (l' := #[.val (.ref x), .val (.ref al), .val (.int (4 : Int32)), .val (.int (3 : Int32)), .val (.ref a_RELAYED)]) rfl ?_
    show Steps pP.tables eE below (T23.setTop (mkF mM 19 #[.val (.ref x), .val (.ref al), .val (.int (4 : Int32)), .val (.int (3 : Int32)), .val (.ref a_RELAYED)] [])) _
    refine XS.aload X23.here hx rfl (hb hby d43_19) rfl rfl ?_
    exact kg)
  obtain ⟨T27, X27, e27, st27⟩ := getF X23 hx hZ hown (host := "") (Or.inl (hw _ (List.mem_of_getElem? (i := 92) rfl))) Via.refl e23 (Fld.ext (O).2 F_RELAYED) (g := (mkF mM 21 #[.val (.ref x), .val (.ref al), .val (.int (4 : Int32)), .val (.int (3 : Int32)), .val (.ref a_RELAYED)] [(.ref a_RELAYED)])) rfl rfl (hb hby d43_21)
  have pr28 : ∀ tg, Steps pP.tables eE below (T27.setTop (mkF mM 24 #[.val (.ref x), .val (.ref al), .val (.int (4 : Int32)), .val (.int (3 : Int32)), .val (.ref a_RELAYED)] [(.ref t_RELAYED)])) tg → Steps pP.tables eE below (s₁.setTop (entryFrame mM #[(.ref x)] 5)) tg := fun tg kg => pr26 _ (st27 _ kg)
  have pr29 : ∀ tg, Steps pP.tables eE below (T27.setTop (mkF mM 25 #[.val (.ref x), .val (.ref al), .val (.int (4 : Int32)), .val (.int (3 : Int32)), .val (.ref a_RELAYED)] [(.ref x), (.ref t_RELAYED)])) tg → Steps pP.tables eE below (s₁.setTop (entryFrame mM #[(.ref x)] 5)) tg := fun tg kg => pr28 _ (by
    show Steps pP.tables eE below (T27.setTop (mkF mM 24 #[.val (.ref x), .val (.ref al), .val (.int (4 : Int32)), .val (.int (3 : Int32)), .val (.ref a_RELAYED)] [(.ref t_RELAYED)])) _
    refine XS.aloadN X27.here hx rfl (hb hby d43_24) rfl rfl ?_
    exact kg)
  obtain ⟨cq30, kq30, qa30, qb30, qc30⟩ := isOf hZ e27 (Exa.ext (O).2 Et_RELAYED)
  obtain ⟨vq30, _, ⟨T30, L30, kk30, nn30⟩, -, X30, ⟨Lc30, hQ30, l30, y30, z30⟩, st30⟩ := X27.virtualBack hx (y := (⟨"java/lang/String", "equals", "(Ljava/lang/Object;)Z"⟩ : MethodName)) (z := (⟨"java/lang/String", "equals", "(Ljava/lang/Object;)Z"⟩ : MethodName)) hown (mvT hZ (hw _ (List.mem_of_getElem? (i := 94) rfl))) (mvT hZ (hw _ (List.mem_of_getElem? (i := 76) rfl))) (notFace_of_selects (args := #[]) (mvT hZ (hw _ (List.mem_of_getElem? (i := 78) rfl)))) (mvT hZ (hw _ (List.mem_of_getElem? (i := 78) rfl))) (mvT hZ (hw _ (List.mem_of_getElem? (i := 77) rfl))) (by decide) (StrChars.Road.eqW (W := 0) hZ (own_wE hw) (kI := 4) (hw _ (List.mem_of_getElem? (i := 2) rfl)) (cs := ([(114 : Int32), (101 : Int32), (108 : Int32), (97 : Int32), (121 : Int32)] : List Int32)) (Exa.ext (O).2 Et_RELAYED) (Fld.ext (O).2 Fv_RELAYED) (Fld.ext (O).2 Fc_RELAYED) (Arv.ext Vt_RELAYED (O).2) own_cod_relay own_bd_relay (Nat.le_of_ble_eq_true rfl) (ds := tx) E_x F_xv F_xc V_t (StrChars.Road.codOf (n := tx.length) rfl (fun c hc => (hp c hc).2)) (own_up hp) hlen (Sta.ext (O).2 S_cs) hcs (by decide) (by decide)) qa30 qc30 (g := (mkF mM 25 #[.val (.ref x), .val (.ref al), .val (.int (4 : Int32)), .val (.int (3 : Int32)), .val (.ref a_RELAYED)] [(.ref x), (.ref t_RELAYED)])) rfl (by rw [hml]; rfl) (Steps.refl _) (argsL := [(.ref x)]) (rest := []) (lenOf pd_9 rfl) rfl (by show 2 * 0 + _ ≤ _; exact Nat.le_of_eq rfl) (hb hby d43_25) (fun _ _ => ⟨rfl, e27, (by decide : 0 + 0 ≤ _), (by decide : 0 + 0 ≤ _)⟩)
  dsimp only [Pt.U, Pt.locs, Pt.cells, Pt.slots] at X30 l30 y30 z30 st30 hQ30
  subst l30 y30 z30
  obtain ⟨hq30, hL30, e30⟩ := hQ30
  subst hL30
  obtain ⟨r30, hv30, hr30⟩ : ∃ r : Int32, vq30 = some (.int r) ∧ r = (if ([(114 : Int32), (101 : Int32), (108 : Int32), (97 : Int32), (121 : Int32)] : List Int32) = tx then (1 : Int32) else (0 : Int32)) := hq30.elim (fun q => ⟨1, q.1, (if_pos q.2).symm⟩) (fun q => ⟨0, q.1, (if_neg q.2).symm⟩)
  subst hv30
  have N30 := Fr.app N23 (Fr.nil n0)
  have pr31 : ∀ tg, Steps pP.tables eE below (T30.setTop (mkF mM 28 #[.val (.ref x), .val (.ref al), .val (.int (4 : Int32)), .val (.int (3 : Int32)), .val (.ref a_RELAYED)] [(.int r30)])) tg → Steps pP.tables eE below (s₁.setTop (entryFrame mM #[(.ref x)] 5)) tg := fun tg kg => pr29 _ (st30.trans kg)
  rw [if_pos hk3.symm] at hr30
  subst hr30
  have pr32 : ∀ tg, Steps pP.tables eE below (T30.setTop (mkF mM 33 #[.val (.ref x), .val (.ref al), .val (.int (4 : Int32)), .val (.int (3 : Int32)), .val (.ref a_RELAYED)] [(.ref a_RELAYED)])) tg → Steps pP.tables eE below (s₁.setTop (entryFrame mM #[(.ref x)] 5)) tg := fun tg kg => pr31 _ (by
    show Steps pP.tables eE below (T30.setTop (mkF mM 28 #[.val (.ref x), .val (.ref al), .val (.int (4 : Int32)), .val (.int (3 : Int32)), .val (.ref a_RELAYED)] [(.int (1 : Int32))])) _
    refine XS.ifNo X30.here hx rfl (hb hby d43_28) rfl ((if0 _ _).trans (feq (by decide)).1) ?_
    show Steps pP.tables eE below (T30.setTop (mkF mM 31 #[.val (.ref x), .val (.ref al), .val (.int (4 : Int32)), .val (.int (3 : Int32)), .val (.ref a_RELAYED)] [])) _
    refine XS.aload X30.here hx rfl (hb hby d43_31) rfl rfl ?_
    exact kg)
  obtain ⟨fs, hr, hrun, hended, hW, hsame⟩ := X30.leave (v := some (.ref a_RELAYED)) (fun h => by rw [Bd.returns] at h; cases h)
  refine ⟨_, _, pr32 _ (retOut X30 hx (t := (.object "com/example/thawline/thawline/CandidateType")) Bd.returns rfl (Or.inr (Or.inr (Or.inr (Or.inr ⟨rfl, rfl, rfl⟩)))) (hb hby d43_33) hr), hrun, hended, _, _, rfl, ?_, ⟨_, rfl⟩, hW, hsame.mono (by decide) (by decide)⟩
  show Q43 Z cs al kal a_HOST t_HOST u_HOST k_HOST a_SERVER_REFLEXIVE t_SERVER_REFLEXIVE u_SERVER_REFLEXIVE k_SERVER_REFLEXIVE a_PEER_REFLEXIVE t_PEER_REFLEXIVE u_PEER_REFLEXIVE k_PEER_REFLEXIVE a_RELAYED t_RELAYED u_RELAYED k_RELAYED x t kt tx h0 n0 _ T30.heap _
  rw [e30]
  exact ⟨rfl, N30, rfl⟩
theorem d44_0 : decode prog_14_method_8_code 0 = .ok (.getstatic 58, 3) := by decide +kernel
theorem d44_3 : decode prog_14_method_8_code 3 = .ok (.astore_n 1, 1) := by decide +kernel
theorem d44_4 : decode prog_14_method_8_code 4 = .ok (.aload_n 1, 1) := by decide +kernel
theorem d44_5 : decode prog_14_method_8_code 5 = .ok (.arraylength, 1) := by decide +kernel
theorem d44_6 : decode prog_14_method_8_code 6 = .ok (.istore_n 2, 1) := by decide +kernel
theorem d44_7 : decode prog_14_method_8_code 7 = .ok (.iconst 0, 1) := by decide +kernel
theorem d44_8 : decode prog_14_method_8_code 8 = .ok (.istore_n 3, 1) := by decide +kernel
theorem d44_9 : decode prog_14_method_8_code 9 = .ok (.iload_n 3, 1) := by decide +kernel
theorem d44_10 : decode prog_14_method_8_code 10 = .ok (.iload_n 2, 1) := by decide +kernel
theorem d44_11 : decode prog_14_method_8_code 11 = .ok (.if_icmp .ge 29, 3) := by decide +kernel
theorem d44_14 : decode prog_14_method_8_code 14 = .ok (.aload_n 1, 1) := by decide +kernel
theorem d44_15 : decode prog_14_method_8_code 15 = .ok (.iload_n 3, 1) := by decide +kernel
theorem d44_16 : decode prog_14_method_8_code 16 = .ok (.aaload, 1) := by decide +kernel
theorem d44_17 : decode prog_14_method_8_code 17 = .ok (.astore 4, 2) := by decide +kernel
theorem d44_19 : decode prog_14_method_8_code 19 = .ok (.aload 4, 2) := by decide +kernel
theorem d44_21 : decode prog_14_method_8_code 21 = .ok (.getfield 35, 3) := by decide +kernel
theorem d44_24 : decode prog_14_method_8_code 24 = .ok (.aload_n 0, 1) := by decide +kernel
theorem d44_25 : decode prog_14_method_8_code 25 = .ok (.invokevirtual 61, 3) := by decide +kernel
theorem d44_28 : decode prog_14_method_8_code 28 = .ok (.ifCond .eq 6, 3) := by decide +kernel
theorem d44_34 : decode prog_14_method_8_code 34 = .ok (.iinc 3 1, 3) := by decide +kernel
theorem d44_37 : decode prog_14_method_8_code 37 = .ok (.goto (-28), 3) := by decide +kernel
theorem d44_40 : decode prog_14_method_8_code 40 = .ok (.aconst_null, 1) := by decide +kernel
theorem d44_41 : decode prog_14_method_8_code 41 = .ok (.areturn, 1) := by decide +kernel
theorem ef_44 (mM : MethodId) (x0 : Addr) : entryFrame mM #[(.ref x0)] 5 = mkF mM 0 #[.val (.ref x0), .unset, .unset, .unset, .unset] [] := by first | (simp [entryFrame, mkF, argsToLocals, Value.category]; done) | rfl
def Q44 (Z : State) (cs : Int32) (al : Addr) (kal : ClassId) (a_HOST : Addr) (t_HOST : Addr) (u_HOST : Addr) (k_HOST : ClassId) (a_SERVER_REFLEXIVE : Addr) (t_SERVER_REFLEXIVE : Addr) (u_SERVER_REFLEXIVE : Addr) (k_SERVER_REFLEXIVE : ClassId) (a_PEER_REFLEXIVE : Addr) (t_PEER_REFLEXIVE : Addr) (u_PEER_REFLEXIVE : Addr) (k_PEER_REFLEXIVE : ClassId) (a_RELAYED : Addr) (t_RELAYED : Addr) (u_RELAYED : Addr) (k_RELAYED : ClassId) (x : Addr) (t : Addr) (kt : ClassId) (tx : List Int32) (h0 : Heap) (n0 : Nat) (v : Option Value) (h : Heap) (L : List Loc) : Prop := v = some .null ∧ Fr n0 L ∧ h = h0
set_option maxRecDepth 65536 in
set_option maxHeartbeats 40000000 in
theorem rm44 (l : Launch) (Z : State) (a0 : Array Value) (hw : ∀ d ∈ tables_1, d.before a0 Z = true) (ws : List Jvm.Cond) (cs : Int32) (al : Addr) (kal : ClassId) (a_HOST : Addr) (t_HOST : Addr) (u_HOST : Addr) (k_HOST : ClassId) (a_SERVER_REFLEXIVE : Addr) (t_SERVER_REFLEXIVE : Addr) (u_SERVER_REFLEXIVE : Addr) (k_SERVER_REFLEXIVE : ClassId) (a_PEER_REFLEXIVE : Addr) (t_PEER_REFLEXIVE : Addr) (u_PEER_REFLEXIVE : Addr) (k_PEER_REFLEXIVE : ClassId) (a_RELAYED : Addr) (t_RELAYED : Addr) (u_RELAYED : Addr) (k_RELAYED : ClassId) (x : Addr) (t : Addr) (kt : ClassId) (tx : List Int32) (h0 : Heap) (n0 : Nat) (Z0 : n0 ≤ h0.size) (O : Old Z n0 h0) (S_cs : Sta Z Z.heap "java/lang/String" "COMPACT_STRINGS" "Z" (.int cs)) (hcs : ¬ cs = (0 : Int32)) (S_ALL : Sta Z Z.heap "com/example/thawline/thawline/CandidateType" "ALL" "[Lcom/example/thawline/thawline/CandidateType;" (.ref al)) (V_ALL : Arv Z Z.heap al kal (.object "com/example/thawline/thawline/CandidateType") (4 : Int32) [(.ref a_HOST), (.ref a_SERVER_REFLEXIVE), (.ref a_PEER_REFLEXIVE), (.ref a_RELAYED)] .null) (S_HOST : Sta Z Z.heap "com/example/thawline/thawline/CandidateType" "HOST" "Lcom/example/thawline/thawline/CandidateType;" (.ref a_HOST)) (E_HOST : Exa Z Z.heap a_HOST "com/example/thawline/thawline/CandidateType") (F_HOST : Fld Z Z.heap a_HOST "com/example/thawline/thawline/CandidateType" "token" "Ljava/lang/String;" (.ref t_HOST)) (Et_HOST : Exa Z Z.heap t_HOST "java/lang/String") (Fc_HOST : Fld Z Z.heap t_HOST "java/lang/String" "coder" "B" (.int (0 : Int32))) (Fv_HOST : Fld Z Z.heap t_HOST "java/lang/String" "value" "[B" (.ref u_HOST)) (Vt_HOST : Arv Z Z.heap u_HOST k_HOST .byte (4 : Int32) [(.int (104 : Int32)), (.int (111 : Int32)), (.int (115 : Int32)), (.int (116 : Int32))] (.int (0 : Int32))) (S_SERVER_REFLEXIVE : Sta Z Z.heap "com/example/thawline/thawline/CandidateType" "SERVER_REFLEXIVE" "Lcom/example/thawline/thawline/CandidateType;" (.ref a_SERVER_REFLEXIVE)) (E_SERVER_REFLEXIVE : Exa Z Z.heap a_SERVER_REFLEXIVE "com/example/thawline/thawline/CandidateType") (F_SERVER_REFLEXIVE : Fld Z Z.heap a_SERVER_REFLEXIVE "com/example/thawline/thawline/CandidateType" "token" "Ljava/lang/String;" (.ref t_SERVER_REFLEXIVE)) (Et_SERVER_REFLEXIVE : Exa Z Z.heap t_SERVER_REFLEXIVE "java/lang/String") (Fc_SERVER_REFLEXIVE : Fld Z Z.heap t_SERVER_REFLEXIVE "java/lang/String" "coder" "B" (.int (0 : Int32))) (Fv_SERVER_REFLEXIVE : Fld Z Z.heap t_SERVER_REFLEXIVE "java/lang/String" "value" "[B" (.ref u_SERVER_REFLEXIVE)) (Vt_SERVER_REFLEXIVE : Arv Z Z.heap u_SERVER_REFLEXIVE k_SERVER_REFLEXIVE .byte (5 : Int32) [(.int (115 : Int32)), (.int (114 : Int32)), (.int (102 : Int32)), (.int (108 : Int32)), (.int (120 : Int32))] (.int (0 : Int32))) (S_PEER_REFLEXIVE : Sta Z Z.heap "com/example/thawline/thawline/CandidateType" "PEER_REFLEXIVE" "Lcom/example/thawline/thawline/CandidateType;" (.ref a_PEER_REFLEXIVE)) (E_PEER_REFLEXIVE : Exa Z Z.heap a_PEER_REFLEXIVE "com/example/thawline/thawline/CandidateType") (F_PEER_REFLEXIVE : Fld Z Z.heap a_PEER_REFLEXIVE "com/example/thawline/thawline/CandidateType" "token" "Ljava/lang/String;" (.ref t_PEER_REFLEXIVE)) (Et_PEER_REFLEXIVE : Exa Z Z.heap t_PEER_REFLEXIVE "java/lang/String") (Fc_PEER_REFLEXIVE : Fld Z Z.heap t_PEER_REFLEXIVE "java/lang/String" "coder" "B" (.int (0 : Int32))) (Fv_PEER_REFLEXIVE : Fld Z Z.heap t_PEER_REFLEXIVE "java/lang/String" "value" "[B" (.ref u_PEER_REFLEXIVE)) (Vt_PEER_REFLEXIVE : Arv Z Z.heap u_PEER_REFLEXIVE k_PEER_REFLEXIVE .byte (5 : Int32) [(.int (112 : Int32)), (.int (114 : Int32)), (.int (102 : Int32)), (.int (108 : Int32)), (.int (120 : Int32))] (.int (0 : Int32))) (S_RELAYED : Sta Z Z.heap "com/example/thawline/thawline/CandidateType" "RELAYED" "Lcom/example/thawline/thawline/CandidateType;" (.ref a_RELAYED)) (E_RELAYED : Exa Z Z.heap a_RELAYED "com/example/thawline/thawline/CandidateType") (F_RELAYED : Fld Z Z.heap a_RELAYED "com/example/thawline/thawline/CandidateType" "token" "Ljava/lang/String;" (.ref t_RELAYED)) (Et_RELAYED : Exa Z Z.heap t_RELAYED "java/lang/String") (Fc_RELAYED : Fld Z Z.heap t_RELAYED "java/lang/String" "coder" "B" (.int (0 : Int32))) (Fv_RELAYED : Fld Z Z.heap t_RELAYED "java/lang/String" "value" "[B" (.ref u_RELAYED)) (Vt_RELAYED : Arv Z Z.heap u_RELAYED k_RELAYED .byte (5 : Int32) [(.int (114 : Int32)), (.int (101 : Int32)), (.int (108 : Int32)), (.int (97 : Int32)), (.int (121 : Int32))] (.int (0 : Int32))) (E_x : Exa Z h0 x "java/lang/String") (F_xv : Fld Z h0 x "java/lang/String" "value" "[B" (.ref t)) (F_xc : Fld Z h0 x "java/lang/String" "coder" "B" (.int (0 : Int32))) (V_t : Arv Z h0 t kt .byte (Int32.ofNat tx.length) ((tx.map StrChars.lo8).map Value.int) (.int (0 : Int32))) (hp : ∀ c ∈ tx, ¬ c < 0 ∧ ¬ (255 : Int32) < c) (hlen : tx.length ≤ 4000) (hk0 : ¬ tx = ([(104 : Int32), (111 : Int32), (115 : Int32), (116 : Int32)] : List Int32)) (hk1 : ¬ tx = ([(115 : Int32), (114 : Int32), (102 : Int32), (108 : Int32), (120 : Int32)] : List Int32)) (hk2 : ¬ tx = ([(112 : Int32), (114 : Int32), (102 : Int32), (108 : Int32), (120 : Int32)] : List Int32)) (hk3 : ¬ tx = ([(114 : Int32), (101 : Int32), (108 : Int32), (97 : Int32), (121 : Int32)] : List Int32)) :
    MetFree l (⟨"com/example/thawline/thawline/CandidateType", "ofToken", "(Ljava/lang/String;)Lcom/example/thawline/thawline/CandidateType;"⟩ : MethodName) (head1 (Jvm.Cond.code (⟨"com/example/thawline/thawline/CandidateType", "ofToken", "(Ljava/lang/String;)Lcom/example/thawline/thawline/CandidateType;"⟩ : MethodName) prog_14_method_8_code 5 (some (.object "com/example/thawline/thawline/CandidateType")) :: ws) ({ frames := 2, cells := 0, slots := 0, locals := 28 } : Room)) (fun aA uU => aA = #[(.ref x)] ∧ Z.Warmed39 uU.vm ∧ uU.heap = h0) (fun _ _ _ _ _ => True) (fun _ uU oO uU' => ∃ vV lL, oO = .returned vV ∧ Q44 Z cs al kal a_HOST t_HOST u_HOST k_HOST a_SERVER_REFLEXIVE t_SERVER_REFLEXIVE u_SERVER_REFLEXIVE k_SERVER_REFLEXIVE a_PEER_REFLEXIVE t_PEER_REFLEXIVE u_PEER_REFLEXIVE k_PEER_REFLEXIVE a_RELAYED t_RELAYED u_RELAYED k_RELAYED x t kt tx h0 n0 vV uU'.heap lL ∧ FrameEnd uU oO uU' lL ({ frames := 2, cells := 0, slots := 0, locals := 28 } : Room).cells ({ frames := 2, cells := 0, slots := 0, locals := 28 } : Room).slots) := by
  refine MetFree.of_bodySF (plainFor_of_name pn_4) hisR ?_
  intro pP eE sS mM args below meth cC s₁ Bd hml0 hP hK
  obtain ⟨rfl, hZ, hh⟩ := hP
  have hx := Bd.exec
  have hby := Bd.bytes
  have hml : cC.maxLocals = 5 := hml0
  have hown : sS.vm.findClass "com/example/thawline/thawline/CandidateType" = some mM.cls := findClass_of_methodNamed Bd.named
  have hnm := (name_of_methodNamed Bd.named Bd.method).1
  have X0 : Stand pP l eE ({ frames := 2, cells := 0, slots := 0, locals := 28 } : Room) sS mM #[(.ref x)] below meth cC s₁ [] 0 0 := Stand.of_body Bd
  have e0 : s₁.heap = h0 := by rw [← hh, Bd.state]; rfl
  have N0 := Fr.nil n0
  have pre0 : ∀ tg, Steps pP.tables eE below (s₁.setTop (mkF mM 0 #[.val (.ref x), .unset, .unset, .unset, .unset] [])) tg → Steps pP.tables eE below (s₁.setTop (entryFrame mM #[(.ref x)] 5)) tg := fun tg kg => castTop (ef_44 mM x) kg
  obtain ⟨T1, X1, e1, st1⟩ := getS2 X0 hx hZ hown (host := "") (Or.inl (hw _ (List.mem_of_getElem? (i := 90) rfl))) Via.refl e0 (Sta.ext (O).2 S_ALL) (g := (mkF mM 0 #[.val (.ref x), .unset, .unset, .unset, .unset] [])) rfl (hb hby d44_0)
  have pr2 : ∀ tg, Steps pP.tables eE below (T1.setTop (mkF mM 3 #[.val (.ref x), .unset, .unset, .unset, .unset] [(.ref al)])) tg → Steps pP.tables eE below (s₁.setTop (entryFrame mM #[(.ref x)] 5)) tg := fun tg kg => pre0 _ (st1 _ kg)
  obtain ⟨cla3, Ara3, qa3, Sa3, Ma3, Ha3, Ga3⟩ := id (Arv.ext V_ALL (O).2)
  have hin4 : ¬ ((0 : Int32) < 0 ∨ cla3.slots.size ≤ ((0 : Int32)).toNatClampNeg) := inb_of Sa3 ⟨by decide, by decide⟩
  have hat4 : cla3.slots[((0 : Int32)).toNatClampNeg]? = some (.ref a_HOST) := Has.at Ha3 hin4 rfl
  have pr5 : ∀ tg, Steps pP.tables eE below (T1.setTop (mkF mM 21 #[.val (.ref x), .val (.ref al), .val (.int (4 : Int32)), .val (.int (0 : Int32)), .val (.ref a_HOST)] [(.ref a_HOST)])) tg → Steps pP.tables eE below (s₁.setTop (entryFrame mM #[(.ref x)] 5)) tg := fun tg kg => pr2 _ (by
    show Steps pP.tables eE below (T1.setTop (mkF mM 3 #[.val (.ref x), .unset, .unset, .unset, .unset] [(.ref al)])) _
    refine XS.astoreN X1.here hx rfl (hb hby d44_3) rfl rfl (l' := #[.val (.ref x), .val (.ref al), .unset, .unset, .unset]) rfl ?_
    show Steps pP.tables eE below (T1.setTop (mkF mM 4 #[.val (.ref x), .val (.ref al), .unset, .unset, .unset] [])) _
    refine XS.aloadN X1.here hx rfl (hb hby d44_4) rfl rfl ?_
    show Steps pP.tables eE below (T1.setTop (mkF mM 5 #[.val (.ref x), .val (.ref al), .unset, .unset, .unset] [(.ref al)])) _
    refine X1.arraylength hx (by rw [e1]; exact Ara3.1) (State.isArrayOf_alike hZ.alike Ara3.2.1) (g := (mkF mM 5 #[.val (.ref x), .val (.ref al), .unset, .unset, .unset] [(.ref al)])) rfl rfl (hb hby d44_5) _ ?_
    rw [len_of Sa3 Ma3]
    show Steps pP.tables eE below (T1.setTop (mkF mM 6 #[.val (.ref x), .val (.ref al), .unset, .unset, .unset] [(.int (4 : Int32))])) _
    refine XS.istoreN X1.here hx rfl (hb hby d44_6) rfl (l' := #[.val (.ref x), .val (.ref al), .val (.int (4 : Int32)), .unset, .unset]) rfl ?_
    show Steps pP.tables eE below (T1.setTop (mkF mM 7 #[.val (.ref x), .val (.ref al), .val (.int (4 : Int32)), .unset, .unset] [])) _
    refine XS.iconst X1.here hx rfl (hb hby d44_7) ?_
    show Steps pP.tables eE below (T1.setTop (mkF mM 8 #[.val (.ref x), .val (.ref al), .val (.int (4 : Int32)), .unset, .unset] [(.int (0 : Int32))])) _
    refine XS.istoreN X1.here hx rfl (hb hby d44_8) rfl (l' := #[.val (.ref x), .val (.ref al), .val (.int (4 : Int32)), .val (.int (0 : Int32)), .unset]) rfl ?_
    show Steps pP.tables eE below (T1.setTop (mkF mM 9 #[.val (.ref x), .val (.ref al), .val (.int (4 : Int32)), .val (.int (0 : Int32)), .unset] [])) _
    refine XS.iloadN X1.here hx rfl (hb hby d44_9) rfl ?_
    show Steps pP.tables eE below (T1.setTop (mkF mM 10 #[.val (.ref x), .val (.ref al), .val (.int (4 : Int32)), .val (.int (0 : Int32)), .unset] [(.int (0 : Int32))])) _
    refine XS.iloadN X1.here hx rfl (hb hby d44_10) rfl ?_
    show Steps pP.tables eE below (T1.setTop (mkF mM 11 #[.val (.ref x), .val (.ref al), .val (.int (4 : Int32)), .val (.int (0 : Int32)), .unset] [(.int (4 : Int32)), (.int (0 : Int32))])) _
    refine XS.icmpNo X1.here hx rfl (hb hby d44_11) rfl (tlt (by decide)).2.1 ?_
    show Steps pP.tables eE below (T1.setTop (mkF mM 14 #[.val (.ref x), .val (.ref al), .val (.int (4 : Int32)), .val (.int (0 : Int32)), .unset] [])) _
    refine XS.aloadN X1.here hx rfl (hb hby d44_14) rfl rfl ?_
    show Steps pP.tables eE below (T1.setTop (mkF mM 15 #[.val (.ref x), .val (.ref al), .val (.int (4 : Int32)), .val (.int (0 : Int32)), .unset] [(.ref al)])) _
    refine XS.iloadN X1.here hx rfl (hb hby d44_15) rfl ?_
    show Steps pP.tables eE below (T1.setTop (mkF mM 16 #[.val (.ref x), .val (.ref al), .val (.int (4 : Int32)), .val (.int (0 : Int32)), .unset] [(.int (0 : Int32)), (.ref al)])) _
    refine X1.aaload hx (j := (0 : Int32)) (v := (.ref a_HOST)) (by rw [e1]; exact Ara3.1) (State.isArrayOf_alike hZ.alike Ara3.2.1) rfl Ara3.2.2 hin4 hat4 (g := (mkF mM 16 #[.val (.ref x), .val (.ref al), .val (.int (4 : Int32)), .val (.int (0 : Int32)), .unset] [(.int (0 : Int32)), (.ref al)])) rfl rfl (hb hby d44_16) _ ?_
    show Steps pP.tables eE below (T1.setTop (mkF mM 17 #[.val (.ref x), .val (.ref al), .val (.int (4 : Int32)), .val (.int (0 : Int32)), .unset] [(.ref a_HOST)])) _
    refine XS.astore X1.here hx rfl (hb hby d44_17) rfl rfl (l' := #[.val (.ref x), .val (.ref al), .val (.int (4 : Int32)), .val (.int (0 : Int32)), .val (.ref a_HOST)]) rfl ?_
    show Steps pP.tables eE below (T1.setTop (mkF mM 19 #[.val (.ref x), .val (.ref al), .val (.int (4 : Int32)), .val (.int (0 : Int32)), .val (.ref a_HOST)] [])) _
    refine XS.aload X1.here hx rfl (hb hby d44_19) rfl rfl ?_
    exact kg)
  obtain ⟨T6, X6, e6, st6⟩ := getF X1 hx hZ hown (host := "") (Or.inl (hw _ (List.mem_of_getElem? (i := 92) rfl))) Via.refl e1 (Fld.ext (O).2 F_HOST) (g := (mkF mM 21 #[.val (.ref x), .val (.ref al), .val (.int (4 : Int32)), .val (.int (0 : Int32)), .val (.ref a_HOST)] [(.ref a_HOST)])) rfl rfl (hb hby d44_21)
  have pr7 : ∀ tg, Steps pP.tables eE below (T6.setTop (mkF mM 24 #[.val (.ref x), .val (.ref al), .val (.int (4 : Int32)), .val (.int (0 : Int32)), .val (.ref a_HOST)] [(.ref t_HOST)])) tg → Steps pP.tables eE below (s₁.setTop (entryFrame mM #[(.ref x)] 5)) tg := fun tg kg => pr5 _ (st6 _ kg)
  have pr8 : ∀ tg, Steps pP.tables eE below (T6.setTop (mkF mM 25 #[.val (.ref x), .val (.ref al), .val (.int (4 : Int32)), .val (.int (0 : Int32)), .val (.ref a_HOST)] [(.ref x), (.ref t_HOST)])) tg → Steps pP.tables eE below (s₁.setTop (entryFrame mM #[(.ref x)] 5)) tg := fun tg kg => pr7 _ (by
    show Steps pP.tables eE below (T6.setTop (mkF mM 24 #[.val (.ref x), .val (.ref al), .val (.int (4 : Int32)), .val (.int (0 : Int32)), .val (.ref a_HOST)] [(.ref t_HOST)])) _
    refine XS.aloadN X6.here hx rfl (hb hby d44_24) rfl rfl ?_
    exact kg)
  obtain ⟨cq9, kq9, qa9, qb9, qc9⟩ := isOf hZ e6 (Exa.ext (O).2 Et_HOST)
  obtain ⟨vq9, _, ⟨T9, L9, kk9, nn9⟩, -, X9, ⟨Lc9, hQ9, l9, y9, z9⟩, st9⟩ := X6.virtualBack hx (y := (⟨"java/lang/String", "equals", "(Ljava/lang/Object;)Z"⟩ : MethodName)) (z := (⟨"java/lang/String", "equals", "(Ljava/lang/Object;)Z"⟩ : MethodName)) hown (mvT hZ (hw _ (List.mem_of_getElem? (i := 94) rfl))) (mvT hZ (hw _ (List.mem_of_getElem? (i := 76) rfl))) (notFace_of_selects (args := #[]) (mvT hZ (hw _ (List.mem_of_getElem? (i := 78) rfl)))) (mvT hZ (hw _ (List.mem_of_getElem? (i := 78) rfl))) (mvT hZ (hw _ (List.mem_of_getElem? (i := 77) rfl))) (by decide) (StrChars.Road.eqW (W := 0) hZ (own_wE hw) (kI := 4) (hw _ (List.mem_of_getElem? (i := 2) rfl)) (cs := ([(104 : Int32), (111 : Int32), (115 : Int32), (116 : Int32)] : List Int32)) (Exa.ext (O).2 Et_HOST) (Fld.ext (O).2 Fv_HOST) (Fld.ext (O).2 Fc_HOST) (Arv.ext Vt_HOST (O).2) own_cod_host own_bd_host (Nat.le_of_ble_eq_true rfl) (ds := tx) E_x F_xv F_xc V_t (StrChars.Road.codOf (n := tx.length) rfl (fun c hc => (hp c hc).2)) (own_up hp) hlen (Sta.ext (O).2 S_cs) hcs (by decide) (by decide)) qa9 qc9 (g := (mkF mM 25 #[.val (.ref x), .val (.ref al), .val (.int (4 : Int32)), .val (.int (0 : Int32)), .val (.ref a_HOST)] [(.ref x), (.ref t_HOST)])) rfl (by rw [hml]; rfl) (Steps.refl _) (argsL := [(.ref x)]) (rest := []) (lenOf pd_9 rfl) rfl (by show 2 * 0 + _ ≤ _; exact Nat.le_of_eq rfl) (hb hby d44_25) (fun _ _ => ⟨rfl, e6, (by decide : 0 + 0 ≤ _), (by decide : 0 + 0 ≤ _)⟩)
  dsimp only [Pt.U, Pt.locs, Pt.cells, Pt.slots] at X9 l9 y9 z9 st9 hQ9
  subst l9 y9 z9
  obtain ⟨hq9, hL9, e9⟩ := hQ9
  subst hL9
  obtain ⟨r9, hv9, hr9⟩ : ∃ r : Int32, vq9 = some (.int r) ∧ r = (if ([(104 : Int32), (111 : Int32), (115 : Int32), (116 : Int32)] : List Int32) = tx then (1 : Int32) else (0 : Int32)) := hq9.elim (fun q => ⟨1, q.1, (if_pos q.2).symm⟩) (fun q => ⟨0, q.1, (if_neg q.2).symm⟩)
  subst hv9
  have N9 := Fr.app N0 (Fr.nil n0)
  have pr10 : ∀ tg, Steps pP.tables eE below (T9.setTop (mkF mM 28 #[.val (.ref x), .val (.ref al), .val (.int (4 : Int32)), .val (.int (0 : Int32)), .val (.ref a_HOST)] [(.int r9)])) tg → Steps pP.tables eE below (s₁.setTop (entryFrame mM #[(.ref x)] 5)) tg := fun tg kg => pr8 _ (st9.trans kg)
  rw [if_neg (fun q => hk0 q.symm)] at hr9
  subst hr9
  have hin11 : ¬ ((1 : Int32) < 0 ∨ cla3.slots.size ≤ ((1 : Int32)).toNatClampNeg) := inb_of Sa3 ⟨by decide, by decide⟩
  have hat11 : cla3.slots[((1 : Int32)).toNatClampNeg]? = some (.ref a_SERVER_REFLEXIVE) := Has.at Ha3 hin11 rfl
  have pr12 : ∀ tg, Steps pP.tables eE below (T9.setTop (mkF mM 21 #[.val (.ref x), .val (.ref al), .val (.int (4 : Int32)), .val (.int (1 : Int32)), .val (.ref a_SERVER_REFLEXIVE)] [(.ref a_SERVER_REFLEXIVE)])) tg → Steps pP.tables eE below (s₁.setTop (entryFrame mM #[(.ref x)] 5)) tg := fun tg kg => pr10 _ (by
    show Steps pP.tables eE below (T9.setTop (mkF mM 28 #[.val (.ref x), .val (.ref al), .val (.int (4 : Int32)), .val (.int (0 : Int32)), .val (.ref a_HOST)] [(.int (0 : Int32))])) _
    refine XS.ifYes X9.here hx rfl (pc0 := 28) (pc' := 34) rfl (hb hby d44_28) rfl ((if0 _ _).trans (teq (by decide)).1) (by decide) (by decide) ?_
    show Steps pP.tables eE below (T9.setTop (mkF mM 34 #[.val (.ref x), .val (.ref al), .val (.int (4 : Int32)), .val (.int (0 : Int32)), .val (.ref a_HOST)] [])) _
    refine XS.iinc X9.here hx rfl (hb hby d44_34) rfl (l' := #[.val (.ref x), .val (.ref al), .val (.int (4 : Int32)), .val (.int (1 : Int32)), .val (.ref a_HOST)]) rfl ?_
    show Steps pP.tables eE below (T9.setTop (mkF mM 37 #[.val (.ref x), .val (.ref al), .val (.int (4 : Int32)), .val (.int (1 : Int32)), .val (.ref a_HOST)] [])) _
    refine XS.goto X9.here hx rfl (pc0 := 37) (pc' := 9) rfl (hb hby d44_37) (by decide) (by decide) ?_
    show Steps pP.tables eE below (T9.setTop (mkF mM 9 #[.val (.ref x), .val (.ref al), .val (.int (4 : Int32)), .val (.int (1 : Int32)), .val (.ref a_HOST)] [])) _
    refine XS.iloadN X9.here hx rfl (hb hby d44_9) rfl ?_
    show Steps pP.tables eE below (T9.setTop (mkF mM 10 #[.val (.ref x), .val (.ref al), .val (.int (4 : Int32)), .val (.int (1 : Int32)), .val (.ref a_HOST)] [(.int (1 : Int32))])) _
    refine XS.iloadN X9.here hx rfl (hb hby d44_10) rfl ?_
    show Steps pP.tables eE below (T9.setTop (mkF mM 11 #[.val (.ref x), .val (.ref al), .val (.int (4 : Int32)), .val (.int (1 : Int32)), .val (.ref a_HOST)] [(.int (4 : Int32)), (.int (1 : Int32))])) _
    refine XS.icmpNo X9.here hx rfl (hb hby d44_11) rfl (tlt (by decide)).2.1 ?_
    show Steps pP.tables eE below (T9.setTop (mkF mM 14 #[.val (.ref x), .val (.ref al), .val (.int (4 : Int32)), .val (.int (1 : Int32)), .val (.ref a_HOST)] [])) _
    refine XS.aloadN X9.here hx rfl (hb hby d44_14) rfl rfl ?_
    show Steps pP.tables eE below (T9.setTop (mkF mM 15 #[.val (.ref x), .val (.ref al), .val (.int (4 : Int32)), .val (.int (1 : Int32)), .val (.ref a_HOST)] [(.ref al)])) _
    refine XS.iloadN X9.here hx rfl (hb hby d44_15) rfl ?_
    show Steps pP.tables eE below (T9.setTop (mkF mM 16 #[.val (.ref x), .val (.ref al), .val (.int (4 : Int32)), .val (.int (1 : Int32)), .val (.ref a_HOST)] [(.int (1 : Int32)), (.ref al)])) _
    refine X9.aaload hx (j := (1 : Int32)) (v := (.ref a_SERVER_REFLEXIVE)) (by rw [e9]; exact Ara3.1) (State.isArrayOf_alike hZ.alike Ara3.2.1) rfl Ara3.2.2 hin11 hat11 (g := (mkF mM 16 #[.val (.ref x), .val (.ref al), .val (.int (4 : Int32)), .val (.int (1 : Int32)), .val (.ref a_HOST)] [(.int (1 : Int32)), (.ref al)])) rfl rfl (hb hby d44_16) _ ?_
    show Steps pP.tables eE below (T9.setTop (mkF mM 17 #[.val (.ref x), .val (.ref al), .val (.int (4 : Int32)), .val (.int (1 : Int32)), .val (.ref a_HOST)] [(.ref a_SERVER_REFLEXIVE)])) _
    refine XS.astore X9.here hx rfl (hb hby d44_17) rfl rfl (l' := #[.val (.ref x), .val (.ref al), .val (.int (4 : Int32)), .val (.int (1 : Int32)), .val (.ref a_SERVER_REFLEXIVE)]) rfl ?_
    show Steps pP.tables eE below (T9.setTop (mkF mM 19 #[.val (.ref x), .val (.ref al), .val (.int (4 : Int32)), .val (.int (1 : Int32)), .val (.ref a_SERVER_REFLEXIVE)] [])) _
    refine XS.aload X9.here hx rfl (hb hby d44_19) rfl rfl ?_
    exact kg)
  obtain ⟨T13, X13, e13, st13⟩ := getF X9 hx hZ hown (host := "") (Or.inl (hw _ (List.mem_of_getElem? (i := 92) rfl))) Via.refl e9 (Fld.ext (O).2 F_SERVER_REFLEXIVE) (g := (mkF mM 21 #[.val (.ref x), .val (.ref al), .val (.int (4 : Int32)), .val (.int (1 : Int32)), .val (.ref a_SERVER_REFLEXIVE)] [(.ref a_SERVER_REFLEXIVE)])) rfl rfl (hb hby d44_21)
  have pr14 : ∀ tg, Steps pP.tables eE below (T13.setTop (mkF mM 24 #[.val (.ref x), .val (.ref al), .val (.int (4 : Int32)), .val (.int (1 : Int32)), .val (.ref a_SERVER_REFLEXIVE)] [(.ref t_SERVER_REFLEXIVE)])) tg → Steps pP.tables eE below (s₁.setTop (entryFrame mM #[(.ref x)] 5)) tg := fun tg kg => pr12 _ (st13 _ kg)
  have pr15 : ∀ tg, Steps pP.tables eE below (T13.setTop (mkF mM 25 #[.val (.ref x), .val (.ref al), .val (.int (4 : Int32)), .val (.int (1 : Int32)), .val (.ref a_SERVER_REFLEXIVE)] [(.ref x), (.ref t_SERVER_REFLEXIVE)])) tg → Steps pP.tables eE below (s₁.setTop (entryFrame mM #[(.ref x)] 5)) tg := fun tg kg => pr14 _ (by
    show Steps pP.tables eE below (T13.setTop (mkF mM 24 #[.val (.ref x), .val (.ref al), .val (.int (4 : Int32)), .val (.int (1 : Int32)), .val (.ref a_SERVER_REFLEXIVE)] [(.ref t_SERVER_REFLEXIVE)])) _
    refine XS.aloadN X13.here hx rfl (hb hby d44_24) rfl rfl ?_
    exact kg)
  obtain ⟨cq16, kq16, qa16, qb16, qc16⟩ := isOf hZ e13 (Exa.ext (O).2 Et_SERVER_REFLEXIVE)
  obtain ⟨vq16, _, ⟨T16, L16, kk16, nn16⟩, -, X16, ⟨Lc16, hQ16, l16, y16, z16⟩, st16⟩ := X13.virtualBack hx (y := (⟨"java/lang/String", "equals", "(Ljava/lang/Object;)Z"⟩ : MethodName)) (z := (⟨"java/lang/String", "equals", "(Ljava/lang/Object;)Z"⟩ : MethodName)) hown (mvT hZ (hw _ (List.mem_of_getElem? (i := 94) rfl))) (mvT hZ (hw _ (List.mem_of_getElem? (i := 76) rfl))) (notFace_of_selects (args := #[]) (mvT hZ (hw _ (List.mem_of_getElem? (i := 78) rfl)))) (mvT hZ (hw _ (List.mem_of_getElem? (i := 78) rfl))) (mvT hZ (hw _ (List.mem_of_getElem? (i := 77) rfl))) (by decide) (StrChars.Road.eqW (W := 0) hZ (own_wE hw) (kI := 4) (hw _ (List.mem_of_getElem? (i := 2) rfl)) (cs := ([(115 : Int32), (114 : Int32), (102 : Int32), (108 : Int32), (120 : Int32)] : List Int32)) (Exa.ext (O).2 Et_SERVER_REFLEXIVE) (Fld.ext (O).2 Fv_SERVER_REFLEXIVE) (Fld.ext (O).2 Fc_SERVER_REFLEXIVE) (Arv.ext Vt_SERVER_REFLEXIVE (O).2) own_cod_srflx own_bd_srflx (Nat.le_of_ble_eq_true rfl) (ds := tx) E_x F_xv F_xc V_t (StrChars.Road.codOf (n := tx.length) rfl (fun c hc => (hp c hc).2)) (own_up hp) hlen (Sta.ext (O).2 S_cs) hcs (by decide) (by decide)) qa16 qc16 (g := (mkF mM 25 #[.val (.ref x), .val (.ref al), .val (.int (4 : Int32)), .val (.int (1 : Int32)), .val (.ref a_SERVER_REFLEXIVE)] [(.ref x), (.ref t_SERVER_REFLEXIVE)])) rfl (by rw [hml]; rfl) (Steps.refl _) (argsL := [(.ref x)]) (rest := []) (lenOf pd_9 rfl) rfl (by show 2 * 0 + _ ≤ _; exact Nat.le_of_eq rfl) (hb hby d44_25) (fun _ _ => ⟨rfl, e13, (by decide : 0 + 0 ≤ _), (by decide : 0 + 0 ≤ _)⟩)
  dsimp only [Pt.U, Pt.locs, Pt.cells, Pt.slots] at X16 l16 y16 z16 st16 hQ16
  subst l16 y16 z16
  obtain ⟨hq16, hL16, e16⟩ := hQ16
  subst hL16
  obtain ⟨r16, hv16, hr16⟩ : ∃ r : Int32, vq16 = some (.int r) ∧ r = (if ([(115 : Int32), (114 : Int32), (102 : Int32), (108 : Int32), (120 : Int32)] : List Int32) = tx then (1 : Int32) else (0 : Int32)) := hq16.elim (fun q => ⟨1, q.1, (if_pos q.2).symm⟩) (fun q => ⟨0, q.1, (if_neg q.2).symm⟩)
  subst hv16
  have N16 := Fr.app N9 (Fr.nil n0)
  have pr17 : ∀ tg, Steps pP.tables eE below (T16.setTop (mkF mM 28 #[.val (.ref x), .val (.ref al), .val (.int (4 : Int32)), .val (.int (1 : Int32)), .val (.ref a_SERVER_REFLEXIVE)] [(.int r16)])) tg → Steps pP.tables eE below (s₁.setTop (entryFrame mM #[(.ref x)] 5)) tg := fun tg kg => pr15 _ (st16.trans kg)
  rw [if_neg (fun q => hk1 q.symm)] at hr16
  subst hr16
  have hin18 : ¬ ((2 : Int32) < 0 ∨ cla3.slots.size ≤ ((2 : Int32)).toNatClampNeg) := inb_of Sa3 ⟨by decide, by decide⟩
  have hat18 : cla3.slots[((2 : Int32)).toNatClampNeg]? = some (.ref a_PEER_REFLEXIVE) := Has.at Ha3 hin18 rfl
  have pr19 : ∀ tg, Steps pP.tables eE below (T16.setTop (mkF mM 21 #[.val (.ref x), .val (.ref al), .val (.int (4 : Int32)), .val (.int (2 : Int32)), .val (.ref a_PEER_REFLEXIVE)] [(.ref a_PEER_REFLEXIVE)])) tg → Steps pP.tables eE below (s₁.setTop (entryFrame mM #[(.ref x)] 5)) tg := fun tg kg => pr17 _ (by
    show Steps pP.tables eE below (T16.setTop (mkF mM 28 #[.val (.ref x), .val (.ref al), .val (.int (4 : Int32)), .val (.int (1 : Int32)), .val (.ref a_SERVER_REFLEXIVE)] [(.int (0 : Int32))])) _
    refine XS.ifYes X16.here hx rfl (pc0 := 28) (pc' := 34) rfl (hb hby d44_28) rfl ((if0 _ _).trans (teq (by decide)).1) (by decide) (by decide) ?_
    show Steps pP.tables eE below (T16.setTop (mkF mM 34 #[.val (.ref x), .val (.ref al), .val (.int (4 : Int32)), .val (.int (1 : Int32)), .val (.ref a_SERVER_REFLEXIVE)] [])) _
    refine XS.iinc X16.here hx rfl (hb hby d44_34) rfl (l' := #[.val (.ref x), .val (.ref al), .val (.int (4 : Int32)), .val (.int (2 : Int32)), .val (.ref a_SERVER_REFLEXIVE)]) rfl ?_
    show Steps pP.tables eE below (T16.setTop (mkF mM 37 #[.val (.ref x), .val (.ref al), .val (.int (4 : Int32)), .val (.int (2 : Int32)), .val (.ref a_SERVER_REFLEXIVE)] [])) _
    refine XS.goto X16.here hx rfl (pc0 := 37) (pc' := 9) rfl (hb hby d44_37) (by decide) (by decide) ?_
    show Steps pP.tables eE below (T16.setTop (mkF mM 9 #[.val (.ref x), .val (.ref al), .val (.int (4 : Int32)), .val (.int (2 : Int32)), .val (.ref a_SERVER_REFLEXIVE)] [])) _
    refine XS.iloadN X16.here hx rfl (hb hby d44_9) rfl ?_
    show Steps pP.tables eE below (T16.setTop (mkF mM 10 #[.val (.ref x), .val (.ref al), .val (.int (4 : Int32)), .val (.int (2 : Int32)), .val (.ref a_SERVER_REFLEXIVE)] [(.int (2 : Int32))])) _
    refine XS.iloadN X16.here hx rfl (hb hby d44_10) rfl ?_
    show Steps pP.tables eE below (T16.setTop (mkF mM 11 #[.val (.ref x), .val (.ref al), .val (.int (4 : Int32)), .val (.int (2 : Int32)), .val (.ref a_SERVER_REFLEXIVE)] [(.int (4 : Int32)), (.int (2 : Int32))])) _
    refine XS.icmpNo X16.here hx rfl (hb hby d44_11) rfl (tlt (by decide)).2.1 ?_
    show Steps pP.tables eE below (T16.setTop (mkF mM 14 #[.val (.ref x), .val (.ref al), .val (.int (4 : Int32)), .val (.int (2 : Int32)), .val (.ref a_SERVER_REFLEXIVE)] [])) _
    refine XS.aloadN X16.here hx rfl (hb hby d44_14) rfl rfl ?_
    show Steps pP.tables eE below (T16.setTop (mkF mM 15 #[.val (.ref x), .val (.ref al), .val (.int (4 : Int32)), .val (.int (2 : Int32)), .val (.ref a_SERVER_REFLEXIVE)] [(.ref al)])) _
    refine XS.iloadN X16.here hx rfl (hb hby d44_15) rfl ?_
    show Steps pP.tables eE below (T16.setTop (mkF mM 16 #[.val (.ref x), .val (.ref al), .val (.int (4 : Int32)), .val (.int (2 : Int32)), .val (.ref a_SERVER_REFLEXIVE)] [(.int (2 : Int32)), (.ref al)])) _
    refine X16.aaload hx (j := (2 : Int32)) (v := (.ref a_PEER_REFLEXIVE)) (by rw [e16]; exact Ara3.1) (State.isArrayOf_alike hZ.alike Ara3.2.1) rfl Ara3.2.2 hin18 hat18 (g := (mkF mM 16 #[.val (.ref x), .val (.ref al), .val (.int (4 : Int32)), .val (.int (2 : Int32)), .val (.ref a_SERVER_REFLEXIVE)] [(.int (2 : Int32)), (.ref al)])) rfl rfl (hb hby d44_16) _ ?_
    show Steps pP.tables eE below (T16.setTop (mkF mM 17 #[.val (.ref x), .val (.ref al), .val (.int (4 : Int32)), .val (.int (2 : Int32)), .val (.ref a_SERVER_REFLEXIVE)] [(.ref a_PEER_REFLEXIVE)])) _
    refine XS.astore X16.here hx rfl (hb hby d44_17) rfl rfl (l' := #[.val (.ref x), .val (.ref al), .val (.int (4 : Int32)), .val (.int (2 : Int32)), .val (.ref a_PEER_REFLEXIVE)]) rfl ?_
    show Steps pP.tables eE below (T16.setTop (mkF mM 19 #[.val (.ref x), .val (.ref al), .val (.int (4 : Int32)), .val (.int (2 : Int32)), .val (.ref a_PEER_REFLEXIVE)] [])) _
    refine XS.aload X16.here hx rfl (hb hby d44_19) rfl rfl ?_
    exact kg)
  obtain ⟨T20, X20, e20, st20⟩ := getF X16 hx hZ hown (host := "") (Or.inl (hw _ (List.mem_of_getElem? (i := 92) rfl))) Via.refl e16 (Fld.ext (O).2 F_PEER_REFLEXIVE) (g := (mkF mM 21 #[.val (.ref x), .val (.ref al), .val (.int (4 : Int32)), .val (.int (2 : Int32)), .val (.ref a_PEER_REFLEXIVE)] [(.ref a_PEER_REFLEXIVE)])) rfl rfl (hb hby d44_21)
  have pr21 : ∀ tg, Steps pP.tables eE below (T20.setTop (mkF mM 24 #[.val (.ref x), .val (.ref al), .val (.int (4 : Int32)), .val (.int (2 : Int32)), .val (.ref a_PEER_REFLEXIVE)] [(.ref t_PEER_REFLEXIVE)])) tg → Steps pP.tables eE below (s₁.setTop (entryFrame mM #[(.ref x)] 5)) tg := fun tg kg => pr19 _ (st20 _ kg)
  have pr22 : ∀ tg, Steps pP.tables eE below (T20.setTop (mkF mM 25 #[.val (.ref x), .val (.ref al), .val (.int (4 : Int32)), .val (.int (2 : Int32)), .val (.ref a_PEER_REFLEXIVE)] [(.ref x), (.ref t_PEER_REFLEXIVE)])) tg → Steps pP.tables eE below (s₁.setTop (entryFrame mM #[(.ref x)] 5)) tg := fun tg kg => pr21 _ (by
    show Steps pP.tables eE below (T20.setTop (mkF mM 24 #[.val (.ref x), .val (.ref al), .val (.int (4 : Int32)), .val (.int (2 : Int32)), .val (.ref a_PEER_REFLEXIVE)] [(.ref t_PEER_REFLEXIVE)])) _
    refine XS.aloadN X20.here hx rfl (hb hby d44_24) rfl rfl ?_
    exact kg)
  obtain ⟨cq23, kq23, qa23, qb23, qc23⟩ := isOf hZ e20 (Exa.ext (O).2 Et_PEER_REFLEXIVE)
  obtain ⟨vq23, _, ⟨T23, L23, kk23, nn23⟩, -, X23, ⟨Lc23, hQ23, l23, y23, z23⟩, st23⟩ := X20.virtualBack hx (y := (⟨"java/lang/String", "equals", "(Ljava/lang/Object;)Z"⟩ : MethodName)) (z := (⟨"java/lang/String", "equals", "(Ljava/lang/Object;)Z"⟩ : MethodName)) hown (mvT hZ (hw _ (List.mem_of_getElem? (i := 94) rfl))) (mvT hZ (hw _ (List.mem_of_getElem? (i := 76) rfl))) (notFace_of_selects (args := #[]) (mvT hZ (hw _ (List.mem_of_getElem? (i := 78) rfl)))) (mvT hZ (hw _ (List.mem_of_getElem? (i := 78) rfl))) (mvT hZ (hw _ (List.mem_of_getElem? (i := 77) rfl))) (by decide) (StrChars.Road.eqW (W := 0) hZ (own_wE hw) (kI := 4) (hw _ (List.mem_of_getElem? (i := 2) rfl)) (cs := ([(112 : Int32), (114 : Int32), (102 : Int32), (108 : Int32), (120 : Int32)] : List Int32)) (Exa.ext (O).2 Et_PEER_REFLEXIVE) (Fld.ext (O).2 Fv_PEER_REFLEXIVE) (Fld.ext (O).2 Fc_PEER_REFLEXIVE) (Arv.ext Vt_PEER_REFLEXIVE (O).2) own_cod_prflx own_bd_prflx (Nat.le_of_ble_eq_true rfl) (ds := tx) E_x F_xv F_xc V_t (StrChars.Road.codOf (n := tx.length) rfl (fun c hc => (hp c hc).2)) (own_up hp) hlen (Sta.ext (O).2 S_cs) hcs (by decide) (by decide)) qa23 qc23 (g := (mkF mM 25 #[.val (.ref x), .val (.ref al), .val (.int (4 : Int32)), .val (.int (2 : Int32)), .val (.ref a_PEER_REFLEXIVE)] [(.ref x), (.ref t_PEER_REFLEXIVE)])) rfl (by rw [hml]; rfl) (Steps.refl _) (argsL := [(.ref x)]) (rest := []) (lenOf pd_9 rfl) rfl (by show 2 * 0 + _ ≤ _; exact Nat.le_of_eq rfl) (hb hby d44_25) (fun _ _ => ⟨rfl, e20, (by decide : 0 + 0 ≤ _), (by decide : 0 + 0 ≤ _)⟩)
  dsimp only [Pt.U, Pt.locs, Pt.cells, Pt.slots] at X23 l23 y23 z23 st23 hQ23
  subst l23 y23 z23
  obtain ⟨hq23, hL23, e23⟩ := hQ23
  subst hL23
  obtain ⟨r23, hv23, hr23⟩ : ∃ r : Int32, vq23 = some (.int r) ∧ r = (if ([(112 : Int32), (114 : Int32), (102 : Int32), (108 : Int32), (120 : Int32)] : List Int32) = tx then (1 : Int32) else (0 : Int32)) := hq23.elim (fun q => ⟨1, q.1, (if_pos q.2).symm⟩) (fun q => ⟨0, q.1, (if_neg q.2).symm⟩)
  subst hv23
  have N23 := Fr.app N16 (Fr.nil n0)
  have pr24 : ∀ tg, Steps pP.tables eE below (T23.setTop (mkF mM 28 #[.val (.ref x), .val (.ref al), .val (.int (4 : Int32)), .val (.int (2 : Int32)), .val (.ref a_PEER_REFLEXIVE)] [(.int r23)])) tg → Steps pP.tables eE below (s₁.setTop (entryFrame mM #[(.ref x)] 5)) tg := fun tg kg => pr22 _ (st23.trans kg)
  rw [if_neg (fun q => hk2 q.symm)] at hr23
  subst hr23
  have hin25 : ¬ ((3 : Int32) < 0 ∨ cla3.slots.size ≤ ((3 : Int32)).toNatClampNeg) := inb_of Sa3 ⟨by decide, by decide⟩
  have hat25 : cla3.slots[((3 : Int32)).toNatClampNeg]? = some (.ref a_RELAYED) := Has.at Ha3 hin25 rfl
  have pr26 : ∀ tg, Steps pP.tables eE below (T23.setTop (mkF mM 21 #[.val (.ref x), .val (.ref al), .val (.int (4 : Int32)), .val (.int (3 : Int32)), .val (.ref a_RELAYED)] [(.ref a_RELAYED)])) tg → Steps pP.tables eE below (s₁.setTop (entryFrame mM #[(.ref x)] 5)) tg := fun tg kg => pr24 _ (by
    show Steps pP.tables eE below (T23.setTop (mkF mM 28 #[.val (.ref x), .val (.ref al), .val (.int (4 : Int32)), .val (.int (2 : Int32)), .val (.ref a_PEER_REFLEXIVE)] [(.int (0 : Int32))])) _
    refine XS.ifYes X23.here hx rfl (pc0 := 28) (pc' := 34) rfl (hb hby d44_28) rfl ((if0 _ _).trans (teq (by decide)).1) (by decide) (by decide) ?_
    show Steps pP.tables eE below (T23.setTop (mkF mM 34 #[.val (.ref x), .val (.ref al), .val (.int (4 : Int32)), .val (.int (2 : Int32)), .val (.ref a_PEER_REFLEXIVE)] [])) _
    refine XS.iinc X23.here hx rfl (hb hby d44_34) rfl (l' := #[.val (.ref x), .val (.ref al), .val (.int (4 : Int32)), .val (.int (3 : Int32)), .val (.ref a_PEER_REFLEXIVE)]) rfl ?_
    show Steps pP.tables eE below (T23.setTop (mkF mM 37 #[.val (.ref x), .val (.ref al), .val (.int (4 : Int32)), .val (.int (3 : Int32)), .val (.ref a_PEER_REFLEXIVE)] [])) _
    refine XS.goto X23.here hx rfl (pc0 := 37) (pc' := 9) rfl (hb hby d44_37) (by decide) (by decide) ?_
    show Steps pP.tables eE below (T23.setTop (mkF mM 9 #[.val (.ref x), .val (.ref al), .val (.int (4 : Int32)), .val (.int (3 : Int32)), .val (.ref a_PEER_REFLEXIVE)] [])) _
    refine XS.iloadN X23.here hx rfl (hb hby d44_9) rfl ?_
    show Steps pP.tables eE below (T23.setTop (mkF mM 10 #[.val (.ref x), .val (.ref al), .val (.int (4 : Int32)), .val (.int (3 : Int32)), .val (.ref a_PEER_REFLEXIVE)] [(.int (3 : Int32))])) _
    refine XS.iloadN X23.here hx rfl (hb hby d44_10) rfl ?_
    show Steps pP.tables eE below (T23.setTop (mkF mM 11 #[.val (.ref x), .val (.ref al), .val (.int (4 : Int32)), .val (.int (3 : Int32)), .val (.ref a_PEER_REFLEXIVE)] [(.int (4 : Int32)), (.int (3 : Int32))])) _
    refine XS.icmpNo X23.here hx rfl (hb hby d44_11) rfl (tlt (by decide)).2.1 ?_
    show Steps pP.tables eE below (T23.setTop (mkF mM 14 #[.val (.ref x), .val (.ref al), .val (.int (4 : Int32)), .val (.int (3 : Int32)), .val (.ref a_PEER_REFLEXIVE)] [])) _
    refine XS.aloadN X23.here hx rfl (hb hby d44_14) rfl rfl ?_
    show Steps pP.tables eE below (T23.setTop (mkF mM 15 #[.val (.ref x), .val (.ref al), .val (.int (4 : Int32)), .val (.int (3 : Int32)), .val (.ref a_PEER_REFLEXIVE)] [(.ref al)])) _
    refine XS.iloadN X23.here hx rfl (hb hby d44_15) rfl ?_
    show Steps pP.tables eE below (T23.setTop (mkF mM 16 #[.val (.ref x), .val (.ref al), .val (.int (4 : Int32)), .val (.int (3 : Int32)), .val (.ref a_PEER_REFLEXIVE)] [(.int (3 : Int32)), (.ref al)])) _
    refine X23.aaload hx (j := (3 : Int32)) (v := (.ref a_RELAYED)) (by rw [e23]; exact Ara3.1) (State.isArrayOf_alike hZ.alike Ara3.2.1) rfl Ara3.2.2 hin25 hat25 (g := (mkF mM 16 #[.val (.ref x), .val (.ref al), .val (.int (4 : Int32)), .val (.int (3 : Int32)), .val (.ref a_PEER_REFLEXIVE)] [(.int (3 : Int32)), (.ref al)])) rfl rfl (hb hby d44_16) _ ?_
    show Steps pP.tables eE below (T23.setTop (mkF mM 17 #[.val (.ref x), .val (.ref al), .val (.int (4 : Int32)), .val (.int (3 : Int32)), .val (.ref a_PEER_REFLEXIVE)] [(.ref a_RELAYED)])) _
    refine XS.astore X23.here hx rfl (hb hby d44_17) rfl rfl (l' := #[.val (.ref x), .val (.ref al), .val (.int (4 : Int32)), .val (.int (3 : Int32)), .val (.ref a_RELAYED)]) rfl ?_
    show Steps pP.tables eE below (T23.setTop (mkF mM 19 #[.val (.ref x), .val (.ref al), .val (.int (4 : Int32)), .val (.int (3 : Int32)), .val (.ref a_RELAYED)] [])) _
    refine XS.aload X23.here hx rfl (hb hby d44_19) rfl rfl ?_
    exact kg)
  obtain ⟨T27, X27, e27, st27⟩ := getF X23 hx hZ hown (host := "") (Or.inl (hw _ (List.mem_of_getElem? (i := 92) rfl))) Via.refl e23 (Fld.ext (O).2 F_RELAYED) (g := (mkF mM 21 #[.val (.ref x), .val (.ref al), .val (.int (4 : Int32)), .val (.int (3 : Int32)), .val (.ref a_RELAYED)] [(.ref a_RELAYED)])) rfl rfl (hb hby d44_21)
  have pr28 : ∀ tg, Steps pP.tables eE below (T27.setTop (mkF mM 24 #[.val (.ref x), .val (.ref al), .val (.int (4 : Int32)), .val (.int (3 : Int32)), .val (.ref a_RELAYED)] [(.ref t_RELAYED)])) tg → Steps pP.tables eE below (s₁.setTop (entryFrame mM #[(.ref x)] 5)) tg := fun tg kg => pr26 _ (st27 _ kg)
  have pr29 : ∀ tg, Steps pP.tables eE below (T27.setTop (mkF mM 25 #[.val (.ref x), .val (.ref al), .val (.int (4 : Int32)), .val (.int (3 : Int32)), .val (.ref a_RELAYED)] [(.ref x), (.ref t_RELAYED)])) tg → Steps pP.tables eE below (s₁.setTop (entryFrame mM #[(.ref x)] 5)) tg := fun tg kg => pr28 _ (by
    show Steps pP.tables eE below (T27.setTop (mkF mM 24 #[.val (.ref x), .val (.ref al), .val (.int (4 : Int32)), .val (.int (3 : Int32)), .val (.ref a_RELAYED)] [(.ref t_RELAYED)])) _
    refine XS.aloadN X27.here hx rfl (hb hby d44_24) rfl rfl ?_
    exact kg)
  obtain ⟨cq30, kq30, qa30, qb30, qc30⟩ := isOf hZ e27 (Exa.ext (O).2 Et_RELAYED)
  obtain ⟨vq30, _, ⟨T30, L30, kk30, nn30⟩, -, X30, ⟨Lc30, hQ30, l30, y30, z30⟩, st30⟩ := X27.virtualBack hx (y := (⟨"java/lang/String", "equals", "(Ljava/lang/Object;)Z"⟩ : MethodName)) (z := (⟨"java/lang/String", "equals", "(Ljava/lang/Object;)Z"⟩ : MethodName)) hown (mvT hZ (hw _ (List.mem_of_getElem? (i := 94) rfl))) (mvT hZ (hw _ (List.mem_of_getElem? (i := 76) rfl))) (notFace_of_selects (args := #[]) (mvT hZ (hw _ (List.mem_of_getElem? (i := 78) rfl)))) (mvT hZ (hw _ (List.mem_of_getElem? (i := 78) rfl))) (mvT hZ (hw _ (List.mem_of_getElem? (i := 77) rfl))) (by decide) (StrChars.Road.eqW (W := 0) hZ (own_wE hw) (kI := 4) (hw _ (List.mem_of_getElem? (i := 2) rfl)) (cs := ([(114 : Int32), (101 : Int32), (108 : Int32), (97 : Int32), (121 : Int32)] : List Int32)) (Exa.ext (O).2 Et_RELAYED) (Fld.ext (O).2 Fv_RELAYED) (Fld.ext (O).2 Fc_RELAYED) (Arv.ext Vt_RELAYED (O).2) own_cod_relay own_bd_relay (Nat.le_of_ble_eq_true rfl) (ds := tx) E_x F_xv F_xc V_t (StrChars.Road.codOf (n := tx.length) rfl (fun c hc => (hp c hc).2)) (own_up hp) hlen (Sta.ext (O).2 S_cs) hcs (by decide) (by decide)) qa30 qc30 (g := (mkF mM 25 #[.val (.ref x), .val (.ref al), .val (.int (4 : Int32)), .val (.int (3 : Int32)), .val (.ref a_RELAYED)] [(.ref x), (.ref t_RELAYED)])) rfl (by rw [hml]; rfl) (Steps.refl _) (argsL := [(.ref x)]) (rest := []) (lenOf pd_9 rfl) rfl (by show 2 * 0 + _ ≤ _; exact Nat.le_of_eq rfl) (hb hby d44_25) (fun _ _ => ⟨rfl, e27, (by decide : 0 + 0 ≤ _), (by decide : 0 + 0 ≤ _)⟩)
  dsimp only [Pt.U, Pt.locs, Pt.cells, Pt.slots] at X30 l30 y30 z30 st30 hQ30
  subst l30 y30 z30
  obtain ⟨hq30, hL30, e30⟩ := hQ30
  subst hL30
  obtain ⟨r30, hv30, hr30⟩ : ∃ r : Int32, vq30 = some (.int r) ∧ r = (if ([(114 : Int32), (101 : Int32), (108 : Int32), (97 : Int32), (121 : Int32)] : List Int32) = tx then (1 : Int32) else (0 : Int32)) := hq30.elim (fun q => ⟨1, q.1, (if_pos q.2).symm⟩) (fun q => ⟨0, q.1, (if_neg q.2).symm⟩)
  subst hv30
  have N30 := Fr.app N23 (Fr.nil n0)
  have pr31 : ∀ tg, Steps pP.tables eE below (T30.setTop (mkF mM 28 #[.val (.ref x), .val (.ref al), .val (.int (4 : Int32)), .val (.int (3 : Int32)), .val (.ref a_RELAYED)] [(.int r30)])) tg → Steps pP.tables eE below (s₁.setTop (entryFrame mM #[(.ref x)] 5)) tg := fun tg kg => pr29 _ (st30.trans kg)
  rw [if_neg (fun q => hk3 q.symm)] at hr30
  subst hr30
  have pr32 : ∀ tg, Steps pP.tables eE below (T30.setTop (mkF mM 41 #[.val (.ref x), .val (.ref al), .val (.int (4 : Int32)), .val (.int (4 : Int32)), .val (.ref a_RELAYED)] [.null])) tg → Steps pP.tables eE below (s₁.setTop (entryFrame mM #[(.ref x)] 5)) tg := fun tg kg => pr31 _ (by
    show Steps pP.tables eE below (T30.setTop (mkF mM 28 #[.val (.ref x), .val (.ref al), .val (.int (4 : Int32)), .val (.int (3 : Int32)), .val (.ref a_RELAYED)] [(.int (0 : Int32))])) _
    refine XS.ifYes X30.here hx rfl (pc0 := 28) (pc' := 34) rfl (hb hby d44_28) rfl ((if0 _ _).trans (teq (by decide)).1) (by decide) (by decide) ?_
    show Steps pP.tables eE below (T30.setTop (mkF mM 34 #[.val (.ref x), .val (.ref al), .val (.int (4 : Int32)), .val (.int (3 : Int32)), .val (.ref a_RELAYED)] [])) _
    refine XS.iinc X30.here hx rfl (hb hby d44_34) rfl (l' := #[.val (.ref x), .val (.ref al), .val (.int (4 : Int32)), .val (.int (4 : Int32)), .val (.ref a_RELAYED)]) rfl ?_
    show Steps pP.tables eE below (T30.setTop (mkF mM 37 #[.val (.ref x), .val (.ref al), .val (.int (4 : Int32)), .val (.int (4 : Int32)), .val (.ref a_RELAYED)] [])) _
    refine XS.goto X30.here hx rfl (pc0 := 37) (pc' := 9) rfl (hb hby d44_37) (by decide) (by decide) ?_
    show Steps pP.tables eE below (T30.setTop (mkF mM 9 #[.val (.ref x), .val (.ref al), .val (.int (4 : Int32)), .val (.int (4 : Int32)), .val (.ref a_RELAYED)] [])) _
    refine XS.iloadN X30.here hx rfl (hb hby d44_9) rfl ?_
    show Steps pP.tables eE below (T30.setTop (mkF mM 10 #[.val (.ref x), .val (.ref al), .val (.int (4 : Int32)), .val (.int (4 : Int32)), .val (.ref a_RELAYED)] [(.int (4 : Int32))])) _
    refine XS.iloadN X30.here hx rfl (hb hby d44_10) rfl ?_
    show Steps pP.tables eE below (T30.setTop (mkF mM 11 #[.val (.ref x), .val (.ref al), .val (.int (4 : Int32)), .val (.int (4 : Int32)), .val (.ref a_RELAYED)] [(.int (4 : Int32)), (.int (4 : Int32))])) _
    refine XS.icmpYes X30.here hx rfl (pc0 := 11) (pc' := 40) rfl (hb hby d44_11) rfl (flt (by decide)).2.1 (by decide) (by decide) ?_
    show Steps pP.tables eE below (T30.setTop (mkF mM 40 #[.val (.ref x), .val (.ref al), .val (.int (4 : Int32)), .val (.int (4 : Int32)), .val (.ref a_RELAYED)] [])) _
    refine XS.aconstNull X30.here hx rfl (hb hby d44_40) ?_
    exact kg)
  obtain ⟨fs, hr, hrun, hended, hW, hsame⟩ := X30.leave (v := some .null) (fun h => by rw [Bd.returns] at h; cases h)
  refine ⟨_, _, pr32 _ (retOut X30 hx (t := (.object "com/example/thawline/thawline/CandidateType")) Bd.returns rfl (Or.inr (Or.inr (Or.inr (Or.inr ⟨rfl, rfl, rfl⟩)))) (hb hby d44_41) hr), hrun, hended, _, _, rfl, ?_, ⟨_, rfl⟩, hW, hsame.mono (by decide) (by decide)⟩
  show Q44 Z cs al kal a_HOST t_HOST u_HOST k_HOST a_SERVER_REFLEXIVE t_SERVER_REFLEXIVE u_SERVER_REFLEXIVE k_SERVER_REFLEXIVE a_PEER_REFLEXIVE t_PEER_REFLEXIVE u_PEER_REFLEXIVE k_PEER_REFLEXIVE a_RELAYED t_RELAYED u_RELAYED k_RELAYED x t kt tx h0 n0 _ T30.heap _
  rw [e30]
  exact ⟨rfl, N30, rfl⟩
theorem own_and3 (k : Int32) : 0 ≤ (k &&& (3 : Int32)).toInt ∧ (k &&& (3 : Int32)).toInt < 4 := by
  have e1 : (k &&& 3).toInt = k.toInt % 2 ^ 2 := Jvm.Kit.i32_mask k 3 (k := 2) (by decide) (by decide)
  omega
theorem own_nvb {n : Int32} (h : n = (4 : Int32) ∨ n = (5 : Int32)) : 4 ≤ n.toInt ∧ n.toInt ≤ 5 := by
  rcases h with rfl | rfl <;> decide
theorem own_nz {n : Int32} (h : n = (4 : Int32) ∨ n = (5 : Int32)) : n ≠ 0 := by
  rcases h with rfl | rfl <;> decide
theorem own_rem7 (k : Int32) : 0 ≤ ((k &&& (2147483647 : Int32)) % (7 : Int32)).toInt ∧ ((k &&& (2147483647 : Int32)) % (7 : Int32)).toInt < 7 := by
  have e1 : (k &&& 2147483647).toInt = k.toInt % 2 ^ 31 := Jvm.Kit.i32_mask k 2147483647 (k := 31) (by decide) (by decide)
  have e5 : (7 : Int32).toInt = 7 := rfl
  have e2 := Jvm.Kit.i32_rem_nonneg (x := k &&& 2147483647) (y := 7) (by omega)
  rw [e5] at e2
  omega
theorem own_remn {n : Int32} (k : Int32) (h : n = (4 : Int32) ∨ n = (5 : Int32)) : 0 ≤ ((k &&& (2147483647 : Int32)) % n).toInt ∧ ((k &&& (2147483647 : Int32)) % n).toInt < 6 := by
  have e1 : (k &&& 2147483647).toInt = k.toInt % 2 ^ 31 := Jvm.Kit.i32_mask k 2147483647 (k := 31) (by decide) (by decide)
  rcases h with rfl | rfl
  · have e5 : (4 : Int32).toInt = 4 := rfl
    have e2 := Jvm.Kit.i32_rem_nonneg (x := k &&& 2147483647) (y := 4) (by omega)
    rw [e5] at e2
    omega
  · have e5 : (5 : Int32).toInt = 5 := rfl
    have e2 := Jvm.Kit.i32_rem_nonneg (x := k &&& 2147483647) (y := 5) (by omega)
    rw [e5] at e2
    omega
theorem own_set6 {c0 c1 c2 c3 c4 c5 w : Int32} {i : Nat} (hi : i < 6) (h0 : ¬ c0 < 0 ∧ ¬ (255 : Int32) < c0) (h1 : ¬ c1 < 0 ∧ ¬ (255 : Int32) < c1) (h2 : ¬ c2 < 0 ∧ ¬ (255 : Int32) < c2) (h3 : ¬ c3 < 0 ∧ ¬ (255 : Int32) < c3) (h4 : ¬ c4 < 0 ∧ ¬ (255 : Int32) < c4) (h5 : ¬ c5 < 0 ∧ ¬ (255 : Int32) < c5) (hw : ¬ w < 0 ∧ ¬ (255 : Int32) < w) : ∃ d0 d1 d2 d3 d4 d5 : Int32, [Value.int c0, .int c1, .int c2, .int c3, .int c4, .int c5].set i (.int w) = [.int d0, .int d1, .int d2, .int d3, .int d4, .int d5] ∧ (¬ d0 < 0 ∧ ¬ (255 : Int32) < d0) ∧ (¬ d1 < 0 ∧ ¬ (255 : Int32) < d1) ∧ (¬ d2 < 0 ∧ ¬ (255 : Int32) < d2) ∧ (¬ d3 < 0 ∧ ¬ (255 : Int32) < d3) ∧ (¬ d4 < 0 ∧ ¬ (255 : Int32) < d4) ∧ (¬ d5 < 0 ∧ ¬ (255 : Int32) < d5) := by
  match i, hi with
  | 0, _ => exact ⟨w, c1, c2, c3, c4, c5, rfl, hw, h1, h2, h3, h4, h5⟩
  | 1, _ => exact ⟨c0, w, c2, c3, c4, c5, rfl, h0, hw, h2, h3, h4, h5⟩
  | 2, _ => exact ⟨c0, c1, w, c3, c4, c5, rfl, h0, h1, hw, h3, h4, h5⟩
  | 3, _ => exact ⟨c0, c1, c2, w, c4, c5, rfl, h0, h1, h2, hw, h4, h5⟩
  | 4, _ => exact ⟨c0, c1, c2, c3, w, c5, rfl, h0, h1, h2, h3, hw, h5⟩
  | 5, _ => exact ⟨c0, c1, c2, c3, c4, w, rfl, h0, h1, h2, h3, h4, hw⟩
theorem own_vs4 (x0 x1 x2 x3 : Int32) : ∀ j : Nat, ∃ u : Int32, ([.int x0, .int x1, .int x2, .int x3] : List Value).getD j (.int (0 : Int32)) = .int u := fun j => by
  match j with
  | 0 => exact ⟨_, rfl⟩
  | 1 => exact ⟨_, rfl⟩
  | 2 => exact ⟨_, rfl⟩
  | 3 => exact ⟨_, rfl⟩
  | j + 4 => exact ⟨0, rfl⟩
theorem own_vs5 (x0 x1 x2 x3 x4 : Int32) : ∀ j : Nat, ∃ u : Int32, ([.int x0, .int x1, .int x2, .int x3, .int x4] : List Value).getD j (.int (0 : Int32)) = .int u := fun j => by
  match j with
  | 0 => exact ⟨_, rfl⟩
  | 1 => exact ⟨_, rfl⟩
  | 2 => exact ⟨_, rfl⟩
  | 3 => exact ⟨_, rfl⟩
  | 4 => exact ⟨_, rfl⟩
  | j + 5 => exact ⟨0, rfl⟩
theorem own_in6 {z : Int32} (h : 0 ≤ z.toInt ∧ z.toInt < 6) : ¬ z < 0 ∧ z < (6 : Int32) := by
  rw [Int32.lt_iff_toInt_lt, Int32.lt_iff_toInt_lt]
  exact ⟨by rw [show (0 : Int32).toInt = 0 from rfl]; omega, by rw [show (6 : Int32).toInt = 6 from rfl]; omega⟩
theorem own_in6n {z : Int32} (h : 0 ≤ z.toInt ∧ z.toInt < 6) : z.toNatClampNeg < 6 := by
  show z.toInt.toNat < 6
  omega
theorem pd_10 : parseMethodDescriptor "()I" = some ⟨[], some .int⟩ := by decide +kernel
theorem pd_11 : parseMethodDescriptor "(Ljava/lang/String;IIIII)C" = some ⟨[(.object "java/lang/String"), .int, .int, .int, .int, .int], some .char⟩ := by decide +kernel
theorem pd_12 : parseMethodDescriptor "([CI)Ljava/lang/String;" = some ⟨[(.array .char), .int], some (.object "java/lang/String")⟩ := by decide +kernel
theorem pd_13 : parseMethodDescriptor "(Ljava/lang/String;)Lcom/example/thawline/thawline/CandidateType;" = some ⟨[(.object "java/lang/String")], some (.object "com/example/thawline/thawline/CandidateType")⟩ := by decide +kernel
theorem ef_0 (mM : MethodId) (x0 : Int32) (x1 : Int32) (x2 : Int32) (x3 : Int32) (x4 : Int32) : entryFrame mM #[(.int x0), (.int x1), (.int x2), (.int x3), (.int x4)] maxLocals = mkF mM 0 #[.val (.int x0), .val (.int x1), .val (.int x2), .val (.int x3), .val (.int x4), .unset, .unset, .unset, .unset, .unset, .unset, .unset, .unset] [] := by first | (simp [entryFrame, mkF, argsToLocals, Value.category, maxLocals]; done) | rfl
def Q0 (Z : State) (p1 : Int32) (p2 : Int32) (p3 : Int32) (p4 : Int32) (p5 : Int32) (cs : Int32) (sf : Value) (al : Addr) (kal : ClassId) (a_HOST : Addr) (t_HOST : Addr) (u_HOST : Addr) (k_HOST : ClassId) (a_SERVER_REFLEXIVE : Addr) (t_SERVER_REFLEXIVE : Addr) (u_SERVER_REFLEXIVE : Addr) (k_SERVER_REFLEXIVE : ClassId) (a_PEER_REFLEXIVE : Addr) (t_PEER_REFLEXIVE : Addr) (u_PEER_REFLEXIVE : Addr) (k_PEER_REFLEXIVE : ClassId) (a_RELAYED : Addr) (t_RELAYED : Addr) (u_RELAYED : Addr) (k_RELAYED : ClassId) (h0 : Heap) (n0 : Nat) (v : Option Value) (h : Heap) (L : List Loc) : Prop := v = some (.int (1 : Int32)) ∧ Fr n0 L
set_option maxRecDepth 65536 in
set_option maxHeartbeats 40000000 in
theorem rm0 (l : Launch) (Z : State) (a0 : Array Value) (hw : ∀ d ∈ tables_1, d.before a0 Z = true) (ws : List Jvm.Cond) (p1 : Int32) (p2 : Int32) (p3 : Int32) (p4 : Int32) (p5 : Int32) (cs : Int32) (sf : Value) (al : Addr) (kal : ClassId) (a_HOST : Addr) (t_HOST : Addr) (u_HOST : Addr) (k_HOST : ClassId) (a_SERVER_REFLEXIVE : Addr) (t_SERVER_REFLEXIVE : Addr) (u_SERVER_REFLEXIVE : Addr) (k_SERVER_REFLEXIVE : ClassId) (a_PEER_REFLEXIVE : Addr) (t_PEER_REFLEXIVE : Addr) (u_PEER_REFLEXIVE : Addr) (k_PEER_REFLEXIVE : ClassId) (a_RELAYED : Addr) (t_RELAYED : Addr) (u_RELAYED : Addr) (k_RELAYED : ClassId) (h0 : Heap) (n0 : Nat) (Z0 : n0 ≤ h0.size) (O : Old Z n0 h0) (HH : ∀ p ∈ consts_1, Jvm.Lit.constHeld Z p.1 p.2) (hcw : Jvm.Lit.compactW.before a0 Z = true) (S_cs : Sta Z Z.heap "java/lang/String" "COMPACT_STRINGS" "Z" (.int cs)) (hcs : ¬ cs = (0 : Int32)) (S_sf : Sta Z Z.heap "jdk/internal/util/Preconditions" "SIOOBE_FORMATTER" "Ljava/util/function/BiFunction;" sf) (rsf : sf.isRef = true) (S_ALL : Sta Z Z.heap "com/example/thawline/thawline/CandidateType" "ALL" "[Lcom/example/thawline/thawline/CandidateType;" (.ref al)) (V_ALL : Arv Z Z.heap al kal (.object "com/example/thawline/thawline/CandidateType") (4 : Int32) [(.ref a_HOST), (.ref a_SERVER_REFLEXIVE), (.ref a_PEER_REFLEXIVE), (.ref a_RELAYED)] .null) (S_HOST : Sta Z Z.heap "com/example/thawline/thawline/CandidateType" "HOST" "Lcom/example/thawline/thawline/CandidateType;" (.ref a_HOST)) (E_HOST : Exa Z Z.heap a_HOST "com/example/thawline/thawline/CandidateType") (F_HOST : Fld Z Z.heap a_HOST "com/example/thawline/thawline/CandidateType" "token" "Ljava/lang/String;" (.ref t_HOST)) (Et_HOST : Exa Z Z.heap t_HOST "java/lang/String") (Fc_HOST : Fld Z Z.heap t_HOST "java/lang/String" "coder" "B" (.int (0 : Int32))) (Fv_HOST : Fld Z Z.heap t_HOST "java/lang/String" "value" "[B" (.ref u_HOST)) (Vt_HOST : Arv Z Z.heap u_HOST k_HOST .byte (4 : Int32) [(.int (104 : Int32)), (.int (111 : Int32)), (.int (115 : Int32)), (.int (116 : Int32))] (.int (0 : Int32))) (S_SERVER_REFLEXIVE : Sta Z Z.heap "com/example/thawline/thawline/CandidateType" "SERVER_REFLEXIVE" "Lcom/example/thawline/thawline/CandidateType;" (.ref a_SERVER_REFLEXIVE)) (E_SERVER_REFLEXIVE : Exa Z Z.heap a_SERVER_REFLEXIVE "com/example/thawline/thawline/CandidateType") (F_SERVER_REFLEXIVE : Fld Z Z.heap a_SERVER_REFLEXIVE "com/example/thawline/thawline/CandidateType" "token" "Ljava/lang/String;" (.ref t_SERVER_REFLEXIVE)) (Et_SERVER_REFLEXIVE : Exa Z Z.heap t_SERVER_REFLEXIVE "java/lang/String") (Fc_SERVER_REFLEXIVE : Fld Z Z.heap t_SERVER_REFLEXIVE "java/lang/String" "coder" "B" (.int (0 : Int32))) (Fv_SERVER_REFLEXIVE : Fld Z Z.heap t_SERVER_REFLEXIVE "java/lang/String" "value" "[B" (.ref u_SERVER_REFLEXIVE)) (Vt_SERVER_REFLEXIVE : Arv Z Z.heap u_SERVER_REFLEXIVE k_SERVER_REFLEXIVE .byte (5 : Int32) [(.int (115 : Int32)), (.int (114 : Int32)), (.int (102 : Int32)), (.int (108 : Int32)), (.int (120 : Int32))] (.int (0 : Int32))) (S_PEER_REFLEXIVE : Sta Z Z.heap "com/example/thawline/thawline/CandidateType" "PEER_REFLEXIVE" "Lcom/example/thawline/thawline/CandidateType;" (.ref a_PEER_REFLEXIVE)) (E_PEER_REFLEXIVE : Exa Z Z.heap a_PEER_REFLEXIVE "com/example/thawline/thawline/CandidateType") (F_PEER_REFLEXIVE : Fld Z Z.heap a_PEER_REFLEXIVE "com/example/thawline/thawline/CandidateType" "token" "Ljava/lang/String;" (.ref t_PEER_REFLEXIVE)) (Et_PEER_REFLEXIVE : Exa Z Z.heap t_PEER_REFLEXIVE "java/lang/String") (Fc_PEER_REFLEXIVE : Fld Z Z.heap t_PEER_REFLEXIVE "java/lang/String" "coder" "B" (.int (0 : Int32))) (Fv_PEER_REFLEXIVE : Fld Z Z.heap t_PEER_REFLEXIVE "java/lang/String" "value" "[B" (.ref u_PEER_REFLEXIVE)) (Vt_PEER_REFLEXIVE : Arv Z Z.heap u_PEER_REFLEXIVE k_PEER_REFLEXIVE .byte (5 : Int32) [(.int (112 : Int32)), (.int (114 : Int32)), (.int (102 : Int32)), (.int (108 : Int32)), (.int (120 : Int32))] (.int (0 : Int32))) (S_RELAYED : Sta Z Z.heap "com/example/thawline/thawline/CandidateType" "RELAYED" "Lcom/example/thawline/thawline/CandidateType;" (.ref a_RELAYED)) (E_RELAYED : Exa Z Z.heap a_RELAYED "com/example/thawline/thawline/CandidateType") (F_RELAYED : Fld Z Z.heap a_RELAYED "com/example/thawline/thawline/CandidateType" "token" "Ljava/lang/String;" (.ref t_RELAYED)) (Et_RELAYED : Exa Z Z.heap t_RELAYED "java/lang/String") (Fc_RELAYED : Fld Z Z.heap t_RELAYED "java/lang/String" "coder" "B" (.int (0 : Int32))) (Fv_RELAYED : Fld Z Z.heap t_RELAYED "java/lang/String" "value" "[B" (.ref u_RELAYED)) (Vt_RELAYED : Arv Z Z.heap u_RELAYED k_RELAYED .byte (5 : Int32) [(.int (114 : Int32)), (.int (101 : Int32)), (.int (108 : Int32)), (.int (97 : Int32)), (.int (121 : Int32))] (.int (0 : Int32))) :
    MetFree l x (head1 (Jvm.Cond.code x code maxLocals ret :: ws) room_1) (fun aA uU => aA = #[(.int p1), (.int p2), (.int p3), (.int p4), (.int p5)] ∧ uU = Z ∧ uU.heap = h0) (fun _ _ _ _ _ => True) (fun _ uU oO uU' => ∃ vV lL, oO = .returned vV ∧ Q0 Z p1 p2 p3 p4 p5 cs sf al kal a_HOST t_HOST u_HOST k_HOST a_SERVER_REFLEXIVE t_SERVER_REFLEXIVE u_SERVER_REFLEXIVE k_SERVER_REFLEXIVE a_PEER_REFLEXIVE t_PEER_REFLEXIVE u_PEER_REFLEXIVE k_PEER_REFLEXIVE a_RELAYED t_RELAYED u_RELAYED k_RELAYED h0 n0 vV uU'.heap lL ∧ ReturnedEndW uU oO uU' lL room_1.cells room_1.slots) := by
  refine MetFree.of_bodySF (plainFor_of_name pn_3) hisR ?_
  intro pP eE sS mM args below meth cC s₁ Bd hml0 hP hK
  obtain ⟨rfl, hUZ, hh⟩ := hP
  have hZ : Z.Warmed39 sS.vm := by rw [hUZ]; exact State.Warmed39.refl _
  have hS : sS.Since sS.vm 0 := (State.WarmedH.refl sS).since 0
  have wS : ∀ a ∈ Bundle.stringAtoms, a.before a0 Z = true := fun a ha => hw a ((by decide +kernel : ∀ a ∈ Bundle.stringAtoms, a ∈ tables_1) a ha)
  have hEW := own_ew hw
  have cr0 : CHr Z consts_1 sS.vm h0 sS.vm h0 := by rw [← hh, hUZ]; exact CHr.refl (CHv.start hEW HH hcw (hw _ (List.mem_of_getElem? (i := 3) rfl)) (hw _ (List.mem_of_getElem? (i := 2) rfl)))
  have hx := Bd.exec
  have hby := Bd.bytes
  have hml : cC.maxLocals = 13 := hml0
  have hown : sS.vm.findClass "com/example/thawline/thawline/CandidateTypeOfTokenPinLaw" = some mM.cls := findClass_of_methodNamed Bd.named
  have hnm := (name_of_methodNamed Bd.named Bd.method).1
  have X0 : Stand pP l eE room_1 sS mM #[(.int p1), (.int p2), (.int p3), (.int p4), (.int p5)] below meth cC s₁ [] 0 0 := Stand.of_body Bd
  have e0 : s₁.heap = h0 := by rw [← hh, Bd.state]; rfl
  have N0 := Fr.nil n0
  have pre0 : ∀ tg, Steps pP.tables eE below (s₁.setTop (mkF mM 0 #[.val (.int p1), .val (.int p2), .val (.int p3), .val (.int p4), .val (.int p5), .unset, .unset, .unset, .unset, .unset, .unset, .unset, .unset] [])) tg → Steps pP.tables eE below (s₁.setTop (entryFrame mM #[(.int p1), (.int p2), (.int p3), (.int p4), (.int p5)] maxLocals)) tg := fun tg kg => castTop (ef_0 mM p1 p2 p3 p4 p5) kg
  have pr1 : ∀ tg, Steps pP.tables eE below (s₁.setTop (mkF mM 12 #[.val (.int p1), .val (.int p2), .val (.int p3), .val (.int p4), .val (.int p5), .val (.int (p1 &&& (3 : Int32))), .val (.int (((p1.toUInt32 >>> ((2 : Int32) &&& 31).toUInt32).toInt32) &&& (3 : Int32))), .unset, .unset, .unset, .unset, .unset, .unset] [])) tg → Steps pP.tables eE below (s₁.setTop (entryFrame mM #[(.int p1), (.int p2), (.int p3), (.int p4), (.int p5)] maxLocals)) tg := fun tg kg => pre0 _ (by
    show Steps pP.tables eE below (s₁.setTop (mkF mM 0 #[.val (.int p1), .val (.int p2), .val (.int p3), .val (.int p4), .val (.int p5), .unset, .unset, .unset, .unset, .unset, .unset, .unset, .unset] [])) _
    refine XS.iloadN X0.here hx rfl (hb hby at_0) rfl ?_
    show Steps pP.tables eE below (s₁.setTop (mkF mM 1 #[.val (.int p1), .val (.int p2), .val (.int p3), .val (.int p4), .val (.int p5), .unset, .unset, .unset, .unset, .unset, .unset, .unset, .unset] [(.int p1)])) _
    refine XS.iconst X0.here hx rfl (hb hby at_1) ?_
    show Steps pP.tables eE below (s₁.setTop (mkF mM 2 #[.val (.int p1), .val (.int p2), .val (.int p3), .val (.int p4), .val (.int p5), .unset, .unset, .unset, .unset, .unset, .unset, .unset, .unset] [(.int (3 : Int32)), (.int p1)])) _
    refine XS.iand X0.here hx rfl (hb hby at_2) rfl ?_
    show Steps pP.tables eE below (s₁.setTop (mkF mM 3 #[.val (.int p1), .val (.int p2), .val (.int p3), .val (.int p4), .val (.int p5), .unset, .unset, .unset, .unset, .unset, .unset, .unset, .unset] [(.int (p1 &&& (3 : Int32)))])) _
    refine XS.istore X0.here hx rfl (hb hby at_3) rfl (l' := #[.val (.int p1), .val (.int p2), .val (.int p3), .val (.int p4), .val (.int p5), .val (.int (p1 &&& (3 : Int32))), .unset, .unset, .unset, .unset, .unset, .unset, .unset]) rfl ?_
    show Steps pP.tables eE below (s₁.setTop (mkF mM 5 #[.val (.int p1), .val (.int p2), .val (.int p3), .val (.int p4), .val (.int p5), .val (.int (p1 &&& (3 : Int32))), .unset, .unset, .unset, .unset, .unset, .unset, .unset] [])) _
    refine XS.iloadN X0.here hx rfl (hb hby at_5) rfl ?_
    show Steps pP.tables eE below (s₁.setTop (mkF mM 6 #[.val (.int p1), .val (.int p2), .val (.int p3), .val (.int p4), .val (.int p5), .val (.int (p1 &&& (3 : Int32))), .unset, .unset, .unset, .unset, .unset, .unset, .unset] [(.int p1)])) _
    refine XS.iconst X0.here hx rfl (hb hby at_6) ?_
    show Steps pP.tables eE below (s₁.setTop (mkF mM 7 #[.val (.int p1), .val (.int p2), .val (.int p3), .val (.int p4), .val (.int p5), .val (.int (p1 &&& (3 : Int32))), .unset, .unset, .unset, .unset, .unset, .unset, .unset] [(.int (2 : Int32)), (.int p1)])) _
    refine XS.iushr X0.here hx rfl (hb hby at_7) rfl ?_
    show Steps pP.tables eE below (s₁.setTop (mkF mM 8 #[.val (.int p1), .val (.int p2), .val (.int p3), .val (.int p4), .val (.int p5), .val (.int (p1 &&& (3 : Int32))), .unset, .unset, .unset, .unset, .unset, .unset, .unset] [(.int ((p1.toUInt32 >>> ((2 : Int32) &&& 31).toUInt32).toInt32))])) _
    refine XS.iconst X0.here hx rfl (hb hby at_8) ?_
    show Steps pP.tables eE below (s₁.setTop (mkF mM 9 #[.val (.int p1), .val (.int p2), .val (.int p3), .val (.int p4), .val (.int p5), .val (.int (p1 &&& (3 : Int32))), .unset, .unset, .unset, .unset, .unset, .unset, .unset] [(.int (3 : Int32)), (.int ((p1.toUInt32 >>> ((2 : Int32) &&& 31).toUInt32).toInt32))])) _
    refine XS.iand X0.here hx rfl (hb hby at_9) rfl ?_
    show Steps pP.tables eE below (s₁.setTop (mkF mM 10 #[.val (.int p1), .val (.int p2), .val (.int p3), .val (.int p4), .val (.int p5), .val (.int (p1 &&& (3 : Int32))), .unset, .unset, .unset, .unset, .unset, .unset, .unset] [(.int (((p1.toUInt32 >>> ((2 : Int32) &&& 31).toUInt32).toInt32) &&& (3 : Int32)))])) _
    refine XS.istore X0.here hx rfl (hb hby at_10) rfl (l' := #[.val (.int p1), .val (.int p2), .val (.int p3), .val (.int p4), .val (.int p5), .val (.int (p1 &&& (3 : Int32))), .val (.int (((p1.toUInt32 >>> ((2 : Int32) &&& 31).toUInt32).toInt32) &&& (3 : Int32))), .unset, .unset, .unset, .unset, .unset, .unset]) rfl ?_
    exact kg)
  obtain ⟨z2, hz2⟩ : ∃ z, z = (p1 &&& (3 : Int32)) := ⟨_, rfl⟩
  have pr3 : ∀ tg, Steps pP.tables eE below (s₁.setTop (mkF mM 12 #[.val (.int p1), .val (.int p2), .val (.int p3), .val (.int p4), .val (.int p5), .val (.int z2), .val (.int (((p1.toUInt32 >>> ((2 : Int32) &&& 31).toUInt32).toInt32) &&& (3 : Int32))), .unset, .unset, .unset, .unset, .unset, .unset] [])) tg → Steps pP.tables eE below (s₁.setTop (entryFrame mM #[(.int p1), (.int p2), (.int p3), (.int p4), (.int p5)] maxLocals)) tg := by
    rw [hz2]; exact pr1
  obtain ⟨z4, hz4⟩ : ∃ z, z = (((p1.toUInt32 >>> ((2 : Int32) &&& 31).toUInt32).toInt32) &&& (3 : Int32)) := ⟨_, rfl⟩
  have pr5 : ∀ tg, Steps pP.tables eE below (s₁.setTop (mkF mM 12 #[.val (.int p1), .val (.int p2), .val (.int p3), .val (.int p4), .val (.int p5), .val (.int z2), .val (.int z4), .unset, .unset, .unset, .unset, .unset, .unset] [])) tg → Steps pP.tables eE below (s₁.setTop (entryFrame mM #[(.int p1), (.int p2), (.int p3), (.int p4), (.int p5)] maxLocals)) tg := by
    rw [hz4]; exact pr3
  have hk4 : 0 ≤ z2.toInt ∧ z2.toInt < 4 := by rw [hz2]; exact own_and3 _
  obtain ⟨a6, T6, h6, kk6, b6, kc6, nv, vs, X6, e6, E6, hS, hk6, hZ, hown, Es6, Fc6, Fv6, V6, A6, hnv, hvs, st6⟩ : ∃ (a6 : Addr) (T : State) (h : Heap) (kk : Nat) (b : Addr) (kc : ClassId) (nv : Int32) (vs : List Value), Stand pP l eE room_1 (sS.setVm T.vm) mM #[(.int p1), (.int p2), (.int p3), (.int p4), (.int p5)] below meth cC T [] 2 24 ∧ T.heap = h ∧ Ext h0 h ∧ sS.Since T.vm kk ∧ kk ≤ h.size ∧ Z.Warmed39 (sS.setVm T.vm).vm ∧ (sS.setVm T.vm).vm.findClass "com/example/thawline/thawline/CandidateTypeOfTokenPinLaw" = some mM.cls ∧ Exa Z h a6 "java/lang/String" ∧ Fld Z h a6 "java/lang/String" "coder" "B" (.int 0) ∧ Fld Z h a6 "java/lang/String" "value" "[B" (.ref b) ∧ Arv Z h b kc .byte nv vs (.int 0) ∧ CHr Z consts_1 sS.vm h0 T.vm h ∧ (nv = (4 : Int32) ∨ nv = (5 : Int32)) ∧ (∀ j : Nat, ∃ u : Int32, vs.getD j (.int (0 : Int32)) = .int u) ∧ ∀ tg, Steps pP.tables eE below (T.setTop (mkF mM 46 #[.val (.int p1), .val (.int p2), .val (.int p3), .val (.int p4), .val (.int p5), .val (.int z2), .val (.int z4), .unset, .unset, .unset, .unset, .unset, .unset] [(.ref a6)])) tg → Steps pP.tables eE below (s₁.setTop (entryFrame mM #[(.int p1), (.int p2), (.int p3), (.int p4), (.int p5)] maxLocals)) tg := by
    rcases own_4 hk4.1 hk4.2 with rfl | rfl | rfl | rfl
    ·
      have pr7 : ∀ tg, Steps pP.tables eE below (s₁.setTop (mkF mM 17 #[.val (.int p1), .val (.int p2), .val (.int p3), .val (.int p4), .val (.int p5), .val (.int (0 : Int32)), .val (.int z4), .unset, .unset, .unset, .unset, .unset, .unset] [])) tg → Steps pP.tables eE below (s₁.setTop (entryFrame mM #[(.int p1), (.int p2), (.int p3), (.int p4), (.int p5)] maxLocals)) tg := fun tg kg => pr5 _ (by
        show Steps pP.tables eE below (s₁.setTop (mkF mM 12 #[.val (.int p1), .val (.int p2), .val (.int p3), .val (.int p4), .val (.int p5), .val (.int (0 : Int32)), .val (.int z4), .unset, .unset, .unset, .unset, .unset, .unset] [])) _
        refine XS.iload X0.here hx rfl (hb hby at_12) rfl ?_
        show Steps pP.tables eE below (s₁.setTop (mkF mM 14 #[.val (.int p1), .val (.int p2), .val (.int p3), .val (.int p4), .val (.int p5), .val (.int (0 : Int32)), .val (.int z4), .unset, .unset, .unset, .unset, .unset, .unset] [(.int (0 : Int32))])) _
        refine XS.ifNo X0.here hx rfl (hb hby at_14) rfl ((if0 _ _).trans (teq (by decide)).2) ?_
        exact kg)
      obtain ⟨a8, T8, h8, kk8, b8, kc8, X8, e8, E8, hS, hk8, hZ, hown, Es8, Fc8, Fv8, V8, la8, lb8, A8, -, hn8, st8⟩ := ldcCH (s := sS) (vm0 := sS.vm) (EL := consts_1) X0 hx hZ hown (hw _ (List.mem_of_getElem? (i := 0) rfl)) wS e0 hS (Nat.zero_le _) hEW (List.mem_of_getElem? (i := 0) rfl) cr0.1 (vs := [(.int (104 : Int32)), (.int (111 : Int32)), (.int (115 : Int32)), (.int (116 : Int32))]) (z := (4 : Int32)) ⟨by decide, rfl⟩ (by decide) rfl (g := (mkF mM 17 #[.val (.int p1), .val (.int p2), .val (.int p3), .val (.int p4), .val (.int p5), .val (.int (0 : Int32)), .val (.int z4), .unset, .unset, .unset, .unset, .unset, .unset] [])) rfl (hb hby at_17) (n := 20) (by decide) (by decide) (by decide) (by decide)
      have cr9 := CHr.trans cr0 A8
      have pr10 : ∀ tg, Steps pP.tables eE below (T8.setTop (mkF mM 19 #[.val (.int p1), .val (.int p2), .val (.int p3), .val (.int p4), .val (.int p5), .val (.int (0 : Int32)), .val (.int z4), .unset, .unset, .unset, .unset, .unset, .unset] [(.ref a8)])) tg → Steps pP.tables eE below (s₁.setTop (entryFrame mM #[(.int p1), (.int p2), (.int p3), (.int p4), (.int p5)] maxLocals)) tg := fun tg kg => pr7 _ (st8 _ kg)
      have pr11 : ∀ tg, Steps pP.tables eE below (T8.setTop (mkF mM 46 #[.val (.int p1), .val (.int p2), .val (.int p3), .val (.int p4), .val (.int p5), .val (.int (0 : Int32)), .val (.int z4), .unset, .unset, .unset, .unset, .unset, .unset] [(.ref a8)])) tg → Steps pP.tables eE below (s₁.setTop (entryFrame mM #[(.int p1), (.int p2), (.int p3), (.int p4), (.int p5)] maxLocals)) tg := fun tg kg => pr10 _ (by
        show Steps pP.tables eE below (T8.setTop (mkF mM 19 #[.val (.int p1), .val (.int p2), .val (.int p3), .val (.int p4), .val (.int p5), .val (.int (0 : Int32)), .val (.int z4), .unset, .unset, .unset, .unset, .unset, .unset] [(.ref a8)])) _
        refine XS.goto X8.here hx rfl (pc0 := 19) (pc' := 46) rfl (hb hby at_19) (by decide) (by decide) ?_
        exact kg)
      exact ⟨a8, T8, h8, _, b8, _, (4 : Int32), [(.int (104 : Int32)), (.int (111 : Int32)), (.int (115 : Int32)), (.int (116 : Int32))], X8, e8, E8, hS, hk8, hZ, hown, Es8, Fc8, Fv8, V8, A8, Or.inl rfl, own_vs4 _  _  _  _ , pr11⟩
    ·
      have pr12 : ∀ tg, Steps pP.tables eE below (s₁.setTop (mkF mM 28 #[.val (.int p1), .val (.int p2), .val (.int p3), .val (.int p4), .val (.int p5), .val (.int (1 : Int32)), .val (.int z4), .unset, .unset, .unset, .unset, .unset, .unset] [])) tg → Steps pP.tables eE below (s₁.setTop (entryFrame mM #[(.int p1), (.int p2), (.int p3), (.int p4), (.int p5)] maxLocals)) tg := fun tg kg => pr5 _ (by
        show Steps pP.tables eE below (s₁.setTop (mkF mM 12 #[.val (.int p1), .val (.int p2), .val (.int p3), .val (.int p4), .val (.int p5), .val (.int (1 : Int32)), .val (.int z4), .unset, .unset, .unset, .unset, .unset, .unset] [])) _
        refine XS.iload X0.here hx rfl (hb hby at_12) rfl ?_
        show Steps pP.tables eE below (s₁.setTop (mkF mM 14 #[.val (.int p1), .val (.int p2), .val (.int p3), .val (.int p4), .val (.int p5), .val (.int (1 : Int32)), .val (.int z4), .unset, .unset, .unset, .unset, .unset, .unset] [(.int (1 : Int32))])) _
        refine XS.ifYes X0.here hx rfl (pc0 := 14) (pc' := 22) rfl (hb hby at_14) rfl ((if0 _ _).trans (feq (by decide)).2) (by decide) (by decide) ?_
        show Steps pP.tables eE below (s₁.setTop (mkF mM 22 #[.val (.int p1), .val (.int p2), .val (.int p3), .val (.int p4), .val (.int p5), .val (.int (1 : Int32)), .val (.int z4), .unset, .unset, .unset, .unset, .unset, .unset] [])) _
        refine XS.iload X0.here hx rfl (hb hby at_22) rfl ?_
        show Steps pP.tables eE below (s₁.setTop (mkF mM 24 #[.val (.int p1), .val (.int p2), .val (.int p3), .val (.int p4), .val (.int p5), .val (.int (1 : Int32)), .val (.int z4), .unset, .unset, .unset, .unset, .unset, .unset] [(.int (1 : Int32))])) _
        refine XS.iconst X0.here hx rfl (hb hby at_24) ?_
        show Steps pP.tables eE below (s₁.setTop (mkF mM 25 #[.val (.int p1), .val (.int p2), .val (.int p3), .val (.int p4), .val (.int p5), .val (.int (1 : Int32)), .val (.int z4), .unset, .unset, .unset, .unset, .unset, .unset] [(.int (1 : Int32)), (.int (1 : Int32))])) _
        refine XS.icmpNo X0.here hx rfl (hb hby at_25) rfl (teq (by decide)).2 ?_
        exact kg)
      obtain ⟨a13, T13, h13, kk13, b13, kc13, X13, e13, E13, hS, hk13, hZ, hown, Es13, Fc13, Fv13, V13, la13, lb13, A13, -, hn13, st13⟩ := ldcCH (s := sS) (vm0 := sS.vm) (EL := consts_1) X0 hx hZ hown (hw _ (List.mem_of_getElem? (i := 96) rfl)) wS e0 hS (Nat.zero_le _) hEW (List.mem_of_getElem? (i := 1) rfl) cr0.1 (vs := [(.int (115 : Int32)), (.int (114 : Int32)), (.int (102 : Int32)), (.int (108 : Int32)), (.int (120 : Int32))]) (z := (5 : Int32)) ⟨by decide, rfl⟩ (by decide) rfl (g := (mkF mM 28 #[.val (.int p1), .val (.int p2), .val (.int p3), .val (.int p4), .val (.int p5), .val (.int (1 : Int32)), .val (.int z4), .unset, .unset, .unset, .unset, .unset, .unset] [])) rfl (hb hby at_28) (n := 20) (by decide) (by decide) (by decide) (by decide)
      have cr14 := CHr.trans cr0 A13
      have pr15 : ∀ tg, Steps pP.tables eE below (T13.setTop (mkF mM 30 #[.val (.int p1), .val (.int p2), .val (.int p3), .val (.int p4), .val (.int p5), .val (.int (1 : Int32)), .val (.int z4), .unset, .unset, .unset, .unset, .unset, .unset] [(.ref a13)])) tg → Steps pP.tables eE below (s₁.setTop (entryFrame mM #[(.int p1), (.int p2), (.int p3), (.int p4), (.int p5)] maxLocals)) tg := fun tg kg => pr12 _ (st13 _ kg)
      have pr16 : ∀ tg, Steps pP.tables eE below (T13.setTop (mkF mM 46 #[.val (.int p1), .val (.int p2), .val (.int p3), .val (.int p4), .val (.int p5), .val (.int (1 : Int32)), .val (.int z4), .unset, .unset, .unset, .unset, .unset, .unset] [(.ref a13)])) tg → Steps pP.tables eE below (s₁.setTop (entryFrame mM #[(.int p1), (.int p2), (.int p3), (.int p4), (.int p5)] maxLocals)) tg := fun tg kg => pr15 _ (by
        show Steps pP.tables eE below (T13.setTop (mkF mM 30 #[.val (.int p1), .val (.int p2), .val (.int p3), .val (.int p4), .val (.int p5), .val (.int (1 : Int32)), .val (.int z4), .unset, .unset, .unset, .unset, .unset, .unset] [(.ref a13)])) _
        refine XS.goto X13.here hx rfl (pc0 := 30) (pc' := 46) rfl (hb hby at_30) (by decide) (by decide) ?_
        exact kg)
      exact ⟨a13, T13, h13, _, b13, _, (5 : Int32), [(.int (115 : Int32)), (.int (114 : Int32)), (.int (102 : Int32)), (.int (108 : Int32)), (.int (120 : Int32))], X13, e13, E13, hS, hk13, hZ, hown, Es13, Fc13, Fv13, V13, A13, Or.inr rfl, own_vs5 _  _  _  _  _ , pr16⟩
    ·
      have pr17 : ∀ tg, Steps pP.tables eE below (s₁.setTop (mkF mM 39 #[.val (.int p1), .val (.int p2), .val (.int p3), .val (.int p4), .val (.int p5), .val (.int (2 : Int32)), .val (.int z4), .unset, .unset, .unset, .unset, .unset, .unset] [])) tg → Steps pP.tables eE below (s₁.setTop (entryFrame mM #[(.int p1), (.int p2), (.int p3), (.int p4), (.int p5)] maxLocals)) tg := fun tg kg => pr5 _ (by
        show Steps pP.tables eE below (s₁.setTop (mkF mM 12 #[.val (.int p1), .val (.int p2), .val (.int p3), .val (.int p4), .val (.int p5), .val (.int (2 : Int32)), .val (.int z4), .unset, .unset, .unset, .unset, .unset, .unset] [])) _
        refine XS.iload X0.here hx rfl (hb hby at_12) rfl ?_
        show Steps pP.tables eE below (s₁.setTop (mkF mM 14 #[.val (.int p1), .val (.int p2), .val (.int p3), .val (.int p4), .val (.int p5), .val (.int (2 : Int32)), .val (.int z4), .unset, .unset, .unset, .unset, .unset, .unset] [(.int (2 : Int32))])) _
        refine XS.ifYes X0.here hx rfl (pc0 := 14) (pc' := 22) rfl (hb hby at_14) rfl ((if0 _ _).trans (feq (by decide)).2) (by decide) (by decide) ?_
        show Steps pP.tables eE below (s₁.setTop (mkF mM 22 #[.val (.int p1), .val (.int p2), .val (.int p3), .val (.int p4), .val (.int p5), .val (.int (2 : Int32)), .val (.int z4), .unset, .unset, .unset, .unset, .unset, .unset] [])) _
        refine XS.iload X0.here hx rfl (hb hby at_22) rfl ?_
        show Steps pP.tables eE below (s₁.setTop (mkF mM 24 #[.val (.int p1), .val (.int p2), .val (.int p3), .val (.int p4), .val (.int p5), .val (.int (2 : Int32)), .val (.int z4), .unset, .unset, .unset, .unset, .unset, .unset] [(.int (2 : Int32))])) _
        refine XS.iconst X0.here hx rfl (hb hby at_24) ?_
        show Steps pP.tables eE below (s₁.setTop (mkF mM 25 #[.val (.int p1), .val (.int p2), .val (.int p3), .val (.int p4), .val (.int p5), .val (.int (2 : Int32)), .val (.int z4), .unset, .unset, .unset, .unset, .unset, .unset] [(.int (1 : Int32)), (.int (2 : Int32))])) _
        refine XS.icmpYes X0.here hx rfl (pc0 := 25) (pc' := 33) rfl (hb hby at_25) rfl (feq (by decide)).2 (by decide) (by decide) ?_
        show Steps pP.tables eE below (s₁.setTop (mkF mM 33 #[.val (.int p1), .val (.int p2), .val (.int p3), .val (.int p4), .val (.int p5), .val (.int (2 : Int32)), .val (.int z4), .unset, .unset, .unset, .unset, .unset, .unset] [])) _
        refine XS.iload X0.here hx rfl (hb hby at_33) rfl ?_
        show Steps pP.tables eE below (s₁.setTop (mkF mM 35 #[.val (.int p1), .val (.int p2), .val (.int p3), .val (.int p4), .val (.int p5), .val (.int (2 : Int32)), .val (.int z4), .unset, .unset, .unset, .unset, .unset, .unset] [(.int (2 : Int32))])) _
        refine XS.iconst X0.here hx rfl (hb hby at_35) ?_
        show Steps pP.tables eE below (s₁.setTop (mkF mM 36 #[.val (.int p1), .val (.int p2), .val (.int p3), .val (.int p4), .val (.int p5), .val (.int (2 : Int32)), .val (.int z4), .unset, .unset, .unset, .unset, .unset, .unset] [(.int (2 : Int32)), (.int (2 : Int32))])) _
        refine XS.icmpNo X0.here hx rfl (hb hby at_36) rfl (teq (by decide)).2 ?_
        exact kg)
      obtain ⟨a18, T18, h18, kk18, b18, kc18, X18, e18, E18, hS, hk18, hZ, hown, Es18, Fc18, Fv18, V18, la18, lb18, A18, -, hn18, st18⟩ := ldcCH (s := sS) (vm0 := sS.vm) (EL := consts_1) X0 hx hZ hown (hw _ (List.mem_of_getElem? (i := 97) rfl)) wS e0 hS (Nat.zero_le _) hEW (List.mem_of_getElem? (i := 2) rfl) cr0.1 (vs := [(.int (112 : Int32)), (.int (114 : Int32)), (.int (102 : Int32)), (.int (108 : Int32)), (.int (120 : Int32))]) (z := (5 : Int32)) ⟨by decide, rfl⟩ (by decide) rfl (g := (mkF mM 39 #[.val (.int p1), .val (.int p2), .val (.int p3), .val (.int p4), .val (.int p5), .val (.int (2 : Int32)), .val (.int z4), .unset, .unset, .unset, .unset, .unset, .unset] [])) rfl (hb hby at_39) (n := 20) (by decide) (by decide) (by decide) (by decide)
      have cr19 := CHr.trans cr0 A18
      have pr20 : ∀ tg, Steps pP.tables eE below (T18.setTop (mkF mM 41 #[.val (.int p1), .val (.int p2), .val (.int p3), .val (.int p4), .val (.int p5), .val (.int (2 : Int32)), .val (.int z4), .unset, .unset, .unset, .unset, .unset, .unset] [(.ref a18)])) tg → Steps pP.tables eE below (s₁.setTop (entryFrame mM #[(.int p1), (.int p2), (.int p3), (.int p4), (.int p5)] maxLocals)) tg := fun tg kg => pr17 _ (st18 _ kg)
      have pr21 : ∀ tg, Steps pP.tables eE below (T18.setTop (mkF mM 46 #[.val (.int p1), .val (.int p2), .val (.int p3), .val (.int p4), .val (.int p5), .val (.int (2 : Int32)), .val (.int z4), .unset, .unset, .unset, .unset, .unset, .unset] [(.ref a18)])) tg → Steps pP.tables eE below (s₁.setTop (entryFrame mM #[(.int p1), (.int p2), (.int p3), (.int p4), (.int p5)] maxLocals)) tg := fun tg kg => pr20 _ (by
        show Steps pP.tables eE below (T18.setTop (mkF mM 41 #[.val (.int p1), .val (.int p2), .val (.int p3), .val (.int p4), .val (.int p5), .val (.int (2 : Int32)), .val (.int z4), .unset, .unset, .unset, .unset, .unset, .unset] [(.ref a18)])) _
        refine XS.goto X18.here hx rfl (pc0 := 41) (pc' := 46) rfl (hb hby at_41) (by decide) (by decide) ?_
        exact kg)
      exact ⟨a18, T18, h18, _, b18, _, (5 : Int32), [(.int (112 : Int32)), (.int (114 : Int32)), (.int (102 : Int32)), (.int (108 : Int32)), (.int (120 : Int32))], X18, e18, E18, hS, hk18, hZ, hown, Es18, Fc18, Fv18, V18, A18, Or.inr rfl, own_vs5 _  _  _  _  _ , pr21⟩
    ·
      have pr22 : ∀ tg, Steps pP.tables eE below (s₁.setTop (mkF mM 44 #[.val (.int p1), .val (.int p2), .val (.int p3), .val (.int p4), .val (.int p5), .val (.int (3 : Int32)), .val (.int z4), .unset, .unset, .unset, .unset, .unset, .unset] [])) tg → Steps pP.tables eE below (s₁.setTop (entryFrame mM #[(.int p1), (.int p2), (.int p3), (.int p4), (.int p5)] maxLocals)) tg := fun tg kg => pr5 _ (by
        show Steps pP.tables eE below (s₁.setTop (mkF mM 12 #[.val (.int p1), .val (.int p2), .val (.int p3), .val (.int p4), .val (.int p5), .val (.int (3 : Int32)), .val (.int z4), .unset, .unset, .unset, .unset, .unset, .unset] [])) _
        refine XS.iload X0.here hx rfl (hb hby at_12) rfl ?_
        show Steps pP.tables eE below (s₁.setTop (mkF mM 14 #[.val (.int p1), .val (.int p2), .val (.int p3), .val (.int p4), .val (.int p5), .val (.int (3 : Int32)), .val (.int z4), .unset, .unset, .unset, .unset, .unset, .unset] [(.int (3 : Int32))])) _
        refine XS.ifYes X0.here hx rfl (pc0 := 14) (pc' := 22) rfl (hb hby at_14) rfl ((if0 _ _).trans (feq (by decide)).2) (by decide) (by decide) ?_
        show Steps pP.tables eE below (s₁.setTop (mkF mM 22 #[.val (.int p1), .val (.int p2), .val (.int p3), .val (.int p4), .val (.int p5), .val (.int (3 : Int32)), .val (.int z4), .unset, .unset, .unset, .unset, .unset, .unset] [])) _
        refine XS.iload X0.here hx rfl (hb hby at_22) rfl ?_
        show Steps pP.tables eE below (s₁.setTop (mkF mM 24 #[.val (.int p1), .val (.int p2), .val (.int p3), .val (.int p4), .val (.int p5), .val (.int (3 : Int32)), .val (.int z4), .unset, .unset, .unset, .unset, .unset, .unset] [(.int (3 : Int32))])) _
        refine XS.iconst X0.here hx rfl (hb hby at_24) ?_
        show Steps pP.tables eE below (s₁.setTop (mkF mM 25 #[.val (.int p1), .val (.int p2), .val (.int p3), .val (.int p4), .val (.int p5), .val (.int (3 : Int32)), .val (.int z4), .unset, .unset, .unset, .unset, .unset, .unset] [(.int (1 : Int32)), (.int (3 : Int32))])) _
        refine XS.icmpYes X0.here hx rfl (pc0 := 25) (pc' := 33) rfl (hb hby at_25) rfl (feq (by decide)).2 (by decide) (by decide) ?_
        show Steps pP.tables eE below (s₁.setTop (mkF mM 33 #[.val (.int p1), .val (.int p2), .val (.int p3), .val (.int p4), .val (.int p5), .val (.int (3 : Int32)), .val (.int z4), .unset, .unset, .unset, .unset, .unset, .unset] [])) _
        refine XS.iload X0.here hx rfl (hb hby at_33) rfl ?_
        show Steps pP.tables eE below (s₁.setTop (mkF mM 35 #[.val (.int p1), .val (.int p2), .val (.int p3), .val (.int p4), .val (.int p5), .val (.int (3 : Int32)), .val (.int z4), .unset, .unset, .unset, .unset, .unset, .unset] [(.int (3 : Int32))])) _
        refine XS.iconst X0.here hx rfl (hb hby at_35) ?_
        show Steps pP.tables eE below (s₁.setTop (mkF mM 36 #[.val (.int p1), .val (.int p2), .val (.int p3), .val (.int p4), .val (.int p5), .val (.int (3 : Int32)), .val (.int z4), .unset, .unset, .unset, .unset, .unset, .unset] [(.int (2 : Int32)), (.int (3 : Int32))])) _
        refine XS.icmpYes X0.here hx rfl (pc0 := 36) (pc' := 44) rfl (hb hby at_36) rfl (feq (by decide)).2 (by decide) (by decide) ?_
        exact kg)
      obtain ⟨a23, T23, h23, kk23, b23, kc23, X23, e23, E23, hS, hk23, hZ, hown, Es23, Fc23, Fv23, V23, la23, lb23, A23, -, hn23, st23⟩ := ldcCH (s := sS) (vm0 := sS.vm) (EL := consts_1) X0 hx hZ hown (hw _ (List.mem_of_getElem? (i := 95) rfl)) wS e0 hS (Nat.zero_le _) hEW (List.mem_of_getElem? (i := 3) rfl) cr0.1 (vs := [(.int (114 : Int32)), (.int (101 : Int32)), (.int (108 : Int32)), (.int (97 : Int32)), (.int (121 : Int32))]) (z := (5 : Int32)) ⟨by decide, rfl⟩ (by decide) rfl (g := (mkF mM 44 #[.val (.int p1), .val (.int p2), .val (.int p3), .val (.int p4), .val (.int p5), .val (.int (3 : Int32)), .val (.int z4), .unset, .unset, .unset, .unset, .unset, .unset] [])) rfl (hb hby at_44) (n := 20) (by decide) (by decide) (by decide) (by decide)
      have cr24 := CHr.trans cr0 A23
      have pr25 : ∀ tg, Steps pP.tables eE below (T23.setTop (mkF mM 46 #[.val (.int p1), .val (.int p2), .val (.int p3), .val (.int p4), .val (.int p5), .val (.int (3 : Int32)), .val (.int z4), .unset, .unset, .unset, .unset, .unset, .unset] [(.ref a23)])) tg → Steps pP.tables eE below (s₁.setTop (entryFrame mM #[(.int p1), (.int p2), (.int p3), (.int p4), (.int p5)] maxLocals)) tg := fun tg kg => pr22 _ (st23 _ kg)
      exact ⟨a23, T23, h23, _, b23, _, (5 : Int32), [(.int (114 : Int32)), (.int (101 : Int32)), (.int (108 : Int32)), (.int (97 : Int32)), (.int (121 : Int32))], X23, e23, E23, hS, hk23, hZ, hown, Es23, Fc23, Fv23, V23, A23, Or.inr rfl, own_vs5 _  _  _  _  _ , pr25⟩
  have cr26 := CHr.trans cr0 A6
  have c27 := (Old.ext O E6)
  have pr28 : ∀ tg, Steps pP.tables eE below (T6.setTop (mkF mM 50 #[.val (.int p1), .val (.int p2), .val (.int p3), .val (.int p4), .val (.int p5), .val (.int z2), .val (.int z4), .val (.ref a6), .unset, .unset, .unset, .unset, .unset] [(.ref a6)])) tg → Steps pP.tables eE below (s₁.setTop (entryFrame mM #[(.int p1), (.int p2), (.int p3), (.int p4), (.int p5)] maxLocals)) tg := fun tg kg => st6 _ (by
    show Steps pP.tables eE below (T6.setTop (mkF mM 46 #[.val (.int p1), .val (.int p2), .val (.int p3), .val (.int p4), .val (.int p5), .val (.int z2), .val (.int z4), .unset, .unset, .unset, .unset, .unset, .unset] [(.ref a6)])) _
    refine XS.astore X6.here hx rfl (hb hby at_46) rfl rfl (l' := #[.val (.int p1), .val (.int p2), .val (.int p3), .val (.int p4), .val (.int p5), .val (.int z2), .val (.int z4), .val (.ref a6), .unset, .unset, .unset, .unset, .unset]) rfl ?_
    show Steps pP.tables eE below (T6.setTop (mkF mM 48 #[.val (.int p1), .val (.int p2), .val (.int p3), .val (.int p4), .val (.int p5), .val (.int z2), .val (.int z4), .val (.ref a6), .unset, .unset, .unset, .unset, .unset] [])) _
    refine XS.aload X6.here hx rfl (hb hby at_48) rfl rfl ?_
    exact kg)
  have c29 := (Nat.le_trans Z0 E6.1)
  obtain ⟨cq30, kq30, qa30, qb30, qc30⟩ := isOf hZ e6 Es6
  obtain ⟨_, _, ⟨T30, L30, kk30, nn30⟩, -, X30, ⟨Lc30, hQ30, l30, y30, z30⟩, st30⟩ := X6.virtualBack hx (y := (⟨"java/lang/String", "length", "()I"⟩ : MethodName)) (z := (⟨"java/lang/String", "length", "()I"⟩ : MethodName)) hown (mvT hZ (hw _ (List.mem_of_getElem? (i := 8) rfl))) (mvT hZ (hw _ (List.mem_of_getElem? (i := 9) rfl))) (notFace_of_selects (args := #[]) (mvT hZ (hw _ (List.mem_of_getElem? (i := 11) rfl)))) (mvT hZ (hw _ (List.mem_of_getElem? (i := 11) rfl))) (mvT hZ (hw _ (List.mem_of_getElem? (i := 10) rfl))) (by decide) (backOf (W := 0) (rmt2 l Z a0 hw [] cs a6 b6 kc6 nv vs h6 n0 c29 c27 S_cs hcs Es6 Fc6 Fv6 V6) hZ (hw _ (List.mem_of_getElem? (i := 12) rfl)) (hw _ (List.mem_of_getElem? (i := 1) rfl)) (by decide) (by decide)) qa30 qc30 (g := (mkF mM 50 #[.val (.int p1), .val (.int p2), .val (.int p3), .val (.int p4), .val (.int p5), .val (.int z2), .val (.int z4), .val (.ref a6), .unset, .unset, .unset, .unset, .unset] [(.ref a6)])) rfl (by rw [hml]; rfl) (Steps.refl _) (argsL := []) (rest := []) (lenOf pd_10 rfl) rfl (by show 2 * 0 + _ ≤ _; exact Nat.le_of_eq rfl) (hb hby at_50) (fun _ _ => ⟨rfl, e6, (by decide : 2 + 0 ≤ _), (by decide : 24 + 0 ≤ _)⟩)
  dsimp only [Pt.U, Pt.locs, Pt.cells, Pt.slots] at X30 l30 y30 z30 st30 hQ30
  subst l30 y30 z30
  obtain ⟨rfl, Nq30, e30⟩ := hQ30
  have N30 := Fr.app N0 Nq30
  have pr31 : ∀ tg, Steps pP.tables eE below (T30.setTop (mkF mM 53 #[.val (.int p1), .val (.int p2), .val (.int p3), .val (.int p4), .val (.int p5), .val (.int z2), .val (.int z4), .val (.ref a6), .unset, .unset, .unset, .unset, .unset] [(.int nv)])) tg → Steps pP.tables eE below (s₁.setTop (entryFrame mM #[(.int p1), (.int p2), (.int p3), (.int p4), (.int p5)] maxLocals)) tg := fun tg kg => pr28 _ (st30.trans kg)
  have pr32 : ∀ tg, Steps pP.tables eE below (T30.setTop (mkF mM 57 #[.val (.int p1), .val (.int p2), .val (.int p3), .val (.int p4), .val (.int p5), .val (.int z2), .val (.int z4), .val (.ref a6), .val (.int nv), .unset, .unset, .unset, .unset] [(.int (6 : Int32))])) tg → Steps pP.tables eE below (s₁.setTop (entryFrame mM #[(.int p1), (.int p2), (.int p3), (.int p4), (.int p5)] maxLocals)) tg := fun tg kg => pr31 _ (by
    show Steps pP.tables eE below (T30.setTop (mkF mM 53 #[.val (.int p1), .val (.int p2), .val (.int p3), .val (.int p4), .val (.int p5), .val (.int z2), .val (.int z4), .val (.ref a6), .unset, .unset, .unset, .unset, .unset] [(.int nv)])) _
    refine XS.istore X30.here hx rfl (hb hby at_53) rfl (l' := #[.val (.int p1), .val (.int p2), .val (.int p3), .val (.int p4), .val (.int p5), .val (.int z2), .val (.int z4), .val (.ref a6), .val (.int nv), .unset, .unset, .unset, .unset]) rfl ?_
    show Steps pP.tables eE below (T30.setTop (mkF mM 55 #[.val (.int p1), .val (.int p2), .val (.int p3), .val (.int p4), .val (.int p5), .val (.int z2), .val (.int z4), .val (.ref a6), .val (.int nv), .unset, .unset, .unset, .unset] [])) _
    refine XS.bipush X30.here hx rfl (hb hby at_55) ?_
    exact kg)
  obtain ⟨T33, h33, k33, X33, e33, E33, A33, Ex33, st33⟩ := newPE X30 hx hZ (hw _ (List.mem_of_getElem? (i := 21) rfl)) e30 (g := (mkF mM 57 #[.val (.int p1), .val (.int p2), .val (.int p3), .val (.int p4), .val (.int p5), .val (.int z2), .val (.int z4), .val (.ref a6), .val (.int nv), .unset, .unset, .unset, .unset] [(.int (6 : Int32))])) rfl (hb hby at_57) rfl (by decide) (cap := 6) (by decide) (by decide) (by decide) (by decide) (ad := "[C") rfl
  obtain ⟨b33, g33⟩ : ∃ z, z = (h6).size := ⟨_, rfl⟩
  rw [← g33] at A33 Ex33 st33
  have ne34 : a6 ≠ b33 := Nat.ne_of_lt (Nat.lt_of_lt_of_le (Es6).lt (Nat.le_of_eq g33.symm))
  have ne35 : b6 ≠ b33 := Nat.ne_of_lt (Nat.lt_of_lt_of_le (V6).lt (Nat.le_of_eq g33.symm))
  have gn36 : n0 ≤ b33 := Nat.le_trans c29 (Nat.le_of_eq g33.symm)
  have c38 := (Keep.ext (Keep.refl h0 []) E6)
  have gs37 : h0.size ≤ b33 := Nat.le_trans c38.1 (Nat.le_of_eq g33.symm)
  have sf39_b33 : Safe Z consts_1 T6.vm _ b33 := Safe.ext E33 cr26.1 (Safe.new (Nat.le_of_eq g33.symm))
  have cr39 := CHr.trans cr26 (CHr.ext E33 cr26.1)
  have V33 : Arv Z h33 b33 k33 .char (6 : Int32) [(.int (0 : Int32)), (.int (0 : Int32)), (.int (0 : Int32)), (.int (0 : Int32)), (.int (0 : Int32)), (.int (0 : Int32))] (.int (0 : Int32)) := (Arv.new A33 (by decide)).pad (pad_rep [] (.int (0 : Int32)) 6)
  have pr40 : ∀ tg, Steps pP.tables eE below (T33.setTop (mkF mM 59 #[.val (.int p1), .val (.int p2), .val (.int p3), .val (.int p4), .val (.int p5), .val (.int z2), .val (.int z4), .val (.ref a6), .val (.int nv), .unset, .unset, .unset, .unset] [(.ref b33)])) tg → Steps pP.tables eE below (s₁.setTop (entryFrame mM #[(.int p1), (.int p2), (.int p3), (.int p4), (.int p5)] maxLocals)) tg := fun tg kg => pr32 _ (st33 _ kg)
  have c41 := (Exa.ext E33 Es6)
  have c42 := (Fld.ext E33 Fc6)
  have c43 := (Fld.ext E33 Fv6)
  have c44 := (Arv.ext V6 E33)
  have c45 := (Old.ext c27 E33)
  have pr46 : ∀ tg, Steps pP.tables eE below (T33.setTop (mkF mM 74 #[.val (.int p1), .val (.int p2), .val (.int p3), .val (.int p4), .val (.int p5), .val (.int z2), .val (.int z4), .val (.ref a6), .val (.int nv), .val (.ref b33), .unset, .unset, .unset] [(.int p5), (.int p4), (.int (0 : Int32)), (.int z4), (.int nv), (.ref a6), (.int (0 : Int32)), (.ref b33)])) tg → Steps pP.tables eE below (s₁.setTop (entryFrame mM #[(.int p1), (.int p2), (.int p3), (.int p4), (.int p5)] maxLocals)) tg := fun tg kg => pr40 _ (by
    show Steps pP.tables eE below (T33.setTop (mkF mM 59 #[.val (.int p1), .val (.int p2), .val (.int p3), .val (.int p4), .val (.int p5), .val (.int z2), .val (.int z4), .val (.ref a6), .val (.int nv), .unset, .unset, .unset, .unset] [(.ref b33)])) _
    refine XS.astore X33.here hx rfl (hb hby at_59) rfl rfl (l' := #[.val (.int p1), .val (.int p2), .val (.int p3), .val (.int p4), .val (.int p5), .val (.int z2), .val (.int z4), .val (.ref a6), .val (.int nv), .val (.ref b33), .unset, .unset, .unset]) rfl ?_
    show Steps pP.tables eE below (T33.setTop (mkF mM 61 #[.val (.int p1), .val (.int p2), .val (.int p3), .val (.int p4), .val (.int p5), .val (.int z2), .val (.int z4), .val (.ref a6), .val (.int nv), .val (.ref b33), .unset, .unset, .unset] [])) _
    refine XS.aload X33.here hx rfl (hb hby at_61) rfl rfl ?_
    show Steps pP.tables eE below (T33.setTop (mkF mM 63 #[.val (.int p1), .val (.int p2), .val (.int p3), .val (.int p4), .val (.int p5), .val (.int z2), .val (.int z4), .val (.ref a6), .val (.int nv), .val (.ref b33), .unset, .unset, .unset] [(.ref b33)])) _
    refine XS.iconst X33.here hx rfl (hb hby at_63) ?_
    show Steps pP.tables eE below (T33.setTop (mkF mM 64 #[.val (.int p1), .val (.int p2), .val (.int p3), .val (.int p4), .val (.int p5), .val (.int z2), .val (.int z4), .val (.ref a6), .val (.int nv), .val (.ref b33), .unset, .unset, .unset] [(.int (0 : Int32)), (.ref b33)])) _
    refine XS.aload X33.here hx rfl (hb hby at_64) rfl rfl ?_
    show Steps pP.tables eE below (T33.setTop (mkF mM 66 #[.val (.int p1), .val (.int p2), .val (.int p3), .val (.int p4), .val (.int p5), .val (.int z2), .val (.int z4), .val (.ref a6), .val (.int nv), .val (.ref b33), .unset, .unset, .unset] [(.ref a6), (.int (0 : Int32)), (.ref b33)])) _
    refine XS.iload X33.here hx rfl (hb hby at_66) rfl ?_
    show Steps pP.tables eE below (T33.setTop (mkF mM 68 #[.val (.int p1), .val (.int p2), .val (.int p3), .val (.int p4), .val (.int p5), .val (.int z2), .val (.int z4), .val (.ref a6), .val (.int nv), .val (.ref b33), .unset, .unset, .unset] [(.int nv), (.ref a6), (.int (0 : Int32)), (.ref b33)])) _
    refine XS.iload X33.here hx rfl (hb hby at_68) rfl ?_
    show Steps pP.tables eE below (T33.setTop (mkF mM 70 #[.val (.int p1), .val (.int p2), .val (.int p3), .val (.int p4), .val (.int p5), .val (.int z2), .val (.int z4), .val (.ref a6), .val (.int nv), .val (.ref b33), .unset, .unset, .unset] [(.int z4), (.int nv), (.ref a6), (.int (0 : Int32)), (.ref b33)])) _
    refine XS.iconst X33.here hx rfl (hb hby at_70) ?_
    show Steps pP.tables eE below (T33.setTop (mkF mM 71 #[.val (.int p1), .val (.int p2), .val (.int p3), .val (.int p4), .val (.int p5), .val (.int z2), .val (.int z4), .val (.ref a6), .val (.int nv), .val (.ref b33), .unset, .unset, .unset] [(.int (0 : Int32)), (.int z4), (.int nv), (.ref a6), (.int (0 : Int32)), (.ref b33)])) _
    refine XS.iloadN X33.here hx rfl (hb hby at_71) rfl ?_
    show Steps pP.tables eE below (T33.setTop (mkF mM 72 #[.val (.int p1), .val (.int p2), .val (.int p3), .val (.int p4), .val (.int p5), .val (.int z2), .val (.int z4), .val (.ref a6), .val (.int nv), .val (.ref b33), .unset, .unset, .unset] [(.int p4), (.int (0 : Int32)), (.int z4), (.int nv), (.ref a6), (.int (0 : Int32)), (.ref b33)])) _
    refine XS.iload X33.here hx rfl (hb hby at_72) rfl ?_
    exact kg)
  have c47 := (Nat.le_trans c29 E33.1)
  obtain ⟨_, _, ⟨T48, L48, kk48, nn48⟩, -, X48, ⟨Lc48, hQ48, l48, y48, z48⟩, st48⟩ := Jvm.LawKit.callS X33 hx (y := (⟨"com/example/thawline/thawline/CandidateTypeOfTokenPinLaw", "pick", "(Ljava/lang/String;IIIII)C"⟩ : MethodName)) hown (mvT hZ (hw _ (List.mem_of_getElem? (i := 22) rfl))) (mvT hZ (hw _ (List.mem_of_getElem? (i := 23) rfl))) (mvT hZ (hw _ (List.mem_of_getElem? (i := 24) rfl))) (mvT hZ (hw _ (List.mem_of_getElem? (i := 25) rfl))) (by decide) (backOf (W := 2) (rm2 l Z a0 hw [] cs sf a6 b6 kc6 nv vs z4 (0 : Int32) p4 p5 h33 n0 c47 c45 S_cs hcs S_sf rsf c41 c42 c43 c44 hvs (by decide)) hZ (hw _ (List.mem_of_getElem? (i := 25) rfl)) (hw _ (List.mem_of_getElem? (i := 24) rfl)) (by decide) (by decide)) (g := (mkF mM 74 #[.val (.int p1), .val (.int p2), .val (.int p3), .val (.int p4), .val (.int p5), .val (.int z2), .val (.int z4), .val (.ref a6), .val (.int nv), .val (.ref b33), .unset, .unset, .unset] [(.int p5), (.int p4), (.int (0 : Int32)), (.int z4), (.int nv), (.ref a6), (.int (0 : Int32)), (.ref b33)])) rfl (by rw [hml]; rfl) (argsL := [(.ref a6), (.int nv), (.int z4), (.int (0 : Int32)), (.int p4), (.int p5)]) (rest := [(.int (0 : Int32)), (.ref b33)]) (lenOf pd_11 rfl) rfl (by show 2 * 0 + _ ≤ _; exact Nat.le_of_eq rfl) (hb hby at_74) (fun _ _ => ⟨rfl, e33, (by decide : 3 + 0 ≤ _), (by decide : 30 + 0 ≤ _)⟩)
  dsimp only [Pt.U, Pt.locs, Pt.cells, Pt.slots] at X48 l48 y48 z48 st48 hQ48
  subst l48 y48 z48
  obtain ⟨r48, rfl, hb48, Nq48, e48⟩ := hQ48
  have N48 := Fr.app N30 Nq48
  have pr49 : ∀ tg, Steps pP.tables eE below (T48.setTop (mkF mM 77 #[.val (.int p1), .val (.int p2), .val (.int p3), .val (.int p4), .val (.int p5), .val (.int z2), .val (.int z4), .val (.ref a6), .val (.int nv), .val (.ref b33), .unset, .unset, .unset] [(.int r48), (.int (0 : Int32)), (.ref b33)])) tg → Steps pP.tables eE below (s₁.setTop (entryFrame mM #[(.int p1), (.int p2), (.int p3), (.int p4), (.int p5)] maxLocals)) tg := fun tg kg => pr46 _ (st48 _ kg)
  obtain ⟨cla50, Ara50, qa50, Sa50, Ma50, Ha50, Ga50⟩ := id V33
  have hin51 : ¬ ((0 : Int32) < 0 ∨ cla50.slots.size ≤ ((0 : Int32)).toNatClampNeg) := inb_of Sa50 ⟨by decide, by decide⟩
  obtain ⟨T51, h51, X51, e51, W51, st51⟩ := stC X48 hx hZ e48 Ara50 (j := (0 : Int32)) hin51 (g := (mkF mM 77 #[.val (.int p1), .val (.int p2), .val (.int p3), .val (.int p4), .val (.int p5), .val (.int z2), .val (.int z4), .val (.ref a6), .val (.int nv), .val (.ref b33), .unset, .unset, .unset] [(.int r48), (.int (0 : Int32)), (.ref b33)])) rfl rfl (hb hby at_77)
  have V51 : Arv Z h51 b33 k33 .char (6 : Int32) [(.int (nar .char r48)), (.int (0 : Int32)), (.int (0 : Int32)), (.int (0 : Int32)), (.int (0 : Int32)), (.int (0 : Int32))] (.int (0 : Int32)) := Arv.set Ara50 qa50 Sa50 Ma50 Ha50 Ga50 (fits_nar_char _) W51 0 rfl (Nat.le_of_ble_eq_true rfl)
  have N51 := Fr.snoc X51 N48 gn36
  have sf52_b33 := Safe.wr W51 sf39_b33 cr39.1 sf39_b33
  have cr52 := CHr.trans cr39 (CHr.wr W51 sf39_b33 cr39.1)
  have pr53 : ∀ tg, Steps pP.tables eE below (T51.setTop (mkF mM 78 #[.val (.int p1), .val (.int p2), .val (.int p3), .val (.int p4), .val (.int p5), .val (.int z2), .val (.int z4), .val (.ref a6), .val (.int nv), .val (.ref b33), .unset, .unset, .unset] [])) tg → Steps pP.tables eE below (s₁.setTop (entryFrame mM #[(.int p1), (.int p2), (.int p3), (.int p4), (.int p5)] maxLocals)) tg := fun tg kg => pr49 _ (st51 _ kg)
  have c54 := (Exa.wr W51 c41)
  have c55 := (Fld.other W51 c42 (Or.inl ne34))
  have c56 := (Fld.other W51 c43 (Or.inl ne34))
  have c57 := (Arv.other c44 W51 ne35)
  have c58 := (Old.wr c45 W51 gn36)
  have pr59 : ∀ tg, Steps pP.tables eE below (T51.setTop (mkF mM 91 #[.val (.int p1), .val (.int p2), .val (.int p3), .val (.int p4), .val (.int p5), .val (.int z2), .val (.int z4), .val (.ref a6), .val (.int nv), .val (.ref b33), .unset, .unset, .unset] [(.int p5), (.int p4), (.int (1 : Int32)), (.int z4), (.int nv), (.ref a6), (.int (1 : Int32)), (.ref b33)])) tg → Steps pP.tables eE below (s₁.setTop (entryFrame mM #[(.int p1), (.int p2), (.int p3), (.int p4), (.int p5)] maxLocals)) tg := fun tg kg => pr53 _ (by
    show Steps pP.tables eE below (T51.setTop (mkF mM 78 #[.val (.int p1), .val (.int p2), .val (.int p3), .val (.int p4), .val (.int p5), .val (.int z2), .val (.int z4), .val (.ref a6), .val (.int nv), .val (.ref b33), .unset, .unset, .unset] [])) _
    refine XS.aload X51.here hx rfl (hb hby at_78) rfl rfl ?_
    show Steps pP.tables eE below (T51.setTop (mkF mM 80 #[.val (.int p1), .val (.int p2), .val (.int p3), .val (.int p4), .val (.int p5), .val (.int z2), .val (.int z4), .val (.ref a6), .val (.int nv), .val (.ref b33), .unset, .unset, .unset] [(.ref b33)])) _
    refine XS.iconst X51.here hx rfl (hb hby at_80) ?_
    show Steps pP.tables eE below (T51.setTop (mkF mM 81 #[.val (.int p1), .val (.int p2), .val (.int p3), .val (.int p4), .val (.int p5), .val (.int z2), .val (.int z4), .val (.ref a6), .val (.int nv), .val (.ref b33), .unset, .unset, .unset] [(.int (1 : Int32)), (.ref b33)])) _
    refine XS.aload X51.here hx rfl (hb hby at_81) rfl rfl ?_
    show Steps pP.tables eE below (T51.setTop (mkF mM 83 #[.val (.int p1), .val (.int p2), .val (.int p3), .val (.int p4), .val (.int p5), .val (.int z2), .val (.int z4), .val (.ref a6), .val (.int nv), .val (.ref b33), .unset, .unset, .unset] [(.ref a6), (.int (1 : Int32)), (.ref b33)])) _
    refine XS.iload X51.here hx rfl (hb hby at_83) rfl ?_
    show Steps pP.tables eE below (T51.setTop (mkF mM 85 #[.val (.int p1), .val (.int p2), .val (.int p3), .val (.int p4), .val (.int p5), .val (.int z2), .val (.int z4), .val (.ref a6), .val (.int nv), .val (.ref b33), .unset, .unset, .unset] [(.int nv), (.ref a6), (.int (1 : Int32)), (.ref b33)])) _
    refine XS.iload X51.here hx rfl (hb hby at_85) rfl ?_
    show Steps pP.tables eE below (T51.setTop (mkF mM 87 #[.val (.int p1), .val (.int p2), .val (.int p3), .val (.int p4), .val (.int p5), .val (.int z2), .val (.int z4), .val (.ref a6), .val (.int nv), .val (.ref b33), .unset, .unset, .unset] [(.int z4), (.int nv), (.ref a6), (.int (1 : Int32)), (.ref b33)])) _
    refine XS.iconst X51.here hx rfl (hb hby at_87) ?_
    show Steps pP.tables eE below (T51.setTop (mkF mM 88 #[.val (.int p1), .val (.int p2), .val (.int p3), .val (.int p4), .val (.int p5), .val (.int z2), .val (.int z4), .val (.ref a6), .val (.int nv), .val (.ref b33), .unset, .unset, .unset] [(.int (1 : Int32)), (.int z4), (.int nv), (.ref a6), (.int (1 : Int32)), (.ref b33)])) _
    refine XS.iloadN X51.here hx rfl (hb hby at_88) rfl ?_
    show Steps pP.tables eE below (T51.setTop (mkF mM 89 #[.val (.int p1), .val (.int p2), .val (.int p3), .val (.int p4), .val (.int p5), .val (.int z2), .val (.int z4), .val (.ref a6), .val (.int nv), .val (.ref b33), .unset, .unset, .unset] [(.int p4), (.int (1 : Int32)), (.int z4), (.int nv), (.ref a6), (.int (1 : Int32)), (.ref b33)])) _
    refine XS.iload X51.here hx rfl (hb hby at_89) rfl ?_
    exact kg)
  have c60 := (Nat.le_trans c47 (Keep.of_wr W51).1)
  obtain ⟨_, _, ⟨T61, L61, kk61, nn61⟩, -, X61, ⟨Lc61, hQ61, l61, y61, z61⟩, st61⟩ := Jvm.LawKit.callS X51 hx (y := (⟨"com/example/thawline/thawline/CandidateTypeOfTokenPinLaw", "pick", "(Ljava/lang/String;IIIII)C"⟩ : MethodName)) hown (mvT hZ (hw _ (List.mem_of_getElem? (i := 22) rfl))) (mvT hZ (hw _ (List.mem_of_getElem? (i := 23) rfl))) (mvT hZ (hw _ (List.mem_of_getElem? (i := 24) rfl))) (mvT hZ (hw _ (List.mem_of_getElem? (i := 25) rfl))) (by decide) (backOf (W := 2) (rm2 l Z a0 hw [] cs sf a6 b6 kc6 nv vs z4 (1 : Int32) p4 p5 h51 n0 c60 c58 S_cs hcs S_sf rsf c54 c55 c56 c57 hvs (by decide)) hZ (hw _ (List.mem_of_getElem? (i := 25) rfl)) (hw _ (List.mem_of_getElem? (i := 24) rfl)) (by decide) (by decide)) (g := (mkF mM 91 #[.val (.int p1), .val (.int p2), .val (.int p3), .val (.int p4), .val (.int p5), .val (.int z2), .val (.int z4), .val (.ref a6), .val (.int nv), .val (.ref b33), .unset, .unset, .unset] [(.int p5), (.int p4), (.int (1 : Int32)), (.int z4), (.int nv), (.ref a6), (.int (1 : Int32)), (.ref b33)])) rfl (by rw [hml]; rfl) (argsL := [(.ref a6), (.int nv), (.int z4), (.int (1 : Int32)), (.int p4), (.int p5)]) (rest := [(.int (1 : Int32)), (.ref b33)]) (lenOf pd_11 rfl) rfl (by show 2 * 0 + _ ≤ _; exact Nat.le_of_eq rfl) (hb hby at_91) (fun _ _ => ⟨rfl, e51, (by decide : 3 + 0 ≤ _), (by decide : 30 + 0 ≤ _)⟩)
  dsimp only [Pt.U, Pt.locs, Pt.cells, Pt.slots] at X61 l61 y61 z61 st61 hQ61
  subst l61 y61 z61
  obtain ⟨r61, rfl, hb61, Nq61, e61⟩ := hQ61
  have N61 := Fr.app N51 Nq61
  have pr62 : ∀ tg, Steps pP.tables eE below (T61.setTop (mkF mM 94 #[.val (.int p1), .val (.int p2), .val (.int p3), .val (.int p4), .val (.int p5), .val (.int z2), .val (.int z4), .val (.ref a6), .val (.int nv), .val (.ref b33), .unset, .unset, .unset] [(.int r61), (.int (1 : Int32)), (.ref b33)])) tg → Steps pP.tables eE below (s₁.setTop (entryFrame mM #[(.int p1), (.int p2), (.int p3), (.int p4), (.int p5)] maxLocals)) tg := fun tg kg => pr59 _ (st61 _ kg)
  obtain ⟨cla63, Ara63, qa63, Sa63, Ma63, Ha63, Ga63⟩ := id V51
  have hin64 : ¬ ((1 : Int32) < 0 ∨ cla63.slots.size ≤ ((1 : Int32)).toNatClampNeg) := inb_of Sa63 ⟨by decide, by decide⟩
  obtain ⟨T64, h64, X64, e64, W64, st64⟩ := stC X61 hx hZ e61 Ara63 (j := (1 : Int32)) hin64 (g := (mkF mM 94 #[.val (.int p1), .val (.int p2), .val (.int p3), .val (.int p4), .val (.int p5), .val (.int z2), .val (.int z4), .val (.ref a6), .val (.int nv), .val (.ref b33), .unset, .unset, .unset] [(.int r61), (.int (1 : Int32)), (.ref b33)])) rfl rfl (hb hby at_94)
  have V64 : Arv Z h64 b33 k33 .char (6 : Int32) [(.int (nar .char r48)), (.int (nar .char r61)), (.int (0 : Int32)), (.int (0 : Int32)), (.int (0 : Int32)), (.int (0 : Int32))] (.int (0 : Int32)) := Arv.set Ara63 qa63 Sa63 Ma63 Ha63 Ga63 (fits_nar_char _) W64 1 rfl (Nat.le_of_ble_eq_true rfl)
  have N64 := Fr.snoc X64 N61 gn36
  have sf65_b33 := Safe.wr W64 sf52_b33 cr52.1 sf52_b33
  have cr65 := CHr.trans cr52 (CHr.wr W64 sf52_b33 cr52.1)
  have pr66 : ∀ tg, Steps pP.tables eE below (T64.setTop (mkF mM 95 #[.val (.int p1), .val (.int p2), .val (.int p3), .val (.int p4), .val (.int p5), .val (.int z2), .val (.int z4), .val (.ref a6), .val (.int nv), .val (.ref b33), .unset, .unset, .unset] [])) tg → Steps pP.tables eE below (s₁.setTop (entryFrame mM #[(.int p1), (.int p2), (.int p3), (.int p4), (.int p5)] maxLocals)) tg := fun tg kg => pr62 _ (st64 _ kg)
  have c67 := (Exa.wr W64 c54)
  have c68 := (Fld.other W64 c55 (Or.inl ne34))
  have c69 := (Fld.other W64 c56 (Or.inl ne34))
  have c70 := (Arv.other c57 W64 ne35)
  have c71 := (Old.wr c58 W64 gn36)
  have pr72 : ∀ tg, Steps pP.tables eE below (T64.setTop (mkF mM 108 #[.val (.int p1), .val (.int p2), .val (.int p3), .val (.int p4), .val (.int p5), .val (.int z2), .val (.int z4), .val (.ref a6), .val (.int nv), .val (.ref b33), .unset, .unset, .unset] [(.int p5), (.int p4), (.int (2 : Int32)), (.int z4), (.int nv), (.ref a6), (.int (2 : Int32)), (.ref b33)])) tg → Steps pP.tables eE below (s₁.setTop (entryFrame mM #[(.int p1), (.int p2), (.int p3), (.int p4), (.int p5)] maxLocals)) tg := fun tg kg => pr66 _ (by
    show Steps pP.tables eE below (T64.setTop (mkF mM 95 #[.val (.int p1), .val (.int p2), .val (.int p3), .val (.int p4), .val (.int p5), .val (.int z2), .val (.int z4), .val (.ref a6), .val (.int nv), .val (.ref b33), .unset, .unset, .unset] [])) _
    refine XS.aload X64.here hx rfl (hb hby at_95) rfl rfl ?_
    show Steps pP.tables eE below (T64.setTop (mkF mM 97 #[.val (.int p1), .val (.int p2), .val (.int p3), .val (.int p4), .val (.int p5), .val (.int z2), .val (.int z4), .val (.ref a6), .val (.int nv), .val (.ref b33), .unset, .unset, .unset] [(.ref b33)])) _
    refine XS.iconst X64.here hx rfl (hb hby at_97) ?_
    show Steps pP.tables eE below (T64.setTop (mkF mM 98 #[.val (.int p1), .val (.int p2), .val (.int p3), .val (.int p4), .val (.int p5), .val (.int z2), .val (.int z4), .val (.ref a6), .val (.int nv), .val (.ref b33), .unset, .unset, .unset] [(.int (2 : Int32)), (.ref b33)])) _
    refine XS.aload X64.here hx rfl (hb hby at_98) rfl rfl ?_
    show Steps pP.tables eE below (T64.setTop (mkF mM 100 #[.val (.int p1), .val (.int p2), .val (.int p3), .val (.int p4), .val (.int p5), .val (.int z2), .val (.int z4), .val (.ref a6), .val (.int nv), .val (.ref b33), .unset, .unset, .unset] [(.ref a6), (.int (2 : Int32)), (.ref b33)])) _
    refine XS.iload X64.here hx rfl (hb hby at_100) rfl ?_
    show Steps pP.tables eE below (T64.setTop (mkF mM 102 #[.val (.int p1), .val (.int p2), .val (.int p3), .val (.int p4), .val (.int p5), .val (.int z2), .val (.int z4), .val (.ref a6), .val (.int nv), .val (.ref b33), .unset, .unset, .unset] [(.int nv), (.ref a6), (.int (2 : Int32)), (.ref b33)])) _
    refine XS.iload X64.here hx rfl (hb hby at_102) rfl ?_
    show Steps pP.tables eE below (T64.setTop (mkF mM 104 #[.val (.int p1), .val (.int p2), .val (.int p3), .val (.int p4), .val (.int p5), .val (.int z2), .val (.int z4), .val (.ref a6), .val (.int nv), .val (.ref b33), .unset, .unset, .unset] [(.int z4), (.int nv), (.ref a6), (.int (2 : Int32)), (.ref b33)])) _
    refine XS.iconst X64.here hx rfl (hb hby at_104) ?_
    show Steps pP.tables eE below (T64.setTop (mkF mM 105 #[.val (.int p1), .val (.int p2), .val (.int p3), .val (.int p4), .val (.int p5), .val (.int z2), .val (.int z4), .val (.ref a6), .val (.int nv), .val (.ref b33), .unset, .unset, .unset] [(.int (2 : Int32)), (.int z4), (.int nv), (.ref a6), (.int (2 : Int32)), (.ref b33)])) _
    refine XS.iloadN X64.here hx rfl (hb hby at_105) rfl ?_
    show Steps pP.tables eE below (T64.setTop (mkF mM 106 #[.val (.int p1), .val (.int p2), .val (.int p3), .val (.int p4), .val (.int p5), .val (.int z2), .val (.int z4), .val (.ref a6), .val (.int nv), .val (.ref b33), .unset, .unset, .unset] [(.int p4), (.int (2 : Int32)), (.int z4), (.int nv), (.ref a6), (.int (2 : Int32)), (.ref b33)])) _
    refine XS.iload X64.here hx rfl (hb hby at_106) rfl ?_
    exact kg)
  have c73 := (Nat.le_trans c60 (Keep.of_wr W64).1)
  obtain ⟨_, _, ⟨T74, L74, kk74, nn74⟩, -, X74, ⟨Lc74, hQ74, l74, y74, z74⟩, st74⟩ := Jvm.LawKit.callS X64 hx (y := (⟨"com/example/thawline/thawline/CandidateTypeOfTokenPinLaw", "pick", "(Ljava/lang/String;IIIII)C"⟩ : MethodName)) hown (mvT hZ (hw _ (List.mem_of_getElem? (i := 22) rfl))) (mvT hZ (hw _ (List.mem_of_getElem? (i := 23) rfl))) (mvT hZ (hw _ (List.mem_of_getElem? (i := 24) rfl))) (mvT hZ (hw _ (List.mem_of_getElem? (i := 25) rfl))) (by decide) (backOf (W := 2) (rm2 l Z a0 hw [] cs sf a6 b6 kc6 nv vs z4 (2 : Int32) p4 p5 h64 n0 c73 c71 S_cs hcs S_sf rsf c67 c68 c69 c70 hvs (by decide)) hZ (hw _ (List.mem_of_getElem? (i := 25) rfl)) (hw _ (List.mem_of_getElem? (i := 24) rfl)) (by decide) (by decide)) (g := (mkF mM 108 #[.val (.int p1), .val (.int p2), .val (.int p3), .val (.int p4), .val (.int p5), .val (.int z2), .val (.int z4), .val (.ref a6), .val (.int nv), .val (.ref b33), .unset, .unset, .unset] [(.int p5), (.int p4), (.int (2 : Int32)), (.int z4), (.int nv), (.ref a6), (.int (2 : Int32)), (.ref b33)])) rfl (by rw [hml]; rfl) (argsL := [(.ref a6), (.int nv), (.int z4), (.int (2 : Int32)), (.int p4), (.int p5)]) (rest := [(.int (2 : Int32)), (.ref b33)]) (lenOf pd_11 rfl) rfl (by show 2 * 0 + _ ≤ _; exact Nat.le_of_eq rfl) (hb hby at_108) (fun _ _ => ⟨rfl, e64, (by decide : 3 + 0 ≤ _), (by decide : 30 + 0 ≤ _)⟩)
  dsimp only [Pt.U, Pt.locs, Pt.cells, Pt.slots] at X74 l74 y74 z74 st74 hQ74
  subst l74 y74 z74
  obtain ⟨r74, rfl, hb74, Nq74, e74⟩ := hQ74
  have N74 := Fr.app N64 Nq74
  have pr75 : ∀ tg, Steps pP.tables eE below (T74.setTop (mkF mM 111 #[.val (.int p1), .val (.int p2), .val (.int p3), .val (.int p4), .val (.int p5), .val (.int z2), .val (.int z4), .val (.ref a6), .val (.int nv), .val (.ref b33), .unset, .unset, .unset] [(.int r74), (.int (2 : Int32)), (.ref b33)])) tg → Steps pP.tables eE below (s₁.setTop (entryFrame mM #[(.int p1), (.int p2), (.int p3), (.int p4), (.int p5)] maxLocals)) tg := fun tg kg => pr72 _ (st74 _ kg)
  obtain ⟨cla76, Ara76, qa76, Sa76, Ma76, Ha76, Ga76⟩ := id V64
  have hin77 : ¬ ((2 : Int32) < 0 ∨ cla76.slots.size ≤ ((2 : Int32)).toNatClampNeg) := inb_of Sa76 ⟨by decide, by decide⟩
  obtain ⟨T77, h77, X77, e77, W77, st77⟩ := stC X74 hx hZ e74 Ara76 (j := (2 : Int32)) hin77 (g := (mkF mM 111 #[.val (.int p1), .val (.int p2), .val (.int p3), .val (.int p4), .val (.int p5), .val (.int z2), .val (.int z4), .val (.ref a6), .val (.int nv), .val (.ref b33), .unset, .unset, .unset] [(.int r74), (.int (2 : Int32)), (.ref b33)])) rfl rfl (hb hby at_111)
  have V77 : Arv Z h77 b33 k33 .char (6 : Int32) [(.int (nar .char r48)), (.int (nar .char r61)), (.int (nar .char r74)), (.int (0 : Int32)), (.int (0 : Int32)), (.int (0 : Int32))] (.int (0 : Int32)) := Arv.set Ara76 qa76 Sa76 Ma76 Ha76 Ga76 (fits_nar_char _) W77 2 rfl (Nat.le_of_ble_eq_true rfl)
  have N77 := Fr.snoc X77 N74 gn36
  have sf78_b33 := Safe.wr W77 sf65_b33 cr65.1 sf65_b33
  have cr78 := CHr.trans cr65 (CHr.wr W77 sf65_b33 cr65.1)
  have pr79 : ∀ tg, Steps pP.tables eE below (T77.setTop (mkF mM 112 #[.val (.int p1), .val (.int p2), .val (.int p3), .val (.int p4), .val (.int p5), .val (.int z2), .val (.int z4), .val (.ref a6), .val (.int nv), .val (.ref b33), .unset, .unset, .unset] [])) tg → Steps pP.tables eE below (s₁.setTop (entryFrame mM #[(.int p1), (.int p2), (.int p3), (.int p4), (.int p5)] maxLocals)) tg := fun tg kg => pr75 _ (st77 _ kg)
  have c80 := (Exa.wr W77 c67)
  have c81 := (Fld.other W77 c68 (Or.inl ne34))
  have c82 := (Fld.other W77 c69 (Or.inl ne34))
  have c83 := (Arv.other c70 W77 ne35)
  have c84 := (Old.wr c71 W77 gn36)
  have pr85 : ∀ tg, Steps pP.tables eE below (T77.setTop (mkF mM 125 #[.val (.int p1), .val (.int p2), .val (.int p3), .val (.int p4), .val (.int p5), .val (.int z2), .val (.int z4), .val (.ref a6), .val (.int nv), .val (.ref b33), .unset, .unset, .unset] [(.int p5), (.int p4), (.int (3 : Int32)), (.int z4), (.int nv), (.ref a6), (.int (3 : Int32)), (.ref b33)])) tg → Steps pP.tables eE below (s₁.setTop (entryFrame mM #[(.int p1), (.int p2), (.int p3), (.int p4), (.int p5)] maxLocals)) tg := fun tg kg => pr79 _ (by
    show Steps pP.tables eE below (T77.setTop (mkF mM 112 #[.val (.int p1), .val (.int p2), .val (.int p3), .val (.int p4), .val (.int p5), .val (.int z2), .val (.int z4), .val (.ref a6), .val (.int nv), .val (.ref b33), .unset, .unset, .unset] [])) _
    refine XS.aload X77.here hx rfl (hb hby at_112) rfl rfl ?_
    show Steps pP.tables eE below (T77.setTop (mkF mM 114 #[.val (.int p1), .val (.int p2), .val (.int p3), .val (.int p4), .val (.int p5), .val (.int z2), .val (.int z4), .val (.ref a6), .val (.int nv), .val (.ref b33), .unset, .unset, .unset] [(.ref b33)])) _
    refine XS.iconst X77.here hx rfl (hb hby at_114) ?_
    show Steps pP.tables eE below (T77.setTop (mkF mM 115 #[.val (.int p1), .val (.int p2), .val (.int p3), .val (.int p4), .val (.int p5), .val (.int z2), .val (.int z4), .val (.ref a6), .val (.int nv), .val (.ref b33), .unset, .unset, .unset] [(.int (3 : Int32)), (.ref b33)])) _
    refine XS.aload X77.here hx rfl (hb hby at_115) rfl rfl ?_
    show Steps pP.tables eE below (T77.setTop (mkF mM 117 #[.val (.int p1), .val (.int p2), .val (.int p3), .val (.int p4), .val (.int p5), .val (.int z2), .val (.int z4), .val (.ref a6), .val (.int nv), .val (.ref b33), .unset, .unset, .unset] [(.ref a6), (.int (3 : Int32)), (.ref b33)])) _
    refine XS.iload X77.here hx rfl (hb hby at_117) rfl ?_
    show Steps pP.tables eE below (T77.setTop (mkF mM 119 #[.val (.int p1), .val (.int p2), .val (.int p3), .val (.int p4), .val (.int p5), .val (.int z2), .val (.int z4), .val (.ref a6), .val (.int nv), .val (.ref b33), .unset, .unset, .unset] [(.int nv), (.ref a6), (.int (3 : Int32)), (.ref b33)])) _
    refine XS.iload X77.here hx rfl (hb hby at_119) rfl ?_
    show Steps pP.tables eE below (T77.setTop (mkF mM 121 #[.val (.int p1), .val (.int p2), .val (.int p3), .val (.int p4), .val (.int p5), .val (.int z2), .val (.int z4), .val (.ref a6), .val (.int nv), .val (.ref b33), .unset, .unset, .unset] [(.int z4), (.int nv), (.ref a6), (.int (3 : Int32)), (.ref b33)])) _
    refine XS.iconst X77.here hx rfl (hb hby at_121) ?_
    show Steps pP.tables eE below (T77.setTop (mkF mM 122 #[.val (.int p1), .val (.int p2), .val (.int p3), .val (.int p4), .val (.int p5), .val (.int z2), .val (.int z4), .val (.ref a6), .val (.int nv), .val (.ref b33), .unset, .unset, .unset] [(.int (3 : Int32)), (.int z4), (.int nv), (.ref a6), (.int (3 : Int32)), (.ref b33)])) _
    refine XS.iloadN X77.here hx rfl (hb hby at_122) rfl ?_
    show Steps pP.tables eE below (T77.setTop (mkF mM 123 #[.val (.int p1), .val (.int p2), .val (.int p3), .val (.int p4), .val (.int p5), .val (.int z2), .val (.int z4), .val (.ref a6), .val (.int nv), .val (.ref b33), .unset, .unset, .unset] [(.int p4), (.int (3 : Int32)), (.int z4), (.int nv), (.ref a6), (.int (3 : Int32)), (.ref b33)])) _
    refine XS.iload X77.here hx rfl (hb hby at_123) rfl ?_
    exact kg)
  have c86 := (Nat.le_trans c73 (Keep.of_wr W77).1)
  obtain ⟨_, _, ⟨T87, L87, kk87, nn87⟩, -, X87, ⟨Lc87, hQ87, l87, y87, z87⟩, st87⟩ := Jvm.LawKit.callS X77 hx (y := (⟨"com/example/thawline/thawline/CandidateTypeOfTokenPinLaw", "pick", "(Ljava/lang/String;IIIII)C"⟩ : MethodName)) hown (mvT hZ (hw _ (List.mem_of_getElem? (i := 22) rfl))) (mvT hZ (hw _ (List.mem_of_getElem? (i := 23) rfl))) (mvT hZ (hw _ (List.mem_of_getElem? (i := 24) rfl))) (mvT hZ (hw _ (List.mem_of_getElem? (i := 25) rfl))) (by decide) (backOf (W := 2) (rm2 l Z a0 hw [] cs sf a6 b6 kc6 nv vs z4 (3 : Int32) p4 p5 h77 n0 c86 c84 S_cs hcs S_sf rsf c80 c81 c82 c83 hvs (by decide)) hZ (hw _ (List.mem_of_getElem? (i := 25) rfl)) (hw _ (List.mem_of_getElem? (i := 24) rfl)) (by decide) (by decide)) (g := (mkF mM 125 #[.val (.int p1), .val (.int p2), .val (.int p3), .val (.int p4), .val (.int p5), .val (.int z2), .val (.int z4), .val (.ref a6), .val (.int nv), .val (.ref b33), .unset, .unset, .unset] [(.int p5), (.int p4), (.int (3 : Int32)), (.int z4), (.int nv), (.ref a6), (.int (3 : Int32)), (.ref b33)])) rfl (by rw [hml]; rfl) (argsL := [(.ref a6), (.int nv), (.int z4), (.int (3 : Int32)), (.int p4), (.int p5)]) (rest := [(.int (3 : Int32)), (.ref b33)]) (lenOf pd_11 rfl) rfl (by show 2 * 0 + _ ≤ _; exact Nat.le_of_eq rfl) (hb hby at_125) (fun _ _ => ⟨rfl, e77, (by decide : 3 + 0 ≤ _), (by decide : 30 + 0 ≤ _)⟩)
  dsimp only [Pt.U, Pt.locs, Pt.cells, Pt.slots] at X87 l87 y87 z87 st87 hQ87
  subst l87 y87 z87
  obtain ⟨r87, rfl, hb87, Nq87, e87⟩ := hQ87
  have N87 := Fr.app N77 Nq87
  have pr88 : ∀ tg, Steps pP.tables eE below (T87.setTop (mkF mM 128 #[.val (.int p1), .val (.int p2), .val (.int p3), .val (.int p4), .val (.int p5), .val (.int z2), .val (.int z4), .val (.ref a6), .val (.int nv), .val (.ref b33), .unset, .unset, .unset] [(.int r87), (.int (3 : Int32)), (.ref b33)])) tg → Steps pP.tables eE below (s₁.setTop (entryFrame mM #[(.int p1), (.int p2), (.int p3), (.int p4), (.int p5)] maxLocals)) tg := fun tg kg => pr85 _ (st87 _ kg)
  obtain ⟨cla89, Ara89, qa89, Sa89, Ma89, Ha89, Ga89⟩ := id V77
  have hin90 : ¬ ((3 : Int32) < 0 ∨ cla89.slots.size ≤ ((3 : Int32)).toNatClampNeg) := inb_of Sa89 ⟨by decide, by decide⟩
  obtain ⟨T90, h90, X90, e90, W90, st90⟩ := stC X87 hx hZ e87 Ara89 (j := (3 : Int32)) hin90 (g := (mkF mM 128 #[.val (.int p1), .val (.int p2), .val (.int p3), .val (.int p4), .val (.int p5), .val (.int z2), .val (.int z4), .val (.ref a6), .val (.int nv), .val (.ref b33), .unset, .unset, .unset] [(.int r87), (.int (3 : Int32)), (.ref b33)])) rfl rfl (hb hby at_128)
  have V90 : Arv Z h90 b33 k33 .char (6 : Int32) [(.int (nar .char r48)), (.int (nar .char r61)), (.int (nar .char r74)), (.int (nar .char r87)), (.int (0 : Int32)), (.int (0 : Int32))] (.int (0 : Int32)) := Arv.set Ara89 qa89 Sa89 Ma89 Ha89 Ga89 (fits_nar_char _) W90 3 rfl (Nat.le_of_ble_eq_true rfl)
  have N90 := Fr.snoc X90 N87 gn36
  have sf91_b33 := Safe.wr W90 sf78_b33 cr78.1 sf78_b33
  have cr91 := CHr.trans cr78 (CHr.wr W90 sf78_b33 cr78.1)
  have pr92 : ∀ tg, Steps pP.tables eE below (T90.setTop (mkF mM 129 #[.val (.int p1), .val (.int p2), .val (.int p3), .val (.int p4), .val (.int p5), .val (.int z2), .val (.int z4), .val (.ref a6), .val (.int nv), .val (.ref b33), .unset, .unset, .unset] [])) tg → Steps pP.tables eE below (s₁.setTop (entryFrame mM #[(.int p1), (.int p2), (.int p3), (.int p4), (.int p5)] maxLocals)) tg := fun tg kg => pr88 _ (st90 _ kg)
  have c93 := (Exa.wr W90 c80)
  have c94 := (Fld.other W90 c81 (Or.inl ne34))
  have c95 := (Fld.other W90 c82 (Or.inl ne34))
  have c96 := (Arv.other c83 W90 ne35)
  have c97 := (Old.wr c84 W90 gn36)
  have pr98 : ∀ tg, Steps pP.tables eE below (T90.setTop (mkF mM 142 #[.val (.int p1), .val (.int p2), .val (.int p3), .val (.int p4), .val (.int p5), .val (.int z2), .val (.int z4), .val (.ref a6), .val (.int nv), .val (.ref b33), .unset, .unset, .unset] [(.int p5), (.int p4), (.int (4 : Int32)), (.int z4), (.int nv), (.ref a6), (.int (4 : Int32)), (.ref b33)])) tg → Steps pP.tables eE below (s₁.setTop (entryFrame mM #[(.int p1), (.int p2), (.int p3), (.int p4), (.int p5)] maxLocals)) tg := fun tg kg => pr92 _ (by
    show Steps pP.tables eE below (T90.setTop (mkF mM 129 #[.val (.int p1), .val (.int p2), .val (.int p3), .val (.int p4), .val (.int p5), .val (.int z2), .val (.int z4), .val (.ref a6), .val (.int nv), .val (.ref b33), .unset, .unset, .unset] [])) _
    refine XS.aload X90.here hx rfl (hb hby at_129) rfl rfl ?_
    show Steps pP.tables eE below (T90.setTop (mkF mM 131 #[.val (.int p1), .val (.int p2), .val (.int p3), .val (.int p4), .val (.int p5), .val (.int z2), .val (.int z4), .val (.ref a6), .val (.int nv), .val (.ref b33), .unset, .unset, .unset] [(.ref b33)])) _
    refine XS.iconst X90.here hx rfl (hb hby at_131) ?_
    show Steps pP.tables eE below (T90.setTop (mkF mM 132 #[.val (.int p1), .val (.int p2), .val (.int p3), .val (.int p4), .val (.int p5), .val (.int z2), .val (.int z4), .val (.ref a6), .val (.int nv), .val (.ref b33), .unset, .unset, .unset] [(.int (4 : Int32)), (.ref b33)])) _
    refine XS.aload X90.here hx rfl (hb hby at_132) rfl rfl ?_
    show Steps pP.tables eE below (T90.setTop (mkF mM 134 #[.val (.int p1), .val (.int p2), .val (.int p3), .val (.int p4), .val (.int p5), .val (.int z2), .val (.int z4), .val (.ref a6), .val (.int nv), .val (.ref b33), .unset, .unset, .unset] [(.ref a6), (.int (4 : Int32)), (.ref b33)])) _
    refine XS.iload X90.here hx rfl (hb hby at_134) rfl ?_
    show Steps pP.tables eE below (T90.setTop (mkF mM 136 #[.val (.int p1), .val (.int p2), .val (.int p3), .val (.int p4), .val (.int p5), .val (.int z2), .val (.int z4), .val (.ref a6), .val (.int nv), .val (.ref b33), .unset, .unset, .unset] [(.int nv), (.ref a6), (.int (4 : Int32)), (.ref b33)])) _
    refine XS.iload X90.here hx rfl (hb hby at_136) rfl ?_
    show Steps pP.tables eE below (T90.setTop (mkF mM 138 #[.val (.int p1), .val (.int p2), .val (.int p3), .val (.int p4), .val (.int p5), .val (.int z2), .val (.int z4), .val (.ref a6), .val (.int nv), .val (.ref b33), .unset, .unset, .unset] [(.int z4), (.int nv), (.ref a6), (.int (4 : Int32)), (.ref b33)])) _
    refine XS.iconst X90.here hx rfl (hb hby at_138) ?_
    show Steps pP.tables eE below (T90.setTop (mkF mM 139 #[.val (.int p1), .val (.int p2), .val (.int p3), .val (.int p4), .val (.int p5), .val (.int z2), .val (.int z4), .val (.ref a6), .val (.int nv), .val (.ref b33), .unset, .unset, .unset] [(.int (4 : Int32)), (.int z4), (.int nv), (.ref a6), (.int (4 : Int32)), (.ref b33)])) _
    refine XS.iloadN X90.here hx rfl (hb hby at_139) rfl ?_
    show Steps pP.tables eE below (T90.setTop (mkF mM 140 #[.val (.int p1), .val (.int p2), .val (.int p3), .val (.int p4), .val (.int p5), .val (.int z2), .val (.int z4), .val (.ref a6), .val (.int nv), .val (.ref b33), .unset, .unset, .unset] [(.int p4), (.int (4 : Int32)), (.int z4), (.int nv), (.ref a6), (.int (4 : Int32)), (.ref b33)])) _
    refine XS.iload X90.here hx rfl (hb hby at_140) rfl ?_
    exact kg)
  have c99 := (Nat.le_trans c86 (Keep.of_wr W90).1)
  obtain ⟨_, _, ⟨T100, L100, kk100, nn100⟩, -, X100, ⟨Lc100, hQ100, l100, y100, z100⟩, st100⟩ := Jvm.LawKit.callS X90 hx (y := (⟨"com/example/thawline/thawline/CandidateTypeOfTokenPinLaw", "pick", "(Ljava/lang/String;IIIII)C"⟩ : MethodName)) hown (mvT hZ (hw _ (List.mem_of_getElem? (i := 22) rfl))) (mvT hZ (hw _ (List.mem_of_getElem? (i := 23) rfl))) (mvT hZ (hw _ (List.mem_of_getElem? (i := 24) rfl))) (mvT hZ (hw _ (List.mem_of_getElem? (i := 25) rfl))) (by decide) (backOf (W := 2) (rm2 l Z a0 hw [] cs sf a6 b6 kc6 nv vs z4 (4 : Int32) p4 p5 h90 n0 c99 c97 S_cs hcs S_sf rsf c93 c94 c95 c96 hvs (by decide)) hZ (hw _ (List.mem_of_getElem? (i := 25) rfl)) (hw _ (List.mem_of_getElem? (i := 24) rfl)) (by decide) (by decide)) (g := (mkF mM 142 #[.val (.int p1), .val (.int p2), .val (.int p3), .val (.int p4), .val (.int p5), .val (.int z2), .val (.int z4), .val (.ref a6), .val (.int nv), .val (.ref b33), .unset, .unset, .unset] [(.int p5), (.int p4), (.int (4 : Int32)), (.int z4), (.int nv), (.ref a6), (.int (4 : Int32)), (.ref b33)])) rfl (by rw [hml]; rfl) (argsL := [(.ref a6), (.int nv), (.int z4), (.int (4 : Int32)), (.int p4), (.int p5)]) (rest := [(.int (4 : Int32)), (.ref b33)]) (lenOf pd_11 rfl) rfl (by show 2 * 0 + _ ≤ _; exact Nat.le_of_eq rfl) (hb hby at_142) (fun _ _ => ⟨rfl, e90, (by decide : 3 + 0 ≤ _), (by decide : 30 + 0 ≤ _)⟩)
  dsimp only [Pt.U, Pt.locs, Pt.cells, Pt.slots] at X100 l100 y100 z100 st100 hQ100
  subst l100 y100 z100
  obtain ⟨r100, rfl, hb100, Nq100, e100⟩ := hQ100
  have N100 := Fr.app N90 Nq100
  have pr101 : ∀ tg, Steps pP.tables eE below (T100.setTop (mkF mM 145 #[.val (.int p1), .val (.int p2), .val (.int p3), .val (.int p4), .val (.int p5), .val (.int z2), .val (.int z4), .val (.ref a6), .val (.int nv), .val (.ref b33), .unset, .unset, .unset] [(.int r100), (.int (4 : Int32)), (.ref b33)])) tg → Steps pP.tables eE below (s₁.setTop (entryFrame mM #[(.int p1), (.int p2), (.int p3), (.int p4), (.int p5)] maxLocals)) tg := fun tg kg => pr98 _ (st100 _ kg)
  obtain ⟨cla102, Ara102, qa102, Sa102, Ma102, Ha102, Ga102⟩ := id V90
  have hin103 : ¬ ((4 : Int32) < 0 ∨ cla102.slots.size ≤ ((4 : Int32)).toNatClampNeg) := inb_of Sa102 ⟨by decide, by decide⟩
  obtain ⟨T103, h103, X103, e103, W103, st103⟩ := stC X100 hx hZ e100 Ara102 (j := (4 : Int32)) hin103 (g := (mkF mM 145 #[.val (.int p1), .val (.int p2), .val (.int p3), .val (.int p4), .val (.int p5), .val (.int z2), .val (.int z4), .val (.ref a6), .val (.int nv), .val (.ref b33), .unset, .unset, .unset] [(.int r100), (.int (4 : Int32)), (.ref b33)])) rfl rfl (hb hby at_145)
  have V103 : Arv Z h103 b33 k33 .char (6 : Int32) [(.int (nar .char r48)), (.int (nar .char r61)), (.int (nar .char r74)), (.int (nar .char r87)), (.int (nar .char r100)), (.int (0 : Int32))] (.int (0 : Int32)) := Arv.set Ara102 qa102 Sa102 Ma102 Ha102 Ga102 (fits_nar_char _) W103 4 rfl (Nat.le_of_ble_eq_true rfl)
  have N103 := Fr.snoc X103 N100 gn36
  have sf104_b33 := Safe.wr W103 sf91_b33 cr91.1 sf91_b33
  have cr104 := CHr.trans cr91 (CHr.wr W103 sf91_b33 cr91.1)
  have pr105 : ∀ tg, Steps pP.tables eE below (T103.setTop (mkF mM 146 #[.val (.int p1), .val (.int p2), .val (.int p3), .val (.int p4), .val (.int p5), .val (.int z2), .val (.int z4), .val (.ref a6), .val (.int nv), .val (.ref b33), .unset, .unset, .unset] [])) tg → Steps pP.tables eE below (s₁.setTop (entryFrame mM #[(.int p1), (.int p2), (.int p3), (.int p4), (.int p5)] maxLocals)) tg := fun tg kg => pr101 _ (st103 _ kg)
  have c106 := (Exa.wr W103 c93)
  have c107 := (Fld.other W103 c94 (Or.inl ne34))
  have c108 := (Fld.other W103 c95 (Or.inl ne34))
  have c109 := (Arv.other c96 W103 ne35)
  have c110 := (Old.wr c97 W103 gn36)
  have pr111 : ∀ tg, Steps pP.tables eE below (T103.setTop (mkF mM 159 #[.val (.int p1), .val (.int p2), .val (.int p3), .val (.int p4), .val (.int p5), .val (.int z2), .val (.int z4), .val (.ref a6), .val (.int nv), .val (.ref b33), .unset, .unset, .unset] [(.int p5), (.int p4), (.int (5 : Int32)), (.int z4), (.int nv), (.ref a6), (.int (5 : Int32)), (.ref b33)])) tg → Steps pP.tables eE below (s₁.setTop (entryFrame mM #[(.int p1), (.int p2), (.int p3), (.int p4), (.int p5)] maxLocals)) tg := fun tg kg => pr105 _ (by
    show Steps pP.tables eE below (T103.setTop (mkF mM 146 #[.val (.int p1), .val (.int p2), .val (.int p3), .val (.int p4), .val (.int p5), .val (.int z2), .val (.int z4), .val (.ref a6), .val (.int nv), .val (.ref b33), .unset, .unset, .unset] [])) _
    refine XS.aload X103.here hx rfl (hb hby at_146) rfl rfl ?_
    show Steps pP.tables eE below (T103.setTop (mkF mM 148 #[.val (.int p1), .val (.int p2), .val (.int p3), .val (.int p4), .val (.int p5), .val (.int z2), .val (.int z4), .val (.ref a6), .val (.int nv), .val (.ref b33), .unset, .unset, .unset] [(.ref b33)])) _
    refine XS.iconst X103.here hx rfl (hb hby at_148) ?_
    show Steps pP.tables eE below (T103.setTop (mkF mM 149 #[.val (.int p1), .val (.int p2), .val (.int p3), .val (.int p4), .val (.int p5), .val (.int z2), .val (.int z4), .val (.ref a6), .val (.int nv), .val (.ref b33), .unset, .unset, .unset] [(.int (5 : Int32)), (.ref b33)])) _
    refine XS.aload X103.here hx rfl (hb hby at_149) rfl rfl ?_
    show Steps pP.tables eE below (T103.setTop (mkF mM 151 #[.val (.int p1), .val (.int p2), .val (.int p3), .val (.int p4), .val (.int p5), .val (.int z2), .val (.int z4), .val (.ref a6), .val (.int nv), .val (.ref b33), .unset, .unset, .unset] [(.ref a6), (.int (5 : Int32)), (.ref b33)])) _
    refine XS.iload X103.here hx rfl (hb hby at_151) rfl ?_
    show Steps pP.tables eE below (T103.setTop (mkF mM 153 #[.val (.int p1), .val (.int p2), .val (.int p3), .val (.int p4), .val (.int p5), .val (.int z2), .val (.int z4), .val (.ref a6), .val (.int nv), .val (.ref b33), .unset, .unset, .unset] [(.int nv), (.ref a6), (.int (5 : Int32)), (.ref b33)])) _
    refine XS.iload X103.here hx rfl (hb hby at_153) rfl ?_
    show Steps pP.tables eE below (T103.setTop (mkF mM 155 #[.val (.int p1), .val (.int p2), .val (.int p3), .val (.int p4), .val (.int p5), .val (.int z2), .val (.int z4), .val (.ref a6), .val (.int nv), .val (.ref b33), .unset, .unset, .unset] [(.int z4), (.int nv), (.ref a6), (.int (5 : Int32)), (.ref b33)])) _
    refine XS.iconst X103.here hx rfl (hb hby at_155) ?_
    show Steps pP.tables eE below (T103.setTop (mkF mM 156 #[.val (.int p1), .val (.int p2), .val (.int p3), .val (.int p4), .val (.int p5), .val (.int z2), .val (.int z4), .val (.ref a6), .val (.int nv), .val (.ref b33), .unset, .unset, .unset] [(.int (5 : Int32)), (.int z4), (.int nv), (.ref a6), (.int (5 : Int32)), (.ref b33)])) _
    refine XS.iloadN X103.here hx rfl (hb hby at_156) rfl ?_
    show Steps pP.tables eE below (T103.setTop (mkF mM 157 #[.val (.int p1), .val (.int p2), .val (.int p3), .val (.int p4), .val (.int p5), .val (.int z2), .val (.int z4), .val (.ref a6), .val (.int nv), .val (.ref b33), .unset, .unset, .unset] [(.int p4), (.int (5 : Int32)), (.int z4), (.int nv), (.ref a6), (.int (5 : Int32)), (.ref b33)])) _
    refine XS.iload X103.here hx rfl (hb hby at_157) rfl ?_
    exact kg)
  have c112 := (Nat.le_trans c99 (Keep.of_wr W103).1)
  obtain ⟨_, _, ⟨T113, L113, kk113, nn113⟩, -, X113, ⟨Lc113, hQ113, l113, y113, z113⟩, st113⟩ := Jvm.LawKit.callS X103 hx (y := (⟨"com/example/thawline/thawline/CandidateTypeOfTokenPinLaw", "pick", "(Ljava/lang/String;IIIII)C"⟩ : MethodName)) hown (mvT hZ (hw _ (List.mem_of_getElem? (i := 22) rfl))) (mvT hZ (hw _ (List.mem_of_getElem? (i := 23) rfl))) (mvT hZ (hw _ (List.mem_of_getElem? (i := 24) rfl))) (mvT hZ (hw _ (List.mem_of_getElem? (i := 25) rfl))) (by decide) (backOf (W := 2) (rm2 l Z a0 hw [] cs sf a6 b6 kc6 nv vs z4 (5 : Int32) p4 p5 h103 n0 c112 c110 S_cs hcs S_sf rsf c106 c107 c108 c109 hvs (by decide)) hZ (hw _ (List.mem_of_getElem? (i := 25) rfl)) (hw _ (List.mem_of_getElem? (i := 24) rfl)) (by decide) (by decide)) (g := (mkF mM 159 #[.val (.int p1), .val (.int p2), .val (.int p3), .val (.int p4), .val (.int p5), .val (.int z2), .val (.int z4), .val (.ref a6), .val (.int nv), .val (.ref b33), .unset, .unset, .unset] [(.int p5), (.int p4), (.int (5 : Int32)), (.int z4), (.int nv), (.ref a6), (.int (5 : Int32)), (.ref b33)])) rfl (by rw [hml]; rfl) (argsL := [(.ref a6), (.int nv), (.int z4), (.int (5 : Int32)), (.int p4), (.int p5)]) (rest := [(.int (5 : Int32)), (.ref b33)]) (lenOf pd_11 rfl) rfl (by show 2 * 0 + _ ≤ _; exact Nat.le_of_eq rfl) (hb hby at_159) (fun _ _ => ⟨rfl, e103, (by decide : 3 + 0 ≤ _), (by decide : 30 + 0 ≤ _)⟩)
  dsimp only [Pt.U, Pt.locs, Pt.cells, Pt.slots] at X113 l113 y113 z113 st113 hQ113
  subst l113 y113 z113
  obtain ⟨r113, rfl, hb113, Nq113, e113⟩ := hQ113
  have N113 := Fr.app N103 Nq113
  have pr114 : ∀ tg, Steps pP.tables eE below (T113.setTop (mkF mM 162 #[.val (.int p1), .val (.int p2), .val (.int p3), .val (.int p4), .val (.int p5), .val (.int z2), .val (.int z4), .val (.ref a6), .val (.int nv), .val (.ref b33), .unset, .unset, .unset] [(.int r113), (.int (5 : Int32)), (.ref b33)])) tg → Steps pP.tables eE below (s₁.setTop (entryFrame mM #[(.int p1), (.int p2), (.int p3), (.int p4), (.int p5)] maxLocals)) tg := fun tg kg => pr111 _ (st113 _ kg)
  obtain ⟨cla115, Ara115, qa115, Sa115, Ma115, Ha115, Ga115⟩ := id V103
  have hin116 : ¬ ((5 : Int32) < 0 ∨ cla115.slots.size ≤ ((5 : Int32)).toNatClampNeg) := inb_of Sa115 ⟨by decide, by decide⟩
  obtain ⟨T116, h116, X116, e116, W116, st116⟩ := stC X113 hx hZ e113 Ara115 (j := (5 : Int32)) hin116 (g := (mkF mM 162 #[.val (.int p1), .val (.int p2), .val (.int p3), .val (.int p4), .val (.int p5), .val (.int z2), .val (.int z4), .val (.ref a6), .val (.int nv), .val (.ref b33), .unset, .unset, .unset] [(.int r113), (.int (5 : Int32)), (.ref b33)])) rfl rfl (hb hby at_162)
  have V116 : Arv Z h116 b33 k33 .char (6 : Int32) [(.int (nar .char r48)), (.int (nar .char r61)), (.int (nar .char r74)), (.int (nar .char r87)), (.int (nar .char r100)), (.int (nar .char r113))] (.int (0 : Int32)) := Arv.set Ara115 qa115 Sa115 Ma115 Ha115 Ga115 (fits_nar_char _) W116 5 rfl (Nat.le_of_ble_eq_true rfl)
  have N116 := Fr.snoc X116 N113 gn36
  have sf117_b33 := Safe.wr W116 sf104_b33 cr104.1 sf104_b33
  have cr117 := CHr.trans cr104 (CHr.wr W116 sf104_b33 cr104.1)
  have pr118 : ∀ tg, Steps pP.tables eE below (T116.setTop (mkF mM 163 #[.val (.int p1), .val (.int p2), .val (.int p3), .val (.int p4), .val (.int p5), .val (.int z2), .val (.int z4), .val (.ref a6), .val (.int nv), .val (.ref b33), .unset, .unset, .unset] [])) tg → Steps pP.tables eE below (s₁.setTop (entryFrame mM #[(.int p1), (.int p2), (.int p3), (.int p4), (.int p5)] maxLocals)) tg := fun tg kg => pr114 _ (st116 _ kg)
  have qr48 := own_nb2 hb48
  have qr61 := own_nb2 hb61
  have qr74 := own_nb2 hb74
  have qr87 := own_nb2 hb87
  have qr100 := own_nb2 hb100
  have qr113 := own_nb2 hb113
  by_cases hm1 : z4 = (1 : Int32)
  ·
    subst hm1
    have pr119 : ∀ tg, Steps pP.tables eE below (T116.setTop (mkF mM 175 #[.val (.int p1), .val (.int p2), .val (.int p3), .val (.int p4), .val (.int p5), .val (.int z2), .val (.int (1 : Int32)), .val (.ref a6), .val (.int nv), .val (.ref b33), .unset, .unset, .unset] [(.int nv), (.int (p2 &&& (2147483647 : Int32)))])) tg → Steps pP.tables eE below (s₁.setTop (entryFrame mM #[(.int p1), (.int p2), (.int p3), (.int p4), (.int p5)] maxLocals)) tg := fun tg kg => pr118 _ (by
      show Steps pP.tables eE below (T116.setTop (mkF mM 163 #[.val (.int p1), .val (.int p2), .val (.int p3), .val (.int p4), .val (.int p5), .val (.int z2), .val (.int (1 : Int32)), .val (.ref a6), .val (.int nv), .val (.ref b33), .unset, .unset, .unset] [])) _
      refine XS.iload X116.here hx rfl (hb hby at_163) rfl ?_
      show Steps pP.tables eE below (T116.setTop (mkF mM 165 #[.val (.int p1), .val (.int p2), .val (.int p3), .val (.int p4), .val (.int p5), .val (.int z2), .val (.int (1 : Int32)), .val (.ref a6), .val (.int nv), .val (.ref b33), .unset, .unset, .unset] [(.int (1 : Int32))])) _
      refine XS.iconst X116.here hx rfl (hb hby at_165) ?_
      show Steps pP.tables eE below (T116.setTop (mkF mM 166 #[.val (.int p1), .val (.int p2), .val (.int p3), .val (.int p4), .val (.int p5), .val (.int z2), .val (.int (1 : Int32)), .val (.ref a6), .val (.int nv), .val (.ref b33), .unset, .unset, .unset] [(.int (1 : Int32)), (.int (1 : Int32))])) _
      refine XS.icmpNo X116.here hx rfl (hb hby at_166) rfl (teq (by decide)).2 ?_
      show Steps pP.tables eE below (T116.setTop (mkF mM 169 #[.val (.int p1), .val (.int p2), .val (.int p3), .val (.int p4), .val (.int p5), .val (.int z2), .val (.int (1 : Int32)), .val (.ref a6), .val (.int nv), .val (.ref b33), .unset, .unset, .unset] [])) _
      refine XS.iloadN X116.here hx rfl (hb hby at_169) rfl ?_
      show Steps pP.tables eE below (T116.setTop (mkF mM 170 #[.val (.int p1), .val (.int p2), .val (.int p3), .val (.int p4), .val (.int p5), .val (.int z2), .val (.int (1 : Int32)), .val (.ref a6), .val (.int nv), .val (.ref b33), .unset, .unset, .unset] [(.int p2)])) _
      refine Jvm.Stand.ldcI X116 hx hown (v := (2147483647 : Int32)) (mvT hZ (hw _ (List.mem_of_getElem? (i := 102) rfl))) rfl (hb hby at_170) ?_
      show Steps pP.tables eE below (T116.setTop (mkF mM 172 #[.val (.int p1), .val (.int p2), .val (.int p3), .val (.int p4), .val (.int p5), .val (.int z2), .val (.int (1 : Int32)), .val (.ref a6), .val (.int nv), .val (.ref b33), .unset, .unset, .unset] [(.int (2147483647 : Int32)), (.int p2)])) _
      refine XS.iand X116.here hx rfl (hb hby at_172) rfl ?_
      show Steps pP.tables eE below (T116.setTop (mkF mM 173 #[.val (.int p1), .val (.int p2), .val (.int p3), .val (.int p4), .val (.int p5), .val (.int z2), .val (.int (1 : Int32)), .val (.ref a6), .val (.int nv), .val (.ref b33), .unset, .unset, .unset] [(.int (p2 &&& (2147483647 : Int32)))])) _
      refine XS.iload X116.here hx rfl (hb hby at_173) rfl ?_
      exact kg)
    have hnz175 := own_nz hnv
    have pr120 : ∀ tg, Steps pP.tables eE below (T116.setTop (mkF mM 192 #[.val (.int p1), .val (.int p2), .val (.int p3), .val (.int p4), .val (.int p5), .val (.int z2), .val (.int (1 : Int32)), .val (.ref a6), .val (.int nv), .val (.ref b33), .val (.int ((p2 &&& (2147483647 : Int32)) % nv)), .unset, .unset] [(.int (((p5.toUInt32 >>> ((16 : Int32) &&& 31).toUInt32).toInt32) &&& (255 : Int32)).toUInt32.toUInt16.toUInt32.toInt32), (.int ((p2 &&& (2147483647 : Int32)) % nv)), (.ref b33)])) tg → Steps pP.tables eE below (s₁.setTop (entryFrame mM #[(.int p1), (.int p2), (.int p3), (.int p4), (.int p5)] maxLocals)) tg := fun tg kg => pr119 _ (by
      show Steps pP.tables eE below (T116.setTop (mkF mM 175 #[.val (.int p1), .val (.int p2), .val (.int p3), .val (.int p4), .val (.int p5), .val (.int z2), .val (.int (1 : Int32)), .val (.ref a6), .val (.int nv), .val (.ref b33), .unset, .unset, .unset] [(.int nv), (.int (p2 &&& (2147483647 : Int32)))])) _
      refine iremM (g := (mkF mM 175 #[.val (.int p1), .val (.int p2), .val (.int p3), .val (.int p4), .val (.int p5), .val (.int z2), .val (.int (1 : Int32)), .val (.ref a6), .val (.int nv), .val (.ref b33), .unset, .unset, .unset] [(.int nv), (.int (p2 &&& (2147483647 : Int32)))])) X116 hx rfl (hb hby at_175) rfl hnz175 ?_
      show Steps pP.tables eE below (T116.setTop (mkF mM 176 #[.val (.int p1), .val (.int p2), .val (.int p3), .val (.int p4), .val (.int p5), .val (.int z2), .val (.int (1 : Int32)), .val (.ref a6), .val (.int nv), .val (.ref b33), .unset, .unset, .unset] [(.int ((p2 &&& (2147483647 : Int32)) % nv))])) _
      refine XS.istore X116.here hx rfl (hb hby at_176) rfl (l' := #[.val (.int p1), .val (.int p2), .val (.int p3), .val (.int p4), .val (.int p5), .val (.int z2), .val (.int (1 : Int32)), .val (.ref a6), .val (.int nv), .val (.ref b33), .val (.int ((p2 &&& (2147483647 : Int32)) % nv)), .unset, .unset]) rfl ?_
      show Steps pP.tables eE below (T116.setTop (mkF mM 178 #[.val (.int p1), .val (.int p2), .val (.int p3), .val (.int p4), .val (.int p5), .val (.int z2), .val (.int (1 : Int32)), .val (.ref a6), .val (.int nv), .val (.ref b33), .val (.int ((p2 &&& (2147483647 : Int32)) % nv)), .unset, .unset] [])) _
      refine XS.aload X116.here hx rfl (hb hby at_178) rfl rfl ?_
      show Steps pP.tables eE below (T116.setTop (mkF mM 180 #[.val (.int p1), .val (.int p2), .val (.int p3), .val (.int p4), .val (.int p5), .val (.int z2), .val (.int (1 : Int32)), .val (.ref a6), .val (.int nv), .val (.ref b33), .val (.int ((p2 &&& (2147483647 : Int32)) % nv)), .unset, .unset] [(.ref b33)])) _
      refine XS.iload X116.here hx rfl (hb hby at_180) rfl ?_
      show Steps pP.tables eE below (T116.setTop (mkF mM 182 #[.val (.int p1), .val (.int p2), .val (.int p3), .val (.int p4), .val (.int p5), .val (.int z2), .val (.int (1 : Int32)), .val (.ref a6), .val (.int nv), .val (.ref b33), .val (.int ((p2 &&& (2147483647 : Int32)) % nv)), .unset, .unset] [(.int ((p2 &&& (2147483647 : Int32)) % nv)), (.ref b33)])) _
      refine XS.iload X116.here hx rfl (hb hby at_182) rfl ?_
      show Steps pP.tables eE below (T116.setTop (mkF mM 184 #[.val (.int p1), .val (.int p2), .val (.int p3), .val (.int p4), .val (.int p5), .val (.int z2), .val (.int (1 : Int32)), .val (.ref a6), .val (.int nv), .val (.ref b33), .val (.int ((p2 &&& (2147483647 : Int32)) % nv)), .unset, .unset] [(.int p5), (.int ((p2 &&& (2147483647 : Int32)) % nv)), (.ref b33)])) _
      refine XS.bipush X116.here hx rfl (hb hby at_184) ?_
      show Steps pP.tables eE below (T116.setTop (mkF mM 186 #[.val (.int p1), .val (.int p2), .val (.int p3), .val (.int p4), .val (.int p5), .val (.int z2), .val (.int (1 : Int32)), .val (.ref a6), .val (.int nv), .val (.ref b33), .val (.int ((p2 &&& (2147483647 : Int32)) % nv)), .unset, .unset] [(.int (16 : Int32)), (.int p5), (.int ((p2 &&& (2147483647 : Int32)) % nv)), (.ref b33)])) _
      refine XS.iushr X116.here hx rfl (hb hby at_186) rfl ?_
      show Steps pP.tables eE below (T116.setTop (mkF mM 187 #[.val (.int p1), .val (.int p2), .val (.int p3), .val (.int p4), .val (.int p5), .val (.int z2), .val (.int (1 : Int32)), .val (.ref a6), .val (.int nv), .val (.ref b33), .val (.int ((p2 &&& (2147483647 : Int32)) % nv)), .unset, .unset] [(.int ((p5.toUInt32 >>> ((16 : Int32) &&& 31).toUInt32).toInt32)), (.int ((p2 &&& (2147483647 : Int32)) % nv)), (.ref b33)])) _
      refine XS.sipush X116.here hx rfl (hb hby at_187) ?_
      show Steps pP.tables eE below (T116.setTop (mkF mM 190 #[.val (.int p1), .val (.int p2), .val (.int p3), .val (.int p4), .val (.int p5), .val (.int z2), .val (.int (1 : Int32)), .val (.ref a6), .val (.int nv), .val (.ref b33), .val (.int ((p2 &&& (2147483647 : Int32)) % nv)), .unset, .unset] [(.int (255 : Int32)), (.int ((p5.toUInt32 >>> ((16 : Int32) &&& 31).toUInt32).toInt32)), (.int ((p2 &&& (2147483647 : Int32)) % nv)), (.ref b33)])) _
      refine XS.iand X116.here hx rfl (hb hby at_190) rfl ?_
      show Steps pP.tables eE below (T116.setTop (mkF mM 191 #[.val (.int p1), .val (.int p2), .val (.int p3), .val (.int p4), .val (.int p5), .val (.int z2), .val (.int (1 : Int32)), .val (.ref a6), .val (.int nv), .val (.ref b33), .val (.int ((p2 &&& (2147483647 : Int32)) % nv)), .unset, .unset] [(.int (((p5.toUInt32 >>> ((16 : Int32) &&& 31).toUInt32).toInt32) &&& (255 : Int32))), (.int ((p2 &&& (2147483647 : Int32)) % nv)), (.ref b33)])) _
      refine XS.i2c X116.here hx rfl (hb hby at_191) rfl ?_
      exact kg)
    obtain ⟨cla121, Ara121, qa121, Sa121, Ma121, Ha121, Ga121⟩ := id V116
    have hin122 : ¬ (((p2 &&& (2147483647 : Int32)) % nv) < 0 ∨ cla121.slots.size ≤ (((p2 &&& (2147483647 : Int32)) % nv)).toNatClampNeg) := inb_of Sa121 (own_in6 (own_remn p2 hnv))
    obtain ⟨T122, h122, X122, e122, W122, st122⟩ := stC X116 hx hZ e116 Ara121 (j := ((p2 &&& (2147483647 : Int32)) % nv)) hin122 (g := (mkF mM 192 #[.val (.int p1), .val (.int p2), .val (.int p3), .val (.int p4), .val (.int p5), .val (.int z2), .val (.int (1 : Int32)), .val (.ref a6), .val (.int nv), .val (.ref b33), .val (.int ((p2 &&& (2147483647 : Int32)) % nv)), .unset, .unset] [(.int (((p5.toUInt32 >>> ((16 : Int32) &&& 31).toUInt32).toInt32) &&& (255 : Int32)).toUInt32.toUInt16.toUInt32.toInt32), (.int ((p2 &&& (2147483647 : Int32)) % nv)), (.ref b33)])) rfl rfl (hb hby at_192)
    have Vw122 := Arv.set Ara121 qa121 Sa121 Ma121 Ha121 Ga121 (fits_nar_char _) W122 _ rfl (own_in6n (own_remn p2 hnv))
    obtain ⟨d0_122, d1_122, d2_122, d3_122, d4_122, d5_122, hset122, hd0_122, hd1_122, hd2_122, hd3_122, hd4_122, hd5_122⟩ := own_set6 (own_in6n (own_remn p2 hnv)) qr48 qr61 qr74 qr87 qr100 qr113 (own_nb2 (own_b8 _))
    have V122 : Arv Z h122 b33 k33 .char (6 : Int32) [(.int d0_122), (.int d1_122), (.int d2_122), (.int d3_122), (.int d4_122), (.int d5_122)] (.int (0 : Int32)) := hset122 ▸ Vw122
    have N122 := Fr.snoc X122 N116 gn36
    have sf123_b33 := Safe.wr W122 sf117_b33 cr117.1 sf117_b33
    have cr123 := CHr.trans cr117 (CHr.wr W122 sf117_b33 cr117.1)
    have pr124 : ∀ tg, Steps pP.tables eE below (T122.setTop (mkF mM 193 #[.val (.int p1), .val (.int p2), .val (.int p3), .val (.int p4), .val (.int p5), .val (.int z2), .val (.int (1 : Int32)), .val (.ref a6), .val (.int nv), .val (.ref b33), .val (.int ((p2 &&& (2147483647 : Int32)) % nv)), .unset, .unset] [])) tg → Steps pP.tables eE below (s₁.setTop (entryFrame mM #[(.int p1), (.int p2), (.int p3), (.int p4), (.int p5)] maxLocals)) tg := fun tg kg => pr120 _ (st122 _ kg)
    have c125 := (Old.wr (Old.wr c110 W116 gn36) W122 gn36)
    have pr126 : ∀ tg, Steps pP.tables eE below (T122.setTop (mkF mM 217 #[.val (.int p1), .val (.int p2), .val (.int p3), .val (.int p4), .val (.int p5), .val (.int z2), .val (.int (1 : Int32)), .val (.ref a6), .val (.int nv), .val (.ref b33), .val (.int nv), .unset, .unset] [(.int nv), (.ref b33)])) tg → Steps pP.tables eE below (s₁.setTop (entryFrame mM #[(.int p1), (.int p2), (.int p3), (.int p4), (.int p5)] maxLocals)) tg := fun tg kg => pr124 _ (by
      show Steps pP.tables eE below (T122.setTop (mkF mM 193 #[.val (.int p1), .val (.int p2), .val (.int p3), .val (.int p4), .val (.int p5), .val (.int z2), .val (.int (1 : Int32)), .val (.ref a6), .val (.int nv), .val (.ref b33), .val (.int ((p2 &&& (2147483647 : Int32)) % nv)), .unset, .unset] [])) _
      refine XS.iload X122.here hx rfl (hb hby at_193) rfl ?_
      show Steps pP.tables eE below (T122.setTop (mkF mM 195 #[.val (.int p1), .val (.int p2), .val (.int p3), .val (.int p4), .val (.int p5), .val (.int z2), .val (.int (1 : Int32)), .val (.ref a6), .val (.int nv), .val (.ref b33), .val (.int ((p2 &&& (2147483647 : Int32)) % nv)), .unset, .unset] [(.int (1 : Int32))])) _
      refine XS.iconst X122.here hx rfl (hb hby at_195) ?_
      show Steps pP.tables eE below (T122.setTop (mkF mM 196 #[.val (.int p1), .val (.int p2), .val (.int p3), .val (.int p4), .val (.int p5), .val (.int z2), .val (.int (1 : Int32)), .val (.ref a6), .val (.int nv), .val (.ref b33), .val (.int ((p2 &&& (2147483647 : Int32)) % nv)), .unset, .unset] [(.int (1 : Int32)), (.int (1 : Int32))])) _
      refine XS.icmpNo X122.here hx rfl (hb hby at_196) rfl (flt (by decide)).2.2.1 ?_
      show Steps pP.tables eE below (T122.setTop (mkF mM 199 #[.val (.int p1), .val (.int p2), .val (.int p3), .val (.int p4), .val (.int p5), .val (.int z2), .val (.int (1 : Int32)), .val (.ref a6), .val (.int nv), .val (.ref b33), .val (.int ((p2 &&& (2147483647 : Int32)) % nv)), .unset, .unset] [])) _
      refine XS.iload X122.here hx rfl (hb hby at_199) rfl ?_
      show Steps pP.tables eE below (T122.setTop (mkF mM 201 #[.val (.int p1), .val (.int p2), .val (.int p3), .val (.int p4), .val (.int p5), .val (.int z2), .val (.int (1 : Int32)), .val (.ref a6), .val (.int nv), .val (.ref b33), .val (.int ((p2 &&& (2147483647 : Int32)) % nv)), .unset, .unset] [(.int nv)])) _
      refine XS.goto X122.here hx rfl (pc0 := 201) (pc' := 211) rfl (hb hby at_201) (by decide) (by decide) ?_
      show Steps pP.tables eE below (T122.setTop (mkF mM 211 #[.val (.int p1), .val (.int p2), .val (.int p3), .val (.int p4), .val (.int p5), .val (.int z2), .val (.int (1 : Int32)), .val (.ref a6), .val (.int nv), .val (.ref b33), .val (.int ((p2 &&& (2147483647 : Int32)) % nv)), .unset, .unset] [(.int nv)])) _
      refine XS.istore X122.here hx rfl (hb hby at_211) rfl (l' := #[.val (.int p1), .val (.int p2), .val (.int p3), .val (.int p4), .val (.int p5), .val (.int z2), .val (.int (1 : Int32)), .val (.ref a6), .val (.int nv), .val (.ref b33), .val (.int nv), .unset, .unset]) rfl ?_
      show Steps pP.tables eE below (T122.setTop (mkF mM 213 #[.val (.int p1), .val (.int p2), .val (.int p3), .val (.int p4), .val (.int p5), .val (.int z2), .val (.int (1 : Int32)), .val (.ref a6), .val (.int nv), .val (.ref b33), .val (.int nv), .unset, .unset] [])) _
      refine XS.aload X122.here hx rfl (hb hby at_213) rfl rfl ?_
      show Steps pP.tables eE below (T122.setTop (mkF mM 215 #[.val (.int p1), .val (.int p2), .val (.int p3), .val (.int p4), .val (.int p5), .val (.int z2), .val (.int (1 : Int32)), .val (.ref a6), .val (.int nv), .val (.ref b33), .val (.int nv), .unset, .unset] [(.ref b33)])) _
      refine XS.iload X122.here hx rfl (hb hby at_215) rfl ?_
      exact kg)
    have hlb : 0 ≤ nv.toInt ∧ nv.toInt < 7 := by have := own_nvb hnv; omega
    have c127 := (Nat.le_trans (Nat.le_trans c112 (Keep.of_wr W116).1) (Keep.of_wr W122).1)
    have c129 := (Nat.le_trans (Nat.le_trans (Nat.le_trans (Nat.le_trans (Nat.le_trans (Nat.le_trans (Nat.le_trans (Nat.le_trans hk6 E33.1) (Keep.of_wr W51).1) (Keep.of_wr W64).1) (Keep.of_wr W77).1) (Keep.of_wr W90).1) (Keep.of_wr W103).1) (Keep.of_wr W116).1) (Keep.of_wr W122).1)
    obtain ⟨_, _, ⟨T128, L128, kk128, nn128⟩, -, X128, hSq128, -, ⟨Lc128, hQ128, l128, y128, z128, A128⟩, st128⟩ := callSS (s := sS.setVm T6.vm) X122 hx (y := (⟨"com/example/thawline/thawline/CandidateTypeOfTokenPinLaw", "make", "([CI)Ljava/lang/String;"⟩ : MethodName)) hown (mvT hZ (hw _ (List.mem_of_getElem? (i := 51) rfl))) (mvT hZ (hw _ (List.mem_of_getElem? (i := 52) rfl))) (mvT hZ (hw _ (List.mem_of_getElem? (i := 24) rfl))) (mvT hZ (hw _ (List.mem_of_getElem? (i := 53) rfl))) (by decide) (backOfSH (s := sS) (vm0 := T6.vm) (EL := consts_1) (W := 0) (rm3 l Z a0 hw [] cs b33 k33 d0_122 d1_122 d2_122 d3_122 d4_122 d5_122 nv h122 n0 c127 c125 S_cs hcs V122 hd0_122 hd1_122 hd2_122 hd3_122 hd4_122 hd5_122 hlb.1 hlb.2) hZ (hw _ (List.mem_of_getElem? (i := 53) rfl)) (hw _ (List.mem_of_getElem? (i := 24) rfl)) (by decide) (by decide) hEW cr123.1) (g := (mkF mM 217 #[.val (.int p1), .val (.int p2), .val (.int p3), .val (.int p4), .val (.int p5), .val (.int z2), .val (.int (1 : Int32)), .val (.ref a6), .val (.int nv), .val (.ref b33), .val (.int nv), .unset, .unset] [(.int nv), (.ref b33)])) rfl (by rw [hml]; rfl) (argsL := [(.ref b33), (.int nv)]) (rest := []) (lenOf pd_12 rfl) rfl (by show 2 * 0 + _ ≤ _; exact Nat.le_of_eq rfl) (hb hby at_217) (fun _ _ => ⟨rfl, e122, (by decide : 3 + 6 ≤ _), (by decide : 30 + 16 ≤ _)⟩)
    dsimp only [Pt.U, Pt.locs, Pt.cells, Pt.slots] at X128 l128 y128 z128 st128 hQ128 hSq128 A128
    subst l128 y128 z128
    have hS : sS.Since T128.vm T128.heap.size := hS.trans hSq128 (Nat.le_trans c129 A128.2.1)
    have hown : (sS.setVm T128.vm).vm.findClass "com/example/thawline/thawline/CandidateTypeOfTokenPinLaw" = some mM.cls := by rw [show (sS.setVm T128.vm).vm = T128.vm from rfl, hSq128.1.alike.findClass]; exact hown
    have hZ : Z.Warmed39 (sS.setVm T128.vm).vm := State.Warmed39.trans (t := sS.setVm T6.vm) hZ hSq128.1
    have sf130_b33 := CHr.safe A128 (V122).lt sf123_b33
    have cr130 := CHr.trans cr123 A128
    obtain ⟨xm128, tm128, km128, tx128, rfl, Nq128, K128, E128, Fv128, Fc128, V128, hp128, hlen128⟩ := hQ128
    have N128 := Fr.app N122 Nq128
    have pr131 : ∀ tg, Steps pP.tables eE below (T128.setTop (mkF mM 220 #[.val (.int p1), .val (.int p2), .val (.int p3), .val (.int p4), .val (.int p5), .val (.int z2), .val (.int (1 : Int32)), .val (.ref a6), .val (.int nv), .val (.ref b33), .val (.int nv), .unset, .unset] [(.ref xm128)])) tg → Steps pP.tables eE below (s₁.setTop (entryFrame mM #[(.int p1), (.int p2), (.int p3), (.int p4), (.int p5)] maxLocals)) tg := fun tg kg => pr126 _ (st128.trans kg)
    have pr132 : ∀ tg, Steps pP.tables eE below (T128.setTop (mkF mM 224 #[.val (.int p1), .val (.int p2), .val (.int p3), .val (.int p4), .val (.int p5), .val (.int z2), .val (.int (1 : Int32)), .val (.ref a6), .val (.int nv), .val (.ref b33), .val (.int nv), .val (.ref xm128), .unset] [(.ref xm128)])) tg → Steps pP.tables eE below (s₁.setTop (entryFrame mM #[(.int p1), (.int p2), (.int p3), (.int p4), (.int p5)] maxLocals)) tg := fun tg kg => pr131 _ (by
      show Steps pP.tables eE below (T128.setTop (mkF mM 220 #[.val (.int p1), .val (.int p2), .val (.int p3), .val (.int p4), .val (.int p5), .val (.int z2), .val (.int (1 : Int32)), .val (.ref a6), .val (.int nv), .val (.ref b33), .val (.int nv), .unset, .unset] [(.ref xm128)])) _
      refine XS.astore X128.here hx rfl (hb hby at_220) rfl rfl (l' := #[.val (.int p1), .val (.int p2), .val (.int p3), .val (.int p4), .val (.int p5), .val (.int z2), .val (.int (1 : Int32)), .val (.ref a6), .val (.int nv), .val (.ref b33), .val (.int nv), .val (.ref xm128), .unset]) rfl ?_
      show Steps pP.tables eE below (T128.setTop (mkF mM 222 #[.val (.int p1), .val (.int p2), .val (.int p3), .val (.int p4), .val (.int p5), .val (.int z2), .val (.int (1 : Int32)), .val (.ref a6), .val (.int nv), .val (.ref b33), .val (.int nv), .val (.ref xm128), .unset] [])) _
      refine XS.aload X128.here hx rfl (hb hby at_222) rfl rfl ?_
      exact kg)
    obtain ⟨a133, T133, h133, kk133, b133, kc133, X133, e133, E133, hS, hk133, hZ, hown, Es133, Fc133, Fv133, V133, la133, lb133, A133, -, hn133, st133⟩ := ldcCH (s := sS) (vm0 := T128.vm) (EL := consts_1) X128 hx hZ hown (hw _ (List.mem_of_getElem? (i := 0) rfl)) wS rfl hS (Nat.le_refl _) hEW (List.mem_of_getElem? (i := 0) rfl) cr130.1 (vs := [(.int (104 : Int32)), (.int (111 : Int32)), (.int (115 : Int32)), (.int (116 : Int32))]) (z := (4 : Int32)) ⟨by decide, rfl⟩ (by decide) rfl (g := (mkF mM 224 #[.val (.int p1), .val (.int p2), .val (.int p3), .val (.int p4), .val (.int p5), .val (.int z2), .val (.int (1 : Int32)), .val (.ref a6), .val (.int nv), .val (.ref b33), .val (.int nv), .val (.ref xm128), .unset] [(.ref xm128)])) rfl (hb hby at_224) (n := 16) (by decide) (by decide) (by decide) (by decide)
    have c135 := (Arv.keep V122 K128 nin0)
    have sf134_b33 := CHr.safe A133 (c135).lt sf130_b33
    have cr134 := CHr.trans cr130 A133
    have pr136 : ∀ tg, Steps pP.tables eE below (T133.setTop (mkF mM 226 #[.val (.int p1), .val (.int p2), .val (.int p3), .val (.int p4), .val (.int p5), .val (.int z2), .val (.int (1 : Int32)), .val (.ref a6), .val (.int nv), .val (.ref b33), .val (.int nv), .val (.ref xm128), .unset] [(.ref a133), (.ref xm128)])) tg → Steps pP.tables eE below (s₁.setTop (entryFrame mM #[(.int p1), (.int p2), (.int p3), (.int p4), (.int p5)] maxLocals)) tg := fun tg kg => pr132 _ (st133 _ kg)
    have c137 := (Exa.ext E133 E128)
    have c138 := (Fld.ext E133 Fv128)
    have c139 := (Fld.ext E133 Fc128)
    have c140 := (Arv.ext V128 E133)
    have c141 := (Old.ext (Old.keep c125 K128 all0) E133)
    have c142 := (Nat.le_trans (Nat.le_trans c127 K128.1) E133.1)
    obtain ⟨cq143, kq143, qa143, qb143, qc143⟩ := isOf hZ e133 c137
    obtain ⟨vq143, _, ⟨T143, L143, kk143, nn143⟩, -, X143, ⟨Lc143, hQ143, l143, y143, z143⟩, st143⟩ := X133.virtualBack hx (y := (⟨"java/lang/String", "equals", "(Ljava/lang/Object;)Z"⟩ : MethodName)) (z := (⟨"java/lang/String", "equals", "(Ljava/lang/Object;)Z"⟩ : MethodName)) hown (mvT hZ (hw _ (List.mem_of_getElem? (i := 75) rfl))) (mvT hZ (hw _ (List.mem_of_getElem? (i := 76) rfl))) (notFace_of_selects (args := #[]) (mvT hZ (hw _ (List.mem_of_getElem? (i := 78) rfl)))) (mvT hZ (hw _ (List.mem_of_getElem? (i := 78) rfl))) (mvT hZ (hw _ (List.mem_of_getElem? (i := 77) rfl))) (by decide) (StrChars.Road.eqW (W := 0) hZ (own_wE hw) (kI := 4) (hw _ (List.mem_of_getElem? (i := 2) rfl)) (cs := tx128) c137 c138 c139 c140 (StrChars.Road.codOf (n := tx128.length) rfl (fun c hc => (hp128 c hc).2)) (own_up hp128) hlen128 (ds := ([(104 : Int32), (111 : Int32), (115 : Int32), (116 : Int32)] : List Int32)) Es133 Fv133 Fc133 V133 own_cod_host own_bd_host (Nat.le_of_ble_eq_true rfl) (Sta.ext (c141).2 S_cs) hcs (by decide) (by decide)) qa143 qc143 (g := (mkF mM 226 #[.val (.int p1), .val (.int p2), .val (.int p3), .val (.int p4), .val (.int p5), .val (.int z2), .val (.int (1 : Int32)), .val (.ref a6), .val (.int nv), .val (.ref b33), .val (.int nv), .val (.ref xm128), .unset] [(.ref a133), (.ref xm128)])) rfl (by rw [hml]; rfl) (Steps.refl _) (argsL := [(.ref a133)]) (rest := []) (lenOf pd_9 rfl) rfl (by show 2 * 0 + _ ≤ _; exact Nat.le_of_eq rfl) (hb hby at_226) (fun _ _ => ⟨rfl, e133, (by decide : 11 + 0 ≤ _), (by decide : 66 + 0 ≤ _)⟩)
    dsimp only [Pt.U, Pt.locs, Pt.cells, Pt.slots] at X143 l143 y143 z143 st143 hQ143
    subst l143 y143 z143
    obtain ⟨hq143, hL143, e143⟩ := hQ143
    subst hL143
    obtain ⟨r143, hv143, hr143⟩ : ∃ r : Int32, vq143 = some (.int r) ∧ r = (if tx128 = ([(104 : Int32), (111 : Int32), (115 : Int32), (116 : Int32)] : List Int32) then (1 : Int32) else (0 : Int32)) := hq143.elim (fun q => ⟨1, q.1, (if_pos q.2).symm⟩) (fun q => ⟨0, q.1, (if_neg q.2).symm⟩)
    subst hv143
    have N143 := Fr.app N128 (Fr.nil n0)
    have pr144 : ∀ tg, Steps pP.tables eE below (T143.setTop (mkF mM 229 #[.val (.int p1), .val (.int p2), .val (.int p3), .val (.int p4), .val (.int p5), .val (.int z2), .val (.int (1 : Int32)), .val (.ref a6), .val (.int nv), .val (.ref b33), .val (.int nv), .val (.ref xm128), .unset] [(.int r143)])) tg → Steps pP.tables eE below (s₁.setTop (entryFrame mM #[(.int p1), (.int p2), (.int p3), (.int p4), (.int p5)] maxLocals)) tg := fun tg kg => pr136 _ (st143.trans kg)
    by_cases hd145 : tx128 = ([(104 : Int32), (111 : Int32), (115 : Int32), (116 : Int32)] : List Int32)
    ·
      rw [if_pos hd145] at hr143
      subst hr143
      have pr146 : ∀ tg, Steps pP.tables eE below (T143.setTop (mkF mM 232 #[.val (.int p1), .val (.int p2), .val (.int p3), .val (.int p4), .val (.int p5), .val (.int z2), .val (.int (1 : Int32)), .val (.ref a6), .val (.int nv), .val (.ref b33), .val (.int nv), .val (.ref xm128), .unset] [])) tg → Steps pP.tables eE below (s₁.setTop (entryFrame mM #[(.int p1), (.int p2), (.int p3), (.int p4), (.int p5)] maxLocals)) tg := fun tg kg => pr144 _ (by
        show Steps pP.tables eE below (T143.setTop (mkF mM 229 #[.val (.int p1), .val (.int p2), .val (.int p3), .val (.int p4), .val (.int p5), .val (.int z2), .val (.int (1 : Int32)), .val (.ref a6), .val (.int nv), .val (.ref b33), .val (.int nv), .val (.ref xm128), .unset] [(.int (1 : Int32))])) _
        refine XS.ifNo X143.here hx rfl (hb hby at_229) rfl ((if0 _ _).trans (feq (by decide)).1) ?_
        exact kg)
      obtain ⟨T147, X147, e147, st147⟩ := getS2 X143 hx hZ hown (host := "") (Or.inl (hw _ (List.mem_of_getElem? (i := 84) rfl))) Via.refl e143 (Sta.ext (c141).2 S_HOST) (g := (mkF mM 232 #[.val (.int p1), .val (.int p2), .val (.int p3), .val (.int p4), .val (.int p5), .val (.int z2), .val (.int (1 : Int32)), .val (.ref a6), .val (.int nv), .val (.ref b33), .val (.int nv), .val (.ref xm128), .unset] [])) rfl (hb hby at_232)
      have pr148 : ∀ tg, Steps pP.tables eE below (T147.setTop (mkF mM 235 #[.val (.int p1), .val (.int p2), .val (.int p3), .val (.int p4), .val (.int p5), .val (.int z2), .val (.int (1 : Int32)), .val (.ref a6), .val (.int nv), .val (.ref b33), .val (.int nv), .val (.ref xm128), .unset] [(.ref a_HOST)])) tg → Steps pP.tables eE below (s₁.setTop (entryFrame mM #[(.int p1), (.int p2), (.int p3), (.int p4), (.int p5)] maxLocals)) tg := fun tg kg => pr146 _ (st147 _ kg)
      have pr149 : ∀ tg, Steps pP.tables eE below (T147.setTop (mkF mM 299 #[.val (.int p1), .val (.int p2), .val (.int p3), .val (.int p4), .val (.int p5), .val (.int z2), .val (.int (1 : Int32)), .val (.ref a6), .val (.int nv), .val (.ref b33), .val (.int nv), .val (.ref xm128), .val (.ref a_HOST)] [(.ref xm128)])) tg → Steps pP.tables eE below (s₁.setTop (entryFrame mM #[(.int p1), (.int p2), (.int p3), (.int p4), (.int p5)] maxLocals)) tg := fun tg kg => pr148 _ (by
        show Steps pP.tables eE below (T147.setTop (mkF mM 235 #[.val (.int p1), .val (.int p2), .val (.int p3), .val (.int p4), .val (.int p5), .val (.int z2), .val (.int (1 : Int32)), .val (.ref a6), .val (.int nv), .val (.ref b33), .val (.int nv), .val (.ref xm128), .unset] [(.ref a_HOST)])) _
        refine XS.astore X147.here hx rfl (hb hby at_235) rfl rfl (l' := #[.val (.int p1), .val (.int p2), .val (.int p3), .val (.int p4), .val (.int p5), .val (.int z2), .val (.int (1 : Int32)), .val (.ref a6), .val (.int nv), .val (.ref b33), .val (.int nv), .val (.ref xm128), .val (.ref a_HOST)]) rfl ?_
        show Steps pP.tables eE below (T147.setTop (mkF mM 237 #[.val (.int p1), .val (.int p2), .val (.int p3), .val (.int p4), .val (.int p5), .val (.int z2), .val (.int (1 : Int32)), .val (.ref a6), .val (.int nv), .val (.ref b33), .val (.int nv), .val (.ref xm128), .val (.ref a_HOST)] [])) _
        refine XS.goto X147.here hx rfl (pc0 := 237) (pc' := 297) rfl (hb hby at_237) (by decide) (by decide) ?_
        show Steps pP.tables eE below (T147.setTop (mkF mM 297 #[.val (.int p1), .val (.int p2), .val (.int p3), .val (.int p4), .val (.int p5), .val (.int z2), .val (.int (1 : Int32)), .val (.ref a6), .val (.int nv), .val (.ref b33), .val (.int nv), .val (.ref xm128), .val (.ref a_HOST)] [])) _
        refine XS.aload X147.here hx rfl (hb hby at_297) rfl rfl ?_
        exact kg)
      obtain ⟨_, _, ⟨T150, L150, kk150, nn150⟩, -, X150, ⟨Lc150, hQ150, l150, y150, z150⟩, st150⟩ := Jvm.LawKit.callS X147 hx (y := (⟨"com/example/thawline/thawline/CandidateType", "ofToken", "(Ljava/lang/String;)Lcom/example/thawline/thawline/CandidateType;"⟩ : MethodName)) hown (mvT hZ (hw _ (List.mem_of_getElem? (i := 87) rfl))) (mvT hZ (hw _ (List.mem_of_getElem? (i := 88) rfl))) (mvT hZ (hw _ (List.mem_of_getElem? (i := 85) rfl))) (mvT hZ (hw _ (List.mem_of_getElem? (i := 89) rfl))) (by decide) (backOf (W := 0) (rm40 l Z a0 hw [] cs al kal a_HOST t_HOST u_HOST k_HOST a_SERVER_REFLEXIVE t_SERVER_REFLEXIVE u_SERVER_REFLEXIVE k_SERVER_REFLEXIVE a_PEER_REFLEXIVE t_PEER_REFLEXIVE u_PEER_REFLEXIVE k_PEER_REFLEXIVE a_RELAYED t_RELAYED u_RELAYED k_RELAYED xm128 tm128 km128 tx128 h133 n0 c142 c141 S_cs hcs S_ALL V_ALL S_HOST E_HOST F_HOST Et_HOST Fc_HOST Fv_HOST Vt_HOST S_SERVER_REFLEXIVE E_SERVER_REFLEXIVE F_SERVER_REFLEXIVE Et_SERVER_REFLEXIVE Fc_SERVER_REFLEXIVE Fv_SERVER_REFLEXIVE Vt_SERVER_REFLEXIVE S_PEER_REFLEXIVE E_PEER_REFLEXIVE F_PEER_REFLEXIVE Et_PEER_REFLEXIVE Fc_PEER_REFLEXIVE Fv_PEER_REFLEXIVE Vt_PEER_REFLEXIVE S_RELAYED E_RELAYED F_RELAYED Et_RELAYED Fc_RELAYED Fv_RELAYED Vt_RELAYED c137 c138 c139 c140 hp128 hlen128 hd145) hZ (hw _ (List.mem_of_getElem? (i := 89) rfl)) (hw _ (List.mem_of_getElem? (i := 85) rfl)) (by decide) (by decide)) (g := (mkF mM 299 #[.val (.int p1), .val (.int p2), .val (.int p3), .val (.int p4), .val (.int p5), .val (.int z2), .val (.int (1 : Int32)), .val (.ref a6), .val (.int nv), .val (.ref b33), .val (.int nv), .val (.ref xm128), .val (.ref a_HOST)] [(.ref xm128)])) rfl (by rw [hml]; rfl) (argsL := [(.ref xm128)]) (rest := []) (lenOf pd_13 rfl) rfl (by show 2 * 0 + _ ≤ _; exact Nat.le_of_eq rfl) (hb hby at_299) (fun _ _ => ⟨rfl, e147, (by decide : 11 + 0 ≤ _), (by decide : 66 + 0 ≤ _)⟩)
      dsimp only [Pt.U, Pt.locs, Pt.cells, Pt.slots] at X150 l150 y150 z150 st150 hQ150
      subst l150 y150 z150
      obtain ⟨rfl, Nq150, e150⟩ := hQ150
      have N150 := Fr.app N143 Nq150
      have pr151 : ∀ tg, Steps pP.tables eE below (T150.setTop (mkF mM 302 #[.val (.int p1), .val (.int p2), .val (.int p3), .val (.int p4), .val (.int p5), .val (.int z2), .val (.int (1 : Int32)), .val (.ref a6), .val (.int nv), .val (.ref b33), .val (.int nv), .val (.ref xm128), .val (.ref a_HOST)] [(.ref a_HOST)])) tg → Steps pP.tables eE below (s₁.setTop (entryFrame mM #[(.int p1), (.int p2), (.int p3), (.int p4), (.int p5)] maxLocals)) tg := fun tg kg => pr149 _ (st150 _ kg)
      have pr152 : ∀ tg, Steps pP.tables eE below (T150.setTop (mkF mM 312 #[.val (.int p1), .val (.int p2), .val (.int p3), .val (.int p4), .val (.int p5), .val (.int z2), .val (.int (1 : Int32)), .val (.ref a6), .val (.int nv), .val (.ref b33), .val (.int nv), .val (.ref xm128), .val (.ref a_HOST)] [(.int (1 : Int32))])) tg → Steps pP.tables eE below (s₁.setTop (entryFrame mM #[(.int p1), (.int p2), (.int p3), (.int p4), (.int p5)] maxLocals)) tg := fun tg kg => pr151 _ (by
        show Steps pP.tables eE below (T150.setTop (mkF mM 302 #[.val (.int p1), .val (.int p2), .val (.int p3), .val (.int p4), .val (.int p5), .val (.int z2), .val (.int (1 : Int32)), .val (.ref a6), .val (.int nv), .val (.ref b33), .val (.int nv), .val (.ref xm128), .val (.ref a_HOST)] [(.ref a_HOST)])) _
        refine XS.aload X150.here hx rfl (hb hby at_302) rfl rfl ?_
        show Steps pP.tables eE below (T150.setTop (mkF mM 304 #[.val (.int p1), .val (.int p2), .val (.int p3), .val (.int p4), .val (.int p5), .val (.int z2), .val (.int (1 : Int32)), .val (.ref a6), .val (.int nv), .val (.ref b33), .val (.int nv), .val (.ref xm128), .val (.ref a_HOST)] [(.ref a_HOST), (.ref a_HOST)])) _
        refine Jvm.RoadKit.acmp (g := (mkF mM 304 #[.val (.int p1), .val (.int p2), .val (.int p3), .val (.int p4), .val (.int p5), .val (.int z2), .val (.int (1 : Int32)), .val (.ref a6), .val (.int nv), .val (.ref b33), .val (.int nv), .val (.ref xm128), .val (.ref a_HOST)] [(.ref a_HOST), (.ref a_HOST)])) X150 hx rfl rfl rfl (pc0 := 304) (pc' := 307) (same := true) rfl (hb hby at_304) rfl (decide_eq_true rfl) (by decide) (by decide) ?_
        show Steps pP.tables eE below (T150.setTop (mkF mM 307 #[.val (.int p1), .val (.int p2), .val (.int p3), .val (.int p4), .val (.int p5), .val (.int z2), .val (.int (1 : Int32)), .val (.ref a6), .val (.int nv), .val (.ref b33), .val (.int nv), .val (.ref xm128), .val (.ref a_HOST)] [])) _
        refine XS.iconst X150.here hx rfl (hb hby at_307) ?_
        show Steps pP.tables eE below (T150.setTop (mkF mM 308 #[.val (.int p1), .val (.int p2), .val (.int p3), .val (.int p4), .val (.int p5), .val (.int z2), .val (.int (1 : Int32)), .val (.ref a6), .val (.int nv), .val (.ref b33), .val (.int nv), .val (.ref xm128), .val (.ref a_HOST)] [(.int (1 : Int32))])) _
        refine XS.goto X150.here hx rfl (pc0 := 308) (pc' := 312) rfl (hb hby at_308) (by decide) (by decide) ?_
        exact kg)
      obtain ⟨fs, hr, hrun, hended, hW⟩ := Jvm.Stand.leaveW (s := sS) (vm₁ := T133.vm) X150 hS (Nat.le_trans hk133 (Nat.le_of_eq (congrArg Array.size e150.symm))) (v := some (.int (1 : Int32))) (fun h => by rw [Bd.returns] at h; cases h)
      refine ⟨_, _, pr152 _ (retOut X150 hx (t := .boolean) Bd.returns rfl (Or.inl ⟨rfl, Or.inr (Or.inl rfl), _, rfl⟩) (hb hby at_312) hr), hrun, hended, _, _, rfl, ?_, hW.1, hW.2.1, hW.2.2.1, hW.2.2.2.mono (by decide) (by decide)⟩
      show Q0 Z p1 p2 p3 p4 p5 cs sf al kal a_HOST t_HOST u_HOST k_HOST a_SERVER_REFLEXIVE t_SERVER_REFLEXIVE u_SERVER_REFLEXIVE k_SERVER_REFLEXIVE a_PEER_REFLEXIVE t_PEER_REFLEXIVE u_PEER_REFLEXIVE k_PEER_REFLEXIVE a_RELAYED t_RELAYED u_RELAYED k_RELAYED h0 n0 _ T150.heap _
      rw [e150]
      exact ⟨rfl, N150⟩
    ·
      rw [if_neg hd145] at hr143
      subst hr143
      have pr153 : ∀ tg, Steps pP.tables eE below (T143.setTop (mkF mM 242 #[.val (.int p1), .val (.int p2), .val (.int p3), .val (.int p4), .val (.int p5), .val (.int z2), .val (.int (1 : Int32)), .val (.ref a6), .val (.int nv), .val (.ref b33), .val (.int nv), .val (.ref xm128), .unset] [(.ref xm128)])) tg → Steps pP.tables eE below (s₁.setTop (entryFrame mM #[(.int p1), (.int p2), (.int p3), (.int p4), (.int p5)] maxLocals)) tg := fun tg kg => pr144 _ (by
        show Steps pP.tables eE below (T143.setTop (mkF mM 229 #[.val (.int p1), .val (.int p2), .val (.int p3), .val (.int p4), .val (.int p5), .val (.int z2), .val (.int (1 : Int32)), .val (.ref a6), .val (.int nv), .val (.ref b33), .val (.int nv), .val (.ref xm128), .unset] [(.int (0 : Int32))])) _
        refine XS.ifYes X143.here hx rfl (pc0 := 229) (pc' := 240) rfl (hb hby at_229) rfl ((if0 _ _).trans (teq (by decide)).1) (by decide) (by decide) ?_
        show Steps pP.tables eE below (T143.setTop (mkF mM 240 #[.val (.int p1), .val (.int p2), .val (.int p3), .val (.int p4), .val (.int p5), .val (.int z2), .val (.int (1 : Int32)), .val (.ref a6), .val (.int nv), .val (.ref b33), .val (.int nv), .val (.ref xm128), .unset] [])) _
        refine XS.aload X143.here hx rfl (hb hby at_240) rfl rfl ?_
        exact kg)
      obtain ⟨a154, T154, h154, kk154, b154, kc154, X154, e154, E154, hS, hk154, hZ, hown, Es154, Fc154, Fv154, V154, la154, lb154, A154, -, hn154, st154⟩ := ldcCH (s := sS) (vm0 := T133.vm) (EL := consts_1) X143 hx hZ hown (hw _ (List.mem_of_getElem? (i := 96) rfl)) wS e143 hS hk133 hEW (List.mem_of_getElem? (i := 1) rfl) cr134.1 (vs := [(.int (115 : Int32)), (.int (114 : Int32)), (.int (102 : Int32)), (.int (108 : Int32)), (.int (120 : Int32))]) (z := (5 : Int32)) ⟨by decide, rfl⟩ (by decide) rfl (g := (mkF mM 242 #[.val (.int p1), .val (.int p2), .val (.int p3), .val (.int p4), .val (.int p5), .val (.int z2), .val (.int (1 : Int32)), .val (.ref a6), .val (.int nv), .val (.ref b33), .val (.int nv), .val (.ref xm128), .unset] [(.ref xm128)])) rfl (hb hby at_242) (n := 20) (by decide) (by decide) (by decide) (by decide)
      have c156 := (Arv.ext c135 E133)
      have sf155_b33 := CHr.safe A154 (c156).lt sf134_b33
      have cr155 := CHr.trans cr134 A154
      have pr157 : ∀ tg, Steps pP.tables eE below (T154.setTop (mkF mM 244 #[.val (.int p1), .val (.int p2), .val (.int p3), .val (.int p4), .val (.int p5), .val (.int z2), .val (.int (1 : Int32)), .val (.ref a6), .val (.int nv), .val (.ref b33), .val (.int nv), .val (.ref xm128), .unset] [(.ref a154), (.ref xm128)])) tg → Steps pP.tables eE below (s₁.setTop (entryFrame mM #[(.int p1), (.int p2), (.int p3), (.int p4), (.int p5)] maxLocals)) tg := fun tg kg => pr153 _ (st154 _ kg)
      have c158 := (Exa.ext E154 c137)
      have c159 := (Fld.ext E154 c138)
      have c160 := (Fld.ext E154 c139)
      have c161 := (Arv.ext c140 E154)
      have c162 := (Old.ext c141 E154)
      have c163 := (Nat.le_trans c142 E154.1)
      obtain ⟨cq164, kq164, qa164, qb164, qc164⟩ := isOf hZ e154 c158
      obtain ⟨vq164, _, ⟨T164, L164, kk164, nn164⟩, -, X164, ⟨Lc164, hQ164, l164, y164, z164⟩, st164⟩ := X154.virtualBack hx (y := (⟨"java/lang/String", "equals", "(Ljava/lang/Object;)Z"⟩ : MethodName)) (z := (⟨"java/lang/String", "equals", "(Ljava/lang/Object;)Z"⟩ : MethodName)) hown (mvT hZ (hw _ (List.mem_of_getElem? (i := 75) rfl))) (mvT hZ (hw _ (List.mem_of_getElem? (i := 76) rfl))) (notFace_of_selects (args := #[]) (mvT hZ (hw _ (List.mem_of_getElem? (i := 78) rfl)))) (mvT hZ (hw _ (List.mem_of_getElem? (i := 78) rfl))) (mvT hZ (hw _ (List.mem_of_getElem? (i := 77) rfl))) (by decide) (StrChars.Road.eqW (W := 0) hZ (own_wE hw) (kI := 4) (hw _ (List.mem_of_getElem? (i := 2) rfl)) (cs := tx128) c158 c159 c160 c161 (StrChars.Road.codOf (n := tx128.length) rfl (fun c hc => (hp128 c hc).2)) (own_up hp128) hlen128 (ds := ([(115 : Int32), (114 : Int32), (102 : Int32), (108 : Int32), (120 : Int32)] : List Int32)) Es154 Fv154 Fc154 V154 own_cod_srflx own_bd_srflx (Nat.le_of_ble_eq_true rfl) (Sta.ext (c162).2 S_cs) hcs (by decide) (by decide)) qa164 qc164 (g := (mkF mM 244 #[.val (.int p1), .val (.int p2), .val (.int p3), .val (.int p4), .val (.int p5), .val (.int z2), .val (.int (1 : Int32)), .val (.ref a6), .val (.int nv), .val (.ref b33), .val (.int nv), .val (.ref xm128), .unset] [(.ref a154), (.ref xm128)])) rfl (by rw [hml]; rfl) (Steps.refl _) (argsL := [(.ref a154)]) (rest := []) (lenOf pd_9 rfl) rfl (by show 2 * 0 + _ ≤ _; exact Nat.le_of_eq rfl) (hb hby at_244) (fun _ _ => ⟨rfl, e154, (by decide : 13 + 0 ≤ _), (by decide : 90 + 0 ≤ _)⟩)
      dsimp only [Pt.U, Pt.locs, Pt.cells, Pt.slots] at X164 l164 y164 z164 st164 hQ164
      subst l164 y164 z164
      obtain ⟨hq164, hL164, e164⟩ := hQ164
      subst hL164
      obtain ⟨r164, hv164, hr164⟩ : ∃ r : Int32, vq164 = some (.int r) ∧ r = (if tx128 = ([(115 : Int32), (114 : Int32), (102 : Int32), (108 : Int32), (120 : Int32)] : List Int32) then (1 : Int32) else (0 : Int32)) := hq164.elim (fun q => ⟨1, q.1, (if_pos q.2).symm⟩) (fun q => ⟨0, q.1, (if_neg q.2).symm⟩)
      subst hv164
      have N164 := Fr.app N143 (Fr.nil n0)
      have pr165 : ∀ tg, Steps pP.tables eE below (T164.setTop (mkF mM 247 #[.val (.int p1), .val (.int p2), .val (.int p3), .val (.int p4), .val (.int p5), .val (.int z2), .val (.int (1 : Int32)), .val (.ref a6), .val (.int nv), .val (.ref b33), .val (.int nv), .val (.ref xm128), .unset] [(.int r164)])) tg → Steps pP.tables eE below (s₁.setTop (entryFrame mM #[(.int p1), (.int p2), (.int p3), (.int p4), (.int p5)] maxLocals)) tg := fun tg kg => pr157 _ (st164.trans kg)
      by_cases hd166 : tx128 = ([(115 : Int32), (114 : Int32), (102 : Int32), (108 : Int32), (120 : Int32)] : List Int32)
      ·
        rw [if_pos hd166] at hr164
        subst hr164
        have pr167 : ∀ tg, Steps pP.tables eE below (T164.setTop (mkF mM 250 #[.val (.int p1), .val (.int p2), .val (.int p3), .val (.int p4), .val (.int p5), .val (.int z2), .val (.int (1 : Int32)), .val (.ref a6), .val (.int nv), .val (.ref b33), .val (.int nv), .val (.ref xm128), .unset] [])) tg → Steps pP.tables eE below (s₁.setTop (entryFrame mM #[(.int p1), (.int p2), (.int p3), (.int p4), (.int p5)] maxLocals)) tg := fun tg kg => pr165 _ (by
          show Steps pP.tables eE below (T164.setTop (mkF mM 247 #[.val (.int p1), .val (.int p2), .val (.int p3), .val (.int p4), .val (.int p5), .val (.int z2), .val (.int (1 : Int32)), .val (.ref a6), .val (.int nv), .val (.ref b33), .val (.int nv), .val (.ref xm128), .unset] [(.int (1 : Int32))])) _
          refine XS.ifNo X164.here hx rfl (hb hby at_247) rfl ((if0 _ _).trans (feq (by decide)).1) ?_
          exact kg)
        obtain ⟨T168, X168, e168, st168⟩ := getS2 X164 hx hZ hown (host := "") (Or.inl (hw _ (List.mem_of_getElem? (i := 105) rfl))) Via.refl e164 (Sta.ext (c162).2 S_SERVER_REFLEXIVE) (g := (mkF mM 250 #[.val (.int p1), .val (.int p2), .val (.int p3), .val (.int p4), .val (.int p5), .val (.int z2), .val (.int (1 : Int32)), .val (.ref a6), .val (.int nv), .val (.ref b33), .val (.int nv), .val (.ref xm128), .unset] [])) rfl (hb hby at_250)
        have pr169 : ∀ tg, Steps pP.tables eE below (T168.setTop (mkF mM 253 #[.val (.int p1), .val (.int p2), .val (.int p3), .val (.int p4), .val (.int p5), .val (.int z2), .val (.int (1 : Int32)), .val (.ref a6), .val (.int nv), .val (.ref b33), .val (.int nv), .val (.ref xm128), .unset] [(.ref a_SERVER_REFLEXIVE)])) tg → Steps pP.tables eE below (s₁.setTop (entryFrame mM #[(.int p1), (.int p2), (.int p3), (.int p4), (.int p5)] maxLocals)) tg := fun tg kg => pr167 _ (st168 _ kg)
        have pr170 : ∀ tg, Steps pP.tables eE below (T168.setTop (mkF mM 299 #[.val (.int p1), .val (.int p2), .val (.int p3), .val (.int p4), .val (.int p5), .val (.int z2), .val (.int (1 : Int32)), .val (.ref a6), .val (.int nv), .val (.ref b33), .val (.int nv), .val (.ref xm128), .val (.ref a_SERVER_REFLEXIVE)] [(.ref xm128)])) tg → Steps pP.tables eE below (s₁.setTop (entryFrame mM #[(.int p1), (.int p2), (.int p3), (.int p4), (.int p5)] maxLocals)) tg := fun tg kg => pr169 _ (by
          show Steps pP.tables eE below (T168.setTop (mkF mM 253 #[.val (.int p1), .val (.int p2), .val (.int p3), .val (.int p4), .val (.int p5), .val (.int z2), .val (.int (1 : Int32)), .val (.ref a6), .val (.int nv), .val (.ref b33), .val (.int nv), .val (.ref xm128), .unset] [(.ref a_SERVER_REFLEXIVE)])) _
          refine XS.astore X168.here hx rfl (hb hby at_253) rfl rfl (l' := #[.val (.int p1), .val (.int p2), .val (.int p3), .val (.int p4), .val (.int p5), .val (.int z2), .val (.int (1 : Int32)), .val (.ref a6), .val (.int nv), .val (.ref b33), .val (.int nv), .val (.ref xm128), .val (.ref a_SERVER_REFLEXIVE)]) rfl ?_
          show Steps pP.tables eE below (T168.setTop (mkF mM 255 #[.val (.int p1), .val (.int p2), .val (.int p3), .val (.int p4), .val (.int p5), .val (.int z2), .val (.int (1 : Int32)), .val (.ref a6), .val (.int nv), .val (.ref b33), .val (.int nv), .val (.ref xm128), .val (.ref a_SERVER_REFLEXIVE)] [])) _
          refine XS.goto X168.here hx rfl (pc0 := 255) (pc' := 297) rfl (hb hby at_255) (by decide) (by decide) ?_
          show Steps pP.tables eE below (T168.setTop (mkF mM 297 #[.val (.int p1), .val (.int p2), .val (.int p3), .val (.int p4), .val (.int p5), .val (.int z2), .val (.int (1 : Int32)), .val (.ref a6), .val (.int nv), .val (.ref b33), .val (.int nv), .val (.ref xm128), .val (.ref a_SERVER_REFLEXIVE)] [])) _
          refine XS.aload X168.here hx rfl (hb hby at_297) rfl rfl ?_
          exact kg)
        obtain ⟨_, _, ⟨T171, L171, kk171, nn171⟩, -, X171, ⟨Lc171, hQ171, l171, y171, z171⟩, st171⟩ := Jvm.LawKit.callS X168 hx (y := (⟨"com/example/thawline/thawline/CandidateType", "ofToken", "(Ljava/lang/String;)Lcom/example/thawline/thawline/CandidateType;"⟩ : MethodName)) hown (mvT hZ (hw _ (List.mem_of_getElem? (i := 87) rfl))) (mvT hZ (hw _ (List.mem_of_getElem? (i := 88) rfl))) (mvT hZ (hw _ (List.mem_of_getElem? (i := 85) rfl))) (mvT hZ (hw _ (List.mem_of_getElem? (i := 89) rfl))) (by decide) (backOf (W := 0) (rm41 l Z a0 hw [] cs al kal a_HOST t_HOST u_HOST k_HOST a_SERVER_REFLEXIVE t_SERVER_REFLEXIVE u_SERVER_REFLEXIVE k_SERVER_REFLEXIVE a_PEER_REFLEXIVE t_PEER_REFLEXIVE u_PEER_REFLEXIVE k_PEER_REFLEXIVE a_RELAYED t_RELAYED u_RELAYED k_RELAYED xm128 tm128 km128 tx128 h154 n0 c163 c162 S_cs hcs S_ALL V_ALL S_HOST E_HOST F_HOST Et_HOST Fc_HOST Fv_HOST Vt_HOST S_SERVER_REFLEXIVE E_SERVER_REFLEXIVE F_SERVER_REFLEXIVE Et_SERVER_REFLEXIVE Fc_SERVER_REFLEXIVE Fv_SERVER_REFLEXIVE Vt_SERVER_REFLEXIVE S_PEER_REFLEXIVE E_PEER_REFLEXIVE F_PEER_REFLEXIVE Et_PEER_REFLEXIVE Fc_PEER_REFLEXIVE Fv_PEER_REFLEXIVE Vt_PEER_REFLEXIVE S_RELAYED E_RELAYED F_RELAYED Et_RELAYED Fc_RELAYED Fv_RELAYED Vt_RELAYED c158 c159 c160 c161 hp128 hlen128 hd145 hd166) hZ (hw _ (List.mem_of_getElem? (i := 89) rfl)) (hw _ (List.mem_of_getElem? (i := 85) rfl)) (by decide) (by decide)) (g := (mkF mM 299 #[.val (.int p1), .val (.int p2), .val (.int p3), .val (.int p4), .val (.int p5), .val (.int z2), .val (.int (1 : Int32)), .val (.ref a6), .val (.int nv), .val (.ref b33), .val (.int nv), .val (.ref xm128), .val (.ref a_SERVER_REFLEXIVE)] [(.ref xm128)])) rfl (by rw [hml]; rfl) (argsL := [(.ref xm128)]) (rest := []) (lenOf pd_13 rfl) rfl (by show 2 * 0 + _ ≤ _; exact Nat.le_of_eq rfl) (hb hby at_299) (fun _ _ => ⟨rfl, e168, (by decide : 13 + 0 ≤ _), (by decide : 90 + 0 ≤ _)⟩)
        dsimp only [Pt.U, Pt.locs, Pt.cells, Pt.slots] at X171 l171 y171 z171 st171 hQ171
        subst l171 y171 z171
        obtain ⟨rfl, Nq171, e171⟩ := hQ171
        have N171 := Fr.app N164 Nq171
        have pr172 : ∀ tg, Steps pP.tables eE below (T171.setTop (mkF mM 302 #[.val (.int p1), .val (.int p2), .val (.int p3), .val (.int p4), .val (.int p5), .val (.int z2), .val (.int (1 : Int32)), .val (.ref a6), .val (.int nv), .val (.ref b33), .val (.int nv), .val (.ref xm128), .val (.ref a_SERVER_REFLEXIVE)] [(.ref a_SERVER_REFLEXIVE)])) tg → Steps pP.tables eE below (s₁.setTop (entryFrame mM #[(.int p1), (.int p2), (.int p3), (.int p4), (.int p5)] maxLocals)) tg := fun tg kg => pr170 _ (st171 _ kg)
        have pr173 : ∀ tg, Steps pP.tables eE below (T171.setTop (mkF mM 312 #[.val (.int p1), .val (.int p2), .val (.int p3), .val (.int p4), .val (.int p5), .val (.int z2), .val (.int (1 : Int32)), .val (.ref a6), .val (.int nv), .val (.ref b33), .val (.int nv), .val (.ref xm128), .val (.ref a_SERVER_REFLEXIVE)] [(.int (1 : Int32))])) tg → Steps pP.tables eE below (s₁.setTop (entryFrame mM #[(.int p1), (.int p2), (.int p3), (.int p4), (.int p5)] maxLocals)) tg := fun tg kg => pr172 _ (by
          show Steps pP.tables eE below (T171.setTop (mkF mM 302 #[.val (.int p1), .val (.int p2), .val (.int p3), .val (.int p4), .val (.int p5), .val (.int z2), .val (.int (1 : Int32)), .val (.ref a6), .val (.int nv), .val (.ref b33), .val (.int nv), .val (.ref xm128), .val (.ref a_SERVER_REFLEXIVE)] [(.ref a_SERVER_REFLEXIVE)])) _
          refine XS.aload X171.here hx rfl (hb hby at_302) rfl rfl ?_
          show Steps pP.tables eE below (T171.setTop (mkF mM 304 #[.val (.int p1), .val (.int p2), .val (.int p3), .val (.int p4), .val (.int p5), .val (.int z2), .val (.int (1 : Int32)), .val (.ref a6), .val (.int nv), .val (.ref b33), .val (.int nv), .val (.ref xm128), .val (.ref a_SERVER_REFLEXIVE)] [(.ref a_SERVER_REFLEXIVE), (.ref a_SERVER_REFLEXIVE)])) _
          refine Jvm.RoadKit.acmp (g := (mkF mM 304 #[.val (.int p1), .val (.int p2), .val (.int p3), .val (.int p4), .val (.int p5), .val (.int z2), .val (.int (1 : Int32)), .val (.ref a6), .val (.int nv), .val (.ref b33), .val (.int nv), .val (.ref xm128), .val (.ref a_SERVER_REFLEXIVE)] [(.ref a_SERVER_REFLEXIVE), (.ref a_SERVER_REFLEXIVE)])) X171 hx rfl rfl rfl (pc0 := 304) (pc' := 307) (same := true) rfl (hb hby at_304) rfl (decide_eq_true rfl) (by decide) (by decide) ?_
          show Steps pP.tables eE below (T171.setTop (mkF mM 307 #[.val (.int p1), .val (.int p2), .val (.int p3), .val (.int p4), .val (.int p5), .val (.int z2), .val (.int (1 : Int32)), .val (.ref a6), .val (.int nv), .val (.ref b33), .val (.int nv), .val (.ref xm128), .val (.ref a_SERVER_REFLEXIVE)] [])) _
          refine XS.iconst X171.here hx rfl (hb hby at_307) ?_
          show Steps pP.tables eE below (T171.setTop (mkF mM 308 #[.val (.int p1), .val (.int p2), .val (.int p3), .val (.int p4), .val (.int p5), .val (.int z2), .val (.int (1 : Int32)), .val (.ref a6), .val (.int nv), .val (.ref b33), .val (.int nv), .val (.ref xm128), .val (.ref a_SERVER_REFLEXIVE)] [(.int (1 : Int32))])) _
          refine XS.goto X171.here hx rfl (pc0 := 308) (pc' := 312) rfl (hb hby at_308) (by decide) (by decide) ?_
          exact kg)
        obtain ⟨fs, hr, hrun, hended, hW⟩ := Jvm.Stand.leaveW (s := sS) (vm₁ := T154.vm) X171 hS (Nat.le_trans hk154 (Nat.le_of_eq (congrArg Array.size e171.symm))) (v := some (.int (1 : Int32))) (fun h => by rw [Bd.returns] at h; cases h)
        refine ⟨_, _, pr173 _ (retOut X171 hx (t := .boolean) Bd.returns rfl (Or.inl ⟨rfl, Or.inr (Or.inl rfl), _, rfl⟩) (hb hby at_312) hr), hrun, hended, _, _, rfl, ?_, hW.1, hW.2.1, hW.2.2.1, hW.2.2.2.mono (by decide) (by decide)⟩
        show Q0 Z p1 p2 p3 p4 p5 cs sf al kal a_HOST t_HOST u_HOST k_HOST a_SERVER_REFLEXIVE t_SERVER_REFLEXIVE u_SERVER_REFLEXIVE k_SERVER_REFLEXIVE a_PEER_REFLEXIVE t_PEER_REFLEXIVE u_PEER_REFLEXIVE k_PEER_REFLEXIVE a_RELAYED t_RELAYED u_RELAYED k_RELAYED h0 n0 _ T171.heap _
        rw [e171]
        exact ⟨rfl, N171⟩
      ·
        rw [if_neg hd166] at hr164
        subst hr164
        have pr174 : ∀ tg, Steps pP.tables eE below (T164.setTop (mkF mM 260 #[.val (.int p1), .val (.int p2), .val (.int p3), .val (.int p4), .val (.int p5), .val (.int z2), .val (.int (1 : Int32)), .val (.ref a6), .val (.int nv), .val (.ref b33), .val (.int nv), .val (.ref xm128), .unset] [(.ref xm128)])) tg → Steps pP.tables eE below (s₁.setTop (entryFrame mM #[(.int p1), (.int p2), (.int p3), (.int p4), (.int p5)] maxLocals)) tg := fun tg kg => pr165 _ (by
          show Steps pP.tables eE below (T164.setTop (mkF mM 247 #[.val (.int p1), .val (.int p2), .val (.int p3), .val (.int p4), .val (.int p5), .val (.int z2), .val (.int (1 : Int32)), .val (.ref a6), .val (.int nv), .val (.ref b33), .val (.int nv), .val (.ref xm128), .unset] [(.int (0 : Int32))])) _
          refine XS.ifYes X164.here hx rfl (pc0 := 247) (pc' := 258) rfl (hb hby at_247) rfl ((if0 _ _).trans (teq (by decide)).1) (by decide) (by decide) ?_
          show Steps pP.tables eE below (T164.setTop (mkF mM 258 #[.val (.int p1), .val (.int p2), .val (.int p3), .val (.int p4), .val (.int p5), .val (.int z2), .val (.int (1 : Int32)), .val (.ref a6), .val (.int nv), .val (.ref b33), .val (.int nv), .val (.ref xm128), .unset] [])) _
          refine XS.aload X164.here hx rfl (hb hby at_258) rfl rfl ?_
          exact kg)
        obtain ⟨a175, T175, h175, kk175, b175, kc175, X175, e175, E175, hS, hk175, hZ, hown, Es175, Fc175, Fv175, V175, la175, lb175, A175, -, hn175, st175⟩ := ldcCH (s := sS) (vm0 := T154.vm) (EL := consts_1) X164 hx hZ hown (hw _ (List.mem_of_getElem? (i := 97) rfl)) wS e164 hS hk154 hEW (List.mem_of_getElem? (i := 2) rfl) cr155.1 (vs := [(.int (112 : Int32)), (.int (114 : Int32)), (.int (102 : Int32)), (.int (108 : Int32)), (.int (120 : Int32))]) (z := (5 : Int32)) ⟨by decide, rfl⟩ (by decide) rfl (g := (mkF mM 260 #[.val (.int p1), .val (.int p2), .val (.int p3), .val (.int p4), .val (.int p5), .val (.int z2), .val (.int (1 : Int32)), .val (.ref a6), .val (.int nv), .val (.ref b33), .val (.int nv), .val (.ref xm128), .unset] [(.ref xm128)])) rfl (hb hby at_260) (n := 20) (by decide) (by decide) (by decide) (by decide)
        have c177 := (Arv.ext c156 E154)
        have sf176_b33 := CHr.safe A175 (c177).lt sf155_b33
        have cr176 := CHr.trans cr155 A175
        have pr178 : ∀ tg, Steps pP.tables eE below (T175.setTop (mkF mM 262 #[.val (.int p1), .val (.int p2), .val (.int p3), .val (.int p4), .val (.int p5), .val (.int z2), .val (.int (1 : Int32)), .val (.ref a6), .val (.int nv), .val (.ref b33), .val (.int nv), .val (.ref xm128), .unset] [(.ref a175), (.ref xm128)])) tg → Steps pP.tables eE below (s₁.setTop (entryFrame mM #[(.int p1), (.int p2), (.int p3), (.int p4), (.int p5)] maxLocals)) tg := fun tg kg => pr174 _ (st175 _ kg)
        have c179 := (Exa.ext E175 c158)
        have c180 := (Fld.ext E175 c159)
        have c181 := (Fld.ext E175 c160)
        have c182 := (Arv.ext c161 E175)
        have c183 := (Old.ext c162 E175)
        have c184 := (Nat.le_trans c163 E175.1)
        obtain ⟨cq185, kq185, qa185, qb185, qc185⟩ := isOf hZ e175 c179
        obtain ⟨vq185, _, ⟨T185, L185, kk185, nn185⟩, -, X185, ⟨Lc185, hQ185, l185, y185, z185⟩, st185⟩ := X175.virtualBack hx (y := (⟨"java/lang/String", "equals", "(Ljava/lang/Object;)Z"⟩ : MethodName)) (z := (⟨"java/lang/String", "equals", "(Ljava/lang/Object;)Z"⟩ : MethodName)) hown (mvT hZ (hw _ (List.mem_of_getElem? (i := 75) rfl))) (mvT hZ (hw _ (List.mem_of_getElem? (i := 76) rfl))) (notFace_of_selects (args := #[]) (mvT hZ (hw _ (List.mem_of_getElem? (i := 78) rfl)))) (mvT hZ (hw _ (List.mem_of_getElem? (i := 78) rfl))) (mvT hZ (hw _ (List.mem_of_getElem? (i := 77) rfl))) (by decide) (StrChars.Road.eqW (W := 0) hZ (own_wE hw) (kI := 4) (hw _ (List.mem_of_getElem? (i := 2) rfl)) (cs := tx128) c179 c180 c181 c182 (StrChars.Road.codOf (n := tx128.length) rfl (fun c hc => (hp128 c hc).2)) (own_up hp128) hlen128 (ds := ([(112 : Int32), (114 : Int32), (102 : Int32), (108 : Int32), (120 : Int32)] : List Int32)) Es175 Fv175 Fc175 V175 own_cod_prflx own_bd_prflx (Nat.le_of_ble_eq_true rfl) (Sta.ext (c183).2 S_cs) hcs (by decide) (by decide)) qa185 qc185 (g := (mkF mM 262 #[.val (.int p1), .val (.int p2), .val (.int p3), .val (.int p4), .val (.int p5), .val (.int z2), .val (.int (1 : Int32)), .val (.ref a6), .val (.int nv), .val (.ref b33), .val (.int nv), .val (.ref xm128), .unset] [(.ref a175), (.ref xm128)])) rfl (by rw [hml]; rfl) (Steps.refl _) (argsL := [(.ref a175)]) (rest := []) (lenOf pd_9 rfl) rfl (by show 2 * 0 + _ ≤ _; exact Nat.le_of_eq rfl) (hb hby at_262) (fun _ _ => ⟨rfl, e175, (by decide : 15 + 0 ≤ _), (by decide : 114 + 0 ≤ _)⟩)
        dsimp only [Pt.U, Pt.locs, Pt.cells, Pt.slots] at X185 l185 y185 z185 st185 hQ185
        subst l185 y185 z185
        obtain ⟨hq185, hL185, e185⟩ := hQ185
        subst hL185
        obtain ⟨r185, hv185, hr185⟩ : ∃ r : Int32, vq185 = some (.int r) ∧ r = (if tx128 = ([(112 : Int32), (114 : Int32), (102 : Int32), (108 : Int32), (120 : Int32)] : List Int32) then (1 : Int32) else (0 : Int32)) := hq185.elim (fun q => ⟨1, q.1, (if_pos q.2).symm⟩) (fun q => ⟨0, q.1, (if_neg q.2).symm⟩)
        subst hv185
        have N185 := Fr.app N164 (Fr.nil n0)
        have pr186 : ∀ tg, Steps pP.tables eE below (T185.setTop (mkF mM 265 #[.val (.int p1), .val (.int p2), .val (.int p3), .val (.int p4), .val (.int p5), .val (.int z2), .val (.int (1 : Int32)), .val (.ref a6), .val (.int nv), .val (.ref b33), .val (.int nv), .val (.ref xm128), .unset] [(.int r185)])) tg → Steps pP.tables eE below (s₁.setTop (entryFrame mM #[(.int p1), (.int p2), (.int p3), (.int p4), (.int p5)] maxLocals)) tg := fun tg kg => pr178 _ (st185.trans kg)
        by_cases hd187 : tx128 = ([(112 : Int32), (114 : Int32), (102 : Int32), (108 : Int32), (120 : Int32)] : List Int32)
        ·
          rw [if_pos hd187] at hr185
          subst hr185
          have pr188 : ∀ tg, Steps pP.tables eE below (T185.setTop (mkF mM 268 #[.val (.int p1), .val (.int p2), .val (.int p3), .val (.int p4), .val (.int p5), .val (.int z2), .val (.int (1 : Int32)), .val (.ref a6), .val (.int nv), .val (.ref b33), .val (.int nv), .val (.ref xm128), .unset] [])) tg → Steps pP.tables eE below (s₁.setTop (entryFrame mM #[(.int p1), (.int p2), (.int p3), (.int p4), (.int p5)] maxLocals)) tg := fun tg kg => pr186 _ (by
            show Steps pP.tables eE below (T185.setTop (mkF mM 265 #[.val (.int p1), .val (.int p2), .val (.int p3), .val (.int p4), .val (.int p5), .val (.int z2), .val (.int (1 : Int32)), .val (.ref a6), .val (.int nv), .val (.ref b33), .val (.int nv), .val (.ref xm128), .unset] [(.int (1 : Int32))])) _
            refine XS.ifNo X185.here hx rfl (hb hby at_265) rfl ((if0 _ _).trans (feq (by decide)).1) ?_
            exact kg)
          obtain ⟨T189, X189, e189, st189⟩ := getS2 X185 hx hZ hown (host := "") (Or.inl (hw _ (List.mem_of_getElem? (i := 104) rfl))) Via.refl e185 (Sta.ext (c183).2 S_PEER_REFLEXIVE) (g := (mkF mM 268 #[.val (.int p1), .val (.int p2), .val (.int p3), .val (.int p4), .val (.int p5), .val (.int z2), .val (.int (1 : Int32)), .val (.ref a6), .val (.int nv), .val (.ref b33), .val (.int nv), .val (.ref xm128), .unset] [])) rfl (hb hby at_268)
          have pr190 : ∀ tg, Steps pP.tables eE below (T189.setTop (mkF mM 271 #[.val (.int p1), .val (.int p2), .val (.int p3), .val (.int p4), .val (.int p5), .val (.int z2), .val (.int (1 : Int32)), .val (.ref a6), .val (.int nv), .val (.ref b33), .val (.int nv), .val (.ref xm128), .unset] [(.ref a_PEER_REFLEXIVE)])) tg → Steps pP.tables eE below (s₁.setTop (entryFrame mM #[(.int p1), (.int p2), (.int p3), (.int p4), (.int p5)] maxLocals)) tg := fun tg kg => pr188 _ (st189 _ kg)
          have pr191 : ∀ tg, Steps pP.tables eE below (T189.setTop (mkF mM 299 #[.val (.int p1), .val (.int p2), .val (.int p3), .val (.int p4), .val (.int p5), .val (.int z2), .val (.int (1 : Int32)), .val (.ref a6), .val (.int nv), .val (.ref b33), .val (.int nv), .val (.ref xm128), .val (.ref a_PEER_REFLEXIVE)] [(.ref xm128)])) tg → Steps pP.tables eE below (s₁.setTop (entryFrame mM #[(.int p1), (.int p2), (.int p3), (.int p4), (.int p5)] maxLocals)) tg := fun tg kg => pr190 _ (by
            show Steps pP.tables eE below (T189.setTop (mkF mM 271 #[.val (.int p1), .val (.int p2), .val (.int p3), .val (.int p4), .val (.int p5), .val (.int z2), .val (.int (1 : Int32)), .val (.ref a6), .val (.int nv), .val (.ref b33), .val (.int nv), .val (.ref xm128), .unset] [(.ref a_PEER_REFLEXIVE)])) _
            refine XS.astore X189.here hx rfl (hb hby at_271) rfl rfl (l' := #[.val (.int p1), .val (.int p2), .val (.int p3), .val (.int p4), .val (.int p5), .val (.int z2), .val (.int (1 : Int32)), .val (.ref a6), .val (.int nv), .val (.ref b33), .val (.int nv), .val (.ref xm128), .val (.ref a_PEER_REFLEXIVE)]) rfl ?_
            show Steps pP.tables eE below (T189.setTop (mkF mM 273 #[.val (.int p1), .val (.int p2), .val (.int p3), .val (.int p4), .val (.int p5), .val (.int z2), .val (.int (1 : Int32)), .val (.ref a6), .val (.int nv), .val (.ref b33), .val (.int nv), .val (.ref xm128), .val (.ref a_PEER_REFLEXIVE)] [])) _
            refine XS.goto X189.here hx rfl (pc0 := 273) (pc' := 297) rfl (hb hby at_273) (by decide) (by decide) ?_
            show Steps pP.tables eE below (T189.setTop (mkF mM 297 #[.val (.int p1), .val (.int p2), .val (.int p3), .val (.int p4), .val (.int p5), .val (.int z2), .val (.int (1 : Int32)), .val (.ref a6), .val (.int nv), .val (.ref b33), .val (.int nv), .val (.ref xm128), .val (.ref a_PEER_REFLEXIVE)] [])) _
            refine XS.aload X189.here hx rfl (hb hby at_297) rfl rfl ?_
            exact kg)
          obtain ⟨_, _, ⟨T192, L192, kk192, nn192⟩, -, X192, ⟨Lc192, hQ192, l192, y192, z192⟩, st192⟩ := Jvm.LawKit.callS X189 hx (y := (⟨"com/example/thawline/thawline/CandidateType", "ofToken", "(Ljava/lang/String;)Lcom/example/thawline/thawline/CandidateType;"⟩ : MethodName)) hown (mvT hZ (hw _ (List.mem_of_getElem? (i := 87) rfl))) (mvT hZ (hw _ (List.mem_of_getElem? (i := 88) rfl))) (mvT hZ (hw _ (List.mem_of_getElem? (i := 85) rfl))) (mvT hZ (hw _ (List.mem_of_getElem? (i := 89) rfl))) (by decide) (backOf (W := 0) (rm42 l Z a0 hw [] cs al kal a_HOST t_HOST u_HOST k_HOST a_SERVER_REFLEXIVE t_SERVER_REFLEXIVE u_SERVER_REFLEXIVE k_SERVER_REFLEXIVE a_PEER_REFLEXIVE t_PEER_REFLEXIVE u_PEER_REFLEXIVE k_PEER_REFLEXIVE a_RELAYED t_RELAYED u_RELAYED k_RELAYED xm128 tm128 km128 tx128 h175 n0 c184 c183 S_cs hcs S_ALL V_ALL S_HOST E_HOST F_HOST Et_HOST Fc_HOST Fv_HOST Vt_HOST S_SERVER_REFLEXIVE E_SERVER_REFLEXIVE F_SERVER_REFLEXIVE Et_SERVER_REFLEXIVE Fc_SERVER_REFLEXIVE Fv_SERVER_REFLEXIVE Vt_SERVER_REFLEXIVE S_PEER_REFLEXIVE E_PEER_REFLEXIVE F_PEER_REFLEXIVE Et_PEER_REFLEXIVE Fc_PEER_REFLEXIVE Fv_PEER_REFLEXIVE Vt_PEER_REFLEXIVE S_RELAYED E_RELAYED F_RELAYED Et_RELAYED Fc_RELAYED Fv_RELAYED Vt_RELAYED c179 c180 c181 c182 hp128 hlen128 hd145 hd166 hd187) hZ (hw _ (List.mem_of_getElem? (i := 89) rfl)) (hw _ (List.mem_of_getElem? (i := 85) rfl)) (by decide) (by decide)) (g := (mkF mM 299 #[.val (.int p1), .val (.int p2), .val (.int p3), .val (.int p4), .val (.int p5), .val (.int z2), .val (.int (1 : Int32)), .val (.ref a6), .val (.int nv), .val (.ref b33), .val (.int nv), .val (.ref xm128), .val (.ref a_PEER_REFLEXIVE)] [(.ref xm128)])) rfl (by rw [hml]; rfl) (argsL := [(.ref xm128)]) (rest := []) (lenOf pd_13 rfl) rfl (by show 2 * 0 + _ ≤ _; exact Nat.le_of_eq rfl) (hb hby at_299) (fun _ _ => ⟨rfl, e189, (by decide : 15 + 0 ≤ _), (by decide : 114 + 0 ≤ _)⟩)
          dsimp only [Pt.U, Pt.locs, Pt.cells, Pt.slots] at X192 l192 y192 z192 st192 hQ192
          subst l192 y192 z192
          obtain ⟨rfl, Nq192, e192⟩ := hQ192
          have N192 := Fr.app N185 Nq192
          have pr193 : ∀ tg, Steps pP.tables eE below (T192.setTop (mkF mM 302 #[.val (.int p1), .val (.int p2), .val (.int p3), .val (.int p4), .val (.int p5), .val (.int z2), .val (.int (1 : Int32)), .val (.ref a6), .val (.int nv), .val (.ref b33), .val (.int nv), .val (.ref xm128), .val (.ref a_PEER_REFLEXIVE)] [(.ref a_PEER_REFLEXIVE)])) tg → Steps pP.tables eE below (s₁.setTop (entryFrame mM #[(.int p1), (.int p2), (.int p3), (.int p4), (.int p5)] maxLocals)) tg := fun tg kg => pr191 _ (st192 _ kg)
          have pr194 : ∀ tg, Steps pP.tables eE below (T192.setTop (mkF mM 312 #[.val (.int p1), .val (.int p2), .val (.int p3), .val (.int p4), .val (.int p5), .val (.int z2), .val (.int (1 : Int32)), .val (.ref a6), .val (.int nv), .val (.ref b33), .val (.int nv), .val (.ref xm128), .val (.ref a_PEER_REFLEXIVE)] [(.int (1 : Int32))])) tg → Steps pP.tables eE below (s₁.setTop (entryFrame mM #[(.int p1), (.int p2), (.int p3), (.int p4), (.int p5)] maxLocals)) tg := fun tg kg => pr193 _ (by
            show Steps pP.tables eE below (T192.setTop (mkF mM 302 #[.val (.int p1), .val (.int p2), .val (.int p3), .val (.int p4), .val (.int p5), .val (.int z2), .val (.int (1 : Int32)), .val (.ref a6), .val (.int nv), .val (.ref b33), .val (.int nv), .val (.ref xm128), .val (.ref a_PEER_REFLEXIVE)] [(.ref a_PEER_REFLEXIVE)])) _
            refine XS.aload X192.here hx rfl (hb hby at_302) rfl rfl ?_
            show Steps pP.tables eE below (T192.setTop (mkF mM 304 #[.val (.int p1), .val (.int p2), .val (.int p3), .val (.int p4), .val (.int p5), .val (.int z2), .val (.int (1 : Int32)), .val (.ref a6), .val (.int nv), .val (.ref b33), .val (.int nv), .val (.ref xm128), .val (.ref a_PEER_REFLEXIVE)] [(.ref a_PEER_REFLEXIVE), (.ref a_PEER_REFLEXIVE)])) _
            refine Jvm.RoadKit.acmp (g := (mkF mM 304 #[.val (.int p1), .val (.int p2), .val (.int p3), .val (.int p4), .val (.int p5), .val (.int z2), .val (.int (1 : Int32)), .val (.ref a6), .val (.int nv), .val (.ref b33), .val (.int nv), .val (.ref xm128), .val (.ref a_PEER_REFLEXIVE)] [(.ref a_PEER_REFLEXIVE), (.ref a_PEER_REFLEXIVE)])) X192 hx rfl rfl rfl (pc0 := 304) (pc' := 307) (same := true) rfl (hb hby at_304) rfl (decide_eq_true rfl) (by decide) (by decide) ?_
            show Steps pP.tables eE below (T192.setTop (mkF mM 307 #[.val (.int p1), .val (.int p2), .val (.int p3), .val (.int p4), .val (.int p5), .val (.int z2), .val (.int (1 : Int32)), .val (.ref a6), .val (.int nv), .val (.ref b33), .val (.int nv), .val (.ref xm128), .val (.ref a_PEER_REFLEXIVE)] [])) _
            refine XS.iconst X192.here hx rfl (hb hby at_307) ?_
            show Steps pP.tables eE below (T192.setTop (mkF mM 308 #[.val (.int p1), .val (.int p2), .val (.int p3), .val (.int p4), .val (.int p5), .val (.int z2), .val (.int (1 : Int32)), .val (.ref a6), .val (.int nv), .val (.ref b33), .val (.int nv), .val (.ref xm128), .val (.ref a_PEER_REFLEXIVE)] [(.int (1 : Int32))])) _
            refine XS.goto X192.here hx rfl (pc0 := 308) (pc' := 312) rfl (hb hby at_308) (by decide) (by decide) ?_
            exact kg)
          obtain ⟨fs, hr, hrun, hended, hW⟩ := Jvm.Stand.leaveW (s := sS) (vm₁ := T175.vm) X192 hS (Nat.le_trans hk175 (Nat.le_of_eq (congrArg Array.size e192.symm))) (v := some (.int (1 : Int32))) (fun h => by rw [Bd.returns] at h; cases h)
          refine ⟨_, _, pr194 _ (retOut X192 hx (t := .boolean) Bd.returns rfl (Or.inl ⟨rfl, Or.inr (Or.inl rfl), _, rfl⟩) (hb hby at_312) hr), hrun, hended, _, _, rfl, ?_, hW.1, hW.2.1, hW.2.2.1, hW.2.2.2.mono (by decide) (by decide)⟩
          show Q0 Z p1 p2 p3 p4 p5 cs sf al kal a_HOST t_HOST u_HOST k_HOST a_SERVER_REFLEXIVE t_SERVER_REFLEXIVE u_SERVER_REFLEXIVE k_SERVER_REFLEXIVE a_PEER_REFLEXIVE t_PEER_REFLEXIVE u_PEER_REFLEXIVE k_PEER_REFLEXIVE a_RELAYED t_RELAYED u_RELAYED k_RELAYED h0 n0 _ T192.heap _
          rw [e192]
          exact ⟨rfl, N192⟩
        ·
          rw [if_neg hd187] at hr185
          subst hr185
          have pr195 : ∀ tg, Steps pP.tables eE below (T185.setTop (mkF mM 278 #[.val (.int p1), .val (.int p2), .val (.int p3), .val (.int p4), .val (.int p5), .val (.int z2), .val (.int (1 : Int32)), .val (.ref a6), .val (.int nv), .val (.ref b33), .val (.int nv), .val (.ref xm128), .unset] [(.ref xm128)])) tg → Steps pP.tables eE below (s₁.setTop (entryFrame mM #[(.int p1), (.int p2), (.int p3), (.int p4), (.int p5)] maxLocals)) tg := fun tg kg => pr186 _ (by
            show Steps pP.tables eE below (T185.setTop (mkF mM 265 #[.val (.int p1), .val (.int p2), .val (.int p3), .val (.int p4), .val (.int p5), .val (.int z2), .val (.int (1 : Int32)), .val (.ref a6), .val (.int nv), .val (.ref b33), .val (.int nv), .val (.ref xm128), .unset] [(.int (0 : Int32))])) _
            refine XS.ifYes X185.here hx rfl (pc0 := 265) (pc' := 276) rfl (hb hby at_265) rfl ((if0 _ _).trans (teq (by decide)).1) (by decide) (by decide) ?_
            show Steps pP.tables eE below (T185.setTop (mkF mM 276 #[.val (.int p1), .val (.int p2), .val (.int p3), .val (.int p4), .val (.int p5), .val (.int z2), .val (.int (1 : Int32)), .val (.ref a6), .val (.int nv), .val (.ref b33), .val (.int nv), .val (.ref xm128), .unset] [])) _
            refine XS.aload X185.here hx rfl (hb hby at_276) rfl rfl ?_
            exact kg)
          obtain ⟨a196, T196, h196, kk196, b196, kc196, X196, e196, E196, hS, hk196, hZ, hown, Es196, Fc196, Fv196, V196, la196, lb196, A196, -, hn196, st196⟩ := ldcCH (s := sS) (vm0 := T175.vm) (EL := consts_1) X185 hx hZ hown (hw _ (List.mem_of_getElem? (i := 95) rfl)) wS e185 hS hk175 hEW (List.mem_of_getElem? (i := 3) rfl) cr176.1 (vs := [(.int (114 : Int32)), (.int (101 : Int32)), (.int (108 : Int32)), (.int (97 : Int32)), (.int (121 : Int32))]) (z := (5 : Int32)) ⟨by decide, rfl⟩ (by decide) rfl (g := (mkF mM 278 #[.val (.int p1), .val (.int p2), .val (.int p3), .val (.int p4), .val (.int p5), .val (.int z2), .val (.int (1 : Int32)), .val (.ref a6), .val (.int nv), .val (.ref b33), .val (.int nv), .val (.ref xm128), .unset] [(.ref xm128)])) rfl (hb hby at_278) (n := 20) (by decide) (by decide) (by decide) (by decide)
          have c198 := (Arv.ext c177 E175)
          have sf197_b33 := CHr.safe A196 (c198).lt sf176_b33
          have cr197 := CHr.trans cr176 A196
          have pr199 : ∀ tg, Steps pP.tables eE below (T196.setTop (mkF mM 280 #[.val (.int p1), .val (.int p2), .val (.int p3), .val (.int p4), .val (.int p5), .val (.int z2), .val (.int (1 : Int32)), .val (.ref a6), .val (.int nv), .val (.ref b33), .val (.int nv), .val (.ref xm128), .unset] [(.ref a196), (.ref xm128)])) tg → Steps pP.tables eE below (s₁.setTop (entryFrame mM #[(.int p1), (.int p2), (.int p3), (.int p4), (.int p5)] maxLocals)) tg := fun tg kg => pr195 _ (st196 _ kg)
          have c200 := (Exa.ext E196 c179)
          have c201 := (Fld.ext E196 c180)
          have c202 := (Fld.ext E196 c181)
          have c203 := (Arv.ext c182 E196)
          have c204 := (Old.ext c183 E196)
          have c205 := (Nat.le_trans c184 E196.1)
          obtain ⟨cq206, kq206, qa206, qb206, qc206⟩ := isOf hZ e196 c200
          obtain ⟨vq206, _, ⟨T206, L206, kk206, nn206⟩, -, X206, ⟨Lc206, hQ206, l206, y206, z206⟩, st206⟩ := X196.virtualBack hx (y := (⟨"java/lang/String", "equals", "(Ljava/lang/Object;)Z"⟩ : MethodName)) (z := (⟨"java/lang/String", "equals", "(Ljava/lang/Object;)Z"⟩ : MethodName)) hown (mvT hZ (hw _ (List.mem_of_getElem? (i := 75) rfl))) (mvT hZ (hw _ (List.mem_of_getElem? (i := 76) rfl))) (notFace_of_selects (args := #[]) (mvT hZ (hw _ (List.mem_of_getElem? (i := 78) rfl)))) (mvT hZ (hw _ (List.mem_of_getElem? (i := 78) rfl))) (mvT hZ (hw _ (List.mem_of_getElem? (i := 77) rfl))) (by decide) (StrChars.Road.eqW (W := 0) hZ (own_wE hw) (kI := 4) (hw _ (List.mem_of_getElem? (i := 2) rfl)) (cs := tx128) c200 c201 c202 c203 (StrChars.Road.codOf (n := tx128.length) rfl (fun c hc => (hp128 c hc).2)) (own_up hp128) hlen128 (ds := ([(114 : Int32), (101 : Int32), (108 : Int32), (97 : Int32), (121 : Int32)] : List Int32)) Es196 Fv196 Fc196 V196 own_cod_relay own_bd_relay (Nat.le_of_ble_eq_true rfl) (Sta.ext (c204).2 S_cs) hcs (by decide) (by decide)) qa206 qc206 (g := (mkF mM 280 #[.val (.int p1), .val (.int p2), .val (.int p3), .val (.int p4), .val (.int p5), .val (.int z2), .val (.int (1 : Int32)), .val (.ref a6), .val (.int nv), .val (.ref b33), .val (.int nv), .val (.ref xm128), .unset] [(.ref a196), (.ref xm128)])) rfl (by rw [hml]; rfl) (Steps.refl _) (argsL := [(.ref a196)]) (rest := []) (lenOf pd_9 rfl) rfl (by show 2 * 0 + _ ≤ _; exact Nat.le_of_eq rfl) (hb hby at_280) (fun _ _ => ⟨rfl, e196, (by decide : 17 + 0 ≤ _), (by decide : 138 + 0 ≤ _)⟩)
          dsimp only [Pt.U, Pt.locs, Pt.cells, Pt.slots] at X206 l206 y206 z206 st206 hQ206
          subst l206 y206 z206
          obtain ⟨hq206, hL206, e206⟩ := hQ206
          subst hL206
          obtain ⟨r206, hv206, hr206⟩ : ∃ r : Int32, vq206 = some (.int r) ∧ r = (if tx128 = ([(114 : Int32), (101 : Int32), (108 : Int32), (97 : Int32), (121 : Int32)] : List Int32) then (1 : Int32) else (0 : Int32)) := hq206.elim (fun q => ⟨1, q.1, (if_pos q.2).symm⟩) (fun q => ⟨0, q.1, (if_neg q.2).symm⟩)
          subst hv206
          have N206 := Fr.app N185 (Fr.nil n0)
          have pr207 : ∀ tg, Steps pP.tables eE below (T206.setTop (mkF mM 283 #[.val (.int p1), .val (.int p2), .val (.int p3), .val (.int p4), .val (.int p5), .val (.int z2), .val (.int (1 : Int32)), .val (.ref a6), .val (.int nv), .val (.ref b33), .val (.int nv), .val (.ref xm128), .unset] [(.int r206)])) tg → Steps pP.tables eE below (s₁.setTop (entryFrame mM #[(.int p1), (.int p2), (.int p3), (.int p4), (.int p5)] maxLocals)) tg := fun tg kg => pr199 _ (st206.trans kg)
          by_cases hd208 : tx128 = ([(114 : Int32), (101 : Int32), (108 : Int32), (97 : Int32), (121 : Int32)] : List Int32)
          ·
            rw [if_pos hd208] at hr206
            subst hr206
            have pr209 : ∀ tg, Steps pP.tables eE below (T206.setTop (mkF mM 286 #[.val (.int p1), .val (.int p2), .val (.int p3), .val (.int p4), .val (.int p5), .val (.int z2), .val (.int (1 : Int32)), .val (.ref a6), .val (.int nv), .val (.ref b33), .val (.int nv), .val (.ref xm128), .unset] [])) tg → Steps pP.tables eE below (s₁.setTop (entryFrame mM #[(.int p1), (.int p2), (.int p3), (.int p4), (.int p5)] maxLocals)) tg := fun tg kg => pr207 _ (by
              show Steps pP.tables eE below (T206.setTop (mkF mM 283 #[.val (.int p1), .val (.int p2), .val (.int p3), .val (.int p4), .val (.int p5), .val (.int z2), .val (.int (1 : Int32)), .val (.ref a6), .val (.int nv), .val (.ref b33), .val (.int nv), .val (.ref xm128), .unset] [(.int (1 : Int32))])) _
              refine XS.ifNo X206.here hx rfl (hb hby at_283) rfl ((if0 _ _).trans (feq (by decide)).1) ?_
              exact kg)
            obtain ⟨T210, X210, e210, st210⟩ := getS2 X206 hx hZ hown (host := "") (Or.inl (hw _ (List.mem_of_getElem? (i := 98) rfl))) Via.refl e206 (Sta.ext (c204).2 S_RELAYED) (g := (mkF mM 286 #[.val (.int p1), .val (.int p2), .val (.int p3), .val (.int p4), .val (.int p5), .val (.int z2), .val (.int (1 : Int32)), .val (.ref a6), .val (.int nv), .val (.ref b33), .val (.int nv), .val (.ref xm128), .unset] [])) rfl (hb hby at_286)
            have pr211 : ∀ tg, Steps pP.tables eE below (T210.setTop (mkF mM 289 #[.val (.int p1), .val (.int p2), .val (.int p3), .val (.int p4), .val (.int p5), .val (.int z2), .val (.int (1 : Int32)), .val (.ref a6), .val (.int nv), .val (.ref b33), .val (.int nv), .val (.ref xm128), .unset] [(.ref a_RELAYED)])) tg → Steps pP.tables eE below (s₁.setTop (entryFrame mM #[(.int p1), (.int p2), (.int p3), (.int p4), (.int p5)] maxLocals)) tg := fun tg kg => pr209 _ (st210 _ kg)
            have pr212 : ∀ tg, Steps pP.tables eE below (T210.setTop (mkF mM 299 #[.val (.int p1), .val (.int p2), .val (.int p3), .val (.int p4), .val (.int p5), .val (.int z2), .val (.int (1 : Int32)), .val (.ref a6), .val (.int nv), .val (.ref b33), .val (.int nv), .val (.ref xm128), .val (.ref a_RELAYED)] [(.ref xm128)])) tg → Steps pP.tables eE below (s₁.setTop (entryFrame mM #[(.int p1), (.int p2), (.int p3), (.int p4), (.int p5)] maxLocals)) tg := fun tg kg => pr211 _ (by
              show Steps pP.tables eE below (T210.setTop (mkF mM 289 #[.val (.int p1), .val (.int p2), .val (.int p3), .val (.int p4), .val (.int p5), .val (.int z2), .val (.int (1 : Int32)), .val (.ref a6), .val (.int nv), .val (.ref b33), .val (.int nv), .val (.ref xm128), .unset] [(.ref a_RELAYED)])) _
              refine XS.astore X210.here hx rfl (hb hby at_289) rfl rfl (l' := #[.val (.int p1), .val (.int p2), .val (.int p3), .val (.int p4), .val (.int p5), .val (.int z2), .val (.int (1 : Int32)), .val (.ref a6), .val (.int nv), .val (.ref b33), .val (.int nv), .val (.ref xm128), .val (.ref a_RELAYED)]) rfl ?_
              show Steps pP.tables eE below (T210.setTop (mkF mM 291 #[.val (.int p1), .val (.int p2), .val (.int p3), .val (.int p4), .val (.int p5), .val (.int z2), .val (.int (1 : Int32)), .val (.ref a6), .val (.int nv), .val (.ref b33), .val (.int nv), .val (.ref xm128), .val (.ref a_RELAYED)] [])) _
              refine XS.goto X210.here hx rfl (pc0 := 291) (pc' := 297) rfl (hb hby at_291) (by decide) (by decide) ?_
              show Steps pP.tables eE below (T210.setTop (mkF mM 297 #[.val (.int p1), .val (.int p2), .val (.int p3), .val (.int p4), .val (.int p5), .val (.int z2), .val (.int (1 : Int32)), .val (.ref a6), .val (.int nv), .val (.ref b33), .val (.int nv), .val (.ref xm128), .val (.ref a_RELAYED)] [])) _
              refine XS.aload X210.here hx rfl (hb hby at_297) rfl rfl ?_
              exact kg)
            obtain ⟨_, _, ⟨T213, L213, kk213, nn213⟩, -, X213, ⟨Lc213, hQ213, l213, y213, z213⟩, st213⟩ := Jvm.LawKit.callS X210 hx (y := (⟨"com/example/thawline/thawline/CandidateType", "ofToken", "(Ljava/lang/String;)Lcom/example/thawline/thawline/CandidateType;"⟩ : MethodName)) hown (mvT hZ (hw _ (List.mem_of_getElem? (i := 87) rfl))) (mvT hZ (hw _ (List.mem_of_getElem? (i := 88) rfl))) (mvT hZ (hw _ (List.mem_of_getElem? (i := 85) rfl))) (mvT hZ (hw _ (List.mem_of_getElem? (i := 89) rfl))) (by decide) (backOf (W := 0) (rm43 l Z a0 hw [] cs al kal a_HOST t_HOST u_HOST k_HOST a_SERVER_REFLEXIVE t_SERVER_REFLEXIVE u_SERVER_REFLEXIVE k_SERVER_REFLEXIVE a_PEER_REFLEXIVE t_PEER_REFLEXIVE u_PEER_REFLEXIVE k_PEER_REFLEXIVE a_RELAYED t_RELAYED u_RELAYED k_RELAYED xm128 tm128 km128 tx128 h196 n0 c205 c204 S_cs hcs S_ALL V_ALL S_HOST E_HOST F_HOST Et_HOST Fc_HOST Fv_HOST Vt_HOST S_SERVER_REFLEXIVE E_SERVER_REFLEXIVE F_SERVER_REFLEXIVE Et_SERVER_REFLEXIVE Fc_SERVER_REFLEXIVE Fv_SERVER_REFLEXIVE Vt_SERVER_REFLEXIVE S_PEER_REFLEXIVE E_PEER_REFLEXIVE F_PEER_REFLEXIVE Et_PEER_REFLEXIVE Fc_PEER_REFLEXIVE Fv_PEER_REFLEXIVE Vt_PEER_REFLEXIVE S_RELAYED E_RELAYED F_RELAYED Et_RELAYED Fc_RELAYED Fv_RELAYED Vt_RELAYED c200 c201 c202 c203 hp128 hlen128 hd145 hd166 hd187 hd208) hZ (hw _ (List.mem_of_getElem? (i := 89) rfl)) (hw _ (List.mem_of_getElem? (i := 85) rfl)) (by decide) (by decide)) (g := (mkF mM 299 #[.val (.int p1), .val (.int p2), .val (.int p3), .val (.int p4), .val (.int p5), .val (.int z2), .val (.int (1 : Int32)), .val (.ref a6), .val (.int nv), .val (.ref b33), .val (.int nv), .val (.ref xm128), .val (.ref a_RELAYED)] [(.ref xm128)])) rfl (by rw [hml]; rfl) (argsL := [(.ref xm128)]) (rest := []) (lenOf pd_13 rfl) rfl (by show 2 * 0 + _ ≤ _; exact Nat.le_of_eq rfl) (hb hby at_299) (fun _ _ => ⟨rfl, e210, (by decide : 17 + 0 ≤ _), (by decide : 138 + 0 ≤ _)⟩)
            dsimp only [Pt.U, Pt.locs, Pt.cells, Pt.slots] at X213 l213 y213 z213 st213 hQ213
            subst l213 y213 z213
            obtain ⟨rfl, Nq213, e213⟩ := hQ213
            have N213 := Fr.app N206 Nq213
            have pr214 : ∀ tg, Steps pP.tables eE below (T213.setTop (mkF mM 302 #[.val (.int p1), .val (.int p2), .val (.int p3), .val (.int p4), .val (.int p5), .val (.int z2), .val (.int (1 : Int32)), .val (.ref a6), .val (.int nv), .val (.ref b33), .val (.int nv), .val (.ref xm128), .val (.ref a_RELAYED)] [(.ref a_RELAYED)])) tg → Steps pP.tables eE below (s₁.setTop (entryFrame mM #[(.int p1), (.int p2), (.int p3), (.int p4), (.int p5)] maxLocals)) tg := fun tg kg => pr212 _ (st213 _ kg)
            have pr215 : ∀ tg, Steps pP.tables eE below (T213.setTop (mkF mM 312 #[.val (.int p1), .val (.int p2), .val (.int p3), .val (.int p4), .val (.int p5), .val (.int z2), .val (.int (1 : Int32)), .val (.ref a6), .val (.int nv), .val (.ref b33), .val (.int nv), .val (.ref xm128), .val (.ref a_RELAYED)] [(.int (1 : Int32))])) tg → Steps pP.tables eE below (s₁.setTop (entryFrame mM #[(.int p1), (.int p2), (.int p3), (.int p4), (.int p5)] maxLocals)) tg := fun tg kg => pr214 _ (by
              show Steps pP.tables eE below (T213.setTop (mkF mM 302 #[.val (.int p1), .val (.int p2), .val (.int p3), .val (.int p4), .val (.int p5), .val (.int z2), .val (.int (1 : Int32)), .val (.ref a6), .val (.int nv), .val (.ref b33), .val (.int nv), .val (.ref xm128), .val (.ref a_RELAYED)] [(.ref a_RELAYED)])) _
              refine XS.aload X213.here hx rfl (hb hby at_302) rfl rfl ?_
              show Steps pP.tables eE below (T213.setTop (mkF mM 304 #[.val (.int p1), .val (.int p2), .val (.int p3), .val (.int p4), .val (.int p5), .val (.int z2), .val (.int (1 : Int32)), .val (.ref a6), .val (.int nv), .val (.ref b33), .val (.int nv), .val (.ref xm128), .val (.ref a_RELAYED)] [(.ref a_RELAYED), (.ref a_RELAYED)])) _
              refine Jvm.RoadKit.acmp (g := (mkF mM 304 #[.val (.int p1), .val (.int p2), .val (.int p3), .val (.int p4), .val (.int p5), .val (.int z2), .val (.int (1 : Int32)), .val (.ref a6), .val (.int nv), .val (.ref b33), .val (.int nv), .val (.ref xm128), .val (.ref a_RELAYED)] [(.ref a_RELAYED), (.ref a_RELAYED)])) X213 hx rfl rfl rfl (pc0 := 304) (pc' := 307) (same := true) rfl (hb hby at_304) rfl (decide_eq_true rfl) (by decide) (by decide) ?_
              show Steps pP.tables eE below (T213.setTop (mkF mM 307 #[.val (.int p1), .val (.int p2), .val (.int p3), .val (.int p4), .val (.int p5), .val (.int z2), .val (.int (1 : Int32)), .val (.ref a6), .val (.int nv), .val (.ref b33), .val (.int nv), .val (.ref xm128), .val (.ref a_RELAYED)] [])) _
              refine XS.iconst X213.here hx rfl (hb hby at_307) ?_
              show Steps pP.tables eE below (T213.setTop (mkF mM 308 #[.val (.int p1), .val (.int p2), .val (.int p3), .val (.int p4), .val (.int p5), .val (.int z2), .val (.int (1 : Int32)), .val (.ref a6), .val (.int nv), .val (.ref b33), .val (.int nv), .val (.ref xm128), .val (.ref a_RELAYED)] [(.int (1 : Int32))])) _
              refine XS.goto X213.here hx rfl (pc0 := 308) (pc' := 312) rfl (hb hby at_308) (by decide) (by decide) ?_
              exact kg)
            obtain ⟨fs, hr, hrun, hended, hW⟩ := Jvm.Stand.leaveW (s := sS) (vm₁ := T196.vm) X213 hS (Nat.le_trans hk196 (Nat.le_of_eq (congrArg Array.size e213.symm))) (v := some (.int (1 : Int32))) (fun h => by rw [Bd.returns] at h; cases h)
            refine ⟨_, _, pr215 _ (retOut X213 hx (t := .boolean) Bd.returns rfl (Or.inl ⟨rfl, Or.inr (Or.inl rfl), _, rfl⟩) (hb hby at_312) hr), hrun, hended, _, _, rfl, ?_, hW.1, hW.2.1, hW.2.2.1, hW.2.2.2.mono (by decide) (by decide)⟩
            show Q0 Z p1 p2 p3 p4 p5 cs sf al kal a_HOST t_HOST u_HOST k_HOST a_SERVER_REFLEXIVE t_SERVER_REFLEXIVE u_SERVER_REFLEXIVE k_SERVER_REFLEXIVE a_PEER_REFLEXIVE t_PEER_REFLEXIVE u_PEER_REFLEXIVE k_PEER_REFLEXIVE a_RELAYED t_RELAYED u_RELAYED k_RELAYED h0 n0 _ T213.heap _
            rw [e213]
            exact ⟨rfl, N213⟩
          ·
            rw [if_neg hd208] at hr206
            subst hr206
            have pr216 : ∀ tg, Steps pP.tables eE below (T206.setTop (mkF mM 299 #[.val (.int p1), .val (.int p2), .val (.int p3), .val (.int p4), .val (.int p5), .val (.int z2), .val (.int (1 : Int32)), .val (.ref a6), .val (.int nv), .val (.ref b33), .val (.int nv), .val (.ref xm128), .val .null] [(.ref xm128)])) tg → Steps pP.tables eE below (s₁.setTop (entryFrame mM #[(.int p1), (.int p2), (.int p3), (.int p4), (.int p5)] maxLocals)) tg := fun tg kg => pr207 _ (by
              show Steps pP.tables eE below (T206.setTop (mkF mM 283 #[.val (.int p1), .val (.int p2), .val (.int p3), .val (.int p4), .val (.int p5), .val (.int z2), .val (.int (1 : Int32)), .val (.ref a6), .val (.int nv), .val (.ref b33), .val (.int nv), .val (.ref xm128), .unset] [(.int (0 : Int32))])) _
              refine XS.ifYes X206.here hx rfl (pc0 := 283) (pc' := 294) rfl (hb hby at_283) rfl ((if0 _ _).trans (teq (by decide)).1) (by decide) (by decide) ?_
              show Steps pP.tables eE below (T206.setTop (mkF mM 294 #[.val (.int p1), .val (.int p2), .val (.int p3), .val (.int p4), .val (.int p5), .val (.int z2), .val (.int (1 : Int32)), .val (.ref a6), .val (.int nv), .val (.ref b33), .val (.int nv), .val (.ref xm128), .unset] [])) _
              refine XS.aconstNull X206.here hx rfl (hb hby at_294) ?_
              show Steps pP.tables eE below (T206.setTop (mkF mM 295 #[.val (.int p1), .val (.int p2), .val (.int p3), .val (.int p4), .val (.int p5), .val (.int z2), .val (.int (1 : Int32)), .val (.ref a6), .val (.int nv), .val (.ref b33), .val (.int nv), .val (.ref xm128), .unset] [.null])) _
              refine XS.astore X206.here hx rfl (hb hby at_295) rfl rfl (l' := #[.val (.int p1), .val (.int p2), .val (.int p3), .val (.int p4), .val (.int p5), .val (.int z2), .val (.int (1 : Int32)), .val (.ref a6), .val (.int nv), .val (.ref b33), .val (.int nv), .val (.ref xm128), .val .null]) rfl ?_
              show Steps pP.tables eE below (T206.setTop (mkF mM 297 #[.val (.int p1), .val (.int p2), .val (.int p3), .val (.int p4), .val (.int p5), .val (.int z2), .val (.int (1 : Int32)), .val (.ref a6), .val (.int nv), .val (.ref b33), .val (.int nv), .val (.ref xm128), .val .null] [])) _
              refine XS.aload X206.here hx rfl (hb hby at_297) rfl rfl ?_
              exact kg)
            obtain ⟨_, _, ⟨T217, L217, kk217, nn217⟩, -, X217, ⟨Lc217, hQ217, l217, y217, z217⟩, st217⟩ := Jvm.LawKit.callS X206 hx (y := (⟨"com/example/thawline/thawline/CandidateType", "ofToken", "(Ljava/lang/String;)Lcom/example/thawline/thawline/CandidateType;"⟩ : MethodName)) hown (mvT hZ (hw _ (List.mem_of_getElem? (i := 87) rfl))) (mvT hZ (hw _ (List.mem_of_getElem? (i := 88) rfl))) (mvT hZ (hw _ (List.mem_of_getElem? (i := 85) rfl))) (mvT hZ (hw _ (List.mem_of_getElem? (i := 89) rfl))) (by decide) (backOf (W := 0) (rm44 l Z a0 hw [] cs al kal a_HOST t_HOST u_HOST k_HOST a_SERVER_REFLEXIVE t_SERVER_REFLEXIVE u_SERVER_REFLEXIVE k_SERVER_REFLEXIVE a_PEER_REFLEXIVE t_PEER_REFLEXIVE u_PEER_REFLEXIVE k_PEER_REFLEXIVE a_RELAYED t_RELAYED u_RELAYED k_RELAYED xm128 tm128 km128 tx128 h196 n0 c205 c204 S_cs hcs S_ALL V_ALL S_HOST E_HOST F_HOST Et_HOST Fc_HOST Fv_HOST Vt_HOST S_SERVER_REFLEXIVE E_SERVER_REFLEXIVE F_SERVER_REFLEXIVE Et_SERVER_REFLEXIVE Fc_SERVER_REFLEXIVE Fv_SERVER_REFLEXIVE Vt_SERVER_REFLEXIVE S_PEER_REFLEXIVE E_PEER_REFLEXIVE F_PEER_REFLEXIVE Et_PEER_REFLEXIVE Fc_PEER_REFLEXIVE Fv_PEER_REFLEXIVE Vt_PEER_REFLEXIVE S_RELAYED E_RELAYED F_RELAYED Et_RELAYED Fc_RELAYED Fv_RELAYED Vt_RELAYED c200 c201 c202 c203 hp128 hlen128 hd145 hd166 hd187 hd208) hZ (hw _ (List.mem_of_getElem? (i := 89) rfl)) (hw _ (List.mem_of_getElem? (i := 85) rfl)) (by decide) (by decide)) (g := (mkF mM 299 #[.val (.int p1), .val (.int p2), .val (.int p3), .val (.int p4), .val (.int p5), .val (.int z2), .val (.int (1 : Int32)), .val (.ref a6), .val (.int nv), .val (.ref b33), .val (.int nv), .val (.ref xm128), .val .null] [(.ref xm128)])) rfl (by rw [hml]; rfl) (argsL := [(.ref xm128)]) (rest := []) (lenOf pd_13 rfl) rfl (by show 2 * 0 + _ ≤ _; exact Nat.le_of_eq rfl) (hb hby at_299) (fun _ _ => ⟨rfl, e206, (by decide : 17 + 0 ≤ _), (by decide : 138 + 0 ≤ _)⟩)
            dsimp only [Pt.U, Pt.locs, Pt.cells, Pt.slots] at X217 l217 y217 z217 st217 hQ217
            subst l217 y217 z217
            obtain ⟨rfl, Nq217, e217⟩ := hQ217
            have N217 := Fr.app N206 Nq217
            have pr218 : ∀ tg, Steps pP.tables eE below (T217.setTop (mkF mM 302 #[.val (.int p1), .val (.int p2), .val (.int p3), .val (.int p4), .val (.int p5), .val (.int z2), .val (.int (1 : Int32)), .val (.ref a6), .val (.int nv), .val (.ref b33), .val (.int nv), .val (.ref xm128), .val .null] [.null])) tg → Steps pP.tables eE below (s₁.setTop (entryFrame mM #[(.int p1), (.int p2), (.int p3), (.int p4), (.int p5)] maxLocals)) tg := fun tg kg => pr216 _ (st217 _ kg)
            have pr219 : ∀ tg, Steps pP.tables eE below (T217.setTop (mkF mM 312 #[.val (.int p1), .val (.int p2), .val (.int p3), .val (.int p4), .val (.int p5), .val (.int z2), .val (.int (1 : Int32)), .val (.ref a6), .val (.int nv), .val (.ref b33), .val (.int nv), .val (.ref xm128), .val .null] [(.int (1 : Int32))])) tg → Steps pP.tables eE below (s₁.setTop (entryFrame mM #[(.int p1), (.int p2), (.int p3), (.int p4), (.int p5)] maxLocals)) tg := fun tg kg => pr218 _ (by
              show Steps pP.tables eE below (T217.setTop (mkF mM 302 #[.val (.int p1), .val (.int p2), .val (.int p3), .val (.int p4), .val (.int p5), .val (.int z2), .val (.int (1 : Int32)), .val (.ref a6), .val (.int nv), .val (.ref b33), .val (.int nv), .val (.ref xm128), .val .null] [.null])) _
              refine XS.aload X217.here hx rfl (hb hby at_302) rfl rfl ?_
              show Steps pP.tables eE below (T217.setTop (mkF mM 304 #[.val (.int p1), .val (.int p2), .val (.int p3), .val (.int p4), .val (.int p5), .val (.int z2), .val (.int (1 : Int32)), .val (.ref a6), .val (.int nv), .val (.ref b33), .val (.int nv), .val (.ref xm128), .val .null] [.null, .null])) _
              refine Jvm.RoadKit.acmp (g := (mkF mM 304 #[.val (.int p1), .val (.int p2), .val (.int p3), .val (.int p4), .val (.int p5), .val (.int z2), .val (.int (1 : Int32)), .val (.ref a6), .val (.int nv), .val (.ref b33), .val (.int nv), .val (.ref xm128), .val .null] [.null, .null])) X217 hx rfl rfl rfl (pc0 := 304) (pc' := 307) (same := true) rfl (hb hby at_304) rfl (decide_eq_true rfl) (by decide) (by decide) ?_
              show Steps pP.tables eE below (T217.setTop (mkF mM 307 #[.val (.int p1), .val (.int p2), .val (.int p3), .val (.int p4), .val (.int p5), .val (.int z2), .val (.int (1 : Int32)), .val (.ref a6), .val (.int nv), .val (.ref b33), .val (.int nv), .val (.ref xm128), .val .null] [])) _
              refine XS.iconst X217.here hx rfl (hb hby at_307) ?_
              show Steps pP.tables eE below (T217.setTop (mkF mM 308 #[.val (.int p1), .val (.int p2), .val (.int p3), .val (.int p4), .val (.int p5), .val (.int z2), .val (.int (1 : Int32)), .val (.ref a6), .val (.int nv), .val (.ref b33), .val (.int nv), .val (.ref xm128), .val .null] [(.int (1 : Int32))])) _
              refine XS.goto X217.here hx rfl (pc0 := 308) (pc' := 312) rfl (hb hby at_308) (by decide) (by decide) ?_
              exact kg)
            obtain ⟨fs, hr, hrun, hended, hW⟩ := Jvm.Stand.leaveW (s := sS) (vm₁ := T196.vm) X217 hS (Nat.le_trans hk196 (Nat.le_of_eq (congrArg Array.size e217.symm))) (v := some (.int (1 : Int32))) (fun h => by rw [Bd.returns] at h; cases h)
            refine ⟨_, _, pr219 _ (retOut X217 hx (t := .boolean) Bd.returns rfl (Or.inl ⟨rfl, Or.inr (Or.inl rfl), _, rfl⟩) (hb hby at_312) hr), hrun, hended, _, _, rfl, ?_, hW.1, hW.2.1, hW.2.2.1, hW.2.2.2.mono (by decide) (by decide)⟩
            show Q0 Z p1 p2 p3 p4 p5 cs sf al kal a_HOST t_HOST u_HOST k_HOST a_SERVER_REFLEXIVE t_SERVER_REFLEXIVE u_SERVER_REFLEXIVE k_SERVER_REFLEXIVE a_PEER_REFLEXIVE t_PEER_REFLEXIVE u_PEER_REFLEXIVE k_PEER_REFLEXIVE a_RELAYED t_RELAYED u_RELAYED k_RELAYED h0 n0 _ T217.heap _
            rw [e217]
            exact ⟨rfl, N217⟩
  ·
    have pr220 : ∀ tg, Steps pP.tables eE below (T116.setTop (mkF mM 196 #[.val (.int p1), .val (.int p2), .val (.int p3), .val (.int p4), .val (.int p5), .val (.int z2), .val (.int z4), .val (.ref a6), .val (.int nv), .val (.ref b33), .unset, .unset, .unset] [(.int (1 : Int32)), (.int z4)])) tg → Steps pP.tables eE below (s₁.setTop (entryFrame mM #[(.int p1), (.int p2), (.int p3), (.int p4), (.int p5)] maxLocals)) tg := fun tg kg => pr118 _ (by
      show Steps pP.tables eE below (T116.setTop (mkF mM 163 #[.val (.int p1), .val (.int p2), .val (.int p3), .val (.int p4), .val (.int p5), .val (.int z2), .val (.int z4), .val (.ref a6), .val (.int nv), .val (.ref b33), .unset, .unset, .unset] [])) _
      refine XS.iload X116.here hx rfl (hb hby at_163) rfl ?_
      show Steps pP.tables eE below (T116.setTop (mkF mM 165 #[.val (.int p1), .val (.int p2), .val (.int p3), .val (.int p4), .val (.int p5), .val (.int z2), .val (.int z4), .val (.ref a6), .val (.int nv), .val (.ref b33), .unset, .unset, .unset] [(.int z4)])) _
      refine XS.iconst X116.here hx rfl (hb hby at_165) ?_
      show Steps pP.tables eE below (T116.setTop (mkF mM 166 #[.val (.int p1), .val (.int p2), .val (.int p3), .val (.int p4), .val (.int p5), .val (.int z2), .val (.int z4), .val (.ref a6), .val (.int nv), .val (.ref b33), .unset, .unset, .unset] [(.int (1 : Int32)), (.int z4)])) _
      refine XS.icmpYes X116.here hx rfl (pc0 := 166) (pc' := 193) rfl (hb hby at_166) rfl (feq hm1).2 (by decide) (by decide) ?_
      show Steps pP.tables eE below (T116.setTop (mkF mM 193 #[.val (.int p1), .val (.int p2), .val (.int p3), .val (.int p4), .val (.int p5), .val (.int z2), .val (.int z4), .val (.ref a6), .val (.int nv), .val (.ref b33), .unset, .unset, .unset] [])) _
      refine XS.iload X116.here hx rfl (hb hby at_193) rfl ?_
      show Steps pP.tables eE below (T116.setTop (mkF mM 195 #[.val (.int p1), .val (.int p2), .val (.int p3), .val (.int p4), .val (.int p5), .val (.int z2), .val (.int z4), .val (.ref a6), .val (.int nv), .val (.ref b33), .unset, .unset, .unset] [(.int z4)])) _
      refine XS.iconst X116.here hx rfl (hb hby at_195) ?_
      exact kg)
    obtain ⟨j222, hj222, st223⟩ : ∃ (j222 : Int32), j222 = (if (1 : Int32) < z4 then ((p3 &&& (2147483647 : Int32)) % (7 : Int32)) else nv) ∧ ∀ tg, Steps pP.tables eE below (T116.setTop (mkF mM 211 #[.val (.int p1), .val (.int p2), .val (.int p3), .val (.int p4), .val (.int p5), .val (.int z2), .val (.int z4), .val (.ref a6), .val (.int nv), .val (.ref b33), .unset, .unset, .unset] [(.int j222)])) tg → Steps pP.tables eE below (T116.setTop (mkF mM 196 #[.val (.int p1), .val (.int p2), .val (.int p3), .val (.int p4), .val (.int p5), .val (.int z2), .val (.int z4), .val (.ref a6), .val (.int nv), .val (.ref b33), .unset, .unset, .unset] [(.int (1 : Int32)), (.int z4)])) tg := by
      by_cases hj196_221 : (1 : Int32) < z4
      ·
        refine ⟨((p3 &&& (2147483647 : Int32)) % (7 : Int32)), (by rw [if_pos hj196_221]), fun tg kg => ?_⟩
        show Steps pP.tables eE below (T116.setTop (mkF mM 196 #[.val (.int p1), .val (.int p2), .val (.int p3), .val (.int p4), .val (.int p5), .val (.int z2), .val (.int z4), .val (.ref a6), .val (.int nv), .val (.ref b33), .unset, .unset, .unset] [(.int (1 : Int32)), (.int z4)])) _
        refine XS.icmpYes X116.here hx rfl (pc0 := 196) (pc' := 204) rfl (hb hby at_196) rfl (tlt hj196_221).2.2.1 (by decide) (by decide) ?_
        show Steps pP.tables eE below (T116.setTop (mkF mM 204 #[.val (.int p1), .val (.int p2), .val (.int p3), .val (.int p4), .val (.int p5), .val (.int z2), .val (.int z4), .val (.ref a6), .val (.int nv), .val (.ref b33), .unset, .unset, .unset] [])) _
        refine XS.iloadN X116.here hx rfl (hb hby at_204) rfl ?_
        show Steps pP.tables eE below (T116.setTop (mkF mM 205 #[.val (.int p1), .val (.int p2), .val (.int p3), .val (.int p4), .val (.int p5), .val (.int z2), .val (.int z4), .val (.ref a6), .val (.int nv), .val (.ref b33), .unset, .unset, .unset] [(.int p3)])) _
        refine Jvm.Stand.ldcI X116 hx hown (v := (2147483647 : Int32)) (mvT hZ (hw _ (List.mem_of_getElem? (i := 102) rfl))) rfl (hb hby at_205) ?_
        show Steps pP.tables eE below (T116.setTop (mkF mM 207 #[.val (.int p1), .val (.int p2), .val (.int p3), .val (.int p4), .val (.int p5), .val (.int z2), .val (.int z4), .val (.ref a6), .val (.int nv), .val (.ref b33), .unset, .unset, .unset] [(.int (2147483647 : Int32)), (.int p3)])) _
        refine XS.iand X116.here hx rfl (hb hby at_207) rfl ?_
        show Steps pP.tables eE below (T116.setTop (mkF mM 208 #[.val (.int p1), .val (.int p2), .val (.int p3), .val (.int p4), .val (.int p5), .val (.int z2), .val (.int z4), .val (.ref a6), .val (.int nv), .val (.ref b33), .unset, .unset, .unset] [(.int (p3 &&& (2147483647 : Int32)))])) _
        refine XS.bipush X116.here hx rfl (hb hby at_208) ?_
        show Steps pP.tables eE below (T116.setTop (mkF mM 210 #[.val (.int p1), .val (.int p2), .val (.int p3), .val (.int p4), .val (.int p5), .val (.int z2), .val (.int z4), .val (.ref a6), .val (.int nv), .val (.ref b33), .unset, .unset, .unset] [(.int (7 : Int32)), (.int (p3 &&& (2147483647 : Int32)))])) _
        refine iremM (g := (mkF mM 210 #[.val (.int p1), .val (.int p2), .val (.int p3), .val (.int p4), .val (.int p5), .val (.int z2), .val (.int z4), .val (.ref a6), .val (.int nv), .val (.ref b33), .unset, .unset, .unset] [(.int (7 : Int32)), (.int (p3 &&& (2147483647 : Int32)))])) X116 hx rfl (hb hby at_210) rfl (by decide) ?_
        exact kg
      ·
        refine ⟨nv, (by rw [if_neg hj196_221]), fun tg kg => ?_⟩
        show Steps pP.tables eE below (T116.setTop (mkF mM 196 #[.val (.int p1), .val (.int p2), .val (.int p3), .val (.int p4), .val (.int p5), .val (.int z2), .val (.int z4), .val (.ref a6), .val (.int nv), .val (.ref b33), .unset, .unset, .unset] [(.int (1 : Int32)), (.int z4)])) _
        refine XS.icmpNo X116.here hx rfl (hb hby at_196) rfl (flt hj196_221).2.2.1 ?_
        show Steps pP.tables eE below (T116.setTop (mkF mM 199 #[.val (.int p1), .val (.int p2), .val (.int p3), .val (.int p4), .val (.int p5), .val (.int z2), .val (.int z4), .val (.ref a6), .val (.int nv), .val (.ref b33), .unset, .unset, .unset] [])) _
        refine XS.iload X116.here hx rfl (hb hby at_199) rfl ?_
        show Steps pP.tables eE below (T116.setTop (mkF mM 201 #[.val (.int p1), .val (.int p2), .val (.int p3), .val (.int p4), .val (.int p5), .val (.int z2), .val (.int z4), .val (.ref a6), .val (.int nv), .val (.ref b33), .unset, .unset, .unset] [(.int nv)])) _
        refine XS.goto X116.here hx rfl (pc0 := 201) (pc' := 211) rfl (hb hby at_201) (by decide) (by decide) ?_
        exact kg
    have pr224 : ∀ tg, Steps pP.tables eE below (T116.setTop (mkF mM 211 #[.val (.int p1), .val (.int p2), .val (.int p3), .val (.int p4), .val (.int p5), .val (.int z2), .val (.int z4), .val (.ref a6), .val (.int nv), .val (.ref b33), .unset, .unset, .unset] [(.int j222)])) tg → Steps pP.tables eE below (s₁.setTop (entryFrame mM #[(.int p1), (.int p2), (.int p3), (.int p4), (.int p5)] maxLocals)) tg := fun tg kg => pr220 _ (st223 _ kg)
    have hlb : 0 ≤ j222.toInt ∧ j222.toInt < 7 := by
      rw [hj222]
      have := own_nvb hnv
      have := own_rem7 p3
      split <;> omega
    have c225 := (Old.wr c110 W116 gn36)
    have pr226 : ∀ tg, Steps pP.tables eE below (T116.setTop (mkF mM 217 #[.val (.int p1), .val (.int p2), .val (.int p3), .val (.int p4), .val (.int p5), .val (.int z2), .val (.int z4), .val (.ref a6), .val (.int nv), .val (.ref b33), .val (.int j222), .unset, .unset] [(.int j222), (.ref b33)])) tg → Steps pP.tables eE below (s₁.setTop (entryFrame mM #[(.int p1), (.int p2), (.int p3), (.int p4), (.int p5)] maxLocals)) tg := fun tg kg => pr224 _ (by
      show Steps pP.tables eE below (T116.setTop (mkF mM 211 #[.val (.int p1), .val (.int p2), .val (.int p3), .val (.int p4), .val (.int p5), .val (.int z2), .val (.int z4), .val (.ref a6), .val (.int nv), .val (.ref b33), .unset, .unset, .unset] [(.int j222)])) _
      refine XS.istore X116.here hx rfl (hb hby at_211) rfl (l' := #[.val (.int p1), .val (.int p2), .val (.int p3), .val (.int p4), .val (.int p5), .val (.int z2), .val (.int z4), .val (.ref a6), .val (.int nv), .val (.ref b33), .val (.int j222), .unset, .unset]) rfl ?_
      show Steps pP.tables eE below (T116.setTop (mkF mM 213 #[.val (.int p1), .val (.int p2), .val (.int p3), .val (.int p4), .val (.int p5), .val (.int z2), .val (.int z4), .val (.ref a6), .val (.int nv), .val (.ref b33), .val (.int j222), .unset, .unset] [])) _
      refine XS.aload X116.here hx rfl (hb hby at_213) rfl rfl ?_
      show Steps pP.tables eE below (T116.setTop (mkF mM 215 #[.val (.int p1), .val (.int p2), .val (.int p3), .val (.int p4), .val (.int p5), .val (.int z2), .val (.int z4), .val (.ref a6), .val (.int nv), .val (.ref b33), .val (.int j222), .unset, .unset] [(.ref b33)])) _
      refine XS.iload X116.here hx rfl (hb hby at_215) rfl ?_
      exact kg)
    have c227 := (Nat.le_trans c112 (Keep.of_wr W116).1)
    have c229 := (Nat.le_trans (Nat.le_trans (Nat.le_trans (Nat.le_trans (Nat.le_trans (Nat.le_trans (Nat.le_trans hk6 E33.1) (Keep.of_wr W51).1) (Keep.of_wr W64).1) (Keep.of_wr W77).1) (Keep.of_wr W90).1) (Keep.of_wr W103).1) (Keep.of_wr W116).1)
    obtain ⟨_, _, ⟨T228, L228, kk228, nn228⟩, -, X228, hSq228, -, ⟨Lc228, hQ228, l228, y228, z228, A228⟩, st228⟩ := callSS (s := sS.setVm T6.vm) X116 hx (y := (⟨"com/example/thawline/thawline/CandidateTypeOfTokenPinLaw", "make", "([CI)Ljava/lang/String;"⟩ : MethodName)) hown (mvT hZ (hw _ (List.mem_of_getElem? (i := 51) rfl))) (mvT hZ (hw _ (List.mem_of_getElem? (i := 52) rfl))) (mvT hZ (hw _ (List.mem_of_getElem? (i := 24) rfl))) (mvT hZ (hw _ (List.mem_of_getElem? (i := 53) rfl))) (by decide) (backOfSH (s := sS) (vm0 := T6.vm) (EL := consts_1) (W := 0) (rm3 l Z a0 hw [] cs b33 k33 (nar .char r48) (nar .char r61) (nar .char r74) (nar .char r87) (nar .char r100) (nar .char r113) j222 h116 n0 c227 c225 S_cs hcs V116 qr48 qr61 qr74 qr87 qr100 qr113 hlb.1 hlb.2) hZ (hw _ (List.mem_of_getElem? (i := 53) rfl)) (hw _ (List.mem_of_getElem? (i := 24) rfl)) (by decide) (by decide) hEW cr117.1) (g := (mkF mM 217 #[.val (.int p1), .val (.int p2), .val (.int p3), .val (.int p4), .val (.int p5), .val (.int z2), .val (.int z4), .val (.ref a6), .val (.int nv), .val (.ref b33), .val (.int j222), .unset, .unset] [(.int j222), (.ref b33)])) rfl (by rw [hml]; rfl) (argsL := [(.ref b33), (.int j222)]) (rest := []) (lenOf pd_12 rfl) rfl (by show 2 * 0 + _ ≤ _; exact Nat.le_of_eq rfl) (hb hby at_217) (fun _ _ => ⟨rfl, e116, (by decide : 3 + 6 ≤ _), (by decide : 30 + 16 ≤ _)⟩)
    dsimp only [Pt.U, Pt.locs, Pt.cells, Pt.slots] at X228 l228 y228 z228 st228 hQ228 hSq228 A228
    subst l228 y228 z228
    have hS : sS.Since T228.vm T228.heap.size := hS.trans hSq228 (Nat.le_trans c229 A228.2.1)
    have hown : (sS.setVm T228.vm).vm.findClass "com/example/thawline/thawline/CandidateTypeOfTokenPinLaw" = some mM.cls := by rw [show (sS.setVm T228.vm).vm = T228.vm from rfl, hSq228.1.alike.findClass]; exact hown
    have hZ : Z.Warmed39 (sS.setVm T228.vm).vm := State.Warmed39.trans (t := sS.setVm T6.vm) hZ hSq228.1
    have sf230_b33 := CHr.safe A228 (V116).lt sf117_b33
    have cr230 := CHr.trans cr117 A228
    obtain ⟨xm228, tm228, km228, tx228, rfl, Nq228, K228, E228, Fv228, Fc228, V228, hp228, hlen228⟩ := hQ228
    have N228 := Fr.app N116 Nq228
    have pr231 : ∀ tg, Steps pP.tables eE below (T228.setTop (mkF mM 220 #[.val (.int p1), .val (.int p2), .val (.int p3), .val (.int p4), .val (.int p5), .val (.int z2), .val (.int z4), .val (.ref a6), .val (.int nv), .val (.ref b33), .val (.int j222), .unset, .unset] [(.ref xm228)])) tg → Steps pP.tables eE below (s₁.setTop (entryFrame mM #[(.int p1), (.int p2), (.int p3), (.int p4), (.int p5)] maxLocals)) tg := fun tg kg => pr226 _ (st228.trans kg)
    have pr232 : ∀ tg, Steps pP.tables eE below (T228.setTop (mkF mM 224 #[.val (.int p1), .val (.int p2), .val (.int p3), .val (.int p4), .val (.int p5), .val (.int z2), .val (.int z4), .val (.ref a6), .val (.int nv), .val (.ref b33), .val (.int j222), .val (.ref xm228), .unset] [(.ref xm228)])) tg → Steps pP.tables eE below (s₁.setTop (entryFrame mM #[(.int p1), (.int p2), (.int p3), (.int p4), (.int p5)] maxLocals)) tg := fun tg kg => pr231 _ (by
      show Steps pP.tables eE below (T228.setTop (mkF mM 220 #[.val (.int p1), .val (.int p2), .val (.int p3), .val (.int p4), .val (.int p5), .val (.int z2), .val (.int z4), .val (.ref a6), .val (.int nv), .val (.ref b33), .val (.int j222), .unset, .unset] [(.ref xm228)])) _
      refine XS.astore X228.here hx rfl (hb hby at_220) rfl rfl (l' := #[.val (.int p1), .val (.int p2), .val (.int p3), .val (.int p4), .val (.int p5), .val (.int z2), .val (.int z4), .val (.ref a6), .val (.int nv), .val (.ref b33), .val (.int j222), .val (.ref xm228), .unset]) rfl ?_
      show Steps pP.tables eE below (T228.setTop (mkF mM 222 #[.val (.int p1), .val (.int p2), .val (.int p3), .val (.int p4), .val (.int p5), .val (.int z2), .val (.int z4), .val (.ref a6), .val (.int nv), .val (.ref b33), .val (.int j222), .val (.ref xm228), .unset] [])) _
      refine XS.aload X228.here hx rfl (hb hby at_222) rfl rfl ?_
      exact kg)
    obtain ⟨a233, T233, h233, kk233, b233, kc233, X233, e233, E233, hS, hk233, hZ, hown, Es233, Fc233, Fv233, V233, la233, lb233, A233, -, hn233, st233⟩ := ldcCH (s := sS) (vm0 := T228.vm) (EL := consts_1) X228 hx hZ hown (hw _ (List.mem_of_getElem? (i := 0) rfl)) wS rfl hS (Nat.le_refl _) hEW (List.mem_of_getElem? (i := 0) rfl) cr230.1 (vs := [(.int (104 : Int32)), (.int (111 : Int32)), (.int (115 : Int32)), (.int (116 : Int32))]) (z := (4 : Int32)) ⟨by decide, rfl⟩ (by decide) rfl (g := (mkF mM 224 #[.val (.int p1), .val (.int p2), .val (.int p3), .val (.int p4), .val (.int p5), .val (.int z2), .val (.int z4), .val (.ref a6), .val (.int nv), .val (.ref b33), .val (.int j222), .val (.ref xm228), .unset] [(.ref xm228)])) rfl (hb hby at_224) (n := 16) (by decide) (by decide) (by decide) (by decide)
    have c235 := (Arv.keep V116 K228 nin0)
    have sf234_b33 := CHr.safe A233 (c235).lt sf230_b33
    have cr234 := CHr.trans cr230 A233
    have pr236 : ∀ tg, Steps pP.tables eE below (T233.setTop (mkF mM 226 #[.val (.int p1), .val (.int p2), .val (.int p3), .val (.int p4), .val (.int p5), .val (.int z2), .val (.int z4), .val (.ref a6), .val (.int nv), .val (.ref b33), .val (.int j222), .val (.ref xm228), .unset] [(.ref a233), (.ref xm228)])) tg → Steps pP.tables eE below (s₁.setTop (entryFrame mM #[(.int p1), (.int p2), (.int p3), (.int p4), (.int p5)] maxLocals)) tg := fun tg kg => pr232 _ (st233 _ kg)
    have c237 := (Exa.ext E233 E228)
    have c238 := (Fld.ext E233 Fv228)
    have c239 := (Fld.ext E233 Fc228)
    have c240 := (Arv.ext V228 E233)
    have c241 := (Old.ext (Old.keep c225 K228 all0) E233)
    have c242 := (Nat.le_trans (Nat.le_trans c227 K228.1) E233.1)
    obtain ⟨cq243, kq243, qa243, qb243, qc243⟩ := isOf hZ e233 c237
    obtain ⟨vq243, _, ⟨T243, L243, kk243, nn243⟩, -, X243, ⟨Lc243, hQ243, l243, y243, z243⟩, st243⟩ := X233.virtualBack hx (y := (⟨"java/lang/String", "equals", "(Ljava/lang/Object;)Z"⟩ : MethodName)) (z := (⟨"java/lang/String", "equals", "(Ljava/lang/Object;)Z"⟩ : MethodName)) hown (mvT hZ (hw _ (List.mem_of_getElem? (i := 75) rfl))) (mvT hZ (hw _ (List.mem_of_getElem? (i := 76) rfl))) (notFace_of_selects (args := #[]) (mvT hZ (hw _ (List.mem_of_getElem? (i := 78) rfl)))) (mvT hZ (hw _ (List.mem_of_getElem? (i := 78) rfl))) (mvT hZ (hw _ (List.mem_of_getElem? (i := 77) rfl))) (by decide) (StrChars.Road.eqW (W := 0) hZ (own_wE hw) (kI := 4) (hw _ (List.mem_of_getElem? (i := 2) rfl)) (cs := tx228) c237 c238 c239 c240 (StrChars.Road.codOf (n := tx228.length) rfl (fun c hc => (hp228 c hc).2)) (own_up hp228) hlen228 (ds := ([(104 : Int32), (111 : Int32), (115 : Int32), (116 : Int32)] : List Int32)) Es233 Fv233 Fc233 V233 own_cod_host own_bd_host (Nat.le_of_ble_eq_true rfl) (Sta.ext (c241).2 S_cs) hcs (by decide) (by decide)) qa243 qc243 (g := (mkF mM 226 #[.val (.int p1), .val (.int p2), .val (.int p3), .val (.int p4), .val (.int p5), .val (.int z2), .val (.int z4), .val (.ref a6), .val (.int nv), .val (.ref b33), .val (.int j222), .val (.ref xm228), .unset] [(.ref a233), (.ref xm228)])) rfl (by rw [hml]; rfl) (Steps.refl _) (argsL := [(.ref a233)]) (rest := []) (lenOf pd_9 rfl) rfl (by show 2 * 0 + _ ≤ _; exact Nat.le_of_eq rfl) (hb hby at_226) (fun _ _ => ⟨rfl, e233, (by decide : 11 + 0 ≤ _), (by decide : 66 + 0 ≤ _)⟩)
    dsimp only [Pt.U, Pt.locs, Pt.cells, Pt.slots] at X243 l243 y243 z243 st243 hQ243
    subst l243 y243 z243
    obtain ⟨hq243, hL243, e243⟩ := hQ243
    subst hL243
    obtain ⟨r243, hv243, hr243⟩ : ∃ r : Int32, vq243 = some (.int r) ∧ r = (if tx228 = ([(104 : Int32), (111 : Int32), (115 : Int32), (116 : Int32)] : List Int32) then (1 : Int32) else (0 : Int32)) := hq243.elim (fun q => ⟨1, q.1, (if_pos q.2).symm⟩) (fun q => ⟨0, q.1, (if_neg q.2).symm⟩)
    subst hv243
    have N243 := Fr.app N228 (Fr.nil n0)
    have pr244 : ∀ tg, Steps pP.tables eE below (T243.setTop (mkF mM 229 #[.val (.int p1), .val (.int p2), .val (.int p3), .val (.int p4), .val (.int p5), .val (.int z2), .val (.int z4), .val (.ref a6), .val (.int nv), .val (.ref b33), .val (.int j222), .val (.ref xm228), .unset] [(.int r243)])) tg → Steps pP.tables eE below (s₁.setTop (entryFrame mM #[(.int p1), (.int p2), (.int p3), (.int p4), (.int p5)] maxLocals)) tg := fun tg kg => pr236 _ (st243.trans kg)
    by_cases hd245 : tx228 = ([(104 : Int32), (111 : Int32), (115 : Int32), (116 : Int32)] : List Int32)
    ·
      rw [if_pos hd245] at hr243
      subst hr243
      have pr246 : ∀ tg, Steps pP.tables eE below (T243.setTop (mkF mM 232 #[.val (.int p1), .val (.int p2), .val (.int p3), .val (.int p4), .val (.int p5), .val (.int z2), .val (.int z4), .val (.ref a6), .val (.int nv), .val (.ref b33), .val (.int j222), .val (.ref xm228), .unset] [])) tg → Steps pP.tables eE below (s₁.setTop (entryFrame mM #[(.int p1), (.int p2), (.int p3), (.int p4), (.int p5)] maxLocals)) tg := fun tg kg => pr244 _ (by
        show Steps pP.tables eE below (T243.setTop (mkF mM 229 #[.val (.int p1), .val (.int p2), .val (.int p3), .val (.int p4), .val (.int p5), .val (.int z2), .val (.int z4), .val (.ref a6), .val (.int nv), .val (.ref b33), .val (.int j222), .val (.ref xm228), .unset] [(.int (1 : Int32))])) _
        refine XS.ifNo X243.here hx rfl (hb hby at_229) rfl ((if0 _ _).trans (feq (by decide)).1) ?_
        exact kg)
      obtain ⟨T247, X247, e247, st247⟩ := getS2 X243 hx hZ hown (host := "") (Or.inl (hw _ (List.mem_of_getElem? (i := 84) rfl))) Via.refl e243 (Sta.ext (c241).2 S_HOST) (g := (mkF mM 232 #[.val (.int p1), .val (.int p2), .val (.int p3), .val (.int p4), .val (.int p5), .val (.int z2), .val (.int z4), .val (.ref a6), .val (.int nv), .val (.ref b33), .val (.int j222), .val (.ref xm228), .unset] [])) rfl (hb hby at_232)
      have pr248 : ∀ tg, Steps pP.tables eE below (T247.setTop (mkF mM 235 #[.val (.int p1), .val (.int p2), .val (.int p3), .val (.int p4), .val (.int p5), .val (.int z2), .val (.int z4), .val (.ref a6), .val (.int nv), .val (.ref b33), .val (.int j222), .val (.ref xm228), .unset] [(.ref a_HOST)])) tg → Steps pP.tables eE below (s₁.setTop (entryFrame mM #[(.int p1), (.int p2), (.int p3), (.int p4), (.int p5)] maxLocals)) tg := fun tg kg => pr246 _ (st247 _ kg)
      have pr249 : ∀ tg, Steps pP.tables eE below (T247.setTop (mkF mM 299 #[.val (.int p1), .val (.int p2), .val (.int p3), .val (.int p4), .val (.int p5), .val (.int z2), .val (.int z4), .val (.ref a6), .val (.int nv), .val (.ref b33), .val (.int j222), .val (.ref xm228), .val (.ref a_HOST)] [(.ref xm228)])) tg → Steps pP.tables eE below (s₁.setTop (entryFrame mM #[(.int p1), (.int p2), (.int p3), (.int p4), (.int p5)] maxLocals)) tg := fun tg kg => pr248 _ (by
        show Steps pP.tables eE below (T247.setTop (mkF mM 235 #[.val (.int p1), .val (.int p2), .val (.int p3), .val (.int p4), .val (.int p5), .val (.int z2), .val (.int z4), .val (.ref a6), .val (.int nv), .val (.ref b33), .val (.int j222), .val (.ref xm228), .unset] [(.ref a_HOST)])) _
        refine XS.astore X247.here hx rfl (hb hby at_235) rfl rfl (l' := #[.val (.int p1), .val (.int p2), .val (.int p3), .val (.int p4), .val (.int p5), .val (.int z2), .val (.int z4), .val (.ref a6), .val (.int nv), .val (.ref b33), .val (.int j222), .val (.ref xm228), .val (.ref a_HOST)]) rfl ?_
        show Steps pP.tables eE below (T247.setTop (mkF mM 237 #[.val (.int p1), .val (.int p2), .val (.int p3), .val (.int p4), .val (.int p5), .val (.int z2), .val (.int z4), .val (.ref a6), .val (.int nv), .val (.ref b33), .val (.int j222), .val (.ref xm228), .val (.ref a_HOST)] [])) _
        refine XS.goto X247.here hx rfl (pc0 := 237) (pc' := 297) rfl (hb hby at_237) (by decide) (by decide) ?_
        show Steps pP.tables eE below (T247.setTop (mkF mM 297 #[.val (.int p1), .val (.int p2), .val (.int p3), .val (.int p4), .val (.int p5), .val (.int z2), .val (.int z4), .val (.ref a6), .val (.int nv), .val (.ref b33), .val (.int j222), .val (.ref xm228), .val (.ref a_HOST)] [])) _
        refine XS.aload X247.here hx rfl (hb hby at_297) rfl rfl ?_
        exact kg)
      obtain ⟨_, _, ⟨T250, L250, kk250, nn250⟩, -, X250, ⟨Lc250, hQ250, l250, y250, z250⟩, st250⟩ := Jvm.LawKit.callS X247 hx (y := (⟨"com/example/thawline/thawline/CandidateType", "ofToken", "(Ljava/lang/String;)Lcom/example/thawline/thawline/CandidateType;"⟩ : MethodName)) hown (mvT hZ (hw _ (List.mem_of_getElem? (i := 87) rfl))) (mvT hZ (hw _ (List.mem_of_getElem? (i := 88) rfl))) (mvT hZ (hw _ (List.mem_of_getElem? (i := 85) rfl))) (mvT hZ (hw _ (List.mem_of_getElem? (i := 89) rfl))) (by decide) (backOf (W := 0) (rm40 l Z a0 hw [] cs al kal a_HOST t_HOST u_HOST k_HOST a_SERVER_REFLEXIVE t_SERVER_REFLEXIVE u_SERVER_REFLEXIVE k_SERVER_REFLEXIVE a_PEER_REFLEXIVE t_PEER_REFLEXIVE u_PEER_REFLEXIVE k_PEER_REFLEXIVE a_RELAYED t_RELAYED u_RELAYED k_RELAYED xm228 tm228 km228 tx228 h233 n0 c242 c241 S_cs hcs S_ALL V_ALL S_HOST E_HOST F_HOST Et_HOST Fc_HOST Fv_HOST Vt_HOST S_SERVER_REFLEXIVE E_SERVER_REFLEXIVE F_SERVER_REFLEXIVE Et_SERVER_REFLEXIVE Fc_SERVER_REFLEXIVE Fv_SERVER_REFLEXIVE Vt_SERVER_REFLEXIVE S_PEER_REFLEXIVE E_PEER_REFLEXIVE F_PEER_REFLEXIVE Et_PEER_REFLEXIVE Fc_PEER_REFLEXIVE Fv_PEER_REFLEXIVE Vt_PEER_REFLEXIVE S_RELAYED E_RELAYED F_RELAYED Et_RELAYED Fc_RELAYED Fv_RELAYED Vt_RELAYED c237 c238 c239 c240 hp228 hlen228 hd245) hZ (hw _ (List.mem_of_getElem? (i := 89) rfl)) (hw _ (List.mem_of_getElem? (i := 85) rfl)) (by decide) (by decide)) (g := (mkF mM 299 #[.val (.int p1), .val (.int p2), .val (.int p3), .val (.int p4), .val (.int p5), .val (.int z2), .val (.int z4), .val (.ref a6), .val (.int nv), .val (.ref b33), .val (.int j222), .val (.ref xm228), .val (.ref a_HOST)] [(.ref xm228)])) rfl (by rw [hml]; rfl) (argsL := [(.ref xm228)]) (rest := []) (lenOf pd_13 rfl) rfl (by show 2 * 0 + _ ≤ _; exact Nat.le_of_eq rfl) (hb hby at_299) (fun _ _ => ⟨rfl, e247, (by decide : 11 + 0 ≤ _), (by decide : 66 + 0 ≤ _)⟩)
      dsimp only [Pt.U, Pt.locs, Pt.cells, Pt.slots] at X250 l250 y250 z250 st250 hQ250
      subst l250 y250 z250
      obtain ⟨rfl, Nq250, e250⟩ := hQ250
      have N250 := Fr.app N243 Nq250
      have pr251 : ∀ tg, Steps pP.tables eE below (T250.setTop (mkF mM 302 #[.val (.int p1), .val (.int p2), .val (.int p3), .val (.int p4), .val (.int p5), .val (.int z2), .val (.int z4), .val (.ref a6), .val (.int nv), .val (.ref b33), .val (.int j222), .val (.ref xm228), .val (.ref a_HOST)] [(.ref a_HOST)])) tg → Steps pP.tables eE below (s₁.setTop (entryFrame mM #[(.int p1), (.int p2), (.int p3), (.int p4), (.int p5)] maxLocals)) tg := fun tg kg => pr249 _ (st250 _ kg)
      have pr252 : ∀ tg, Steps pP.tables eE below (T250.setTop (mkF mM 312 #[.val (.int p1), .val (.int p2), .val (.int p3), .val (.int p4), .val (.int p5), .val (.int z2), .val (.int z4), .val (.ref a6), .val (.int nv), .val (.ref b33), .val (.int j222), .val (.ref xm228), .val (.ref a_HOST)] [(.int (1 : Int32))])) tg → Steps pP.tables eE below (s₁.setTop (entryFrame mM #[(.int p1), (.int p2), (.int p3), (.int p4), (.int p5)] maxLocals)) tg := fun tg kg => pr251 _ (by
        show Steps pP.tables eE below (T250.setTop (mkF mM 302 #[.val (.int p1), .val (.int p2), .val (.int p3), .val (.int p4), .val (.int p5), .val (.int z2), .val (.int z4), .val (.ref a6), .val (.int nv), .val (.ref b33), .val (.int j222), .val (.ref xm228), .val (.ref a_HOST)] [(.ref a_HOST)])) _
        refine XS.aload X250.here hx rfl (hb hby at_302) rfl rfl ?_
        show Steps pP.tables eE below (T250.setTop (mkF mM 304 #[.val (.int p1), .val (.int p2), .val (.int p3), .val (.int p4), .val (.int p5), .val (.int z2), .val (.int z4), .val (.ref a6), .val (.int nv), .val (.ref b33), .val (.int j222), .val (.ref xm228), .val (.ref a_HOST)] [(.ref a_HOST), (.ref a_HOST)])) _
        refine Jvm.RoadKit.acmp (g := (mkF mM 304 #[.val (.int p1), .val (.int p2), .val (.int p3), .val (.int p4), .val (.int p5), .val (.int z2), .val (.int z4), .val (.ref a6), .val (.int nv), .val (.ref b33), .val (.int j222), .val (.ref xm228), .val (.ref a_HOST)] [(.ref a_HOST), (.ref a_HOST)])) X250 hx rfl rfl rfl (pc0 := 304) (pc' := 307) (same := true) rfl (hb hby at_304) rfl (decide_eq_true rfl) (by decide) (by decide) ?_
        show Steps pP.tables eE below (T250.setTop (mkF mM 307 #[.val (.int p1), .val (.int p2), .val (.int p3), .val (.int p4), .val (.int p5), .val (.int z2), .val (.int z4), .val (.ref a6), .val (.int nv), .val (.ref b33), .val (.int j222), .val (.ref xm228), .val (.ref a_HOST)] [])) _
        refine XS.iconst X250.here hx rfl (hb hby at_307) ?_
        show Steps pP.tables eE below (T250.setTop (mkF mM 308 #[.val (.int p1), .val (.int p2), .val (.int p3), .val (.int p4), .val (.int p5), .val (.int z2), .val (.int z4), .val (.ref a6), .val (.int nv), .val (.ref b33), .val (.int j222), .val (.ref xm228), .val (.ref a_HOST)] [(.int (1 : Int32))])) _
        refine XS.goto X250.here hx rfl (pc0 := 308) (pc' := 312) rfl (hb hby at_308) (by decide) (by decide) ?_
        exact kg)
      obtain ⟨fs, hr, hrun, hended, hW⟩ := Jvm.Stand.leaveW (s := sS) (vm₁ := T233.vm) X250 hS (Nat.le_trans hk233 (Nat.le_of_eq (congrArg Array.size e250.symm))) (v := some (.int (1 : Int32))) (fun h => by rw [Bd.returns] at h; cases h)
      refine ⟨_, _, pr252 _ (retOut X250 hx (t := .boolean) Bd.returns rfl (Or.inl ⟨rfl, Or.inr (Or.inl rfl), _, rfl⟩) (hb hby at_312) hr), hrun, hended, _, _, rfl, ?_, hW.1, hW.2.1, hW.2.2.1, hW.2.2.2.mono (by decide) (by decide)⟩
      show Q0 Z p1 p2 p3 p4 p5 cs sf al kal a_HOST t_HOST u_HOST k_HOST a_SERVER_REFLEXIVE t_SERVER_REFLEXIVE u_SERVER_REFLEXIVE k_SERVER_REFLEXIVE a_PEER_REFLEXIVE t_PEER_REFLEXIVE u_PEER_REFLEXIVE k_PEER_REFLEXIVE a_RELAYED t_RELAYED u_RELAYED k_RELAYED h0 n0 _ T250.heap _
      rw [e250]
      exact ⟨rfl, N250⟩
    ·
      rw [if_neg hd245] at hr243
      subst hr243
      have pr253 : ∀ tg, Steps pP.tables eE below (T243.setTop (mkF mM 242 #[.val (.int p1), .val (.int p2), .val (.int p3), .val (.int p4), .val (.int p5), .val (.int z2), .val (.int z4), .val (.ref a6), .val (.int nv), .val (.ref b33), .val (.int j222), .val (.ref xm228), .unset] [(.ref xm228)])) tg → Steps pP.tables eE below (s₁.setTop (entryFrame mM #[(.int p1), (.int p2), (.int p3), (.int p4), (.int p5)] maxLocals)) tg := fun tg kg => pr244 _ (by
        show Steps pP.tables eE below (T243.setTop (mkF mM 229 #[.val (.int p1), .val (.int p2), .val (.int p3), .val (.int p4), .val (.int p5), .val (.int z2), .val (.int z4), .val (.ref a6), .val (.int nv), .val (.ref b33), .val (.int j222), .val (.ref xm228), .unset] [(.int (0 : Int32))])) _
        refine XS.ifYes X243.here hx rfl (pc0 := 229) (pc' := 240) rfl (hb hby at_229) rfl ((if0 _ _).trans (teq (by decide)).1) (by decide) (by decide) ?_
        show Steps pP.tables eE below (T243.setTop (mkF mM 240 #[.val (.int p1), .val (.int p2), .val (.int p3), .val (.int p4), .val (.int p5), .val (.int z2), .val (.int z4), .val (.ref a6), .val (.int nv), .val (.ref b33), .val (.int j222), .val (.ref xm228), .unset] [])) _
        refine XS.aload X243.here hx rfl (hb hby at_240) rfl rfl ?_
        exact kg)
      obtain ⟨a254, T254, h254, kk254, b254, kc254, X254, e254, E254, hS, hk254, hZ, hown, Es254, Fc254, Fv254, V254, la254, lb254, A254, -, hn254, st254⟩ := ldcCH (s := sS) (vm0 := T233.vm) (EL := consts_1) X243 hx hZ hown (hw _ (List.mem_of_getElem? (i := 96) rfl)) wS e243 hS hk233 hEW (List.mem_of_getElem? (i := 1) rfl) cr234.1 (vs := [(.int (115 : Int32)), (.int (114 : Int32)), (.int (102 : Int32)), (.int (108 : Int32)), (.int (120 : Int32))]) (z := (5 : Int32)) ⟨by decide, rfl⟩ (by decide) rfl (g := (mkF mM 242 #[.val (.int p1), .val (.int p2), .val (.int p3), .val (.int p4), .val (.int p5), .val (.int z2), .val (.int z4), .val (.ref a6), .val (.int nv), .val (.ref b33), .val (.int j222), .val (.ref xm228), .unset] [(.ref xm228)])) rfl (hb hby at_242) (n := 20) (by decide) (by decide) (by decide) (by decide)
      have c256 := (Arv.ext c235 E233)
      have sf255_b33 := CHr.safe A254 (c256).lt sf234_b33
      have cr255 := CHr.trans cr234 A254
      have pr257 : ∀ tg, Steps pP.tables eE below (T254.setTop (mkF mM 244 #[.val (.int p1), .val (.int p2), .val (.int p3), .val (.int p4), .val (.int p5), .val (.int z2), .val (.int z4), .val (.ref a6), .val (.int nv), .val (.ref b33), .val (.int j222), .val (.ref xm228), .unset] [(.ref a254), (.ref xm228)])) tg → Steps pP.tables eE below (s₁.setTop (entryFrame mM #[(.int p1), (.int p2), (.int p3), (.int p4), (.int p5)] maxLocals)) tg := fun tg kg => pr253 _ (st254 _ kg)
      have c258 := (Exa.ext E254 c237)
      have c259 := (Fld.ext E254 c238)
      have c260 := (Fld.ext E254 c239)
      have c261 := (Arv.ext c240 E254)
      have c262 := (Old.ext c241 E254)
      have c263 := (Nat.le_trans c242 E254.1)
      obtain ⟨cq264, kq264, qa264, qb264, qc264⟩ := isOf hZ e254 c258
      obtain ⟨vq264, _, ⟨T264, L264, kk264, nn264⟩, -, X264, ⟨Lc264, hQ264, l264, y264, z264⟩, st264⟩ := X254.virtualBack hx (y := (⟨"java/lang/String", "equals", "(Ljava/lang/Object;)Z"⟩ : MethodName)) (z := (⟨"java/lang/String", "equals", "(Ljava/lang/Object;)Z"⟩ : MethodName)) hown (mvT hZ (hw _ (List.mem_of_getElem? (i := 75) rfl))) (mvT hZ (hw _ (List.mem_of_getElem? (i := 76) rfl))) (notFace_of_selects (args := #[]) (mvT hZ (hw _ (List.mem_of_getElem? (i := 78) rfl)))) (mvT hZ (hw _ (List.mem_of_getElem? (i := 78) rfl))) (mvT hZ (hw _ (List.mem_of_getElem? (i := 77) rfl))) (by decide) (StrChars.Road.eqW (W := 0) hZ (own_wE hw) (kI := 4) (hw _ (List.mem_of_getElem? (i := 2) rfl)) (cs := tx228) c258 c259 c260 c261 (StrChars.Road.codOf (n := tx228.length) rfl (fun c hc => (hp228 c hc).2)) (own_up hp228) hlen228 (ds := ([(115 : Int32), (114 : Int32), (102 : Int32), (108 : Int32), (120 : Int32)] : List Int32)) Es254 Fv254 Fc254 V254 own_cod_srflx own_bd_srflx (Nat.le_of_ble_eq_true rfl) (Sta.ext (c262).2 S_cs) hcs (by decide) (by decide)) qa264 qc264 (g := (mkF mM 244 #[.val (.int p1), .val (.int p2), .val (.int p3), .val (.int p4), .val (.int p5), .val (.int z2), .val (.int z4), .val (.ref a6), .val (.int nv), .val (.ref b33), .val (.int j222), .val (.ref xm228), .unset] [(.ref a254), (.ref xm228)])) rfl (by rw [hml]; rfl) (Steps.refl _) (argsL := [(.ref a254)]) (rest := []) (lenOf pd_9 rfl) rfl (by show 2 * 0 + _ ≤ _; exact Nat.le_of_eq rfl) (hb hby at_244) (fun _ _ => ⟨rfl, e254, (by decide : 13 + 0 ≤ _), (by decide : 90 + 0 ≤ _)⟩)
      dsimp only [Pt.U, Pt.locs, Pt.cells, Pt.slots] at X264 l264 y264 z264 st264 hQ264
      subst l264 y264 z264
      obtain ⟨hq264, hL264, e264⟩ := hQ264
      subst hL264
      obtain ⟨r264, hv264, hr264⟩ : ∃ r : Int32, vq264 = some (.int r) ∧ r = (if tx228 = ([(115 : Int32), (114 : Int32), (102 : Int32), (108 : Int32), (120 : Int32)] : List Int32) then (1 : Int32) else (0 : Int32)) := hq264.elim (fun q => ⟨1, q.1, (if_pos q.2).symm⟩) (fun q => ⟨0, q.1, (if_neg q.2).symm⟩)
      subst hv264
      have N264 := Fr.app N243 (Fr.nil n0)
      have pr265 : ∀ tg, Steps pP.tables eE below (T264.setTop (mkF mM 247 #[.val (.int p1), .val (.int p2), .val (.int p3), .val (.int p4), .val (.int p5), .val (.int z2), .val (.int z4), .val (.ref a6), .val (.int nv), .val (.ref b33), .val (.int j222), .val (.ref xm228), .unset] [(.int r264)])) tg → Steps pP.tables eE below (s₁.setTop (entryFrame mM #[(.int p1), (.int p2), (.int p3), (.int p4), (.int p5)] maxLocals)) tg := fun tg kg => pr257 _ (st264.trans kg)
      by_cases hd266 : tx228 = ([(115 : Int32), (114 : Int32), (102 : Int32), (108 : Int32), (120 : Int32)] : List Int32)
      ·
        rw [if_pos hd266] at hr264
        subst hr264
        have pr267 : ∀ tg, Steps pP.tables eE below (T264.setTop (mkF mM 250 #[.val (.int p1), .val (.int p2), .val (.int p3), .val (.int p4), .val (.int p5), .val (.int z2), .val (.int z4), .val (.ref a6), .val (.int nv), .val (.ref b33), .val (.int j222), .val (.ref xm228), .unset] [])) tg → Steps pP.tables eE below (s₁.setTop (entryFrame mM #[(.int p1), (.int p2), (.int p3), (.int p4), (.int p5)] maxLocals)) tg := fun tg kg => pr265 _ (by
          show Steps pP.tables eE below (T264.setTop (mkF mM 247 #[.val (.int p1), .val (.int p2), .val (.int p3), .val (.int p4), .val (.int p5), .val (.int z2), .val (.int z4), .val (.ref a6), .val (.int nv), .val (.ref b33), .val (.int j222), .val (.ref xm228), .unset] [(.int (1 : Int32))])) _
          refine XS.ifNo X264.here hx rfl (hb hby at_247) rfl ((if0 _ _).trans (feq (by decide)).1) ?_
          exact kg)
        obtain ⟨T268, X268, e268, st268⟩ := getS2 X264 hx hZ hown (host := "") (Or.inl (hw _ (List.mem_of_getElem? (i := 105) rfl))) Via.refl e264 (Sta.ext (c262).2 S_SERVER_REFLEXIVE) (g := (mkF mM 250 #[.val (.int p1), .val (.int p2), .val (.int p3), .val (.int p4), .val (.int p5), .val (.int z2), .val (.int z4), .val (.ref a6), .val (.int nv), .val (.ref b33), .val (.int j222), .val (.ref xm228), .unset] [])) rfl (hb hby at_250)
        have pr269 : ∀ tg, Steps pP.tables eE below (T268.setTop (mkF mM 253 #[.val (.int p1), .val (.int p2), .val (.int p3), .val (.int p4), .val (.int p5), .val (.int z2), .val (.int z4), .val (.ref a6), .val (.int nv), .val (.ref b33), .val (.int j222), .val (.ref xm228), .unset] [(.ref a_SERVER_REFLEXIVE)])) tg → Steps pP.tables eE below (s₁.setTop (entryFrame mM #[(.int p1), (.int p2), (.int p3), (.int p4), (.int p5)] maxLocals)) tg := fun tg kg => pr267 _ (st268 _ kg)
        have pr270 : ∀ tg, Steps pP.tables eE below (T268.setTop (mkF mM 299 #[.val (.int p1), .val (.int p2), .val (.int p3), .val (.int p4), .val (.int p5), .val (.int z2), .val (.int z4), .val (.ref a6), .val (.int nv), .val (.ref b33), .val (.int j222), .val (.ref xm228), .val (.ref a_SERVER_REFLEXIVE)] [(.ref xm228)])) tg → Steps pP.tables eE below (s₁.setTop (entryFrame mM #[(.int p1), (.int p2), (.int p3), (.int p4), (.int p5)] maxLocals)) tg := fun tg kg => pr269 _ (by
          show Steps pP.tables eE below (T268.setTop (mkF mM 253 #[.val (.int p1), .val (.int p2), .val (.int p3), .val (.int p4), .val (.int p5), .val (.int z2), .val (.int z4), .val (.ref a6), .val (.int nv), .val (.ref b33), .val (.int j222), .val (.ref xm228), .unset] [(.ref a_SERVER_REFLEXIVE)])) _
          refine XS.astore X268.here hx rfl (hb hby at_253) rfl rfl (l' := #[.val (.int p1), .val (.int p2), .val (.int p3), .val (.int p4), .val (.int p5), .val (.int z2), .val (.int z4), .val (.ref a6), .val (.int nv), .val (.ref b33), .val (.int j222), .val (.ref xm228), .val (.ref a_SERVER_REFLEXIVE)]) rfl ?_
          show Steps pP.tables eE below (T268.setTop (mkF mM 255 #[.val (.int p1), .val (.int p2), .val (.int p3), .val (.int p4), .val (.int p5), .val (.int z2), .val (.int z4), .val (.ref a6), .val (.int nv), .val (.ref b33), .val (.int j222), .val (.ref xm228), .val (.ref a_SERVER_REFLEXIVE)] [])) _
          refine XS.goto X268.here hx rfl (pc0 := 255) (pc' := 297) rfl (hb hby at_255) (by decide) (by decide) ?_
          show Steps pP.tables eE below (T268.setTop (mkF mM 297 #[.val (.int p1), .val (.int p2), .val (.int p3), .val (.int p4), .val (.int p5), .val (.int z2), .val (.int z4), .val (.ref a6), .val (.int nv), .val (.ref b33), .val (.int j222), .val (.ref xm228), .val (.ref a_SERVER_REFLEXIVE)] [])) _
          refine XS.aload X268.here hx rfl (hb hby at_297) rfl rfl ?_
          exact kg)
        obtain ⟨_, _, ⟨T271, L271, kk271, nn271⟩, -, X271, ⟨Lc271, hQ271, l271, y271, z271⟩, st271⟩ := Jvm.LawKit.callS X268 hx (y := (⟨"com/example/thawline/thawline/CandidateType", "ofToken", "(Ljava/lang/String;)Lcom/example/thawline/thawline/CandidateType;"⟩ : MethodName)) hown (mvT hZ (hw _ (List.mem_of_getElem? (i := 87) rfl))) (mvT hZ (hw _ (List.mem_of_getElem? (i := 88) rfl))) (mvT hZ (hw _ (List.mem_of_getElem? (i := 85) rfl))) (mvT hZ (hw _ (List.mem_of_getElem? (i := 89) rfl))) (by decide) (backOf (W := 0) (rm41 l Z a0 hw [] cs al kal a_HOST t_HOST u_HOST k_HOST a_SERVER_REFLEXIVE t_SERVER_REFLEXIVE u_SERVER_REFLEXIVE k_SERVER_REFLEXIVE a_PEER_REFLEXIVE t_PEER_REFLEXIVE u_PEER_REFLEXIVE k_PEER_REFLEXIVE a_RELAYED t_RELAYED u_RELAYED k_RELAYED xm228 tm228 km228 tx228 h254 n0 c263 c262 S_cs hcs S_ALL V_ALL S_HOST E_HOST F_HOST Et_HOST Fc_HOST Fv_HOST Vt_HOST S_SERVER_REFLEXIVE E_SERVER_REFLEXIVE F_SERVER_REFLEXIVE Et_SERVER_REFLEXIVE Fc_SERVER_REFLEXIVE Fv_SERVER_REFLEXIVE Vt_SERVER_REFLEXIVE S_PEER_REFLEXIVE E_PEER_REFLEXIVE F_PEER_REFLEXIVE Et_PEER_REFLEXIVE Fc_PEER_REFLEXIVE Fv_PEER_REFLEXIVE Vt_PEER_REFLEXIVE S_RELAYED E_RELAYED F_RELAYED Et_RELAYED Fc_RELAYED Fv_RELAYED Vt_RELAYED c258 c259 c260 c261 hp228 hlen228 hd245 hd266) hZ (hw _ (List.mem_of_getElem? (i := 89) rfl)) (hw _ (List.mem_of_getElem? (i := 85) rfl)) (by decide) (by decide)) (g := (mkF mM 299 #[.val (.int p1), .val (.int p2), .val (.int p3), .val (.int p4), .val (.int p5), .val (.int z2), .val (.int z4), .val (.ref a6), .val (.int nv), .val (.ref b33), .val (.int j222), .val (.ref xm228), .val (.ref a_SERVER_REFLEXIVE)] [(.ref xm228)])) rfl (by rw [hml]; rfl) (argsL := [(.ref xm228)]) (rest := []) (lenOf pd_13 rfl) rfl (by show 2 * 0 + _ ≤ _; exact Nat.le_of_eq rfl) (hb hby at_299) (fun _ _ => ⟨rfl, e268, (by decide : 13 + 0 ≤ _), (by decide : 90 + 0 ≤ _)⟩)
        dsimp only [Pt.U, Pt.locs, Pt.cells, Pt.slots] at X271 l271 y271 z271 st271 hQ271
        subst l271 y271 z271
        obtain ⟨rfl, Nq271, e271⟩ := hQ271
        have N271 := Fr.app N264 Nq271
        have pr272 : ∀ tg, Steps pP.tables eE below (T271.setTop (mkF mM 302 #[.val (.int p1), .val (.int p2), .val (.int p3), .val (.int p4), .val (.int p5), .val (.int z2), .val (.int z4), .val (.ref a6), .val (.int nv), .val (.ref b33), .val (.int j222), .val (.ref xm228), .val (.ref a_SERVER_REFLEXIVE)] [(.ref a_SERVER_REFLEXIVE)])) tg → Steps pP.tables eE below (s₁.setTop (entryFrame mM #[(.int p1), (.int p2), (.int p3), (.int p4), (.int p5)] maxLocals)) tg := fun tg kg => pr270 _ (st271 _ kg)
        have pr273 : ∀ tg, Steps pP.tables eE below (T271.setTop (mkF mM 312 #[.val (.int p1), .val (.int p2), .val (.int p3), .val (.int p4), .val (.int p5), .val (.int z2), .val (.int z4), .val (.ref a6), .val (.int nv), .val (.ref b33), .val (.int j222), .val (.ref xm228), .val (.ref a_SERVER_REFLEXIVE)] [(.int (1 : Int32))])) tg → Steps pP.tables eE below (s₁.setTop (entryFrame mM #[(.int p1), (.int p2), (.int p3), (.int p4), (.int p5)] maxLocals)) tg := fun tg kg => pr272 _ (by
          show Steps pP.tables eE below (T271.setTop (mkF mM 302 #[.val (.int p1), .val (.int p2), .val (.int p3), .val (.int p4), .val (.int p5), .val (.int z2), .val (.int z4), .val (.ref a6), .val (.int nv), .val (.ref b33), .val (.int j222), .val (.ref xm228), .val (.ref a_SERVER_REFLEXIVE)] [(.ref a_SERVER_REFLEXIVE)])) _
          refine XS.aload X271.here hx rfl (hb hby at_302) rfl rfl ?_
          show Steps pP.tables eE below (T271.setTop (mkF mM 304 #[.val (.int p1), .val (.int p2), .val (.int p3), .val (.int p4), .val (.int p5), .val (.int z2), .val (.int z4), .val (.ref a6), .val (.int nv), .val (.ref b33), .val (.int j222), .val (.ref xm228), .val (.ref a_SERVER_REFLEXIVE)] [(.ref a_SERVER_REFLEXIVE), (.ref a_SERVER_REFLEXIVE)])) _
          refine Jvm.RoadKit.acmp (g := (mkF mM 304 #[.val (.int p1), .val (.int p2), .val (.int p3), .val (.int p4), .val (.int p5), .val (.int z2), .val (.int z4), .val (.ref a6), .val (.int nv), .val (.ref b33), .val (.int j222), .val (.ref xm228), .val (.ref a_SERVER_REFLEXIVE)] [(.ref a_SERVER_REFLEXIVE), (.ref a_SERVER_REFLEXIVE)])) X271 hx rfl rfl rfl (pc0 := 304) (pc' := 307) (same := true) rfl (hb hby at_304) rfl (decide_eq_true rfl) (by decide) (by decide) ?_
          show Steps pP.tables eE below (T271.setTop (mkF mM 307 #[.val (.int p1), .val (.int p2), .val (.int p3), .val (.int p4), .val (.int p5), .val (.int z2), .val (.int z4), .val (.ref a6), .val (.int nv), .val (.ref b33), .val (.int j222), .val (.ref xm228), .val (.ref a_SERVER_REFLEXIVE)] [])) _
          refine XS.iconst X271.here hx rfl (hb hby at_307) ?_
          show Steps pP.tables eE below (T271.setTop (mkF mM 308 #[.val (.int p1), .val (.int p2), .val (.int p3), .val (.int p4), .val (.int p5), .val (.int z2), .val (.int z4), .val (.ref a6), .val (.int nv), .val (.ref b33), .val (.int j222), .val (.ref xm228), .val (.ref a_SERVER_REFLEXIVE)] [(.int (1 : Int32))])) _
          refine XS.goto X271.here hx rfl (pc0 := 308) (pc' := 312) rfl (hb hby at_308) (by decide) (by decide) ?_
          exact kg)
        obtain ⟨fs, hr, hrun, hended, hW⟩ := Jvm.Stand.leaveW (s := sS) (vm₁ := T254.vm) X271 hS (Nat.le_trans hk254 (Nat.le_of_eq (congrArg Array.size e271.symm))) (v := some (.int (1 : Int32))) (fun h => by rw [Bd.returns] at h; cases h)
        refine ⟨_, _, pr273 _ (retOut X271 hx (t := .boolean) Bd.returns rfl (Or.inl ⟨rfl, Or.inr (Or.inl rfl), _, rfl⟩) (hb hby at_312) hr), hrun, hended, _, _, rfl, ?_, hW.1, hW.2.1, hW.2.2.1, hW.2.2.2.mono (by decide) (by decide)⟩
        show Q0 Z p1 p2 p3 p4 p5 cs sf al kal a_HOST t_HOST u_HOST k_HOST a_SERVER_REFLEXIVE t_SERVER_REFLEXIVE u_SERVER_REFLEXIVE k_SERVER_REFLEXIVE a_PEER_REFLEXIVE t_PEER_REFLEXIVE u_PEER_REFLEXIVE k_PEER_REFLEXIVE a_RELAYED t_RELAYED u_RELAYED k_RELAYED h0 n0 _ T271.heap _
        rw [e271]
        exact ⟨rfl, N271⟩
      ·
        rw [if_neg hd266] at hr264
        subst hr264
        have pr274 : ∀ tg, Steps pP.tables eE below (T264.setTop (mkF mM 260 #[.val (.int p1), .val (.int p2), .val (.int p3), .val (.int p4), .val (.int p5), .val (.int z2), .val (.int z4), .val (.ref a6), .val (.int nv), .val (.ref b33), .val (.int j222), .val (.ref xm228), .unset] [(.ref xm228)])) tg → Steps pP.tables eE below (s₁.setTop (entryFrame mM #[(.int p1), (.int p2), (.int p3), (.int p4), (.int p5)] maxLocals)) tg := fun tg kg => pr265 _ (by
          show Steps pP.tables eE below (T264.setTop (mkF mM 247 #[.val (.int p1), .val (.int p2), .val (.int p3), .val (.int p4), .val (.int p5), .val (.int z2), .val (.int z4), .val (.ref a6), .val (.int nv), .val (.ref b33), .val (.int j222), .val (.ref xm228), .unset] [(.int (0 : Int32))])) _
          refine XS.ifYes X264.here hx rfl (pc0 := 247) (pc' := 258) rfl (hb hby at_247) rfl ((if0 _ _).trans (teq (by decide)).1) (by decide) (by decide) ?_
          show Steps pP.tables eE below (T264.setTop (mkF mM 258 #[.val (.int p1), .val (.int p2), .val (.int p3), .val (.int p4), .val (.int p5), .val (.int z2), .val (.int z4), .val (.ref a6), .val (.int nv), .val (.ref b33), .val (.int j222), .val (.ref xm228), .unset] [])) _
          refine XS.aload X264.here hx rfl (hb hby at_258) rfl rfl ?_
          exact kg)
        obtain ⟨a275, T275, h275, kk275, b275, kc275, X275, e275, E275, hS, hk275, hZ, hown, Es275, Fc275, Fv275, V275, la275, lb275, A275, -, hn275, st275⟩ := ldcCH (s := sS) (vm0 := T254.vm) (EL := consts_1) X264 hx hZ hown (hw _ (List.mem_of_getElem? (i := 97) rfl)) wS e264 hS hk254 hEW (List.mem_of_getElem? (i := 2) rfl) cr255.1 (vs := [(.int (112 : Int32)), (.int (114 : Int32)), (.int (102 : Int32)), (.int (108 : Int32)), (.int (120 : Int32))]) (z := (5 : Int32)) ⟨by decide, rfl⟩ (by decide) rfl (g := (mkF mM 260 #[.val (.int p1), .val (.int p2), .val (.int p3), .val (.int p4), .val (.int p5), .val (.int z2), .val (.int z4), .val (.ref a6), .val (.int nv), .val (.ref b33), .val (.int j222), .val (.ref xm228), .unset] [(.ref xm228)])) rfl (hb hby at_260) (n := 20) (by decide) (by decide) (by decide) (by decide)
        have c277 := (Arv.ext c256 E254)
        have sf276_b33 := CHr.safe A275 (c277).lt sf255_b33
        have cr276 := CHr.trans cr255 A275
        have pr278 : ∀ tg, Steps pP.tables eE below (T275.setTop (mkF mM 262 #[.val (.int p1), .val (.int p2), .val (.int p3), .val (.int p4), .val (.int p5), .val (.int z2), .val (.int z4), .val (.ref a6), .val (.int nv), .val (.ref b33), .val (.int j222), .val (.ref xm228), .unset] [(.ref a275), (.ref xm228)])) tg → Steps pP.tables eE below (s₁.setTop (entryFrame mM #[(.int p1), (.int p2), (.int p3), (.int p4), (.int p5)] maxLocals)) tg := fun tg kg => pr274 _ (st275 _ kg)
        have c279 := (Exa.ext E275 c258)
        have c280 := (Fld.ext E275 c259)
        have c281 := (Fld.ext E275 c260)
        have c282 := (Arv.ext c261 E275)
        have c283 := (Old.ext c262 E275)
        have c284 := (Nat.le_trans c263 E275.1)
        obtain ⟨cq285, kq285, qa285, qb285, qc285⟩ := isOf hZ e275 c279
        obtain ⟨vq285, _, ⟨T285, L285, kk285, nn285⟩, -, X285, ⟨Lc285, hQ285, l285, y285, z285⟩, st285⟩ := X275.virtualBack hx (y := (⟨"java/lang/String", "equals", "(Ljava/lang/Object;)Z"⟩ : MethodName)) (z := (⟨"java/lang/String", "equals", "(Ljava/lang/Object;)Z"⟩ : MethodName)) hown (mvT hZ (hw _ (List.mem_of_getElem? (i := 75) rfl))) (mvT hZ (hw _ (List.mem_of_getElem? (i := 76) rfl))) (notFace_of_selects (args := #[]) (mvT hZ (hw _ (List.mem_of_getElem? (i := 78) rfl)))) (mvT hZ (hw _ (List.mem_of_getElem? (i := 78) rfl))) (mvT hZ (hw _ (List.mem_of_getElem? (i := 77) rfl))) (by decide) (StrChars.Road.eqW (W := 0) hZ (own_wE hw) (kI := 4) (hw _ (List.mem_of_getElem? (i := 2) rfl)) (cs := tx228) c279 c280 c281 c282 (StrChars.Road.codOf (n := tx228.length) rfl (fun c hc => (hp228 c hc).2)) (own_up hp228) hlen228 (ds := ([(112 : Int32), (114 : Int32), (102 : Int32), (108 : Int32), (120 : Int32)] : List Int32)) Es275 Fv275 Fc275 V275 own_cod_prflx own_bd_prflx (Nat.le_of_ble_eq_true rfl) (Sta.ext (c283).2 S_cs) hcs (by decide) (by decide)) qa285 qc285 (g := (mkF mM 262 #[.val (.int p1), .val (.int p2), .val (.int p3), .val (.int p4), .val (.int p5), .val (.int z2), .val (.int z4), .val (.ref a6), .val (.int nv), .val (.ref b33), .val (.int j222), .val (.ref xm228), .unset] [(.ref a275), (.ref xm228)])) rfl (by rw [hml]; rfl) (Steps.refl _) (argsL := [(.ref a275)]) (rest := []) (lenOf pd_9 rfl) rfl (by show 2 * 0 + _ ≤ _; exact Nat.le_of_eq rfl) (hb hby at_262) (fun _ _ => ⟨rfl, e275, (by decide : 15 + 0 ≤ _), (by decide : 114 + 0 ≤ _)⟩)
        dsimp only [Pt.U, Pt.locs, Pt.cells, Pt.slots] at X285 l285 y285 z285 st285 hQ285
        subst l285 y285 z285
        obtain ⟨hq285, hL285, e285⟩ := hQ285
        subst hL285
        obtain ⟨r285, hv285, hr285⟩ : ∃ r : Int32, vq285 = some (.int r) ∧ r = (if tx228 = ([(112 : Int32), (114 : Int32), (102 : Int32), (108 : Int32), (120 : Int32)] : List Int32) then (1 : Int32) else (0 : Int32)) := hq285.elim (fun q => ⟨1, q.1, (if_pos q.2).symm⟩) (fun q => ⟨0, q.1, (if_neg q.2).symm⟩)
        subst hv285
        have N285 := Fr.app N264 (Fr.nil n0)
        have pr286 : ∀ tg, Steps pP.tables eE below (T285.setTop (mkF mM 265 #[.val (.int p1), .val (.int p2), .val (.int p3), .val (.int p4), .val (.int p5), .val (.int z2), .val (.int z4), .val (.ref a6), .val (.int nv), .val (.ref b33), .val (.int j222), .val (.ref xm228), .unset] [(.int r285)])) tg → Steps pP.tables eE below (s₁.setTop (entryFrame mM #[(.int p1), (.int p2), (.int p3), (.int p4), (.int p5)] maxLocals)) tg := fun tg kg => pr278 _ (st285.trans kg)
        by_cases hd287 : tx228 = ([(112 : Int32), (114 : Int32), (102 : Int32), (108 : Int32), (120 : Int32)] : List Int32)
        ·
          rw [if_pos hd287] at hr285
          subst hr285
          have pr288 : ∀ tg, Steps pP.tables eE below (T285.setTop (mkF mM 268 #[.val (.int p1), .val (.int p2), .val (.int p3), .val (.int p4), .val (.int p5), .val (.int z2), .val (.int z4), .val (.ref a6), .val (.int nv), .val (.ref b33), .val (.int j222), .val (.ref xm228), .unset] [])) tg → Steps pP.tables eE below (s₁.setTop (entryFrame mM #[(.int p1), (.int p2), (.int p3), (.int p4), (.int p5)] maxLocals)) tg := fun tg kg => pr286 _ (by
            show Steps pP.tables eE below (T285.setTop (mkF mM 265 #[.val (.int p1), .val (.int p2), .val (.int p3), .val (.int p4), .val (.int p5), .val (.int z2), .val (.int z4), .val (.ref a6), .val (.int nv), .val (.ref b33), .val (.int j222), .val (.ref xm228), .unset] [(.int (1 : Int32))])) _
            refine XS.ifNo X285.here hx rfl (hb hby at_265) rfl ((if0 _ _).trans (feq (by decide)).1) ?_
            exact kg)
          obtain ⟨T289, X289, e289, st289⟩ := getS2 X285 hx hZ hown (host := "") (Or.inl (hw _ (List.mem_of_getElem? (i := 104) rfl))) Via.refl e285 (Sta.ext (c283).2 S_PEER_REFLEXIVE) (g := (mkF mM 268 #[.val (.int p1), .val (.int p2), .val (.int p3), .val (.int p4), .val (.int p5), .val (.int z2), .val (.int z4), .val (.ref a6), .val (.int nv), .val (.ref b33), .val (.int j222), .val (.ref xm228), .unset] [])) rfl (hb hby at_268)
          have pr290 : ∀ tg, Steps pP.tables eE below (T289.setTop (mkF mM 271 #[.val (.int p1), .val (.int p2), .val (.int p3), .val (.int p4), .val (.int p5), .val (.int z2), .val (.int z4), .val (.ref a6), .val (.int nv), .val (.ref b33), .val (.int j222), .val (.ref xm228), .unset] [(.ref a_PEER_REFLEXIVE)])) tg → Steps pP.tables eE below (s₁.setTop (entryFrame mM #[(.int p1), (.int p2), (.int p3), (.int p4), (.int p5)] maxLocals)) tg := fun tg kg => pr288 _ (st289 _ kg)
          have pr291 : ∀ tg, Steps pP.tables eE below (T289.setTop (mkF mM 299 #[.val (.int p1), .val (.int p2), .val (.int p3), .val (.int p4), .val (.int p5), .val (.int z2), .val (.int z4), .val (.ref a6), .val (.int nv), .val (.ref b33), .val (.int j222), .val (.ref xm228), .val (.ref a_PEER_REFLEXIVE)] [(.ref xm228)])) tg → Steps pP.tables eE below (s₁.setTop (entryFrame mM #[(.int p1), (.int p2), (.int p3), (.int p4), (.int p5)] maxLocals)) tg := fun tg kg => pr290 _ (by
            show Steps pP.tables eE below (T289.setTop (mkF mM 271 #[.val (.int p1), .val (.int p2), .val (.int p3), .val (.int p4), .val (.int p5), .val (.int z2), .val (.int z4), .val (.ref a6), .val (.int nv), .val (.ref b33), .val (.int j222), .val (.ref xm228), .unset] [(.ref a_PEER_REFLEXIVE)])) _
            refine XS.astore X289.here hx rfl (hb hby at_271) rfl rfl (l' := #[.val (.int p1), .val (.int p2), .val (.int p3), .val (.int p4), .val (.int p5), .val (.int z2), .val (.int z4), .val (.ref a6), .val (.int nv), .val (.ref b33), .val (.int j222), .val (.ref xm228), .val (.ref a_PEER_REFLEXIVE)]) rfl ?_
            show Steps pP.tables eE below (T289.setTop (mkF mM 273 #[.val (.int p1), .val (.int p2), .val (.int p3), .val (.int p4), .val (.int p5), .val (.int z2), .val (.int z4), .val (.ref a6), .val (.int nv), .val (.ref b33), .val (.int j222), .val (.ref xm228), .val (.ref a_PEER_REFLEXIVE)] [])) _
            refine XS.goto X289.here hx rfl (pc0 := 273) (pc' := 297) rfl (hb hby at_273) (by decide) (by decide) ?_
            show Steps pP.tables eE below (T289.setTop (mkF mM 297 #[.val (.int p1), .val (.int p2), .val (.int p3), .val (.int p4), .val (.int p5), .val (.int z2), .val (.int z4), .val (.ref a6), .val (.int nv), .val (.ref b33), .val (.int j222), .val (.ref xm228), .val (.ref a_PEER_REFLEXIVE)] [])) _
            refine XS.aload X289.here hx rfl (hb hby at_297) rfl rfl ?_
            exact kg)
          obtain ⟨_, _, ⟨T292, L292, kk292, nn292⟩, -, X292, ⟨Lc292, hQ292, l292, y292, z292⟩, st292⟩ := Jvm.LawKit.callS X289 hx (y := (⟨"com/example/thawline/thawline/CandidateType", "ofToken", "(Ljava/lang/String;)Lcom/example/thawline/thawline/CandidateType;"⟩ : MethodName)) hown (mvT hZ (hw _ (List.mem_of_getElem? (i := 87) rfl))) (mvT hZ (hw _ (List.mem_of_getElem? (i := 88) rfl))) (mvT hZ (hw _ (List.mem_of_getElem? (i := 85) rfl))) (mvT hZ (hw _ (List.mem_of_getElem? (i := 89) rfl))) (by decide) (backOf (W := 0) (rm42 l Z a0 hw [] cs al kal a_HOST t_HOST u_HOST k_HOST a_SERVER_REFLEXIVE t_SERVER_REFLEXIVE u_SERVER_REFLEXIVE k_SERVER_REFLEXIVE a_PEER_REFLEXIVE t_PEER_REFLEXIVE u_PEER_REFLEXIVE k_PEER_REFLEXIVE a_RELAYED t_RELAYED u_RELAYED k_RELAYED xm228 tm228 km228 tx228 h275 n0 c284 c283 S_cs hcs S_ALL V_ALL S_HOST E_HOST F_HOST Et_HOST Fc_HOST Fv_HOST Vt_HOST S_SERVER_REFLEXIVE E_SERVER_REFLEXIVE F_SERVER_REFLEXIVE Et_SERVER_REFLEXIVE Fc_SERVER_REFLEXIVE Fv_SERVER_REFLEXIVE Vt_SERVER_REFLEXIVE S_PEER_REFLEXIVE E_PEER_REFLEXIVE F_PEER_REFLEXIVE Et_PEER_REFLEXIVE Fc_PEER_REFLEXIVE Fv_PEER_REFLEXIVE Vt_PEER_REFLEXIVE S_RELAYED E_RELAYED F_RELAYED Et_RELAYED Fc_RELAYED Fv_RELAYED Vt_RELAYED c279 c280 c281 c282 hp228 hlen228 hd245 hd266 hd287) hZ (hw _ (List.mem_of_getElem? (i := 89) rfl)) (hw _ (List.mem_of_getElem? (i := 85) rfl)) (by decide) (by decide)) (g := (mkF mM 299 #[.val (.int p1), .val (.int p2), .val (.int p3), .val (.int p4), .val (.int p5), .val (.int z2), .val (.int z4), .val (.ref a6), .val (.int nv), .val (.ref b33), .val (.int j222), .val (.ref xm228), .val (.ref a_PEER_REFLEXIVE)] [(.ref xm228)])) rfl (by rw [hml]; rfl) (argsL := [(.ref xm228)]) (rest := []) (lenOf pd_13 rfl) rfl (by show 2 * 0 + _ ≤ _; exact Nat.le_of_eq rfl) (hb hby at_299) (fun _ _ => ⟨rfl, e289, (by decide : 15 + 0 ≤ _), (by decide : 114 + 0 ≤ _)⟩)
          dsimp only [Pt.U, Pt.locs, Pt.cells, Pt.slots] at X292 l292 y292 z292 st292 hQ292
          subst l292 y292 z292
          obtain ⟨rfl, Nq292, e292⟩ := hQ292
          have N292 := Fr.app N285 Nq292
          have pr293 : ∀ tg, Steps pP.tables eE below (T292.setTop (mkF mM 302 #[.val (.int p1), .val (.int p2), .val (.int p3), .val (.int p4), .val (.int p5), .val (.int z2), .val (.int z4), .val (.ref a6), .val (.int nv), .val (.ref b33), .val (.int j222), .val (.ref xm228), .val (.ref a_PEER_REFLEXIVE)] [(.ref a_PEER_REFLEXIVE)])) tg → Steps pP.tables eE below (s₁.setTop (entryFrame mM #[(.int p1), (.int p2), (.int p3), (.int p4), (.int p5)] maxLocals)) tg := fun tg kg => pr291 _ (st292 _ kg)
          have pr294 : ∀ tg, Steps pP.tables eE below (T292.setTop (mkF mM 312 #[.val (.int p1), .val (.int p2), .val (.int p3), .val (.int p4), .val (.int p5), .val (.int z2), .val (.int z4), .val (.ref a6), .val (.int nv), .val (.ref b33), .val (.int j222), .val (.ref xm228), .val (.ref a_PEER_REFLEXIVE)] [(.int (1 : Int32))])) tg → Steps pP.tables eE below (s₁.setTop (entryFrame mM #[(.int p1), (.int p2), (.int p3), (.int p4), (.int p5)] maxLocals)) tg := fun tg kg => pr293 _ (by
            show Steps pP.tables eE below (T292.setTop (mkF mM 302 #[.val (.int p1), .val (.int p2), .val (.int p3), .val (.int p4), .val (.int p5), .val (.int z2), .val (.int z4), .val (.ref a6), .val (.int nv), .val (.ref b33), .val (.int j222), .val (.ref xm228), .val (.ref a_PEER_REFLEXIVE)] [(.ref a_PEER_REFLEXIVE)])) _
            refine XS.aload X292.here hx rfl (hb hby at_302) rfl rfl ?_
            show Steps pP.tables eE below (T292.setTop (mkF mM 304 #[.val (.int p1), .val (.int p2), .val (.int p3), .val (.int p4), .val (.int p5), .val (.int z2), .val (.int z4), .val (.ref a6), .val (.int nv), .val (.ref b33), .val (.int j222), .val (.ref xm228), .val (.ref a_PEER_REFLEXIVE)] [(.ref a_PEER_REFLEXIVE), (.ref a_PEER_REFLEXIVE)])) _
            refine Jvm.RoadKit.acmp (g := (mkF mM 304 #[.val (.int p1), .val (.int p2), .val (.int p3), .val (.int p4), .val (.int p5), .val (.int z2), .val (.int z4), .val (.ref a6), .val (.int nv), .val (.ref b33), .val (.int j222), .val (.ref xm228), .val (.ref a_PEER_REFLEXIVE)] [(.ref a_PEER_REFLEXIVE), (.ref a_PEER_REFLEXIVE)])) X292 hx rfl rfl rfl (pc0 := 304) (pc' := 307) (same := true) rfl (hb hby at_304) rfl (decide_eq_true rfl) (by decide) (by decide) ?_
            show Steps pP.tables eE below (T292.setTop (mkF mM 307 #[.val (.int p1), .val (.int p2), .val (.int p3), .val (.int p4), .val (.int p5), .val (.int z2), .val (.int z4), .val (.ref a6), .val (.int nv), .val (.ref b33), .val (.int j222), .val (.ref xm228), .val (.ref a_PEER_REFLEXIVE)] [])) _
            refine XS.iconst X292.here hx rfl (hb hby at_307) ?_
            show Steps pP.tables eE below (T292.setTop (mkF mM 308 #[.val (.int p1), .val (.int p2), .val (.int p3), .val (.int p4), .val (.int p5), .val (.int z2), .val (.int z4), .val (.ref a6), .val (.int nv), .val (.ref b33), .val (.int j222), .val (.ref xm228), .val (.ref a_PEER_REFLEXIVE)] [(.int (1 : Int32))])) _
            refine XS.goto X292.here hx rfl (pc0 := 308) (pc' := 312) rfl (hb hby at_308) (by decide) (by decide) ?_
            exact kg)
          obtain ⟨fs, hr, hrun, hended, hW⟩ := Jvm.Stand.leaveW (s := sS) (vm₁ := T275.vm) X292 hS (Nat.le_trans hk275 (Nat.le_of_eq (congrArg Array.size e292.symm))) (v := some (.int (1 : Int32))) (fun h => by rw [Bd.returns] at h; cases h)
          refine ⟨_, _, pr294 _ (retOut X292 hx (t := .boolean) Bd.returns rfl (Or.inl ⟨rfl, Or.inr (Or.inl rfl), _, rfl⟩) (hb hby at_312) hr), hrun, hended, _, _, rfl, ?_, hW.1, hW.2.1, hW.2.2.1, hW.2.2.2.mono (by decide) (by decide)⟩
          show Q0 Z p1 p2 p3 p4 p5 cs sf al kal a_HOST t_HOST u_HOST k_HOST a_SERVER_REFLEXIVE t_SERVER_REFLEXIVE u_SERVER_REFLEXIVE k_SERVER_REFLEXIVE a_PEER_REFLEXIVE t_PEER_REFLEXIVE u_PEER_REFLEXIVE k_PEER_REFLEXIVE a_RELAYED t_RELAYED u_RELAYED k_RELAYED h0 n0 _ T292.heap _
          rw [e292]
          exact ⟨rfl, N292⟩
        ·
          rw [if_neg hd287] at hr285
          subst hr285
          have pr295 : ∀ tg, Steps pP.tables eE below (T285.setTop (mkF mM 278 #[.val (.int p1), .val (.int p2), .val (.int p3), .val (.int p4), .val (.int p5), .val (.int z2), .val (.int z4), .val (.ref a6), .val (.int nv), .val (.ref b33), .val (.int j222), .val (.ref xm228), .unset] [(.ref xm228)])) tg → Steps pP.tables eE below (s₁.setTop (entryFrame mM #[(.int p1), (.int p2), (.int p3), (.int p4), (.int p5)] maxLocals)) tg := fun tg kg => pr286 _ (by
            show Steps pP.tables eE below (T285.setTop (mkF mM 265 #[.val (.int p1), .val (.int p2), .val (.int p3), .val (.int p4), .val (.int p5), .val (.int z2), .val (.int z4), .val (.ref a6), .val (.int nv), .val (.ref b33), .val (.int j222), .val (.ref xm228), .unset] [(.int (0 : Int32))])) _
            refine XS.ifYes X285.here hx rfl (pc0 := 265) (pc' := 276) rfl (hb hby at_265) rfl ((if0 _ _).trans (teq (by decide)).1) (by decide) (by decide) ?_
            show Steps pP.tables eE below (T285.setTop (mkF mM 276 #[.val (.int p1), .val (.int p2), .val (.int p3), .val (.int p4), .val (.int p5), .val (.int z2), .val (.int z4), .val (.ref a6), .val (.int nv), .val (.ref b33), .val (.int j222), .val (.ref xm228), .unset] [])) _
            refine XS.aload X285.here hx rfl (hb hby at_276) rfl rfl ?_
            exact kg)
          obtain ⟨a296, T296, h296, kk296, b296, kc296, X296, e296, E296, hS, hk296, hZ, hown, Es296, Fc296, Fv296, V296, la296, lb296, A296, -, hn296, st296⟩ := ldcCH (s := sS) (vm0 := T275.vm) (EL := consts_1) X285 hx hZ hown (hw _ (List.mem_of_getElem? (i := 95) rfl)) wS e285 hS hk275 hEW (List.mem_of_getElem? (i := 3) rfl) cr276.1 (vs := [(.int (114 : Int32)), (.int (101 : Int32)), (.int (108 : Int32)), (.int (97 : Int32)), (.int (121 : Int32))]) (z := (5 : Int32)) ⟨by decide, rfl⟩ (by decide) rfl (g := (mkF mM 278 #[.val (.int p1), .val (.int p2), .val (.int p3), .val (.int p4), .val (.int p5), .val (.int z2), .val (.int z4), .val (.ref a6), .val (.int nv), .val (.ref b33), .val (.int j222), .val (.ref xm228), .unset] [(.ref xm228)])) rfl (hb hby at_278) (n := 20) (by decide) (by decide) (by decide) (by decide)
          have c298 := (Arv.ext c277 E275)
          have sf297_b33 := CHr.safe A296 (c298).lt sf276_b33
          have cr297 := CHr.trans cr276 A296
          have pr299 : ∀ tg, Steps pP.tables eE below (T296.setTop (mkF mM 280 #[.val (.int p1), .val (.int p2), .val (.int p3), .val (.int p4), .val (.int p5), .val (.int z2), .val (.int z4), .val (.ref a6), .val (.int nv), .val (.ref b33), .val (.int j222), .val (.ref xm228), .unset] [(.ref a296), (.ref xm228)])) tg → Steps pP.tables eE below (s₁.setTop (entryFrame mM #[(.int p1), (.int p2), (.int p3), (.int p4), (.int p5)] maxLocals)) tg := fun tg kg => pr295 _ (st296 _ kg)
          have c300 := (Exa.ext E296 c279)
          have c301 := (Fld.ext E296 c280)
          have c302 := (Fld.ext E296 c281)
          have c303 := (Arv.ext c282 E296)
          have c304 := (Old.ext c283 E296)
          have c305 := (Nat.le_trans c284 E296.1)
          obtain ⟨cq306, kq306, qa306, qb306, qc306⟩ := isOf hZ e296 c300
          obtain ⟨vq306, _, ⟨T306, L306, kk306, nn306⟩, -, X306, ⟨Lc306, hQ306, l306, y306, z306⟩, st306⟩ := X296.virtualBack hx (y := (⟨"java/lang/String", "equals", "(Ljava/lang/Object;)Z"⟩ : MethodName)) (z := (⟨"java/lang/String", "equals", "(Ljava/lang/Object;)Z"⟩ : MethodName)) hown (mvT hZ (hw _ (List.mem_of_getElem? (i := 75) rfl))) (mvT hZ (hw _ (List.mem_of_getElem? (i := 76) rfl))) (notFace_of_selects (args := #[]) (mvT hZ (hw _ (List.mem_of_getElem? (i := 78) rfl)))) (mvT hZ (hw _ (List.mem_of_getElem? (i := 78) rfl))) (mvT hZ (hw _ (List.mem_of_getElem? (i := 77) rfl))) (by decide) (StrChars.Road.eqW (W := 0) hZ (own_wE hw) (kI := 4) (hw _ (List.mem_of_getElem? (i := 2) rfl)) (cs := tx228) c300 c301 c302 c303 (StrChars.Road.codOf (n := tx228.length) rfl (fun c hc => (hp228 c hc).2)) (own_up hp228) hlen228 (ds := ([(114 : Int32), (101 : Int32), (108 : Int32), (97 : Int32), (121 : Int32)] : List Int32)) Es296 Fv296 Fc296 V296 own_cod_relay own_bd_relay (Nat.le_of_ble_eq_true rfl) (Sta.ext (c304).2 S_cs) hcs (by decide) (by decide)) qa306 qc306 (g := (mkF mM 280 #[.val (.int p1), .val (.int p2), .val (.int p3), .val (.int p4), .val (.int p5), .val (.int z2), .val (.int z4), .val (.ref a6), .val (.int nv), .val (.ref b33), .val (.int j222), .val (.ref xm228), .unset] [(.ref a296), (.ref xm228)])) rfl (by rw [hml]; rfl) (Steps.refl _) (argsL := [(.ref a296)]) (rest := []) (lenOf pd_9 rfl) rfl (by show 2 * 0 + _ ≤ _; exact Nat.le_of_eq rfl) (hb hby at_280) (fun _ _ => ⟨rfl, e296, (by decide : 17 + 0 ≤ _), (by decide : 138 + 0 ≤ _)⟩)
          dsimp only [Pt.U, Pt.locs, Pt.cells, Pt.slots] at X306 l306 y306 z306 st306 hQ306
          subst l306 y306 z306
          obtain ⟨hq306, hL306, e306⟩ := hQ306
          subst hL306
          obtain ⟨r306, hv306, hr306⟩ : ∃ r : Int32, vq306 = some (.int r) ∧ r = (if tx228 = ([(114 : Int32), (101 : Int32), (108 : Int32), (97 : Int32), (121 : Int32)] : List Int32) then (1 : Int32) else (0 : Int32)) := hq306.elim (fun q => ⟨1, q.1, (if_pos q.2).symm⟩) (fun q => ⟨0, q.1, (if_neg q.2).symm⟩)
          subst hv306
          have N306 := Fr.app N285 (Fr.nil n0)
          have pr307 : ∀ tg, Steps pP.tables eE below (T306.setTop (mkF mM 283 #[.val (.int p1), .val (.int p2), .val (.int p3), .val (.int p4), .val (.int p5), .val (.int z2), .val (.int z4), .val (.ref a6), .val (.int nv), .val (.ref b33), .val (.int j222), .val (.ref xm228), .unset] [(.int r306)])) tg → Steps pP.tables eE below (s₁.setTop (entryFrame mM #[(.int p1), (.int p2), (.int p3), (.int p4), (.int p5)] maxLocals)) tg := fun tg kg => pr299 _ (st306.trans kg)
          by_cases hd308 : tx228 = ([(114 : Int32), (101 : Int32), (108 : Int32), (97 : Int32), (121 : Int32)] : List Int32)
          ·
            rw [if_pos hd308] at hr306
            subst hr306
            have pr309 : ∀ tg, Steps pP.tables eE below (T306.setTop (mkF mM 286 #[.val (.int p1), .val (.int p2), .val (.int p3), .val (.int p4), .val (.int p5), .val (.int z2), .val (.int z4), .val (.ref a6), .val (.int nv), .val (.ref b33), .val (.int j222), .val (.ref xm228), .unset] [])) tg → Steps pP.tables eE below (s₁.setTop (entryFrame mM #[(.int p1), (.int p2), (.int p3), (.int p4), (.int p5)] maxLocals)) tg := fun tg kg => pr307 _ (by
              show Steps pP.tables eE below (T306.setTop (mkF mM 283 #[.val (.int p1), .val (.int p2), .val (.int p3), .val (.int p4), .val (.int p5), .val (.int z2), .val (.int z4), .val (.ref a6), .val (.int nv), .val (.ref b33), .val (.int j222), .val (.ref xm228), .unset] [(.int (1 : Int32))])) _
              refine XS.ifNo X306.here hx rfl (hb hby at_283) rfl ((if0 _ _).trans (feq (by decide)).1) ?_
              exact kg)
            obtain ⟨T310, X310, e310, st310⟩ := getS2 X306 hx hZ hown (host := "") (Or.inl (hw _ (List.mem_of_getElem? (i := 98) rfl))) Via.refl e306 (Sta.ext (c304).2 S_RELAYED) (g := (mkF mM 286 #[.val (.int p1), .val (.int p2), .val (.int p3), .val (.int p4), .val (.int p5), .val (.int z2), .val (.int z4), .val (.ref a6), .val (.int nv), .val (.ref b33), .val (.int j222), .val (.ref xm228), .unset] [])) rfl (hb hby at_286)
            have pr311 : ∀ tg, Steps pP.tables eE below (T310.setTop (mkF mM 289 #[.val (.int p1), .val (.int p2), .val (.int p3), .val (.int p4), .val (.int p5), .val (.int z2), .val (.int z4), .val (.ref a6), .val (.int nv), .val (.ref b33), .val (.int j222), .val (.ref xm228), .unset] [(.ref a_RELAYED)])) tg → Steps pP.tables eE below (s₁.setTop (entryFrame mM #[(.int p1), (.int p2), (.int p3), (.int p4), (.int p5)] maxLocals)) tg := fun tg kg => pr309 _ (st310 _ kg)
            have pr312 : ∀ tg, Steps pP.tables eE below (T310.setTop (mkF mM 299 #[.val (.int p1), .val (.int p2), .val (.int p3), .val (.int p4), .val (.int p5), .val (.int z2), .val (.int z4), .val (.ref a6), .val (.int nv), .val (.ref b33), .val (.int j222), .val (.ref xm228), .val (.ref a_RELAYED)] [(.ref xm228)])) tg → Steps pP.tables eE below (s₁.setTop (entryFrame mM #[(.int p1), (.int p2), (.int p3), (.int p4), (.int p5)] maxLocals)) tg := fun tg kg => pr311 _ (by
              show Steps pP.tables eE below (T310.setTop (mkF mM 289 #[.val (.int p1), .val (.int p2), .val (.int p3), .val (.int p4), .val (.int p5), .val (.int z2), .val (.int z4), .val (.ref a6), .val (.int nv), .val (.ref b33), .val (.int j222), .val (.ref xm228), .unset] [(.ref a_RELAYED)])) _
              refine XS.astore X310.here hx rfl (hb hby at_289) rfl rfl (l' := #[.val (.int p1), .val (.int p2), .val (.int p3), .val (.int p4), .val (.int p5), .val (.int z2), .val (.int z4), .val (.ref a6), .val (.int nv), .val (.ref b33), .val (.int j222), .val (.ref xm228), .val (.ref a_RELAYED)]) rfl ?_
              show Steps pP.tables eE below (T310.setTop (mkF mM 291 #[.val (.int p1), .val (.int p2), .val (.int p3), .val (.int p4), .val (.int p5), .val (.int z2), .val (.int z4), .val (.ref a6), .val (.int nv), .val (.ref b33), .val (.int j222), .val (.ref xm228), .val (.ref a_RELAYED)] [])) _
              refine XS.goto X310.here hx rfl (pc0 := 291) (pc' := 297) rfl (hb hby at_291) (by decide) (by decide) ?_
              show Steps pP.tables eE below (T310.setTop (mkF mM 297 #[.val (.int p1), .val (.int p2), .val (.int p3), .val (.int p4), .val (.int p5), .val (.int z2), .val (.int z4), .val (.ref a6), .val (.int nv), .val (.ref b33), .val (.int j222), .val (.ref xm228), .val (.ref a_RELAYED)] [])) _
              refine XS.aload X310.here hx rfl (hb hby at_297) rfl rfl ?_
              exact kg)
            obtain ⟨_, _, ⟨T313, L313, kk313, nn313⟩, -, X313, ⟨Lc313, hQ313, l313, y313, z313⟩, st313⟩ := Jvm.LawKit.callS X310 hx (y := (⟨"com/example/thawline/thawline/CandidateType", "ofToken", "(Ljava/lang/String;)Lcom/example/thawline/thawline/CandidateType;"⟩ : MethodName)) hown (mvT hZ (hw _ (List.mem_of_getElem? (i := 87) rfl))) (mvT hZ (hw _ (List.mem_of_getElem? (i := 88) rfl))) (mvT hZ (hw _ (List.mem_of_getElem? (i := 85) rfl))) (mvT hZ (hw _ (List.mem_of_getElem? (i := 89) rfl))) (by decide) (backOf (W := 0) (rm43 l Z a0 hw [] cs al kal a_HOST t_HOST u_HOST k_HOST a_SERVER_REFLEXIVE t_SERVER_REFLEXIVE u_SERVER_REFLEXIVE k_SERVER_REFLEXIVE a_PEER_REFLEXIVE t_PEER_REFLEXIVE u_PEER_REFLEXIVE k_PEER_REFLEXIVE a_RELAYED t_RELAYED u_RELAYED k_RELAYED xm228 tm228 km228 tx228 h296 n0 c305 c304 S_cs hcs S_ALL V_ALL S_HOST E_HOST F_HOST Et_HOST Fc_HOST Fv_HOST Vt_HOST S_SERVER_REFLEXIVE E_SERVER_REFLEXIVE F_SERVER_REFLEXIVE Et_SERVER_REFLEXIVE Fc_SERVER_REFLEXIVE Fv_SERVER_REFLEXIVE Vt_SERVER_REFLEXIVE S_PEER_REFLEXIVE E_PEER_REFLEXIVE F_PEER_REFLEXIVE Et_PEER_REFLEXIVE Fc_PEER_REFLEXIVE Fv_PEER_REFLEXIVE Vt_PEER_REFLEXIVE S_RELAYED E_RELAYED F_RELAYED Et_RELAYED Fc_RELAYED Fv_RELAYED Vt_RELAYED c300 c301 c302 c303 hp228 hlen228 hd245 hd266 hd287 hd308) hZ (hw _ (List.mem_of_getElem? (i := 89) rfl)) (hw _ (List.mem_of_getElem? (i := 85) rfl)) (by decide) (by decide)) (g := (mkF mM 299 #[.val (.int p1), .val (.int p2), .val (.int p3), .val (.int p4), .val (.int p5), .val (.int z2), .val (.int z4), .val (.ref a6), .val (.int nv), .val (.ref b33), .val (.int j222), .val (.ref xm228), .val (.ref a_RELAYED)] [(.ref xm228)])) rfl (by rw [hml]; rfl) (argsL := [(.ref xm228)]) (rest := []) (lenOf pd_13 rfl) rfl (by show 2 * 0 + _ ≤ _; exact Nat.le_of_eq rfl) (hb hby at_299) (fun _ _ => ⟨rfl, e310, (by decide : 17 + 0 ≤ _), (by decide : 138 + 0 ≤ _)⟩)
            dsimp only [Pt.U, Pt.locs, Pt.cells, Pt.slots] at X313 l313 y313 z313 st313 hQ313
            subst l313 y313 z313
            obtain ⟨rfl, Nq313, e313⟩ := hQ313
            have N313 := Fr.app N306 Nq313
            have pr314 : ∀ tg, Steps pP.tables eE below (T313.setTop (mkF mM 302 #[.val (.int p1), .val (.int p2), .val (.int p3), .val (.int p4), .val (.int p5), .val (.int z2), .val (.int z4), .val (.ref a6), .val (.int nv), .val (.ref b33), .val (.int j222), .val (.ref xm228), .val (.ref a_RELAYED)] [(.ref a_RELAYED)])) tg → Steps pP.tables eE below (s₁.setTop (entryFrame mM #[(.int p1), (.int p2), (.int p3), (.int p4), (.int p5)] maxLocals)) tg := fun tg kg => pr312 _ (st313 _ kg)
            have pr315 : ∀ tg, Steps pP.tables eE below (T313.setTop (mkF mM 312 #[.val (.int p1), .val (.int p2), .val (.int p3), .val (.int p4), .val (.int p5), .val (.int z2), .val (.int z4), .val (.ref a6), .val (.int nv), .val (.ref b33), .val (.int j222), .val (.ref xm228), .val (.ref a_RELAYED)] [(.int (1 : Int32))])) tg → Steps pP.tables eE below (s₁.setTop (entryFrame mM #[(.int p1), (.int p2), (.int p3), (.int p4), (.int p5)] maxLocals)) tg := fun tg kg => pr314 _ (by
              show Steps pP.tables eE below (T313.setTop (mkF mM 302 #[.val (.int p1), .val (.int p2), .val (.int p3), .val (.int p4), .val (.int p5), .val (.int z2), .val (.int z4), .val (.ref a6), .val (.int nv), .val (.ref b33), .val (.int j222), .val (.ref xm228), .val (.ref a_RELAYED)] [(.ref a_RELAYED)])) _
              refine XS.aload X313.here hx rfl (hb hby at_302) rfl rfl ?_
              show Steps pP.tables eE below (T313.setTop (mkF mM 304 #[.val (.int p1), .val (.int p2), .val (.int p3), .val (.int p4), .val (.int p5), .val (.int z2), .val (.int z4), .val (.ref a6), .val (.int nv), .val (.ref b33), .val (.int j222), .val (.ref xm228), .val (.ref a_RELAYED)] [(.ref a_RELAYED), (.ref a_RELAYED)])) _
              refine Jvm.RoadKit.acmp (g := (mkF mM 304 #[.val (.int p1), .val (.int p2), .val (.int p3), .val (.int p4), .val (.int p5), .val (.int z2), .val (.int z4), .val (.ref a6), .val (.int nv), .val (.ref b33), .val (.int j222), .val (.ref xm228), .val (.ref a_RELAYED)] [(.ref a_RELAYED), (.ref a_RELAYED)])) X313 hx rfl rfl rfl (pc0 := 304) (pc' := 307) (same := true) rfl (hb hby at_304) rfl (decide_eq_true rfl) (by decide) (by decide) ?_
              show Steps pP.tables eE below (T313.setTop (mkF mM 307 #[.val (.int p1), .val (.int p2), .val (.int p3), .val (.int p4), .val (.int p5), .val (.int z2), .val (.int z4), .val (.ref a6), .val (.int nv), .val (.ref b33), .val (.int j222), .val (.ref xm228), .val (.ref a_RELAYED)] [])) _
              refine XS.iconst X313.here hx rfl (hb hby at_307) ?_
              show Steps pP.tables eE below (T313.setTop (mkF mM 308 #[.val (.int p1), .val (.int p2), .val (.int p3), .val (.int p4), .val (.int p5), .val (.int z2), .val (.int z4), .val (.ref a6), .val (.int nv), .val (.ref b33), .val (.int j222), .val (.ref xm228), .val (.ref a_RELAYED)] [(.int (1 : Int32))])) _
              refine XS.goto X313.here hx rfl (pc0 := 308) (pc' := 312) rfl (hb hby at_308) (by decide) (by decide) ?_
              exact kg)
            obtain ⟨fs, hr, hrun, hended, hW⟩ := Jvm.Stand.leaveW (s := sS) (vm₁ := T296.vm) X313 hS (Nat.le_trans hk296 (Nat.le_of_eq (congrArg Array.size e313.symm))) (v := some (.int (1 : Int32))) (fun h => by rw [Bd.returns] at h; cases h)
            refine ⟨_, _, pr315 _ (retOut X313 hx (t := .boolean) Bd.returns rfl (Or.inl ⟨rfl, Or.inr (Or.inl rfl), _, rfl⟩) (hb hby at_312) hr), hrun, hended, _, _, rfl, ?_, hW.1, hW.2.1, hW.2.2.1, hW.2.2.2.mono (by decide) (by decide)⟩
            show Q0 Z p1 p2 p3 p4 p5 cs sf al kal a_HOST t_HOST u_HOST k_HOST a_SERVER_REFLEXIVE t_SERVER_REFLEXIVE u_SERVER_REFLEXIVE k_SERVER_REFLEXIVE a_PEER_REFLEXIVE t_PEER_REFLEXIVE u_PEER_REFLEXIVE k_PEER_REFLEXIVE a_RELAYED t_RELAYED u_RELAYED k_RELAYED h0 n0 _ T313.heap _
            rw [e313]
            exact ⟨rfl, N313⟩
          ·
            rw [if_neg hd308] at hr306
            subst hr306
            have pr316 : ∀ tg, Steps pP.tables eE below (T306.setTop (mkF mM 299 #[.val (.int p1), .val (.int p2), .val (.int p3), .val (.int p4), .val (.int p5), .val (.int z2), .val (.int z4), .val (.ref a6), .val (.int nv), .val (.ref b33), .val (.int j222), .val (.ref xm228), .val .null] [(.ref xm228)])) tg → Steps pP.tables eE below (s₁.setTop (entryFrame mM #[(.int p1), (.int p2), (.int p3), (.int p4), (.int p5)] maxLocals)) tg := fun tg kg => pr307 _ (by
              show Steps pP.tables eE below (T306.setTop (mkF mM 283 #[.val (.int p1), .val (.int p2), .val (.int p3), .val (.int p4), .val (.int p5), .val (.int z2), .val (.int z4), .val (.ref a6), .val (.int nv), .val (.ref b33), .val (.int j222), .val (.ref xm228), .unset] [(.int (0 : Int32))])) _
              refine XS.ifYes X306.here hx rfl (pc0 := 283) (pc' := 294) rfl (hb hby at_283) rfl ((if0 _ _).trans (teq (by decide)).1) (by decide) (by decide) ?_
              show Steps pP.tables eE below (T306.setTop (mkF mM 294 #[.val (.int p1), .val (.int p2), .val (.int p3), .val (.int p4), .val (.int p5), .val (.int z2), .val (.int z4), .val (.ref a6), .val (.int nv), .val (.ref b33), .val (.int j222), .val (.ref xm228), .unset] [])) _
              refine XS.aconstNull X306.here hx rfl (hb hby at_294) ?_
              show Steps pP.tables eE below (T306.setTop (mkF mM 295 #[.val (.int p1), .val (.int p2), .val (.int p3), .val (.int p4), .val (.int p5), .val (.int z2), .val (.int z4), .val (.ref a6), .val (.int nv), .val (.ref b33), .val (.int j222), .val (.ref xm228), .unset] [.null])) _
              refine XS.astore X306.here hx rfl (hb hby at_295) rfl rfl (l' := #[.val (.int p1), .val (.int p2), .val (.int p3), .val (.int p4), .val (.int p5), .val (.int z2), .val (.int z4), .val (.ref a6), .val (.int nv), .val (.ref b33), .val (.int j222), .val (.ref xm228), .val .null]) rfl ?_
              show Steps pP.tables eE below (T306.setTop (mkF mM 297 #[.val (.int p1), .val (.int p2), .val (.int p3), .val (.int p4), .val (.int p5), .val (.int z2), .val (.int z4), .val (.ref a6), .val (.int nv), .val (.ref b33), .val (.int j222), .val (.ref xm228), .val .null] [])) _
              refine XS.aload X306.here hx rfl (hb hby at_297) rfl rfl ?_
              exact kg)
            obtain ⟨_, _, ⟨T317, L317, kk317, nn317⟩, -, X317, ⟨Lc317, hQ317, l317, y317, z317⟩, st317⟩ := Jvm.LawKit.callS X306 hx (y := (⟨"com/example/thawline/thawline/CandidateType", "ofToken", "(Ljava/lang/String;)Lcom/example/thawline/thawline/CandidateType;"⟩ : MethodName)) hown (mvT hZ (hw _ (List.mem_of_getElem? (i := 87) rfl))) (mvT hZ (hw _ (List.mem_of_getElem? (i := 88) rfl))) (mvT hZ (hw _ (List.mem_of_getElem? (i := 85) rfl))) (mvT hZ (hw _ (List.mem_of_getElem? (i := 89) rfl))) (by decide) (backOf (W := 0) (rm44 l Z a0 hw [] cs al kal a_HOST t_HOST u_HOST k_HOST a_SERVER_REFLEXIVE t_SERVER_REFLEXIVE u_SERVER_REFLEXIVE k_SERVER_REFLEXIVE a_PEER_REFLEXIVE t_PEER_REFLEXIVE u_PEER_REFLEXIVE k_PEER_REFLEXIVE a_RELAYED t_RELAYED u_RELAYED k_RELAYED xm228 tm228 km228 tx228 h296 n0 c305 c304 S_cs hcs S_ALL V_ALL S_HOST E_HOST F_HOST Et_HOST Fc_HOST Fv_HOST Vt_HOST S_SERVER_REFLEXIVE E_SERVER_REFLEXIVE F_SERVER_REFLEXIVE Et_SERVER_REFLEXIVE Fc_SERVER_REFLEXIVE Fv_SERVER_REFLEXIVE Vt_SERVER_REFLEXIVE S_PEER_REFLEXIVE E_PEER_REFLEXIVE F_PEER_REFLEXIVE Et_PEER_REFLEXIVE Fc_PEER_REFLEXIVE Fv_PEER_REFLEXIVE Vt_PEER_REFLEXIVE S_RELAYED E_RELAYED F_RELAYED Et_RELAYED Fc_RELAYED Fv_RELAYED Vt_RELAYED c300 c301 c302 c303 hp228 hlen228 hd245 hd266 hd287 hd308) hZ (hw _ (List.mem_of_getElem? (i := 89) rfl)) (hw _ (List.mem_of_getElem? (i := 85) rfl)) (by decide) (by decide)) (g := (mkF mM 299 #[.val (.int p1), .val (.int p2), .val (.int p3), .val (.int p4), .val (.int p5), .val (.int z2), .val (.int z4), .val (.ref a6), .val (.int nv), .val (.ref b33), .val (.int j222), .val (.ref xm228), .val .null] [(.ref xm228)])) rfl (by rw [hml]; rfl) (argsL := [(.ref xm228)]) (rest := []) (lenOf pd_13 rfl) rfl (by show 2 * 0 + _ ≤ _; exact Nat.le_of_eq rfl) (hb hby at_299) (fun _ _ => ⟨rfl, e306, (by decide : 17 + 0 ≤ _), (by decide : 138 + 0 ≤ _)⟩)
            dsimp only [Pt.U, Pt.locs, Pt.cells, Pt.slots] at X317 l317 y317 z317 st317 hQ317
            subst l317 y317 z317
            obtain ⟨rfl, Nq317, e317⟩ := hQ317
            have N317 := Fr.app N306 Nq317
            have pr318 : ∀ tg, Steps pP.tables eE below (T317.setTop (mkF mM 302 #[.val (.int p1), .val (.int p2), .val (.int p3), .val (.int p4), .val (.int p5), .val (.int z2), .val (.int z4), .val (.ref a6), .val (.int nv), .val (.ref b33), .val (.int j222), .val (.ref xm228), .val .null] [.null])) tg → Steps pP.tables eE below (s₁.setTop (entryFrame mM #[(.int p1), (.int p2), (.int p3), (.int p4), (.int p5)] maxLocals)) tg := fun tg kg => pr316 _ (st317 _ kg)
            have pr319 : ∀ tg, Steps pP.tables eE below (T317.setTop (mkF mM 312 #[.val (.int p1), .val (.int p2), .val (.int p3), .val (.int p4), .val (.int p5), .val (.int z2), .val (.int z4), .val (.ref a6), .val (.int nv), .val (.ref b33), .val (.int j222), .val (.ref xm228), .val .null] [(.int (1 : Int32))])) tg → Steps pP.tables eE below (s₁.setTop (entryFrame mM #[(.int p1), (.int p2), (.int p3), (.int p4), (.int p5)] maxLocals)) tg := fun tg kg => pr318 _ (by
              show Steps pP.tables eE below (T317.setTop (mkF mM 302 #[.val (.int p1), .val (.int p2), .val (.int p3), .val (.int p4), .val (.int p5), .val (.int z2), .val (.int z4), .val (.ref a6), .val (.int nv), .val (.ref b33), .val (.int j222), .val (.ref xm228), .val .null] [.null])) _
              refine XS.aload X317.here hx rfl (hb hby at_302) rfl rfl ?_
              show Steps pP.tables eE below (T317.setTop (mkF mM 304 #[.val (.int p1), .val (.int p2), .val (.int p3), .val (.int p4), .val (.int p5), .val (.int z2), .val (.int z4), .val (.ref a6), .val (.int nv), .val (.ref b33), .val (.int j222), .val (.ref xm228), .val .null] [.null, .null])) _
              refine Jvm.RoadKit.acmp (g := (mkF mM 304 #[.val (.int p1), .val (.int p2), .val (.int p3), .val (.int p4), .val (.int p5), .val (.int z2), .val (.int z4), .val (.ref a6), .val (.int nv), .val (.ref b33), .val (.int j222), .val (.ref xm228), .val .null] [.null, .null])) X317 hx rfl rfl rfl (pc0 := 304) (pc' := 307) (same := true) rfl (hb hby at_304) rfl (decide_eq_true rfl) (by decide) (by decide) ?_
              show Steps pP.tables eE below (T317.setTop (mkF mM 307 #[.val (.int p1), .val (.int p2), .val (.int p3), .val (.int p4), .val (.int p5), .val (.int z2), .val (.int z4), .val (.ref a6), .val (.int nv), .val (.ref b33), .val (.int j222), .val (.ref xm228), .val .null] [])) _
              refine XS.iconst X317.here hx rfl (hb hby at_307) ?_
              show Steps pP.tables eE below (T317.setTop (mkF mM 308 #[.val (.int p1), .val (.int p2), .val (.int p3), .val (.int p4), .val (.int p5), .val (.int z2), .val (.int z4), .val (.ref a6), .val (.int nv), .val (.ref b33), .val (.int j222), .val (.ref xm228), .val .null] [(.int (1 : Int32))])) _
              refine XS.goto X317.here hx rfl (pc0 := 308) (pc' := 312) rfl (hb hby at_308) (by decide) (by decide) ?_
              exact kg)
            obtain ⟨fs, hr, hrun, hended, hW⟩ := Jvm.Stand.leaveW (s := sS) (vm₁ := T296.vm) X317 hS (Nat.le_trans hk296 (Nat.le_of_eq (congrArg Array.size e317.symm))) (v := some (.int (1 : Int32))) (fun h => by rw [Bd.returns] at h; cases h)
            refine ⟨_, _, pr319 _ (retOut X317 hx (t := .boolean) Bd.returns rfl (Or.inl ⟨rfl, Or.inr (Or.inl rfl), _, rfl⟩) (hb hby at_312) hr), hrun, hended, _, _, rfl, ?_, hW.1, hW.2.1, hW.2.2.1, hW.2.2.2.mono (by decide) (by decide)⟩
            show Q0 Z p1 p2 p3 p4 p5 cs sf al kal a_HOST t_HOST u_HOST k_HOST a_SERVER_REFLEXIVE t_SERVER_REFLEXIVE u_SERVER_REFLEXIVE k_SERVER_REFLEXIVE a_PEER_REFLEXIVE t_PEER_REFLEXIVE u_PEER_REFLEXIVE k_PEER_REFLEXIVE a_RELAYED t_RELAYED u_RELAYED k_RELAYED h0 n0 _ T317.heap _
            rw [e317]
            exact ⟨rfl, N317⟩
set_option maxRecDepth 65536 in
set_option maxHeartbeats 40000000 in
theorem comes_1 {Post : Tables → Env → Array Value → State → Outcome → State → Prop} (hpost : ∀ tb e args s v u, (limb_1_1.after args s (.returned v) u = true ∧ limb_1_2.after args s (.returned v) u = true ∧ True) → ReturnedEndW s (.returned v) u (Jvm.fieldLocs frame_1_writes args s ++ Jvm.arrayLocs frame_1_arrays args s ++ Jvm.staticLocs frame_1_statics s) 32 5248 → Post tb e args s (.returned v) u) :
    ArmFor flags0 classFile x code maxLocals ret World_1 tables_1 room_1 Calls_1 rest_1 Pre_1 Post := by
  intro l hfl _ _ p e ha hc hk s m args below hf hA hF happ hP
  obtain ⟨hcalls, hrest, hpre⟩ := hP
  obtain ⟨-, -, -, hnamed, -, -, -, hat⟩ := (Spec.applies_iff hf).mp happ
  obtain ⟨hg, hn⟩ := and_e (Cond.before_iff.mp (show (Jvm.Cond.and given_1 narrow_1).before args s = true from hpre))
  obtain ⟨n1, n2⟩ := and_e hg
  obtain ⟨n3, n4⟩ := and_e n2
  obtain ⟨n5, n6⟩ := and_e n4
  obtain ⟨n7, n8⟩ := and_e n6
  obtain ⟨n9, n10⟩ := and_e n8
  obtain ⟨w0, w1, w2, w3, w4, rfl⟩ : ∃ w0 w1 w2 w3 w4 : Value, args = #[w0, w1, w2, w3, w4] := by
    have hs : args.size = 5 := by simpa [Cond.value, given_1] using n1
    obtain ⟨L⟩ := args
    match L, hs with
    | [w0, w1, w2, w3, w4], _ => exact ⟨w0, w1, w2, w3, w4, rfl⟩
  have hw := fun d (hd : d ∈ tables_1) => atoms_spec (ws := Jvm.Cond.code x code maxLocals ret :: tables_1) hat d (List.mem_cons_of_mem _ hd)
  have hfit : Fit s := fun {y c} hc i hi => by
    obtain ⟨ha, rfl⟩ := Array.getElem?_eq_some_iff.mp hc
    have q := List.all_eq_true.mp ((Array.all_eq_true_iff_forall_mem.mp hF) _ (Array.getElem_mem ha)) i (List.mem_range.mpr hi)
    simpa [Array.getElem?_eq_getElem hi] using q
  obtain ⟨hsets, hown0⟩ := atoms_of _ (rest_1_c_eq ▸ (show rest_1_c.before _ s = true from hrest))
  have hr0 := Cond.before_iff.mp hown0
  obtain ⟨i0, ei0⟩ := is_v n3
  obtain rfl : w0 = (.int i0) := Option.some.inj ei0
  obtain ⟨i1, ei1⟩ := is_v n5
  obtain rfl : w1 = (.int i1) := Option.some.inj ei1
  obtain ⟨i2, ei2⟩ := is_v n7
  obtain rfl : w2 = (.int i2) := Option.some.inj ei2
  obtain ⟨i3, ei3⟩ := is_v n9
  obtain rfl : w3 = (.int i3) := Option.some.inj ei3
  obtain ⟨i4, ei4⟩ := is_v n10
  obtain rfl : w4 = (.int i4) := Option.some.inj ei4
  obtain ⟨n11, n12⟩ := and_e hn
  obtain ⟨n13, n14⟩ := and_e n12
  obtain ⟨n15, n16⟩ := and_e n14
  obtain ⟨n17, n18⟩ := and_e n16
  obtain ⟨n19, n20⟩ := and_e n18
  obtain ⟨n21, n22⟩ := and_e n20
  obtain ⟨n23, n24⟩ := and_e n22
  obtain ⟨n25, n26⟩ := and_e n24
  obtain ⟨n27, n28⟩ := and_e n26
  obtain ⟨n29, n30⟩ := and_e n28
  obtain ⟨n31, n32⟩ := and_e n30
  obtain ⟨n33, n34⟩ := and_e n32
  obtain ⟨n35, n36⟩ := and_e n34
  obtain ⟨n37, n38⟩ := and_e n36
  obtain ⟨n39, n40⟩ := and_e n38
  obtain ⟨n41, n42⟩ := and_e n40
  obtain ⟨n43, n44⟩ := and_e n42
  obtain ⟨n45, n46⟩ := and_e n44
  obtain ⟨n47, n48⟩ := and_e n46
  obtain ⟨n49, n50⟩ := and_e n48
  obtain ⟨n51, n52⟩ := and_e n50
  obtain ⟨n53, n54⟩ := and_e n52
  obtain ⟨n55, n56⟩ := and_e n54
  obtain ⟨n57, n58⟩ := and_e n56
  obtain ⟨n59, n60⟩ := and_e n58
  obtain ⟨n61, n62⟩ := and_e n60
  obtain ⟨n63, n64⟩ := and_e n62
  obtain ⟨n65, n66⟩ := and_e n64
  obtain ⟨n67, n68⟩ := and_e n66
  obtain ⟨n69, n70⟩ := and_e n68
  obtain ⟨n71, n72⟩ := and_e n70
  obtain ⟨n73, n74⟩ := and_e n72
  obtain ⟨n75, n76⟩ := and_e n74
  obtain ⟨n77, n78⟩ := and_e n76
  obtain ⟨n79, n80⟩ := and_e n78
  obtain ⟨n81, n82⟩ := and_e n80
  obtain ⟨n83, n84⟩ := and_e n82
  obtain ⟨n85, n86⟩ := and_e n84
  obtain ⟨n87, n88⟩ := and_e n86
  obtain ⟨n89, n90⟩ := and_e n88
  obtain ⟨n91, n92⟩ := and_e n90
  obtain ⟨n93, n94⟩ := and_e n92
  obtain ⟨n95, n96⟩ := and_e n94
  obtain ⟨n97, n98⟩ := and_e n96
  obtain ⟨a_HOST, ea_HOST⟩ := exa_v n11
  have S_HOST : Sta s s.heap "com/example/thawline/thawline/CandidateType" "HOST" "Lcom/example/thawline/thawline/CandidateType;" (.ref a_HOST) := Sta.start ea_HOST (Or.inr ⟨(hw _ (List.mem_of_getElem? (i := 85) rfl)), (hw _ (List.mem_of_getElem? (i := 86) rfl))⟩)
  have E_HOST : Exa s s.heap a_HOST "com/example/thawline/thawline/CandidateType" := Exa.start ea_HOST n11
  obtain ⟨a_RELAYED, ea_RELAYED⟩ := exa_v n35
  have S_RELAYED : Sta s s.heap "com/example/thawline/thawline/CandidateType" "RELAYED" "Lcom/example/thawline/thawline/CandidateType;" (.ref a_RELAYED) := Sta.start ea_RELAYED (Or.inr ⟨(hw _ (List.mem_of_getElem? (i := 85) rfl)), (hw _ (List.mem_of_getElem? (i := 99) rfl))⟩)
  have E_RELAYED : Exa s s.heap a_RELAYED "com/example/thawline/thawline/CandidateType" := Exa.start ea_RELAYED n35
  obtain ⟨a_SERVER_REFLEXIVE, ea_SERVER_REFLEXIVE⟩ := exa_v n37
  have S_SERVER_REFLEXIVE : Sta s s.heap "com/example/thawline/thawline/CandidateType" "SERVER_REFLEXIVE" "Lcom/example/thawline/thawline/CandidateType;" (.ref a_SERVER_REFLEXIVE) := Sta.start ea_SERVER_REFLEXIVE (Or.inr ⟨(hw _ (List.mem_of_getElem? (i := 85) rfl)), (hw _ (List.mem_of_getElem? (i := 100) rfl))⟩)
  have E_SERVER_REFLEXIVE : Exa s s.heap a_SERVER_REFLEXIVE "com/example/thawline/thawline/CandidateType" := Exa.start ea_SERVER_REFLEXIVE n37
  obtain ⟨a_PEER_REFLEXIVE, ea_PEER_REFLEXIVE⟩ := exa_v n49
  have S_PEER_REFLEXIVE : Sta s s.heap "com/example/thawline/thawline/CandidateType" "PEER_REFLEXIVE" "Lcom/example/thawline/thawline/CandidateType;" (.ref a_PEER_REFLEXIVE) := Sta.start ea_PEER_REFLEXIVE (Or.inr ⟨(hw _ (List.mem_of_getElem? (i := 85) rfl)), (hw _ (List.mem_of_getElem? (i := 101) rfl))⟩)
  have E_PEER_REFLEXIVE : Exa s s.heap a_PEER_REFLEXIVE "com/example/thawline/thawline/CandidateType" := Exa.start ea_PEER_REFLEXIVE n49
  obtain ⟨cs, ecs⟩ := is_v (Cond.before_iff.mp (hsets _ (List.mem_of_getElem? (i := 1) rfl)))
  have S_cs : Sta s s.heap "java/lang/String" "COMPACT_STRINGS" "Z" (.int cs) := Sta.start ecs (Or.inl (hsets _ (List.mem_of_getElem? (i := 0) rfl)))
  have hcw0 := (hsets _ (List.mem_of_getElem? (i := 2) rfl))
  have hcs : ¬ (cs = (0 : Int32)) := gotF (Cond.eq_ints ecs (Term.int_eval (0))) (not_v (Cond.before_iff.mp hcw0))
  obtain ⟨sf, esf, rsf⟩ := isR_v (Cond.before_iff.mp (hsets _ (List.mem_of_getElem? (i := 8) rfl)))
  have S_sf : Sta s s.heap "jdk/internal/util/Preconditions" "SIOOBE_FORMATTER" "Ljava/util/function/BiFunction;" sf := Sta.start esf (Or.inl (hsets _ (List.mem_of_getElem? (i := 7) rfl)))
  obtain ⟨al, eal⟩ := arr_v n13
  have S_ALL : Sta s s.heap "com/example/thawline/thawline/CandidateType" "ALL" "[Lcom/example/thawline/thawline/CandidateType;" (.ref al) := Sta.start eal (Or.inr ⟨(hw _ (List.mem_of_getElem? (i := 85) rfl)), (hw _ (List.mem_of_getElem? (i := 91) rfl))⟩)
  obtain ⟨cal, Aal⟩ := Arr.start eal n13
  obtain ⟨hl1, hl2⟩ := own_len eal Aal (eqv_i (Term.int_eval (4)) n15)
  have hv0 : cal.slots[0]? = some (.ref a_HOST) := (elem_in (own_eqr ea_HOST n17) eal (Term.int_eval (0)) Aal.1).2
  have hv1 : cal.slots[1]? = some (.ref a_SERVER_REFLEXIVE) := (elem_in (own_eqr ea_SERVER_REFLEXIVE n39) eal (Term.int_eval (1)) Aal.1).2
  have hv2 : cal.slots[2]? = some (.ref a_PEER_REFLEXIVE) := (elem_in (own_eqr ea_PEER_REFLEXIVE n51) eal (Term.int_eval (2)) Aal.1).2
  have hv3 : cal.slots[3]? = some (.ref a_RELAYED) := (elem_in (own_eqr ea_RELAYED n61) eal (Term.int_eval (3)) Aal.1).2
  have V_ALL : Arv s s.heap al cal.cls (.object "com/example/thawline/thawline/CandidateType") (4 : Int32) [(.ref a_HOST), (.ref a_SERVER_REFLEXIVE), (.ref a_PEER_REFLEXIVE), (.ref a_RELAYED)] .null := Arv.start hfit Aal hl1 hl2 (by decide) rfl ⟨hv0, hv1, hv2, hv3, trivial⟩
  obtain ⟨t_HOST, et_HOST⟩ := exa_v n19
  have F_HOST : Fld s s.heap a_HOST "com/example/thawline/thawline/CandidateType" "token" "Ljava/lang/String;" (.ref t_HOST) := Fld.start ((fld_at ea_HOST).symm.trans et_HOST)
  have Et_HOST : Exa s s.heap t_HOST "java/lang/String" := Exa.start et_HOST n19
  have Fc_HOST : Fld s s.heap t_HOST "java/lang/String" "coder" "B" (.int (0 : Int32)) := Fld.start ((fld_at et_HOST).symm.trans (eqv_i (Term.int_eval (0)) n21))
  obtain ⟨u_HOST, eu_HOST⟩ := arr_v n23
  have Fv_HOST : Fld s s.heap t_HOST "java/lang/String" "value" "[B" (.ref u_HOST) := Fld.start ((fld_at et_HOST).symm.trans eu_HOST)
  obtain ⟨cu_HOST, Au_HOST⟩ := Arr.start eu_HOST n23
  obtain ⟨lu1_HOST, lu2_HOST⟩ := own_len eu_HOST Au_HOST (eqv_i (Term.int_eval (4)) n25)
  have hu0_HOST : cu_HOST.slots[0]? = some (.int (104 : Int32)) := (elem_in (eqv_i (Term.int_eval (104)) n27) eu_HOST (Term.int_eval (0)) Au_HOST.1).2
  have hu1_HOST : cu_HOST.slots[1]? = some (.int (111 : Int32)) := (elem_in (eqv_i (Term.int_eval (111)) n29) eu_HOST (Term.int_eval (1)) Au_HOST.1).2
  have hu2_HOST : cu_HOST.slots[2]? = some (.int (115 : Int32)) := (elem_in (eqv_i (Term.int_eval (115)) n31) eu_HOST (Term.int_eval (2)) Au_HOST.1).2
  have hu3_HOST : cu_HOST.slots[3]? = some (.int (116 : Int32)) := (elem_in (eqv_i (Term.int_eval (116)) n33) eu_HOST (Term.int_eval (3)) Au_HOST.1).2
  have Vt_HOST : Arv s s.heap u_HOST cu_HOST.cls .byte (4 : Int32) [(.int (104 : Int32)), (.int (111 : Int32)), (.int (115 : Int32)), (.int (116 : Int32))] (.int (0 : Int32)) := Arv.start hfit Au_HOST lu1_HOST lu2_HOST (by decide) rfl ⟨hu0_HOST, hu1_HOST, hu2_HOST, hu3_HOST, trivial⟩
  obtain ⟨t_SERVER_REFLEXIVE, et_SERVER_REFLEXIVE⟩ := exa_v n41
  have F_SERVER_REFLEXIVE : Fld s s.heap a_SERVER_REFLEXIVE "com/example/thawline/thawline/CandidateType" "token" "Ljava/lang/String;" (.ref t_SERVER_REFLEXIVE) := Fld.start ((fld_at ea_SERVER_REFLEXIVE).symm.trans et_SERVER_REFLEXIVE)
  have Et_SERVER_REFLEXIVE : Exa s s.heap t_SERVER_REFLEXIVE "java/lang/String" := Exa.start et_SERVER_REFLEXIVE n41
  have Fc_SERVER_REFLEXIVE : Fld s s.heap t_SERVER_REFLEXIVE "java/lang/String" "coder" "B" (.int (0 : Int32)) := Fld.start ((fld_at et_SERVER_REFLEXIVE).symm.trans (eqv_i (Term.int_eval (0)) n43))
  obtain ⟨u_SERVER_REFLEXIVE, eu_SERVER_REFLEXIVE⟩ := arr_v n45
  have Fv_SERVER_REFLEXIVE : Fld s s.heap t_SERVER_REFLEXIVE "java/lang/String" "value" "[B" (.ref u_SERVER_REFLEXIVE) := Fld.start ((fld_at et_SERVER_REFLEXIVE).symm.trans eu_SERVER_REFLEXIVE)
  obtain ⟨cu_SERVER_REFLEXIVE, Au_SERVER_REFLEXIVE⟩ := Arr.start eu_SERVER_REFLEXIVE n45
  obtain ⟨lu1_SERVER_REFLEXIVE, lu2_SERVER_REFLEXIVE⟩ := own_len eu_SERVER_REFLEXIVE Au_SERVER_REFLEXIVE (eqv_i (Term.int_eval (5)) n47)
  have hu0_SERVER_REFLEXIVE : cu_SERVER_REFLEXIVE.slots[0]? = some (.int (115 : Int32)) := (elem_in (eqv_i (Term.int_eval (115)) n71) eu_SERVER_REFLEXIVE (Term.int_eval (0)) Au_SERVER_REFLEXIVE.1).2
  have hu1_SERVER_REFLEXIVE : cu_SERVER_REFLEXIVE.slots[1]? = some (.int (114 : Int32)) := (elem_in (eqv_i (Term.int_eval (114)) n73) eu_SERVER_REFLEXIVE (Term.int_eval (1)) Au_SERVER_REFLEXIVE.1).2
  have hu2_SERVER_REFLEXIVE : cu_SERVER_REFLEXIVE.slots[2]? = some (.int (102 : Int32)) := (elem_in (eqv_i (Term.int_eval (102)) n75) eu_SERVER_REFLEXIVE (Term.int_eval (2)) Au_SERVER_REFLEXIVE.1).2
  have hu3_SERVER_REFLEXIVE : cu_SERVER_REFLEXIVE.slots[3]? = some (.int (108 : Int32)) := (elem_in (eqv_i (Term.int_eval (108)) n77) eu_SERVER_REFLEXIVE (Term.int_eval (3)) Au_SERVER_REFLEXIVE.1).2
  have hu4_SERVER_REFLEXIVE : cu_SERVER_REFLEXIVE.slots[4]? = some (.int (120 : Int32)) := (elem_in (eqv_i (Term.int_eval (120)) n79) eu_SERVER_REFLEXIVE (Term.int_eval (4)) Au_SERVER_REFLEXIVE.1).2
  have Vt_SERVER_REFLEXIVE : Arv s s.heap u_SERVER_REFLEXIVE cu_SERVER_REFLEXIVE.cls .byte (5 : Int32) [(.int (115 : Int32)), (.int (114 : Int32)), (.int (102 : Int32)), (.int (108 : Int32)), (.int (120 : Int32))] (.int (0 : Int32)) := Arv.start hfit Au_SERVER_REFLEXIVE lu1_SERVER_REFLEXIVE lu2_SERVER_REFLEXIVE (by decide) rfl ⟨hu0_SERVER_REFLEXIVE, hu1_SERVER_REFLEXIVE, hu2_SERVER_REFLEXIVE, hu3_SERVER_REFLEXIVE, hu4_SERVER_REFLEXIVE, trivial⟩
  obtain ⟨t_PEER_REFLEXIVE, et_PEER_REFLEXIVE⟩ := exa_v n53
  have F_PEER_REFLEXIVE : Fld s s.heap a_PEER_REFLEXIVE "com/example/thawline/thawline/CandidateType" "token" "Ljava/lang/String;" (.ref t_PEER_REFLEXIVE) := Fld.start ((fld_at ea_PEER_REFLEXIVE).symm.trans et_PEER_REFLEXIVE)
  have Et_PEER_REFLEXIVE : Exa s s.heap t_PEER_REFLEXIVE "java/lang/String" := Exa.start et_PEER_REFLEXIVE n53
  have Fc_PEER_REFLEXIVE : Fld s s.heap t_PEER_REFLEXIVE "java/lang/String" "coder" "B" (.int (0 : Int32)) := Fld.start ((fld_at et_PEER_REFLEXIVE).symm.trans (eqv_i (Term.int_eval (0)) n55))
  obtain ⟨u_PEER_REFLEXIVE, eu_PEER_REFLEXIVE⟩ := arr_v n57
  have Fv_PEER_REFLEXIVE : Fld s s.heap t_PEER_REFLEXIVE "java/lang/String" "value" "[B" (.ref u_PEER_REFLEXIVE) := Fld.start ((fld_at et_PEER_REFLEXIVE).symm.trans eu_PEER_REFLEXIVE)
  obtain ⟨cu_PEER_REFLEXIVE, Au_PEER_REFLEXIVE⟩ := Arr.start eu_PEER_REFLEXIVE n57
  obtain ⟨lu1_PEER_REFLEXIVE, lu2_PEER_REFLEXIVE⟩ := own_len eu_PEER_REFLEXIVE Au_PEER_REFLEXIVE (eqv_i (Term.int_eval (5)) n59)
  have hu0_PEER_REFLEXIVE : cu_PEER_REFLEXIVE.slots[0]? = some (.int (112 : Int32)) := (elem_in (eqv_i (Term.int_eval (112)) n81) eu_PEER_REFLEXIVE (Term.int_eval (0)) Au_PEER_REFLEXIVE.1).2
  have hu1_PEER_REFLEXIVE : cu_PEER_REFLEXIVE.slots[1]? = some (.int (114 : Int32)) := (elem_in (eqv_i (Term.int_eval (114)) n83) eu_PEER_REFLEXIVE (Term.int_eval (1)) Au_PEER_REFLEXIVE.1).2
  have hu2_PEER_REFLEXIVE : cu_PEER_REFLEXIVE.slots[2]? = some (.int (102 : Int32)) := (elem_in (eqv_i (Term.int_eval (102)) n85) eu_PEER_REFLEXIVE (Term.int_eval (2)) Au_PEER_REFLEXIVE.1).2
  have hu3_PEER_REFLEXIVE : cu_PEER_REFLEXIVE.slots[3]? = some (.int (108 : Int32)) := (elem_in (eqv_i (Term.int_eval (108)) n87) eu_PEER_REFLEXIVE (Term.int_eval (3)) Au_PEER_REFLEXIVE.1).2
  have hu4_PEER_REFLEXIVE : cu_PEER_REFLEXIVE.slots[4]? = some (.int (120 : Int32)) := (elem_in (eqv_i (Term.int_eval (120)) n89) eu_PEER_REFLEXIVE (Term.int_eval (4)) Au_PEER_REFLEXIVE.1).2
  have Vt_PEER_REFLEXIVE : Arv s s.heap u_PEER_REFLEXIVE cu_PEER_REFLEXIVE.cls .byte (5 : Int32) [(.int (112 : Int32)), (.int (114 : Int32)), (.int (102 : Int32)), (.int (108 : Int32)), (.int (120 : Int32))] (.int (0 : Int32)) := Arv.start hfit Au_PEER_REFLEXIVE lu1_PEER_REFLEXIVE lu2_PEER_REFLEXIVE (by decide) rfl ⟨hu0_PEER_REFLEXIVE, hu1_PEER_REFLEXIVE, hu2_PEER_REFLEXIVE, hu3_PEER_REFLEXIVE, hu4_PEER_REFLEXIVE, trivial⟩
  obtain ⟨t_RELAYED, et_RELAYED⟩ := exa_v n63
  have F_RELAYED : Fld s s.heap a_RELAYED "com/example/thawline/thawline/CandidateType" "token" "Ljava/lang/String;" (.ref t_RELAYED) := Fld.start ((fld_at ea_RELAYED).symm.trans et_RELAYED)
  have Et_RELAYED : Exa s s.heap t_RELAYED "java/lang/String" := Exa.start et_RELAYED n63
  have Fc_RELAYED : Fld s s.heap t_RELAYED "java/lang/String" "coder" "B" (.int (0 : Int32)) := Fld.start ((fld_at et_RELAYED).symm.trans (eqv_i (Term.int_eval (0)) n65))
  obtain ⟨u_RELAYED, eu_RELAYED⟩ := arr_v n67
  have Fv_RELAYED : Fld s s.heap t_RELAYED "java/lang/String" "value" "[B" (.ref u_RELAYED) := Fld.start ((fld_at et_RELAYED).symm.trans eu_RELAYED)
  obtain ⟨cu_RELAYED, Au_RELAYED⟩ := Arr.start eu_RELAYED n67
  obtain ⟨lu1_RELAYED, lu2_RELAYED⟩ := own_len eu_RELAYED Au_RELAYED (eqv_i (Term.int_eval (5)) n69)
  have hu0_RELAYED : cu_RELAYED.slots[0]? = some (.int (114 : Int32)) := (elem_in (eqv_i (Term.int_eval (114)) n91) eu_RELAYED (Term.int_eval (0)) Au_RELAYED.1).2
  have hu1_RELAYED : cu_RELAYED.slots[1]? = some (.int (101 : Int32)) := (elem_in (eqv_i (Term.int_eval (101)) n93) eu_RELAYED (Term.int_eval (1)) Au_RELAYED.1).2
  have hu2_RELAYED : cu_RELAYED.slots[2]? = some (.int (108 : Int32)) := (elem_in (eqv_i (Term.int_eval (108)) n95) eu_RELAYED (Term.int_eval (2)) Au_RELAYED.1).2
  have hu3_RELAYED : cu_RELAYED.slots[3]? = some (.int (97 : Int32)) := (elem_in (eqv_i (Term.int_eval (97)) n97) eu_RELAYED (Term.int_eval (3)) Au_RELAYED.1).2
  have hu4_RELAYED : cu_RELAYED.slots[4]? = some (.int (121 : Int32)) := (elem_in (eqv_i (Term.int_eval (121)) n98) eu_RELAYED (Term.int_eval (4)) Au_RELAYED.1).2
  have Vt_RELAYED : Arv s s.heap u_RELAYED cu_RELAYED.cls .byte (5 : Int32) [(.int (114 : Int32)), (.int (101 : Int32)), (.int (108 : Int32)), (.int (97 : Int32)), (.int (121 : Int32))] (.int (0 : Int32)) := Arv.start hfit Au_RELAYED lu1_RELAYED lu2_RELAYED (by decide) rfl ⟨hu0_RELAYED, hu1_RELAYED, hu2_RELAYED, hu3_RELAYED, hu4_RELAYED, trivial⟩
  obtain ⟨n, o, h1, h2, h3, _, L, rfl, ⟨rfl, N⟩, hq⟩ := rm0 l s _ hw tables_1 i0 i1 i2 i3 i4 cs sf al cal.cls a_HOST t_HOST u_HOST cu_HOST.cls a_SERVER_REFLEXIVE t_SERVER_REFLEXIVE u_SERVER_REFLEXIVE cu_SERVER_REFLEXIVE.cls a_PEER_REFLEXIVE t_PEER_REFLEXIVE u_PEER_REFLEXIVE cu_PEER_REFLEXIVE.cls a_RELAYED t_RELAYED u_RELAYED cu_RELAYED.cls s.heap s.heap.size (Nat.le_refl _) (Old.start s) hcalls.1 hcw0 S_cs hcs S_sf rsf S_ALL V_ALL S_HOST E_HOST F_HOST Et_HOST Fc_HOST Fv_HOST Vt_HOST S_SERVER_REFLEXIVE E_SERVER_REFLEXIVE F_SERVER_REFLEXIVE Et_SERVER_REFLEXIVE Fc_SERVER_REFLEXIVE Fv_SERVER_REFLEXIVE Vt_SERVER_REFLEXIVE S_PEER_REFLEXIVE E_PEER_REFLEXIVE F_PEER_REFLEXIVE Et_PEER_REFLEXIVE Fc_PEER_REFLEXIVE Fv_PEER_REFLEXIVE Vt_PEER_REFLEXIVE S_RELAYED E_RELAYED F_RELAYED Et_RELAYED Fc_RELAYED Fv_RELAYED Vt_RELAYED p e ha hc hk s m _ below hf ((Spec.applies_iff_loose hf).mp happ).1 ⟨rfl, rfl, rfl⟩ trivial
  refine ⟨n, _, h1, h2, h3, hpost _ _ _ _ _ _ ⟨Cond.after_iff.mpr rfl, Cond.after_iff.mpr (eq_i res_at (Term.int_eval (1)) rfl), trivial⟩ ⟨hq.1, hq.2.1, hq.2.2.1, (hq.2.2.2.sift fun y hy => Or.inr (N y hy)).mono (by decide) (by decide)⟩⟩
theorem main_1_1 : Claimed_1_1 := comes_1 fun _ _ _ _ _ _ h hF => ⟨h.1, hF⟩
theorem main_1_2 : Claimed_1_2 := comes_1 fun _ _ _ _ _ _ h hF => ⟨h.2.1, hF⟩
end Jvm.Pilot.@@N@@
namespace Jvm.Pilot.@@N@@
open Jvm Jvm.ClassFile Sem Op Lib Jvm.Free Jvm.Stand Jvm.Pilot.@@N@@.Jvm.D
/-! MADE BY PROGRAM (witnessworld.py) out of the Statement's table words and the real class files: 22 classes; the members and pool entries that the words name. The judged class is class 1, her method 1. -/
namespace start1
open Jvm.ClassFile
def u (s : String) : CpInfo := .utf8 (stringToUtf16 s)
/-- a pool by its gaps: so many unusable entries, then the entry; so many at the end -/
def gap : Nat → List CpInfo → List CpInfo
  | 0, r => r
  | n + 1, r => .unusable :: gap n r
def poolList (es : List (Nat × CpInfo)) (last : Nat) : List CpInfo := es.foldr (fun e r => gap e.1 (e.2 :: r)) (gap last [])
def pool (es : List (Nat × CpInfo)) (last : Nat) : Array CpInfo := ⟨poolList es last⟩
def fileOf (pool : Array CpInfo) (this : Nat) (attrs : Array Attribute := #[]) (ms : Array MethodInfo := #[]) (fl : Nat := 33) (sup : Nat := 0) (ifs : Array Nat := #[]) (fds : Array FieldInfo := #[]) : ClassFile where
  minorVersion := 0
  majorVersion := 65
  constantPool := pool
  accessFlags := fl
  thisClass := this
  superClass := sup
  interfaces := ifs
  fields := fds
  methods := ms
  attributes := attrs
def plain (name : String) (sup : Option ClassId) : Class where
  name := name
  kind := .ordinary
  loader := none
  accessFlags := 33
  super := sup
  interfaces := #[]
  cf := none
  fields := #[]
  methods := #[]
  instanceTypes := #[]
  staticTypes := #[]
  resolved := #[]
  callSites := []
  init := .initialized
  statics := none
  mirror := none

def pool0 : Array CpInfo := pool [(5, u "<init>"), (0, u "()V"), (1, .class_ 10), (1, u "java/lang/Object")] 113

def k0c0 : Code := { maxStack := 0, maxLocals := 1, code := object_method_1_code, exceptionTable := #[], attributes := #[] }
def k0m0 : Method := { name := "<init>", desc := "()V", sig := { parameters := [], returnType := none }, accessFlags := 1, code := some k0c0 }
/-- java/lang/Object -/
def k0 : Class := { plain "java/lang/Object" none with
  accessFlags := 33
  interfaces := #[]
  cf := some (fileOf pool0 8 #[] #[{ accessFlags := 1, nameIndex := 5, descriptorIndex := 6, attributes := #[] }] 33 0 #[] #[])
  fields := #[]
  methods := #[k0m0]
  instanceTypes := #[]
  staticTypes := #[]
  resolved := Array.replicate 124 none
  statics := none }

def pool1 : Array CpInfo := pool [(2, .class_ 4), (1, u "java/lang/Object"), (0, u "<init>"), (0, u "()V"), (0, .string 8), (0, u "host"), (0, .string 10), (0, u "srflx"), (0, .string 12), (0, u "prflx"), (0, .string 14), (0, u "relay"), (0, .methodref 16 17), (0, .class_ 18), (0, .nameAndType 19 20), (0, u "java/lang/String"), (0, u "length"), (0, u "()I"), (0, .methodref 22 23), (0, .class_ 24), (0, .nameAndType 25 26), (0, u "com/example/thawline/thawline/CandidateTypeOfTokenPinLaw"), (0, u "pick"), (0, u "(Ljava/lang/String;IIIII)C"), (0, .integer 2147483647), (0, .methodref 22 29), (0, .nameAndType 30 31), (0, u "make"), (0, u "([CI)Ljava/lang/String;"), (0, .methodref 16 33), (0, .nameAndType 34 35), (0, u "equals"), (0, u "(Ljava/lang/Object;)Z"), (0, .fieldref 37 38), (0, .class_ 39), (0, .nameAndType 40 41), (0, u "com/example/thawline/thawline/CandidateType"), (0, u "HOST"), (0, u "Lcom/example/thawline/thawline/CandidateType;"), (0, .fieldref 37 43), (0, .nameAndType 44 41), (0, u "SERVER_REFLEXIVE"), (0, .fieldref 37 46), (0, .nameAndType 47 41), (0, u "PEER_REFLEXIVE"), (0, .fieldref 37 49), (0, .nameAndType 50 41), (0, u "RELAYED"), (0, .methodref 37 52), (0, .nameAndType 53 54), (0, u "ofToken"), (0, u "(Ljava/lang/String;)Lcom/example/thawline/thawline/CandidateType;"), (0, .methodref 22 56), (0, .nameAndType 57 58), (0, u "drawn"), (0, u "(III)C"), (0, .methodref 16 60), (0, .nameAndType 61 62), (0, u "charAt"), (0, u "(I)C"), (0, .methodref 16 64), (0, .nameAndType 5 65), (0, u "([C)V"), (2, u "law"), (0, u "(IIIII)Z")] 5

def k1m0 : Method := { name := "<init>", desc := "()V", sig := { parameters := [], returnType := none }, accessFlags := 1, code := none }
def k1c1 : Code := { maxStack := 8, maxLocals := 13, code := code, exceptionTable := #[], attributes := #[] }
def k1m1 : Method := { name := "law", desc := "(IIIII)Z", sig := { parameters := [.int, .int, .int, .int, .int], returnType := some .boolean }, accessFlags := 9, code := some k1c1 }
def k1c2 : Code := { maxStack := 4, maxLocals := 3, code := method_3_code, exceptionTable := #[], attributes := #[] }
def k1m2 : Method := { name := "drawn", desc := "(III)C", sig := { parameters := [.int, .int, .int], returnType := some .char }, accessFlags := 10, code := some k1c2 }
def k1c3 : Code := { maxStack := 3, maxLocals := 6, code := method_4_code, exceptionTable := #[], attributes := #[] }
def k1m3 : Method := { name := "pick", desc := "(Ljava/lang/String;IIIII)C", sig := { parameters := [(.object "java/lang/String"), .int, .int, .int, .int, .int], returnType := some .char }, accessFlags := 10, code := some k1c3 }
def k1c4 : Code := { maxStack := 7, maxLocals := 2, code := method_5_code, exceptionTable := #[], attributes := #[] }
def k1m4 : Method := { name := "make", desc := "([CI)Ljava/lang/String;", sig := { parameters := [(.array .char), .int], returnType := some (.object "java/lang/String") }, accessFlags := 10, code := some k1c4 }
/-- com/example/thawline/thawline/CandidateTypeOfTokenPinLaw -/
def k1 : Class := { plain "com/example/thawline/thawline/CandidateTypeOfTokenPinLaw" (some 0) with
  accessFlags := 49
  interfaces := #[]
  cf := some (fileOf pool1 22 #[] #[{ accessFlags := 1, nameIndex := 5, descriptorIndex := 6, attributes := #[] }, { accessFlags := 9, nameIndex := 68, descriptorIndex := 69, attributes := #[] }, { accessFlags := 10, nameIndex := 57, descriptorIndex := 58, attributes := #[] }, { accessFlags := 10, nameIndex := 25, descriptorIndex := 26, attributes := #[] }, { accessFlags := 10, nameIndex := 30, descriptorIndex := 31, attributes := #[] }] 49 2 #[] #[])
  fields := #[]
  methods := #[k1m0, k1m1, k1m2, k1m3, k1m4]
  instanceTypes := #[]
  staticTypes := #[]
  resolved := Array.replicate 75 none
  statics := none }

def pool2 : Array CpInfo := pool [(1, .class_ 2), (0, u "java/io/Serializable"), (0, .class_ 4), (0, u "java/lang/Object")] 2

/-- java/io/Serializable -/
def k2 : Class := { plain "java/io/Serializable" (some 0) with
  accessFlags := 1537
  interfaces := #[]
  cf := some (fileOf pool2 1 #[] #[] 1537 3 #[] #[])
  fields := #[]
  methods := #[]
  instanceTypes := #[]
  staticTypes := #[]
  resolved := Array.replicate 7 none
  statics := none }

def pool3 : Array CpInfo := pool [(1, .class_ 2), (0, u "java/lang/Comparable"), (0, .class_ 4), (0, u "java/lang/Object")] 7

/-- java/lang/Comparable -/
def k3 : Class := { plain "java/lang/Comparable" (some 0) with
  accessFlags := 1537
  interfaces := #[]
  cf := some (fileOf pool3 1 #[] #[] 1537 3 #[] #[])
  fields := #[]
  methods := #[]
  instanceTypes := #[]
  staticTypes := #[]
  resolved := Array.replicate 12 none
  statics := none }

def pool4 : Array CpInfo := pool [(2, .class_ 4), (1, u "java/lang/CharSequence"), (42, .class_ 48), (0, u "java/lang/CharSequence$1CodePointIterator"), (10, .class_ 60), (0, u "java/lang/CharSequence$1CharIterator"), (5, .class_ 67), (0, u "java/lang/Object")] 63

/-- java/lang/CharSequence -/
def k4 : Class := { plain "java/lang/CharSequence" (some 0) with
  accessFlags := 1537
  interfaces := #[]
  cf := some (fileOf pool4 2 #[.nestMembers #[47, 59]] #[] 1537 66 #[] #[])
  fields := #[]
  methods := #[]
  instanceTypes := #[]
  staticTypes := #[]
  resolved := Array.replicate 131 none
  statics := none }

def pool5 : Array CpInfo := pool [(1, .class_ 2), (0, u "java/lang/constant/Constable"), (0, .class_ 4), (0, u "java/lang/Object")] 6

/-- java/lang/constant/Constable -/
def k5 : Class := { plain "java/lang/constant/Constable" (some 0) with
  accessFlags := 1537
  interfaces := #[]
  cf := some (fileOf pool5 1 #[] #[] 1537 3 #[] #[])
  fields := #[]
  methods := #[]
  instanceTypes := #[]
  staticTypes := #[]
  resolved := Array.replicate 11 none
  statics := none }

def pool6 : Array CpInfo := pool [(1, .class_ 2), (0, u "java/lang/constant/ConstantDesc"), (0, .class_ 4), (0, u "java/lang/Object")] 32

/-- java/lang/constant/ConstantDesc -/
def k6 : Class := { plain "java/lang/constant/ConstantDesc" (some 0) with
  accessFlags := 1537
  interfaces := #[]
  cf := some (fileOf pool6 1 #[] #[] 1537 3 #[] #[])
  fields := #[]
  methods := #[]
  instanceTypes := #[]
  staticTypes := #[]
  resolved := Array.replicate 37 none
  statics := none }

def pool7 : Array CpInfo := pool [(1, .methodref 2 3), (0, .class_ 4), (0, .nameAndType 5 6), (0, u "java/lang/Object"), (0, u "<init>"), (0, u "()V"), (0, .string 8), (0, u ""), (0, .fieldref 10 11), (0, .class_ 12), (0, .nameAndType 13 14), (0, u "java/lang/String"), (0, u "value"), (0, u "[B"), (0, .fieldref 10 16), (0, .nameAndType 17 18), (0, u "coder"), (0, u "B"), (2, u "hash"), (0, u "I"), (2, u "hashIsZero"), (0, u "Z"), (0, .methodref 10 28), (0, .nameAndType 5 29), (0, u "([CIILjava/lang/Void;)V"), (8, .fieldref 10 39), (0, .nameAndType 40 26), (0, u "COMPACT_STRINGS"), (1, .class_ 44), (1, u "java/lang/StringUTF16"), (0, u "compress"), (1, .methodref 42 48), (0, .nameAndType 49 50), (0, u "coderFromArrayLen"), (0, u "([BI)B"), (56, .class_ 109), (1, u "java/lang/StringLatin1"), (32, u "()Z"), (34, .methodref 42 178), (0, .nameAndType 45 179), (0, u "([CII)[B"), (154, u "()I"), (0, .methodref 10 336), (0, .nameAndType 17 337), (0, u "()B"), (25, u "([BI)C"), (27, u "(II)V"), (35, u "(I)C"), (64, .methodref 10 493), (0, .nameAndType 494 142), (0, u "isLatin1"), (0, .methodref 107 496), (0, .nameAndType 497 363), (0, u "charAt"), (3, u "checkIndex"), (5, u "length"), (33, .methodref 107 542), (0, .nameAndType 543 544), (0, u "equals"), (0, u "([B[B)Z"), (28, u "(Ljava/lang/Object;)Z"), (1, .class_ 576), (0, u "java/lang/CharSequence"), (22, u "CASE_INSENSITIVE_ORDER"), (0, u "Ljava/util/Comparator;"), (409, u "([C)V"), (42, .fieldref 1054 1055), (0, .class_ 1056), (0, .nameAndType 1057 1058), (0, u "jdk/internal/util/Preconditions"), (0, u "SIOOBE_FORMATTER"), (0, u "Ljava/util/function/BiFunction;"), (0, .methodref 1054 1060), (0, .nameAndType 501 1061), (0, u "(IILjava/util/function/BiFunction;)I"), (39, u "serialPersistentFields"), (0, u "[Ljava/io/ObjectStreamField;"), (0, .class_ 1104), (0, u "java/lang/String$CaseInsensitiveComparator"), (1, .class_ 1107), (0, u "java/io/Serializable"), (0, .class_ 1109), (0, u "java/lang/Comparable"), (0, .class_ 1111), (0, u "java/lang/constant/Constable"), (0, .class_ 1113), (0, u "java/lang/constant/ConstantDesc"), (2, u "serialVersionUID"), (0, u "J"), (3, u "REPL"), (0, u "C"), (2, u "LATIN1"), (1, u "UTF16")] 323

def k7m0 : Method := { name := "<init>", desc := "()V", sig := { parameters := [], returnType := none }, accessFlags := 1, code := none }
def k7c1 : Code := { maxStack := 5, maxLocals := 2, code := jdk_42_method_3_code, exceptionTable := #[], attributes := #[] }
def k7m1 : Method := { name := "<init>", desc := "([C)V", sig := { parameters := [(.array .char)], returnType := none }, accessFlags := 1, code := some k7c1 }
def k7c2 : Code := { maxStack := 2, maxLocals := 1, code := jdk_42_method_54_code, exceptionTable := #[], attributes := #[] }
def k7m2 : Method := { name := "length", desc := "()I", sig := { parameters := [], returnType := some .int }, accessFlags := 1, code := some k7c2 }
def k7c3 : Code := { maxStack := 2, maxLocals := 2, code := jdk_42_method_56_code, exceptionTable := #[], attributes := #[] }
def k7m3 : Method := { name := "charAt", desc := "(I)C", sig := { parameters := [.int], returnType := some .char }, accessFlags := 1, code := some k7c3 }
def k7c4 : Code := { maxStack := 2, maxLocals := 3, code := jdk_42_method_66_code, exceptionTable := #[], attributes := #[] }
def k7m4 : Method := { name := "equals", desc := "(Ljava/lang/Object;)Z", sig := { parameters := [(.object "java/lang/Object")], returnType := some .boolean }, accessFlags := 1, code := some k7c4 }
def k7c5 : Code := { maxStack := 4, maxLocals := 6, code := jdk_42_method_149_code, exceptionTable := #[], attributes := #[] }
def k7m5 : Method := { name := "<init>", desc := "([CIILjava/lang/Void;)V", sig := { parameters := [(.array .char), .int, .int, (.object "java/lang/Void")], returnType := none }, accessFlags := 2, code := some k7c5 }
def k7c6 : Code := { maxStack := 1, maxLocals := 1, code := jdk_42_method_152_code, exceptionTable := #[], attributes := #[] }
def k7m6 : Method := { name := "coder", desc := "()B", sig := { parameters := [], returnType := some .byte }, accessFlags := 0, code := some k7c6 }
def k7c7 : Code := { maxStack := 1, maxLocals := 1, code := jdk_42_method_154_code, exceptionTable := #[], attributes := #[] }
def k7m7 : Method := { name := "isLatin1", desc := "()Z", sig := { parameters := [], returnType := some .boolean }, accessFlags := 0, code := some k7c7 }
def k7c8 : Code := { maxStack := 3, maxLocals := 2, code := jdk_42_method_155_code, exceptionTable := #[], attributes := #[] }
def k7m8 : Method := { name := "checkIndex", desc := "(II)V", sig := { parameters := [.int, .int], returnType := none }, accessFlags := 8, code := some k7c8 }
/-- java/lang/String -/
def k7 : Class := { plain "java/lang/String" (some 0) with
  accessFlags := 49
  interfaces := #[2, 3, 4, 5, 6]
  cf := some (fileOf pool7 10 #[.nestMembers #[1103]] #[{ accessFlags := 1, nameIndex := 5, descriptorIndex := 6, attributes := #[] }, { accessFlags := 1, nameIndex := 5, descriptorIndex := 1010, attributes := #[] }, { accessFlags := 1, nameIndex := 507, descriptorIndex := 334, attributes := #[] }, { accessFlags := 1, nameIndex := 497, descriptorIndex := 427, attributes := #[] }, { accessFlags := 1, nameIndex := 543, descriptorIndex := 573, attributes := #[] }, { accessFlags := 2, nameIndex := 5, descriptorIndex := 29, attributes := #[] }, { accessFlags := 0, nameIndex := 17, descriptorIndex := 337, attributes := #[] }, { accessFlags := 0, nameIndex := 494, descriptorIndex := 142, attributes := #[] }, { accessFlags := 8, nameIndex := 501, descriptorIndex := 391, attributes := #[] }] 49 2 #[1106, 1108, 575, 1110, 1112] #[{ accessFlags := 18, nameIndex := 13, descriptorIndex := 14, attributes := #[] }, { accessFlags := 18, nameIndex := 17, descriptorIndex := 18, attributes := #[] }, { accessFlags := 2, nameIndex := 21, descriptorIndex := 22, attributes := #[] }, { accessFlags := 2, nameIndex := 25, descriptorIndex := 26, attributes := #[] }, { accessFlags := 26, nameIndex := 1116, descriptorIndex := 1117, attributes := #[] }, { accessFlags := 24, nameIndex := 40, descriptorIndex := 26, attributes := #[] }, { accessFlags := 26, nameIndex := 1101, descriptorIndex := 1102, attributes := #[] }, { accessFlags := 26, nameIndex := 1121, descriptorIndex := 1122, attributes := #[] }, { accessFlags := 25, nameIndex := 599, descriptorIndex := 600, attributes := #[] }, { accessFlags := 24, nameIndex := 1125, descriptorIndex := 18, attributes := #[] }, { accessFlags := 24, nameIndex := 1127, descriptorIndex := 18, attributes := #[] }])
  fields := #[{ name := "value", type := (.array .byte), accessFlags := 18, slot := 0, constantValue := 0 }, { name := "coder", type := .byte, accessFlags := 18, slot := 1, constantValue := 0 }, { name := "hash", type := .int, accessFlags := 2, slot := 2, constantValue := 0 }, { name := "hashIsZero", type := .boolean, accessFlags := 2, slot := 3, constantValue := 0 }, { name := "serialVersionUID", type := .long, accessFlags := 26, slot := 0, constantValue := 0 }, { name := "COMPACT_STRINGS", type := .boolean, accessFlags := 24, slot := 1, constantValue := 0 }, { name := "serialPersistentFields", type := (.array (.object "java/io/ObjectStreamField")), accessFlags := 26, slot := 2, constantValue := 0 }, { name := "REPL", type := .char, accessFlags := 26, slot := 3, constantValue := 0 }, { name := "CASE_INSENSITIVE_ORDER", type := (.object "java/util/Comparator"), accessFlags := 25, slot := 4, constantValue := 0 }, { name := "LATIN1", type := .byte, accessFlags := 24, slot := 5, constantValue := 0 }, { name := "UTF16", type := .byte, accessFlags := 24, slot := 6, constantValue := 0 }]
  methods := #[k7m0, k7m1, k7m2, k7m3, k7m4, k7m5, k7m6, k7m7, k7m8]
  instanceTypes := #[(.array .byte), .byte, .int, .boolean]
  staticTypes := #[.long, .boolean, (.array (.object "java/io/ObjectStreamField")), .char, (.object "java/util/Comparator"), .byte, .byte]
  resolved := Array.replicate 1451 none
  statics := some 0 }

def pool8 : Array CpInfo := pool [(1, .class_ 2), (0, u "java/lang/String"), (1, .class_ 6), (1, u "java/lang/Object"), (0, u "<init>"), (0, u "()V"), (0, .methodref 1 10), (0, .nameAndType 11 12), (0, u "checkIndex"), (0, u "(II)V"), (1, .class_ 16), (1, u "java/lang/StringLatin1"), (36, u "([BI)C"), (67, u "$assertionsDisabled"), (0, u "Z"), (98, .class_ 223), (1, u "java/lang/StringLatin1$LinesSpliterator"), (28, u "charAt"), (28, u "equals"), (0, u "([B[B)Z"), (107, .class_ 391), (0, u "java/lang/StringLatin1$CharsSpliterator")] 3

def k8m0 : Method := { name := "<init>", desc := "()V", sig := { parameters := [], returnType := none }, accessFlags := 0, code := none }
def k8c1 : Code := { maxStack := 2, maxLocals := 2, code := jdk_43_method_2_code, exceptionTable := #[], attributes := #[] }
def k8m1 : Method := { name := "charAt", desc := "([BI)C", sig := { parameters := [(.array .byte), .int], returnType := some .char }, accessFlags := 9, code := some k8c1 }
def k8c2 : Code := { maxStack := 3, maxLocals := 3, code := jdk_43_method_13_code, exceptionTable := #[], attributes := #[] }
def k8m2 : Method := { name := "equals", desc := "([B[B)Z", sig := { parameters := [(.array .byte), (.array .byte)], returnType := some .boolean }, accessFlags := 9, code := some k8c2 }
/-- java/lang/StringLatin1 -/
def k8 : Class := { plain "java/lang/StringLatin1" (some 0) with
  accessFlags := 48
  interfaces := #[]
  cf := some (fileOf pool8 14 #[.nestMembers #[390, 221]] #[{ accessFlags := 0, nameIndex := 7, descriptorIndex := 8, attributes := #[] }, { accessFlags := 9, nameIndex := 252, descriptorIndex := 53, attributes := #[] }, { accessFlags := 9, nameIndex := 281, descriptorIndex := 282, attributes := #[] }] 48 4 #[] #[{ accessFlags := 4120, nameIndex := 121, descriptorIndex := 122, attributes := #[] }])
  fields := #[{ name := "$assertionsDisabled", type := .boolean, accessFlags := 4120, slot := 0, constantValue := 0 }]
  methods := #[k8m0, k8m1, k8m2]
  instanceTypes := #[]
  staticTypes := #[.boolean]
  resolved := Array.replicate 395 none
  statics := none }

def pool9 : Array CpInfo := pool [(2, .class_ 4), (1, u "java/lang/Object"), (0, u "<init>"), (0, u "()V"), (17, .class_ 26), (1, u "jdk/internal/util/Preconditions"), (6, u "checkIndex"), (21, .class_ 56), (0, u "jdk/internal/util/Preconditions$4"), (57, .class_ 115), (0, u "jdk/internal/util/Preconditions$1"), (7, u "SIOOBE_FORMATTER"), (0, u "Ljava/util/function/BiFunction;"), (0, .class_ 126), (0, u "jdk/internal/util/Preconditions$2"), (3, u "AIOOBE_FORMATTER"), (0, .class_ 132), (0, u "jdk/internal/util/Preconditions$3"), (3, u "IOOBE_FORMATTER"), (41, u "(IILjava/util/function/BiFunction;)I")] 15

def k9m0 : Method := { name := "<init>", desc := "()V", sig := { parameters := [], returnType := none }, accessFlags := 1, code := none }
def k9c1 : Code := { maxStack := 3, maxLocals := 3, code := jdk_41_method_11_code, exceptionTable := #[], attributes := #[] }
def k9m1 : Method := { name := "checkIndex", desc := "(IILjava/util/function/BiFunction;)I", sig := { parameters := [.int, .int, (.object "java/util/function/BiFunction")], returnType := some .int }, accessFlags := 9, code := some k9c1 }
/-- jdk/internal/util/Preconditions -/
def k9 : Class := { plain "jdk/internal/util/Preconditions" (some 0) with
  accessFlags := 33
  interfaces := #[]
  cf := some (fileOf pool9 24 #[.nestMembers #[55, 131, 125, 114]] #[{ accessFlags := 1, nameIndex := 5, descriptorIndex := 6, attributes := #[] }, { accessFlags := 9, nameIndex := 33, descriptorIndex := 178, attributes := #[] }] 33 2 #[] #[{ accessFlags := 25, nameIndex := 123, descriptorIndex := 124, attributes := #[] }, { accessFlags := 25, nameIndex := 130, descriptorIndex := 124, attributes := #[] }, { accessFlags := 25, nameIndex := 136, descriptorIndex := 124, attributes := #[] }])
  fields := #[{ name := "SIOOBE_FORMATTER", type := (.object "java/util/function/BiFunction"), accessFlags := 25, slot := 0, constantValue := 0 }, { name := "AIOOBE_FORMATTER", type := (.object "java/util/function/BiFunction"), accessFlags := 25, slot := 1, constantValue := 0 }, { name := "IOOBE_FORMATTER", type := (.object "java/util/function/BiFunction"), accessFlags := 25, slot := 2, constantValue := 0 }]
  methods := #[k9m0, k9m1]
  instanceTypes := #[]
  staticTypes := #[(.object "java/util/function/BiFunction"), (.object "java/util/function/BiFunction"), (.object "java/util/function/BiFunction")]
  resolved := Array.replicate 194 none
  statics := some 1 }

def pool10 : Array CpInfo := pool [(6, .class_ 8), (1, u "java/lang/Object"), (0, u "<init>"), (0, u "()V"), (1, .class_ 14), (1, u "java/lang/StringUTF16"), (31, u "$assertionsDisabled"), (0, u "Z"), (13, u "HI_BYTE_SHIFT"), (0, u "I"), (2, u "LO_BYTE_SHIFT"), (49, .methodref 12 116), (0, .nameAndType 117 118), (0, u "compress"), (0, u "([CI[BII)I"), (3, u "([CII)[B"), (138, u "coderFromArrayLen"), (0, u "([BI)B"), (106, .class_ 371), (1, u "java/lang/StringUTF16$LinesSpliterator"), (58, u "MAX_LENGTH"), (196, .class_ 628), (0, u "java/lang/StringUTF16$CodePointsSpliterator"), (0, .class_ 630), (0, u "java/lang/StringUTF16$CharsSpliterator")] 4

def k10m0 : Method := { name := "<init>", desc := "()V", sig := { parameters := [], returnType := none }, accessFlags := 0, code := none }
def k10c1 : Code := { maxStack := 2, maxLocals := 2, code := jdk_52_method_15_code, exceptionTable := #[], attributes := #[] }
def k10m1 : Method := { name := "coderFromArrayLen", desc := "([BI)B", sig := { parameters := [(.array .byte), .int], returnType := some .byte }, accessFlags := 8, code := some k10c1 }
def k10c2 : Code := { maxStack := 5, maxLocals := 6, code := jdk_52_method_16_code, exceptionTable := #[], attributes := #[] }
def k10m2 : Method := { name := "compress", desc := "([CII)[B", sig := { parameters := [(.array .char), .int, .int], returnType := some (.array .byte) }, accessFlags := 9, code := some k10c2 }
def k10c3 : Code := { maxStack := 3, maxLocals := 7, code := jdk_52_method_21_code, exceptionTable := #[], attributes := #[] }
def k10m3 : Method := { name := "compress", desc := "([CI[BII)I", sig := { parameters := [(.array .char), .int, (.array .byte), .int, .int], returnType := some .int }, accessFlags := 9, code := some k10c3 }
/-- java/lang/StringUTF16 -/
def k10 : Class := { plain "java/lang/StringUTF16" (some 0) with
  accessFlags := 48
  interfaces := #[]
  cf := some (fileOf pool10 12 #[.nestMembers #[627, 629, 369]] #[{ accessFlags := 0, nameIndex := 9, descriptorIndex := 10, attributes := #[] }, { accessFlags := 8, nameIndex := 261, descriptorIndex := 262, attributes := #[] }, { accessFlags := 9, nameIndex := 117, descriptorIndex := 122, attributes := #[] }, { accessFlags := 9, nameIndex := 117, descriptorIndex := 118, attributes := #[] }] 48 6 #[] #[{ accessFlags := 26, nameIndex := 61, descriptorIndex := 62, attributes := #[] }, { accessFlags := 26, nameIndex := 65, descriptorIndex := 62, attributes := #[] }, { accessFlags := 24, nameIndex := 430, descriptorIndex := 62, attributes := #[] }, { accessFlags := 4120, nameIndex := 46, descriptorIndex := 47, attributes := #[] }])
  fields := #[{ name := "HI_BYTE_SHIFT", type := .int, accessFlags := 26, slot := 0, constantValue := 0 }, { name := "LO_BYTE_SHIFT", type := .int, accessFlags := 26, slot := 1, constantValue := 0 }, { name := "MAX_LENGTH", type := .int, accessFlags := 24, slot := 2, constantValue := 0 }, { name := "$assertionsDisabled", type := .boolean, accessFlags := 4120, slot := 3, constantValue := 0 }]
  methods := #[k10m0, k10m1, k10m2, k10m3]
  instanceTypes := #[]
  staticTypes := #[.int, .int, .int, .boolean]
  resolved := Array.replicate 635 none
  statics := none }

def pool11 : Array CpInfo := pool [(2, .class_ 4), (1, u "java/lang/Enum"), (0, u "name"), (0, u "Ljava/lang/String;"), (2, u "ordinal"), (0, u "I"), (1, .class_ 14), (1, u "java/lang/Object"), (4, u "hash"), (86, .class_ 108), (1, u "java/lang/Enum$EnumDesc"), (2, .class_ 112), (0, u "java/lang/constant/Constable"), (0, .class_ 114), (0, u "java/lang/Comparable"), (0, .class_ 116), (0, u "java/io/Serializable")] 87

/-- java/lang/Enum -/
def k11 : Class := { plain "java/lang/Enum" (some 0) with
  accessFlags := 1057
  interfaces := #[5, 3, 2]
  cf := some (fileOf pool11 2 #[.nestMembers #[106]] #[] 1057 12 #[111, 113, 115] #[{ accessFlags := 18, nameIndex := 5, descriptorIndex := 6, attributes := #[] }, { accessFlags := 18, nameIndex := 9, descriptorIndex := 10, attributes := #[] }, { accessFlags := 2, nameIndex := 19, descriptorIndex := 10, attributes := #[] }])
  fields := #[{ name := "name", type := (.object "java/lang/String"), accessFlags := 18, slot := 0, constantValue := 0 }, { name := "ordinal", type := .int, accessFlags := 18, slot := 1, constantValue := 0 }, { name := "hash", type := .int, accessFlags := 2, slot := 2, constantValue := 0 }]
  methods := #[]
  instanceTypes := #[(.object "java/lang/String"), .int, .int]
  staticTypes := #[]
  resolved := Array.replicate 204 none
  statics := none }

def pool12 : Array CpInfo := pool [(1, .class_ 2), (0, u "com/example/thawline/thawline/CandidateType"), (2, u "HOST"), (0, u "Lcom/example/thawline/thawline/CandidateType;"), (2, u "SERVER_REFLEXIVE"), (2, u "PEER_REFLEXIVE"), (2, u "RELAYED"), (2, u "$VALUES"), (0, u "[Lcom/example/thawline/thawline/CandidateType;"), (6, .class_ 28), (1, u "java/lang/Enum"), (6, .fieldref 1 36), (0, .nameAndType 37 38), (0, u "token"), (0, u "Ljava/lang/String;"), (2, u "typePreference"), (0, u "I"), (15, .fieldref 1 59), (0, .nameAndType 60 19), (0, u "ALL"), (0, .methodref 62 63), (0, .class_ 64), (0, .nameAndType 65 66), (0, u "java/lang/String"), (0, u "equals"), (0, u "(Ljava/lang/Object;)Z"), (24, u "(Ljava/lang/String;)Lcom/example/thawline/thawline/CandidateType;"), (7, u "ofToken")] 22

def k12c0 : Code := { maxStack := 2, maxLocals := 5, code := prog_14_method_8_code, exceptionTable := #[], attributes := #[] }
def k12m0 : Method := { name := "ofToken", desc := "(Ljava/lang/String;)Lcom/example/thawline/thawline/CandidateType;", sig := { parameters := [(.object "java/lang/String")], returnType := some (.object "com/example/thawline/thawline/CandidateType") }, accessFlags := 8, code := some k12c0 }
/-- com/example/thawline/thawline/CandidateType -/
def k12 : Class := { plain "com/example/thawline/thawline/CandidateType" (some 11) with
  accessFlags := 16433
  interfaces := #[]
  cf := some (fileOf pool12 1 #[] #[{ accessFlags := 8, nameIndex := 99, descriptorIndex := 91, attributes := #[] }] 16433 26 #[] #[{ accessFlags := 16409, nameIndex := 5, descriptorIndex := 6, attributes := #[] }, { accessFlags := 16409, nameIndex := 9, descriptorIndex := 6, attributes := #[] }, { accessFlags := 16409, nameIndex := 12, descriptorIndex := 6, attributes := #[] }, { accessFlags := 16409, nameIndex := 15, descriptorIndex := 6, attributes := #[] }, { accessFlags := 26, nameIndex := 60, descriptorIndex := 19, attributes := #[] }, { accessFlags := 18, nameIndex := 37, descriptorIndex := 38, attributes := #[] }, { accessFlags := 18, nameIndex := 41, descriptorIndex := 42, attributes := #[] }, { accessFlags := 4122, nameIndex := 18, descriptorIndex := 19, attributes := #[] }])
  fields := #[{ name := "HOST", type := (.object "com/example/thawline/thawline/CandidateType"), accessFlags := 16409, slot := 0, constantValue := 0 }, { name := "SERVER_REFLEXIVE", type := (.object "com/example/thawline/thawline/CandidateType"), accessFlags := 16409, slot := 1, constantValue := 0 }, { name := "PEER_REFLEXIVE", type := (.object "com/example/thawline/thawline/CandidateType"), accessFlags := 16409, slot := 2, constantValue := 0 }, { name := "RELAYED", type := (.object "com/example/thawline/thawline/CandidateType"), accessFlags := 16409, slot := 3, constantValue := 0 }, { name := "ALL", type := (.array (.object "com/example/thawline/thawline/CandidateType")), accessFlags := 26, slot := 4, constantValue := 0 }, { name := "token", type := (.object "java/lang/String"), accessFlags := 18, slot := 3, constantValue := 0 }, { name := "typePreference", type := .int, accessFlags := 18, slot := 4, constantValue := 0 }, { name := "$VALUES", type := (.array (.object "com/example/thawline/thawline/CandidateType")), accessFlags := 4122, slot := 5, constantValue := 0 }]
  methods := #[k12m0]
  instanceTypes := #[(.object "java/lang/String"), .int, .int, (.object "java/lang/String"), .int]
  staticTypes := #[(.object "com/example/thawline/thawline/CandidateType"), (.object "com/example/thawline/thawline/CandidateType"), (.object "com/example/thawline/thawline/CandidateType"), (.object "com/example/thawline/thawline/CandidateType"), (.array (.object "com/example/thawline/thawline/CandidateType")), (.array (.object "com/example/thawline/thawline/CandidateType"))]
  resolved := Array.replicate 122 none
  statics := some 2 }

def pool13 : Array CpInfo := pool [(9, u "<init>"), (6, .class_ 18), (1, u "java/lang/Object"), (0, u "()V"), (1, .class_ 23), (1, u "jdk/internal/util/ArraysSupport"), (0, u "LOG2_ARRAY_LONG_INDEX_SCALE"), (0, u "I"), (2, u "U"), (0, u "Ljdk/internal/misc/Unsafe;"), (8, u "BIG_ENDIAN"), (0, u "Z"), (8, u "LOG2_BYTE_BIT_SIZE"), (4, u "LOG2_ARRAY_INT_INDEX_SCALE"), (54, u "JLA"), (0, u "Ljdk/internal/access/JavaLangAccess;"), (11, u "LOG2_ARRAY_BOOLEAN_INDEX_SCALE"), (9, u "LOG2_ARRAY_BYTE_INDEX_SCALE"), (5, u "LOG2_ARRAY_CHAR_INDEX_SCALE"), (5, u "LOG2_ARRAY_SHORT_INDEX_SCALE"), (18, u "LOG2_ARRAY_FLOAT_INDEX_SCALE"), (24, u "LOG2_ARRAY_DOUBLE_INDEX_SCALE"), (89, u "T_BOOLEAN"), (2, u "T_CHAR"), (1, u "T_FLOAT"), (1, u "T_DOUBLE"), (1, u "T_BYTE"), (1, u "T_SHORT"), (1, u "T_INT"), (1, u "T_LONG"), (1, u "SOFT_MAX_ARRAY_LENGTH")] 83

def k13m0 : Method := { name := "<init>", desc := "()V", sig := { parameters := [], returnType := none }, accessFlags := 2, code := none }
/-- jdk/internal/util/ArraysSupport -/
def k13 : Class := { plain "jdk/internal/util/ArraysSupport" (some 0) with
  accessFlags := 33
  interfaces := #[]
  cf := some (fileOf pool13 21 #[] #[{ accessFlags := 2, nameIndex := 9, descriptorIndex := 19, attributes := #[] }] 33 16 #[] #[{ accessFlags := 24, nameIndex := 28, descriptorIndex := 29, attributes := #[] }, { accessFlags := 26, nameIndex := 38, descriptorIndex := 39, attributes := #[] }, { accessFlags := 25, nameIndex := 121, descriptorIndex := 25, attributes := #[] }, { accessFlags := 25, nameIndex := 131, descriptorIndex := 25, attributes := #[] }, { accessFlags := 25, nameIndex := 137, descriptorIndex := 25, attributes := #[] }, { accessFlags := 25, nameIndex := 143, descriptorIndex := 25, attributes := #[] }, { accessFlags := 25, nameIndex := 53, descriptorIndex := 25, attributes := #[] }, { accessFlags := 25, nameIndex := 24, descriptorIndex := 25, attributes := #[] }, { accessFlags := 25, nameIndex := 162, descriptorIndex := 25, attributes := #[] }, { accessFlags := 25, nameIndex := 187, descriptorIndex := 25, attributes := #[] }, { accessFlags := 26, nameIndex := 48, descriptorIndex := 25, attributes := #[] }, { accessFlags := 25, nameIndex := 277, descriptorIndex := 25, attributes := #[] }, { accessFlags := 25, nameIndex := 280, descriptorIndex := 25, attributes := #[] }, { accessFlags := 25, nameIndex := 282, descriptorIndex := 25, attributes := #[] }, { accessFlags := 25, nameIndex := 284, descriptorIndex := 25, attributes := #[] }, { accessFlags := 25, nameIndex := 286, descriptorIndex := 25, attributes := #[] }, { accessFlags := 25, nameIndex := 288, descriptorIndex := 25, attributes := #[] }, { accessFlags := 25, nameIndex := 290, descriptorIndex := 25, attributes := #[] }, { accessFlags := 25, nameIndex := 292, descriptorIndex := 25, attributes := #[] }, { accessFlags := 26, nameIndex := 108, descriptorIndex := 109, attributes := #[] }, { accessFlags := 25, nameIndex := 294, descriptorIndex := 25, attributes := #[] }])
  fields := #[{ name := "U", type := (.object "jdk/internal/misc/Unsafe"), accessFlags := 24, slot := 0, constantValue := 0 }, { name := "BIG_ENDIAN", type := .boolean, accessFlags := 26, slot := 1, constantValue := 0 }, { name := "LOG2_ARRAY_BOOLEAN_INDEX_SCALE", type := .int, accessFlags := 25, slot := 2, constantValue := 0 }, { name := "LOG2_ARRAY_BYTE_INDEX_SCALE", type := .int, accessFlags := 25, slot := 3, constantValue := 0 }, { name := "LOG2_ARRAY_CHAR_INDEX_SCALE", type := .int, accessFlags := 25, slot := 4, constantValue := 0 }, { name := "LOG2_ARRAY_SHORT_INDEX_SCALE", type := .int, accessFlags := 25, slot := 5, constantValue := 0 }, { name := "LOG2_ARRAY_INT_INDEX_SCALE", type := .int, accessFlags := 25, slot := 6, constantValue := 0 }, { name := "LOG2_ARRAY_LONG_INDEX_SCALE", type := .int, accessFlags := 25, slot := 7, constantValue := 0 }, { name := "LOG2_ARRAY_FLOAT_INDEX_SCALE", type := .int, accessFlags := 25, slot := 8, constantValue := 0 }, { name := "LOG2_ARRAY_DOUBLE_INDEX_SCALE", type := .int, accessFlags := 25, slot := 9, constantValue := 0 }, { name := "LOG2_BYTE_BIT_SIZE", type := .int, accessFlags := 26, slot := 10, constantValue := 0 }, { name := "T_BOOLEAN", type := .int, accessFlags := 25, slot := 11, constantValue := 0 }, { name := "T_CHAR", type := .int, accessFlags := 25, slot := 12, constantValue := 0 }, { name := "T_FLOAT", type := .int, accessFlags := 25, slot := 13, constantValue := 0 }, { name := "T_DOUBLE", type := .int, accessFlags := 25, slot := 14, constantValue := 0 }, { name := "T_BYTE", type := .int, accessFlags := 25, slot := 15, constantValue := 0 }, { name := "T_SHORT", type := .int, accessFlags := 25, slot := 16, constantValue := 0 }, { name := "T_INT", type := .int, accessFlags := 25, slot := 17, constantValue := 0 }, { name := "T_LONG", type := .int, accessFlags := 25, slot := 18, constantValue := 0 }, { name := "JLA", type := (.object "jdk/internal/access/JavaLangAccess"), accessFlags := 26, slot := 19, constantValue := 0 }, { name := "SOFT_MAX_ARRAY_LENGTH", type := .int, accessFlags := 25, slot := 20, constantValue := 0 }]
  methods := #[k13m0]
  instanceTypes := #[]
  staticTypes := #[(.object "jdk/internal/misc/Unsafe"), .boolean, .int, .int, .int, .int, .int, .int, .int, .int, .int, .int, .int, .int, .int, .int, .int, .int, .int, (.object "jdk/internal/access/JavaLangAccess"), .int]
  resolved := Array.replicate 378 none
  statics := none }

def pool14 : Array CpInfo := pool [(1, u "java/lang/Cloneable"), (0, .class_ 1), (0, u "java/lang/Object"), (0, .class_ 3)] 3

/-- java/lang/Cloneable -/
def k14 : Class := { plain "java/lang/Cloneable" (some 0) with
  accessFlags := 1537
  interfaces := #[]
  cf := some (fileOf pool14 2 #[] #[] 1537 4 #[] #[])
  fields := #[]
  methods := #[]
  instanceTypes := #[]
  staticTypes := #[]
  resolved := Array.replicate 8 none
  statics := none }

/-- the primitive byte -/
def k15 : Class := { plain "byte" none with kind := .primitive 'B', accessFlags := 0x411 }
/-- [B -/
def k16 : Class := { plain "[B" (some 0) with kind := .array 15 .byte, interfaces := #[14, 2], accessFlags := 1041 }

/-- the primitive char -/
def k17 : Class := { plain "char" none with kind := .primitive 'C', accessFlags := 0x411 }
/-- [C -/
def k18 : Class := { plain "[C" (some 0) with kind := .array 17 .char, interfaces := #[14, 2], accessFlags := 1041 }

/-- the primitive int -/
def k19 : Class := { plain "int" none with kind := .primitive 'I', accessFlags := 0x411 }
/-- [I -/
def k20 : Class := { plain "[I" (some 0) with kind := .array 19 .int, interfaces := #[14, 2], accessFlags := 1041 }

/-- [Lcom/example/thawline/thawline/CandidateType; -/
def k21 : Class := { plain "[Lcom/example/thawline/thawline/CandidateType;" (some 0) with kind := .array 12 (.object "com/example/thawline/thawline/CandidateType"), interfaces := #[14, 2], accessFlags := 1041 }

def heap : Heap := #[{ cls := 7, slots := #[.long 0, .int 1, .null, .int 0, .null, .int 0, .int 0], vm := .statics 7 },
  { cls := 9, slots := #[.null, .null, .null], vm := .statics 9 },
  { cls := 12, slots := #[.ref 4, .ref 5, .ref 6, .ref 7, .ref 3, .null], vm := .statics 12 },
  { cls := 21, slots := #[.ref 4, .ref 5, .ref 6, .ref 7], vm := .none },
  { cls := 12, slots := #[.null, .int 0, .int 0, .ref 8, .int 0], vm := .none },
  { cls := 12, slots := #[.null, .int 0, .int 0, .ref 9, .int 0], vm := .none },
  { cls := 12, slots := #[.null, .int 0, .int 0, .ref 10, .int 0], vm := .none },
  { cls := 12, slots := #[.null, .int 0, .int 0, .ref 11, .int 0], vm := .none },
  { cls := 7, slots := #[.ref 12, .int 0, .int 0, .int 0], vm := .none },
  { cls := 7, slots := #[.ref 13, .int 0, .int 0, .int 0], vm := .none },
  { cls := 7, slots := #[.ref 14, .int 0, .int 0, .int 0], vm := .none },
  { cls := 7, slots := #[.ref 15, .int 0, .int 0, .int 0], vm := .none },
  { cls := 16, slots := #[.int 104, .int 111, .int 115, .int 116], vm := .none },
  { cls := 16, slots := #[.int 115, .int 114, .int 102, .int 108, .int 120], vm := .none },
  { cls := 16, slots := #[.int 112, .int 114, .int 102, .int 108, .int 120], vm := .none },
  { cls := 16, slots := #[.int 114, .int 101, .int 108, .int 97, .int 121], vm := .none }]
def classes : Array Class := #[k0, k1, k2, k3, k4, k5, k6, k7, k8, k9, k10, k11, k12, k13, k14, k15, k16, k17, k18, k19, k20, k21]
def interned : List (Array UInt16 × Addr) := []
def slotsUsed : Nat := 75
def theMethod : MethodId := ⟨1, 1⟩
def args0 : Array Value := #[.int 5, .int 9, .int 3, .int 4, .int 7]
def aboutOver (below : List Frame) : State where
  vm := { classes := classes, interned := interned.toArray }
  heap := heap
  slotsUsed := slotsUsed
  threads := #[{ frames := .invoking theMethod args0 :: below }]
def below0 : List Frame := [.native { method := ⟨0, 0⟩, args := #[] }]
def about1 : State := aboutOver below0
def p0 : Program := .bare "" "" ""
def e0 : Env := launch0.env 0 0 0
theorem w_frames : about1.frames = Frame.invoking theMethod args0 :: below0 := rfl
set_option maxRecDepth 65536 in
theorem w_args : argsFit about1.vm theMethod args0 = true := by decide +kernel
set_option maxRecDepth 65536 in
theorem w_heap : heapFits about1 = true := by decide +kernel
set_option maxRecDepth 65536 in
theorem w_runnable : about1.curStatus? = some .runnable := by decide +kernel
set_option maxRecDepth 65536 in
theorem w_alone : about1.alone = true := by decide +kernel
set_option maxRecDepth 65536 in
theorem w_named : about1.methodNamed? x = some theMethod := by decide +kernel
set_option maxRecDepth 65536 in
theorem w_hears : about1.hears theMethod below0 = true := by decide +kernel
set_option maxRecDepth 65536 in
theorem w_ripe : about1.ripe theMethod args0 below0 = true := by decide +kernel
theorem w_running : about1.status = .running := rfl
set_option maxRecDepth 65536 in
theorem w_room : about1.hasRoom e0.platform room_1 = true :=
  launch0.hasRoom_least _ room_1 (by decide +kernel) (by decide +kernel) (by decide +kernel) (by decide +kernel) (by decide +kernel) (by decide +kernel)
theorem allAtoms_all (ts : List Jvm.Cond) (a : Array Jvm.Value) (st : Jvm.State) : (allAtoms ts).before a st = ts.all (fun c => c.before a st) := by
  induction ts with
  | nil => rfl
  | cons c t ih =>
    show (Jvm.Cond.and c (allAtoms t)).before a st = _
    rw [Jvm.Cond.before_and, ih, List.all_cons]
def words1 : List Jvm.Cond := Jvm.Cond.code x code maxLocals ret :: tables_1
/-- a 'code' word, met by the world's own term for the bytes: nothing is compared byte by byte -/
theorem code_word {y : MethodName} {bytes : ByteArray} {mx : Nat} {rt : Option FieldType} {a : Array Value} {s : State} {m : MethodId} {meth : Method} {c : Code} (h1 : s.methodNamed? y = some m) (h2 : s.vm.method? m = some meth) (h3 : meth.code = some c) (h4 : c.code = bytes)
    (h5 : (c.maxLocals == mx && c.exceptionTable.isEmpty && decide (c.maxStack ≤ mostOperands) && decide (meth.sig.returnType = rt) && !meth.locks && decide (parseMethodDescriptor y.desc = some meth.sig)) = true) : (Jvm.Cond.code y bytes mx rt).before a s = true := by
  simp only [Bool.and_eq_true, beq_iff_eq, Bool.not_eq_true', decide_eq_true_eq] at h5
  obtain ⟨⟨⟨⟨⟨g1, g2⟩, g3⟩, g4⟩, g5⟩, g6⟩ := h5
  simp [Cond.before, Cond.holds, Cond.value, h1, h2, h3, h4, g1, g2, g3, g4, g5, g6]
def isCode : Jvm.Cond → Bool
  | .code _ _ _ _ => true
  | _ => false
theorem all_split {L : List Jvm.Cond} {P : Jvm.Cond → Bool} (h1 : L.all (fun c => isCode c || P c) = true) (h2 : ∀ c ∈ L.filter isCode, P c = true) : L.all P = true := by
  refine List.all_eq_true.mpr fun c hc => ?_
  have h := List.all_eq_true.mp h1 c hc
  rcases Bool.eq_false_or_eq_true (isCode c) with hi | hi
  · exact h2 c (List.mem_filter.mpr ⟨hc, hi⟩)
  · simpa [hi] using h
set_option maxRecDepth 65536 in
theorem w_c0 : (Jvm.Cond.code x code maxLocals ret).before args0 about1 = true := code_word (m := ⟨1, 1⟩) (meth := k1m1) (c := k1c1) (by decide +kernel) rfl rfl rfl (by decide +kernel)
set_option maxRecDepth 65536 in
theorem w_c1 : (Jvm.Cond.code ({ cls := "java/lang/String", name := "length", desc := "()I" } : Jvm.MethodName) jdk_42_method_54_code (1 : Nat) (Option.some Jvm.ClassFile.FieldType.int)).before args0 about1 = true := code_word (m := ⟨7, 2⟩) (meth := k7m2) (c := k7c2) (by decide +kernel) rfl rfl rfl (by decide +kernel)
set_option maxRecDepth 65536 in
theorem w_c2 : (Jvm.Cond.code ({ cls := "java/lang/String", name := "coder", desc := "()B" } : Jvm.MethodName) jdk_42_method_152_code (1 : Nat) (Option.some Jvm.ClassFile.FieldType.byte)).before args0 about1 = true := code_word (m := ⟨7, 6⟩) (meth := k7m6) (c := k7c6) (by decide +kernel) rfl rfl rfl (by decide +kernel)
set_option maxRecDepth 65536 in
theorem w_c3 : (Jvm.Cond.code ({ cls := "com/example/thawline/thawline/CandidateTypeOfTokenPinLaw", name := "pick", desc := "(Ljava/lang/String;IIIII)C" } : Jvm.MethodName) method_4_code (6 : Nat) (Option.some Jvm.ClassFile.FieldType.char)).before args0 about1 = true := code_word (m := ⟨1, 3⟩) (meth := k1m3) (c := k1c3) (by decide +kernel) rfl rfl rfl (by decide +kernel)
set_option maxRecDepth 65536 in
theorem w_c4 : (Jvm.Cond.code ({ cls := "java/lang/String", name := "charAt", desc := "(I)C" } : Jvm.MethodName) jdk_42_method_56_code (2 : Nat) (Option.some Jvm.ClassFile.FieldType.char)).before args0 about1 = true := code_word (m := ⟨7, 3⟩) (meth := k7m3) (c := k7c3) (by decide +kernel) rfl rfl rfl (by decide +kernel)
set_option maxRecDepth 65536 in
theorem w_c5 : (Jvm.Cond.code ({ cls := "java/lang/String", name := "isLatin1", desc := "()Z" } : Jvm.MethodName) jdk_42_method_154_code (1 : Nat) (Option.some Jvm.ClassFile.FieldType.boolean)).before args0 about1 = true := code_word (m := ⟨7, 7⟩) (meth := k7m7) (c := k7c7) (by decide +kernel) rfl rfl rfl (by decide +kernel)
set_option maxRecDepth 65536 in
theorem w_c6 : (Jvm.Cond.code ({ cls := "java/lang/StringLatin1", name := "charAt", desc := "([BI)C" } : Jvm.MethodName) jdk_43_method_2_code (2 : Nat) (Option.some Jvm.ClassFile.FieldType.char)).before args0 about1 = true := code_word (m := ⟨8, 1⟩) (meth := k8m1) (c := k8c1) (by decide +kernel) rfl rfl rfl (by decide +kernel)
set_option maxRecDepth 65536 in
theorem w_c7 : (Jvm.Cond.code ({ cls := "java/lang/String", name := "checkIndex", desc := "(II)V" } : Jvm.MethodName) jdk_42_method_155_code (2 : Nat) (Option.none : Option Jvm.ClassFile.FieldType)).before args0 about1 = true := code_word (m := ⟨7, 8⟩) (meth := k7m8) (c := k7c8) (by decide +kernel) rfl rfl rfl (by decide +kernel)
set_option maxRecDepth 65536 in
theorem w_c8 : (Jvm.Cond.code ({ cls := "jdk/internal/util/Preconditions", name := "checkIndex", desc := "(IILjava/util/function/BiFunction;)I" } : Jvm.MethodName) jdk_41_method_11_code (3 : Nat) (Option.some Jvm.ClassFile.FieldType.int)).before args0 about1 = true := code_word (m := ⟨9, 1⟩) (meth := k9m1) (c := k9c1) (by decide +kernel) rfl rfl rfl (by decide +kernel)
set_option maxRecDepth 65536 in
theorem w_c9 : (Jvm.Cond.code ({ cls := "com/example/thawline/thawline/CandidateTypeOfTokenPinLaw", name := "drawn", desc := "(III)C" } : Jvm.MethodName) method_3_code (3 : Nat) (Option.some Jvm.ClassFile.FieldType.char)).before args0 about1 = true := code_word (m := ⟨1, 2⟩) (meth := k1m2) (c := k1c2) (by decide +kernel) rfl rfl rfl (by decide +kernel)
set_option maxRecDepth 65536 in
theorem w_c10 : (Jvm.Cond.code ({ cls := "com/example/thawline/thawline/CandidateTypeOfTokenPinLaw", name := "make", desc := "([CI)Ljava/lang/String;" } : Jvm.MethodName) method_5_code (2 : Nat) (Option.some (Jvm.ClassFile.FieldType.object "java/lang/String"))).before args0 about1 = true := code_word (m := ⟨1, 4⟩) (meth := k1m4) (c := k1c4) (by decide +kernel) rfl rfl rfl (by decide +kernel)
set_option maxRecDepth 65536 in
theorem w_c11 : (Jvm.Cond.code ({ cls := "java/lang/String", name := "<init>", desc := "([C)V" } : Jvm.MethodName) jdk_42_method_3_code (2 : Nat) (Option.none : Option Jvm.ClassFile.FieldType)).before args0 about1 = true := code_word (m := ⟨7, 1⟩) (meth := k7m1) (c := k7c1) (by decide +kernel) rfl rfl rfl (by decide +kernel)
set_option maxRecDepth 65536 in
theorem w_c12 : (Jvm.Cond.code ({ cls := "java/lang/String", name := "<init>", desc := "([CIILjava/lang/Void;)V" } : Jvm.MethodName) jdk_42_method_149_code (6 : Nat) (Option.none : Option Jvm.ClassFile.FieldType)).before args0 about1 = true := code_word (m := ⟨7, 5⟩) (meth := k7m5) (c := k7c5) (by decide +kernel) rfl rfl rfl (by decide +kernel)
set_option maxRecDepth 65536 in
theorem w_c13 : (Jvm.Cond.code ({ cls := "java/lang/Object", name := "<init>", desc := "()V" } : Jvm.MethodName) object_method_1_code (1 : Nat) (Option.none : Option Jvm.ClassFile.FieldType)).before args0 about1 = true := code_word (m := ⟨0, 0⟩) (meth := k0m0) (c := k0c0) (by decide +kernel) rfl rfl rfl (by decide +kernel)
set_option maxRecDepth 65536 in
theorem w_c14 : (Jvm.Cond.code ({ cls := "java/lang/StringUTF16", name := "compress", desc := "([CII)[B" } : Jvm.MethodName) jdk_52_method_16_code (6 : Nat) (Option.some (Jvm.ClassFile.FieldType.array Jvm.ClassFile.FieldType.byte))).before args0 about1 = true := code_word (m := ⟨10, 2⟩) (meth := k10m2) (c := k10c2) (by decide +kernel) rfl rfl rfl (by decide +kernel)
set_option maxRecDepth 65536 in
theorem w_c15 : (Jvm.Cond.code ({ cls := "java/lang/StringUTF16", name := "compress", desc := "([CI[BII)I" } : Jvm.MethodName) jdk_52_method_21_code (7 : Nat) (Option.some Jvm.ClassFile.FieldType.int)).before args0 about1 = true := code_word (m := ⟨10, 3⟩) (meth := k10m3) (c := k10c3) (by decide +kernel) rfl rfl rfl (by decide +kernel)
set_option maxRecDepth 65536 in
theorem w_c16 : (Jvm.Cond.code ({ cls := "java/lang/StringUTF16", name := "coderFromArrayLen", desc := "([BI)B" } : Jvm.MethodName) jdk_52_method_15_code (2 : Nat) (Option.some Jvm.ClassFile.FieldType.byte)).before args0 about1 = true := code_word (m := ⟨10, 1⟩) (meth := k10m1) (c := k10c1) (by decide +kernel) rfl rfl rfl (by decide +kernel)
set_option maxRecDepth 65536 in
theorem w_c17 : (Jvm.Cond.code ({ cls := "java/lang/String", name := "equals", desc := "(Ljava/lang/Object;)Z" } : Jvm.MethodName) jdk_42_method_66_code (3 : Nat) (Option.some Jvm.ClassFile.FieldType.boolean)).before args0 about1 = true := code_word (m := ⟨7, 4⟩) (meth := k7m4) (c := k7c4) (by decide +kernel) rfl rfl rfl (by decide +kernel)
set_option maxRecDepth 65536 in
theorem w_c18 : (Jvm.Cond.code ({ cls := "java/lang/StringLatin1", name := "equals", desc := "([B[B)Z" } : Jvm.MethodName) jdk_43_method_13_code (3 : Nat) (Option.some Jvm.ClassFile.FieldType.boolean)).before args0 about1 = true := code_word (m := ⟨8, 2⟩) (meth := k8m2) (c := k8c2) (by decide +kernel) rfl rfl rfl (by decide +kernel)
set_option maxRecDepth 65536 in
theorem w_c19 : (Jvm.Cond.code ({ cls := "com/example/thawline/thawline/CandidateType", name := "ofToken", desc := "(Ljava/lang/String;)Lcom/example/thawline/thawline/CandidateType;" } : Jvm.MethodName) prog_14_method_8_code (5 : Nat) (Option.some (Jvm.ClassFile.FieldType.object "com/example/thawline/thawline/CandidateType"))).before args0 about1 = true := code_word (m := ⟨12, 0⟩) (meth := k12m0) (c := k12c0) (by decide +kernel) rfl rfl rfl (by decide +kernel)
def codes1 : List Jvm.Cond := [Jvm.Cond.code x code maxLocals ret, Jvm.Cond.code ({ cls := "java/lang/String", name := "length", desc := "()I" } : Jvm.MethodName) jdk_42_method_54_code (1 : Nat) (Option.some Jvm.ClassFile.FieldType.int), Jvm.Cond.code ({ cls := "java/lang/String", name := "coder", desc := "()B" } : Jvm.MethodName) jdk_42_method_152_code (1 : Nat) (Option.some Jvm.ClassFile.FieldType.byte), Jvm.Cond.code ({ cls := "com/example/thawline/thawline/CandidateTypeOfTokenPinLaw", name := "pick", desc := "(Ljava/lang/String;IIIII)C" } : Jvm.MethodName) method_4_code (6 : Nat) (Option.some Jvm.ClassFile.FieldType.char), Jvm.Cond.code ({ cls := "java/lang/String", name := "charAt", desc := "(I)C" } : Jvm.MethodName) jdk_42_method_56_code (2 : Nat) (Option.some Jvm.ClassFile.FieldType.char), Jvm.Cond.code ({ cls := "java/lang/String", name := "isLatin1", desc := "()Z" } : Jvm.MethodName) jdk_42_method_154_code (1 : Nat) (Option.some Jvm.ClassFile.FieldType.boolean), Jvm.Cond.code ({ cls := "java/lang/StringLatin1", name := "charAt", desc := "([BI)C" } : Jvm.MethodName) jdk_43_method_2_code (2 : Nat) (Option.some Jvm.ClassFile.FieldType.char), Jvm.Cond.code ({ cls := "java/lang/String", name := "checkIndex", desc := "(II)V" } : Jvm.MethodName) jdk_42_method_155_code (2 : Nat) (Option.none : Option Jvm.ClassFile.FieldType), Jvm.Cond.code ({ cls := "jdk/internal/util/Preconditions", name := "checkIndex", desc := "(IILjava/util/function/BiFunction;)I" } : Jvm.MethodName) jdk_41_method_11_code (3 : Nat) (Option.some Jvm.ClassFile.FieldType.int), Jvm.Cond.code ({ cls := "com/example/thawline/thawline/CandidateTypeOfTokenPinLaw", name := "drawn", desc := "(III)C" } : Jvm.MethodName) method_3_code (3 : Nat) (Option.some Jvm.ClassFile.FieldType.char), Jvm.Cond.code ({ cls := "com/example/thawline/thawline/CandidateTypeOfTokenPinLaw", name := "make", desc := "([CI)Ljava/lang/String;" } : Jvm.MethodName) method_5_code (2 : Nat) (Option.some (Jvm.ClassFile.FieldType.object "java/lang/String")), Jvm.Cond.code ({ cls := "java/lang/String", name := "<init>", desc := "([C)V" } : Jvm.MethodName) jdk_42_method_3_code (2 : Nat) (Option.none : Option Jvm.ClassFile.FieldType), Jvm.Cond.code ({ cls := "java/lang/String", name := "<init>", desc := "([CIILjava/lang/Void;)V" } : Jvm.MethodName) jdk_42_method_149_code (6 : Nat) (Option.none : Option Jvm.ClassFile.FieldType), Jvm.Cond.code ({ cls := "java/lang/Object", name := "<init>", desc := "()V" } : Jvm.MethodName) object_method_1_code (1 : Nat) (Option.none : Option Jvm.ClassFile.FieldType), Jvm.Cond.code ({ cls := "java/lang/StringUTF16", name := "compress", desc := "([CII)[B" } : Jvm.MethodName) jdk_52_method_16_code (6 : Nat) (Option.some (Jvm.ClassFile.FieldType.array Jvm.ClassFile.FieldType.byte)), Jvm.Cond.code ({ cls := "java/lang/StringUTF16", name := "compress", desc := "([CI[BII)I" } : Jvm.MethodName) jdk_52_method_21_code (7 : Nat) (Option.some Jvm.ClassFile.FieldType.int), Jvm.Cond.code ({ cls := "java/lang/StringUTF16", name := "coderFromArrayLen", desc := "([BI)B" } : Jvm.MethodName) jdk_52_method_15_code (2 : Nat) (Option.some Jvm.ClassFile.FieldType.byte), Jvm.Cond.code ({ cls := "java/lang/String", name := "equals", desc := "(Ljava/lang/Object;)Z" } : Jvm.MethodName) jdk_42_method_66_code (3 : Nat) (Option.some Jvm.ClassFile.FieldType.boolean), Jvm.Cond.code ({ cls := "java/lang/StringLatin1", name := "equals", desc := "([B[B)Z" } : Jvm.MethodName) jdk_43_method_13_code (3 : Nat) (Option.some Jvm.ClassFile.FieldType.boolean), Jvm.Cond.code ({ cls := "com/example/thawline/thawline/CandidateType", name := "ofToken", desc := "(Ljava/lang/String;)Lcom/example/thawline/thawline/CandidateType;" } : Jvm.MethodName) prog_14_method_8_code (5 : Nat) (Option.some (Jvm.ClassFile.FieldType.object "com/example/thawline/thawline/CandidateType"))]
set_option maxRecDepth 65536 in
theorem codes_eq : words1.filter isCode = codes1 := rfl
theorem w_codes : ∀ c ∈ words1.filter isCode, c.before args0 about1 = true := by
  rw [codes_eq]
  intro c hc
  simp only [codes1, List.mem_cons, List.not_mem_nil, or_false] at hc
  rcases hc with rfl | rfl | rfl | rfl | rfl | rfl | rfl | rfl | rfl | rfl | rfl | rfl | rfl | rfl | rfl | rfl | rfl | rfl | rfl | rfl
  · exact w_c0
  · exact w_c1
  · exact w_c2
  · exact w_c3
  · exact w_c4
  · exact w_c5
  · exact w_c6
  · exact w_c7
  · exact w_c8
  · exact w_c9
  · exact w_c10
  · exact w_c11
  · exact w_c12
  · exact w_c13
  · exact w_c14
  · exact w_c15
  · exact w_c16
  · exact w_c17
  · exact w_c18
  · exact w_c19
set_option maxRecDepth 65536 in
theorem w_t1 : (words1.take 24).all (fun c => isCode c || c.before args0 about1) = true := by decide +kernel
set_option maxRecDepth 65536 in
theorem w_t2 : ((words1.drop 24).take 24).all (fun c => isCode c || c.before args0 about1) = true := by decide +kernel
set_option maxRecDepth 65536 in
theorem w_t3 : (((words1.drop 24).drop 24).take 24).all (fun c => isCode c || c.before args0 about1) = true := by decide +kernel
set_option maxRecDepth 65536 in
theorem w_t4 : ((((words1.drop 24).drop 24).drop 24).take 24).all (fun c => isCode c || c.before args0 about1) = true := by decide +kernel
set_option maxRecDepth 65536 in
theorem w_t5 : ((((words1.drop 24).drop 24).drop 24).drop 24).all (fun c => isCode c || c.before args0 about1) = true := by decide +kernel
theorem w_tables : (allAtoms (Jvm.Cond.code x code maxLocals ret :: tables_1)).before args0 about1 = true := by
  rw [allAtoms_all]
  show words1.all (fun c => c.before args0 about1) = true
  refine all_split ?_ w_codes
  rw [← List.take_append_drop 24 words1, List.all_append, w_t1, ← List.take_append_drop 24 (words1.drop 24), List.all_append, w_t2, ← List.take_append_drop 24 ((words1.drop 24).drop 24), List.all_append, w_t3, ← List.take_append_drop 24 (((words1.drop 24).drop 24).drop 24), List.all_append, w_t4, w_t5]
  rfl
set_option maxRecDepth 65536 in
theorem w_rest : rest_1_c.before args0 about1 = true := by decide +kernel
set_option maxRecDepth 65536 in
theorem w_case : (Jvm.Cond.and given_1 narrow_1).before args0 about1 = true := by decide +kernel
set_option maxRecDepth 65536 in
theorem w_consts : constsHeld consts_1 about1 := Jvm.Lit.constsHeldB_iff.mp (by decide +kernel)
theorem w_applies : (headSpec (Jvm.Cond.code x code maxLocals ret :: tables_1) room_1).applies x e0.platform about1 = true :=
  (Spec.applies_iff w_frames).mpr ⟨w_running, w_runnable, w_alone, w_named, w_hears, w_ripe, w_room, w_tables⟩
theorem atStart : AtStart classFile x code maxLocals ret World_1 tables_1 room_1 Calls_1 rest_1 Pre_1 launch0 p0 e0 about1 theMethod args0 below0 :=
  ⟨lists_1, trivial, launch0.admits_env _ _ _, launch0.least_env, fairChoices_fair.cas, fairChoices_fair.clock, w_frames, w_args, w_heap, w_applies, ⟨w_consts, trivial⟩, w_rest, w_case⟩
end start1
theorem witness_1 : WitnessClaimed_1 := ⟨start1.p0, start1.e0, start1.about1, start1.theMethod, start1.args0, start1.below0, start1.atStart⟩
end Jvm.Pilot.@@N@@
